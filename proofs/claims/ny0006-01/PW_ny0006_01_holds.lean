import PyProof.Rows.All
import Wide.All
import OpenK.AllK
import Wide.FinOn
import PySem.Challenge.RW_ny0006_01
open PySem PySem.W PyProof.Rows
set_option Elab.async false
set_option maxRecDepth 100000
set_option maxHeartbeats 8000000
namespace Mine
open_top hd for PySem.Challenge.rw_ny0006_01
end Mine
open PySem PySem.W PyProof.Rows PySem.Calls
set_option Elab.async false
set_option maxRecDepth 100000
namespace Mine
section
variable {prog : Program} {w : World} {A : Around} {s : Shared}

/-- a call of a def of the text: everything that stood is the callee's base -/
theorem enter {K : Frag} {p : Program} {loose : List Str} {mean : ExcName → Option Value} {mg mb : Str → Option Value} {Q E : Value → Shared → Prop}
    {name qual : Str} {params : Arguments} {body : List Stmt} {scope : Scope} {dV kV doc pm cdv ct oc : Value} {an od : Option Addr} {osl : Array (Option Value)} {f : Addr}
    {args : List Value} {kw : List (Str × Value)} {binds : List (Str × Value)}
    (X : K.In s.heap) (T : Top p loose mean mg mb s.heap)
    (ho : K.lookup f = some ⟨oc, od, .func (fnOf name qual params body scope dV kV doc pm an cdv ct), osl⟩) (hcd : codeIn K cdv qual = true) (hroom : A.depth < recursionLimit)
    (hbind : BindsTo s (fnOf name qual params body scope dV kV doc pm an cdv ct) ⟨args, kw⟩ binds) (hloc : ∀ y ∈ binds, scope.names.lookup y.1 = some .local)
    (h : ∀ L h₁, Fr s.heap L h₁ (fun y => binds.reverse.lookup y) → News s.heap L h₁ [] →
      wpAny (model prog w) (A.deeper (envOf qual scope L f cdv)) (execs body (envOf qual scope L f cdv))
        (fun fl s' => Q (match fl with | .ret v => v | _ => .none) s') (fun _ _ => False) { s with heap := h₁, toks := s.toks + binds.length })
    (hco : scope.isCoroutine = false) (hgen : scope.isGenerator = false) (hk : scope.kind = .function) (hcell : ∀ x ∈ scope.names, x.2 ≠ .cell) :
    wpAny (model prog w) A (call (.ref f) args kw) Q E s := by
  refine wpAny_call ?_
  refine codeAny_call_def (fd := fnOf name qual params body scope dV kV doc pm an cdv ct) (body := body) (binds := binds) hroom (X _ _ ho) rfl T.nolimit (codeRec_of X hcd) rfl hbind hcell hloc (fun h₁ hns hk₁ => ?_) hco hgen hk
  refine wpAny_mono (h s.heap.objs.size h₁ ⟨hns, hk₁, Nat.le_refl _⟩ News.nil) (fun fl s' hq => ?_) fun _ _ e => e.elim
  exact hq

def TurnPost (h₀ : Heap) (L I : Addr) (oI : Obj) (J : (Str → Option Value) → List (Addr × Obj) → Prop) (s : Shared) (Q : Flow → Shared → Prop) (f : Flow) (s' : Shared) : Prop :=
  match f with
  | .ret v => Q (.ret v) s'
  | .brk => Q .next s'
  | _ => ∃ h' tk m' news', s' = { s with heap := h', toks := tk } ∧ Fr h₀ L h' m' ∧ News h₀ L h' ((I, oI) :: news') ∧ (∀ p ∈ news', p.1 ≠ I) ∧ J m' news'

theorem fr_but {h₀ h h' : Heap} {L I : Addr} {m : Str → Option Value} (F : Fr h₀ L h m) (hk : ∀ b o, b ≠ I → h.get? b = some o → h'.get? b = some o) (hL : L ≠ I) (hI : h₀.get? I = none) : Fr h₀ L h' m :=
  ⟨F.ns.at' fun o e => hk L o hL e, fun b o e => hk b o (fun hm => by rw [hm, hI] at e; cases e) (F.keep b o e), F.above⟩
theorem news_but {h₀ h h' : Heap} {L I : Addr} {news : List (Addr × Obj)} (N : News h₀ L h news) (hk : ∀ b o, b ≠ I → h.get? b = some o → h'.get? b = some o) (off : ∀ p ∈ news, p.1 ≠ I) : News h₀ L h' news :=
  fun p hp => ⟨hk _ _ (off p hp) (N p hp).1, (N p hp).2⟩

def LoopM (prog : Program) (w : World) (A : Around) (env : Env) (target : Expr) (body : List Stmt) (Q : Flow → Shared → Prop) (E : Value → Shared → Prop) (it : Value) (s₂ : Shared) : Prop :=
  codeAny (model prog w) A (.forLoop target it body [] env) (fun r s' => match r with | .ok f => Q f s' | .error e => cameBackBy (model prog w) A env E e s') s₂

theorem For_mine {env : Env} {target iter : Expr} {body : List Stmt} {pos : Pos} {Q : Flow → Shared → Prop} {E : Value → Shared → Prop}
    (h : wpAny (model prog w) A (eval iter env) (fun xv s₁ => wpAny (model prog w) A (pyIter xv) (LoopM prog w A env target body Q E) E s₁) E s)
    (hs : ∀ x, foldedSetIterable iter env x = pure x := by intro _; rfl) : wpAny (model prog w) A (exec (.For target iter body [] pos) env) Q E s :=
  wpAny_For h hs

theorem loopW {env : Env} {h₀ : Heap} {target : Expr} {body : List Stmt} {Q : Flow → Shared → Prop} {E : Value → Shared → Prop}
    {I : Addr} {fp : List Addr} {n : Nat} {P Md : Nat → Value → Heap → Prop} {St : Nat → Heap → Prop} {m : Str → Option Value} {news : List (Addr × Obj)}
    (W : KTurns prog w A target I fp [I] n P Md St) (S : List (Addr × Obj) → Prop)
    (cI : String) (hIo : ∀ i h, St i h → ∃ o, h.get? I = some o ∧ o.cls = .type cI)
    (hSt : ∀ i h h' o nw, St i h → h.get? I = some o → h'.get? I = some o → (∀ b o, h₀.get? b = some o → h'.get? b = some o) → News h₀ env.locals h' nw → S nw → St i h')
    (hIL : env.locals ≠ I) (hI₀ : h₀.get? I = none) (hst : St 0 s.heap) (F : Fr h₀ env.locals s.heap m) (N : News h₀ env.locals s.heap news) (off : ∀ p ∈ news, p.1 ≠ I)
    (J : Nat → (Str → Option Value) → List (Addr × Obj) → Prop) (h0 : J 0 m news) (hJS : ∀ i m n, J i m n → S n)
    (turn : ∀ i v m₁ news₁ h tk oI, oI.cls = .type cI → i < n → P i v h → J i m₁ news₁ → (∀ p ∈ news₁, p.1 ≠ I) → Fr h₀ env.locals h m₁ → News h₀ env.locals h ((I, oI) :: news₁) →
      wpAny (model prog w) A (assign target env v) (fun _ s₂ => wpAny (model prog w) A (execs body env) (TurnPost h₀ env.locals I oI (J (i + 1)) s Q) E s₂) E { s with heap := h, toks := tk })
    (done : ∀ h tk m' news', J n m' news' → Fr h₀ env.locals h m' → News h₀ env.locals h news' → Q .next { s with heap := h, toks := tk })
    (hE : PassesOwn (model prog w) A env E) :
    LoopM prog w A env target body Q E (.ref I) s := by
  unfold LoopM
  refine codeAny_forLoop_any
    (fun k s' => ∃ h' tk m' news' i, s' = { s with heap := h', toks := tk } ∧ St i h' ∧ Fr h₀ env.locals h' m' ∧ News h₀ env.locals h' news' ∧ (∀ p ∈ news', p.1 ≠ I) ∧ J i m' news' ∧ i ≤ n ∧ k = n + 1 - i) ?_ (n + 1)
    ⟨s.heap, s.toks, m, news, 0, rfl, hst, F, N, off, h0, Nat.zero_le _, rfl⟩
  rintro k s' ⟨h', tk, m', news', i, rfl, hst', F', N', off', hJ, hi, rfl⟩
  by_cases hlt : i < n
  · refine W.item i _ _ _ hlt hst' fun v h₁ tk₁ hMd hk₁ => ?_
    refine W.go i v _ _ _ hMd fun h₂ hP hst₂ hk₂ => ?_
    have kk : ∀ b o, b ≠ I → h'.get? b = some o → h₂.get? b = some o := fun b o hb x => hk₂ b o (by simpa using hb) (hk₁ b o (by simpa using hb) x)
    have F₂ := fr_but F' kk hIL hI₀
    have N₂ := news_but N' kk off'
    obtain ⟨oI, hoI, hcI⟩ := hIo _ _ hst₂
    have N₃ : News h₀ env.locals h₂ ((I, oI) :: news') := fun p hp => by
      rcases List.mem_cons.mp hp with rfl | hp
      · exact ⟨hoI, fun e => hIL e.symm, hI₀⟩
      · exact N₂ p hp
    refine wpAny_mono (turn i v m' news' h₂ tk₁ oI hcI hlt hP hJ off' F₂ N₃) (fun _ s₂ h₂' => ?_) hE
    refine wpAny_mono (wpAny_passesOwn hE h₂') (fun f s₃ h₃ => ?_) fun _ _ e => e
    have fin : (∃ h' tk m' news', s₃ = { s with heap := h', toks := tk } ∧ Fr h₀ env.locals h' m' ∧ News h₀ env.locals h' ((I, oI) :: news') ∧ (∀ p ∈ news', p.1 ≠ I) ∧ J (i + 1) m' news') →
        ∃ k, k < n + 1 - i ∧ ∃ h' tk m' news' i, s₃ = { s with heap := h', toks := tk } ∧ St i h' ∧ Fr h₀ env.locals h' m' ∧ News h₀ env.locals h' news' ∧ (∀ p ∈ news', p.1 ≠ I) ∧ J i m' news' ∧ i ≤ n ∧ k = n + 1 - i := by
      rintro ⟨h₄, tk₄, m₄, news₄, rfl, F₄, N₄, off₄, hJ₄⟩
      have N₅ : News h₀ env.locals h₄ news₄ := fun p hp => N₄ p (List.mem_cons_of_mem _ hp)
      refine ⟨n + 1 - (i + 1), by omega, h₄, tk₄, m₄, news₄, i + 1, rfl, ?_, F₄, N₅, off₄, hJ₄, hlt, rfl⟩
      exact hSt _ h₂ h₄ oI news₄ hst₂ hoI (N₄ _ List.mem_cons_self).1 F₄.keep N₅ (hJS _ _ _ hJ₄)
    cases f with
    | ret v => exact h₃
    | brk => exact h₃
    | cont => exact fin h₃
    | next => exact fin h₃
  · have hin : i = n := by omega
    subst hin
    refine W.done _ _ _ hst' fun h₁ tk₁ hk₁ => wpAny_execs_nil ?_
    have kk : ∀ b o, b ≠ I → h'.get? b = some o → h₁.get? b = some o := fun b o hb x => hk₁ b o (by simpa using hb) x
    exact done h₁ tk₁ m' news' hJ (fr_but F' kk hIL hI₀) (news_but N' kk off')

/-- where the source of a loop stands: in the base, or on the ledger -/
def Src (h₀ : Heap) (l : Addr) (its : Array Value) (news : List (Addr × Obj)) : Prop := h₀.IsList l its ∨ ∃ n, (l, W.listOf its n) ∈ news
theorem Src.list {h₀ h : Heap} {L l : Addr} {its : Array Value} {news : List (Addr × Obj)} (x : Src h₀ l its news) (k : ∀ b o, h₀.get? b = some o → h.get? b = some o) (N : News h₀ L h news) : h.IsList l its := by
  rcases x with ⟨o, e, r⟩ | ⟨n, hm⟩
  · exact ⟨o, k _ _ e, r⟩
  · exact ⟨_, (N _ hm).1, rfl, n, rfl⟩

/-- a for over a list -/
theorem iter_list {env : Env} {h₀ : Heap} {target : Expr} {body : List Stmt} {Q : Flow → Shared → Prop} {E : Value → Shared → Prop} {l : Addr} {vs : List Value} {m₀ : Str → Option Value} {news₀ : List (Addr × Obj)}
    (J : Nat → (Str → Option Value) → List (Addr × Obj) → Prop)
    (hh : A.handled = none)
    (hE : PassesOwn (model prog w) A env E)
    (F : Fr h₀ env.locals s.heap m₀) (N : News h₀ env.locals s.heap news₀) (hJ : J 0 m₀ news₀)
    (hJS : ∀ i m n, J i m n → Src h₀ l vs.toArray n)
    (turn : ∀ I oI i v m₁ news₁ h tk, oI.cls = .type "list_iterator" → vs[i]? = some v → J i m₁ news₁ → (∀ p ∈ news₁, p.1 ≠ I) → Fr h₀ env.locals h m₁ → News h₀ env.locals h ((I, oI) :: news₁) →
      wpAny (model prog w) A (assign target env v) (fun _ s₂ => wpAny (model prog w) A (execs body env) (TurnPost h₀ env.locals I oI (J (i + 1)) s Q) E s₂) E { s with heap := h, toks := tk })
    (done : ∀ h tk m' news', J vs.length m' news' → Fr h₀ env.locals h m' → News h₀ env.locals h news' → Q .next { s with heap := h, toks := tk }) :
    wpAny (model prog w) A (pyIter (.ref l)) (LoopM prog w A env target body Q E) E s := by
  have hl := (hJS _ _ _ hJ).list F.keep N
  obtain ⟨ol, hol, hlc, hln⟩ := id hl
  have hlt : l < s.heap.objs.size := Heap.lt_size hol
  have hne : l ≠ s.heap.objs.size := Nat.ne_of_lt hlt
  refine wpAny_pyIter_list hl ?_
  have hlen : vs.toArray.size = vs.length := by simp
  refine loopW (s := { s with heap := s.heap.push _ }) (n := vs.length) (m := m₀) (news := news₀) (fp := [s.heap.objs.size, l])
    (P := fun i v _ => vs.toArray[i]? = some v) (Md := fun i v g => vs.toArray[i]? = some v ∧ g.IsListIter s.heap.objs.size l (i + 1) ∧ g.IsList l vs.toArray ) (St := fun i g => g.IsListIter s.heap.objs.size l i ∧ g.IsList l vs.toArray)
    (hlen ▸ KTurns.ofWalks (Walks.list hh s.heap.objs.size l hne vs.toArray) fun i v s Q E st q => letGo_listiter st.1 q)
    (Src h₀ l vs.toArray) "list_iterator" ?_ ?_ ?_ (next_is_new F) ⟨⟨_, Heap.get?_push_size _ rfl, rfl, rfl⟩, hl.at fun o e => Heap.get?_push_of_some _ e⟩ (F.push _)
    (fun p hp => ⟨Heap.get?_push_of_some _ (N p hp).1, (N p hp).2⟩) (fun p hp => Nat.ne_of_lt (Heap.lt_size (N p hp).1)) J hJ hJS ?_ ?_ hE
  · rintro i g ⟨⟨o, ho, r, _⟩, _⟩; exact ⟨o, ho, r⟩
  · rintro i g g' o nw ⟨⟨o₁, ho₁, r⟩, _⟩ e1 e2 hk hn hS
    rw [ho₁] at e1
    obtain rfl := Option.some.inj e1
    exact ⟨⟨_, e2, r⟩, hS.list hk hn⟩
  · exact Nat.ne_of_lt F.ns.lt
  · intro i v m₁ news₁ g tk₁ oI hc hi hP hj off F₁ N₁
    exact turn _ _ i v m₁ news₁ g tk₁ hc (by simpa using hP) hj off F₁ N₁
  · intro g tk₁ m' news' hj F₁ N₁
    exact done g tk₁ m' news' hj F₁ N₁

theorem letGo_other {E : Value → Shared → Prop} {x : Str} {px : Pos} {it v : Value} {Q' : Unit → Shared → Prop} (h : Q' () s) :
    wpAny (model prog w) A (letOwnedTupleGo (.Name x px) it v) Q' E s := wpAny_of_eq (a := ()) rfl h

/-- a for over a range, by a name -/
theorem iter_range {env : Env} {h₀ : Heap} {x : Str} {px : Pos} {body : List Stmt} {Q : Flow → Shared → Prop} {E : Value → Shared → Prop} {r : Addr} {a₀ b₀ : Int} {t₀ u₀ v₀ : Tok} {n : Nat} {m₀ : Str → Option Value} {news₀ : List (Addr × Obj)}
    (J : Nat → (Str → Option Value) → List (Addr × Obj) → Prop)
    (hh : A.handled = none)
    (hE : PassesOwn (model prog w) A env E)
    (hr : IsRange s.heap r a₀ b₀ 1 t₀ u₀ v₀) (hsmall : Builtin.Range.small a₀ b₀ 1 = true) (hsz : Builtin.Range.rangeSize a₀ b₀ 1 = (n : Int))
    (F : Fr h₀ env.locals s.heap m₀) (N : News h₀ env.locals s.heap news₀) (hJ : J 0 m₀ news₀)
    (turn : ∀ I oI i t m₁ news₁ h tk, oI.cls = .type "range_iterator" → i < n → J i m₁ news₁ → (∀ p ∈ news₁, p.1 ≠ I) → Fr h₀ env.locals h m₁ → News h₀ env.locals h ((I, oI) :: news₁) →
      wpAny (model prog w) A (assign (.Name x px) env (.int (a₀ + (i : Int)) t)) (fun _ s₂ => wpAny (model prog w) A (execs body env) (TurnPost h₀ env.locals I oI (J (i + 1)) s Q) E s₂) E { s with heap := h, toks := tk })
    (done : ∀ h tk m' news', J n m' news' → Fr h₀ env.locals h m' → News h₀ env.locals h news' → Q .next { s with heap := h, toks := tk }) :
    wpAny (model prog w) A (pyIter (.ref r)) (LoopM prog w A env (.Name x px) body Q E) E s := by
  refine wpAny_pyIter_range hr hsmall ?_
  refine loopW (s := { s with heap := s.heap.push _ }) (n := n) (m := m₀) (news := news₀) (fp := [s.heap.objs.size])
    (KTurns.ofWalks (Walks.range hh s.heap.objs.size a₀ 1 n) fun i v s Q E st q => letGo_other q)
    (fun _ => True) "range_iterator" ?_ ?_ ?_ (next_is_new F) (by show IsRangeIter _ _ _ _ _; rw [hsz]; simpa using Heap.get?_push_size _ rfl) (F.push _)
    (fun p hp => ⟨Heap.get?_push_of_some _ (N p hp).1, (N p hp).2⟩) (fun p hp => Nat.ne_of_lt (Heap.lt_size (N p hp).1)) J hJ (fun _ _ _ _ => trivial) ?_ ?_ hE
  · intro i g st; exact ⟨_, st, rfl⟩
  · rintro i g g' o nw st e1 e2 hk hn hS
    rw [st] at e1
    obtain rfl := Option.some.inj e1
    exact e2
  · exact Nat.ne_of_lt F.ns.lt
  · rintro i v m₁ news₁ g tk₁ oI hc hi ⟨t, rfl⟩ hj off F₁ N₁
    have e1 : a₀ + (i : Int) * 1 = a₀ + (i : Int) := by omega
    rw [e1]
    exact turn _ _ i t m₁ news₁ g tk₁ hc hi hj off F₁ N₁
  · intro g tk₁ m' news' hj F₁ N₁
    exact done g tk₁ m' news' hj F₁ N₁

/-- a for over bytes, by a name -/
theorem iter_bytes {env : Env} {h₀ : Heap} {x : Str} {px : Pos} {body : List Stmt} {Q : Flow → Shared → Prop} {E : Value → Shared → Prop} {b : Array UInt8} {tb : Tok} {m₀ : Str → Option Value} {news₀ : List (Addr × Obj)}
    (J : Nat → (Str → Option Value) → List (Addr × Obj) → Prop)
    (hh : A.handled = none)
    (hE : PassesOwn (model prog w) A env E)
    (F : Fr h₀ env.locals s.heap m₀) (N : News h₀ env.locals s.heap news₀) (hJ : J 0 m₀ news₀)
    (turn : ∀ I oI i n t m₁ news₁ h tk, oI.cls = .type "bytes_iterator" → b[i]? = some n → J i m₁ news₁ → (∀ p ∈ news₁, p.1 ≠ I) → Fr h₀ env.locals h m₁ → News h₀ env.locals h ((I, oI) :: news₁) →
      wpAny (model prog w) A (assign (.Name x px) env (.int (n.toNat : Int) t)) (fun _ s₂ => wpAny (model prog w) A (execs body env) (TurnPost h₀ env.locals I oI (J (i + 1)) s Q) E s₂) E { s with heap := h, toks := tk })
    (done : ∀ h tk m' news', J b.size m' news' → Fr h₀ env.locals h m' → News h₀ env.locals h news' → Q .next { s with heap := h, toks := tk }) :
    wpAny (model prog w) A (pyIter (.bytes b tb)) (LoopM prog w A env (.Name x px) body Q E) E s := by
  refine KBw.pyIter_bytes ?_
  refine loopW (s := { s with heap := s.heap.push _ }) (m := m₀) (news := news₀)
    (KTurns.ofWalks (KBw.walks hh s.heap.objs.size b tb) fun i v s Q E st q => letGo_other q)
    (fun _ => True) "bytes_iterator" ?_ ?_ ?_ (next_is_new F) ⟨_, Heap.get?_push_size _ rfl, rfl, rfl⟩ (F.push _)
    (fun p hp => ⟨Heap.get?_push_of_some _ (N p hp).1, (N p hp).2⟩) (fun p hp => Nat.ne_of_lt (Heap.lt_size (N p hp).1)) J hJ (fun _ _ _ _ => trivial) ?_ ?_ hE
  · rintro i g ⟨o, ho, r, _⟩; exact ⟨o, ho, r⟩
  · rintro i g g' o nw ⟨o₁, ho₁, r⟩ e1 e2 hk hn hS
    rw [ho₁] at e1
    obtain rfl := Option.some.inj e1
    exact ⟨_, e2, r⟩
  · exact Nat.ne_of_lt F.ns.lt
  · rintro i v m₁ news₁ g tk₁ oI hc hi ⟨n, u, hn, rfl⟩ hj off F₁ N₁
    exact turn _ _ i n u m₁ news₁ g tk₁ hc hn hj off F₁ N₁
  · intro g tk₁ m' news' hj F₁ N₁
    exact done g tk₁ m' news' hj F₁ N₁

theorem cut1 {M : Model} {Q : Flow → Shared → Prop} {E : Value → Shared → Prop} {env : Env} {a : Stmt} {r : List Stmt} (h : ∀ R, R = r → wpAny M A (execs (a :: R) env) Q E s) : wpAny M A (execs (a :: r) env) Q E s := h _ rfl
theorem cut2 {M : Model} {Q : Flow → Shared → Prop} {E : Value → Shared → Prop} {env : Env} {a b : Stmt} {r : List Stmt} (h : ∀ R, R = r → wpAny M A (execs (a :: b :: R) env) Q E s) : wpAny M A (execs (a :: b :: r) env) Q E s := h _ rfl
theorem cut3 {M : Model} {Q : Flow → Shared → Prop} {E : Value → Shared → Prop} {env : Env} {a b c : Stmt} {r : List Stmt} (h : ∀ R, R = r → wpAny M A (execs (a :: b :: c :: R) env) Q E s) : wpAny M A (execs (a :: b :: c :: r) env) Q E s := h _ rfl
end
end Mine
namespace Mine
theorem offF1 : True := by
  w_top off
  exact trivial
end Mine
open PySem PySem.W PyProof.Rows PySem.Calls
set_option Elab.async false
set_option maxRecDepth 100000
set_option maxHeartbeats 8000000
namespace Mine
/-- a list of pairs of ints, on the heap -/
def Pairs (h : Heap) (vs : List Value) (ps : List (Int × Int)) : Prop :=
  vs.length = ps.length ∧ ∀ (i : Nat) (v : Value) (p : Int × Int), vs[i]? = some v → ps[i]? = some p → ∃ T t u, v = .ref T ∧ IsTup h T #[.int p.1 t, .int p.2 u]

def fromL : List (Int × Int) → Int → List Int
  | [], _ => []
  | (num, size) :: r, start => if start < size then num.fmod (64 ^ (size - start).toNat) :: fromL r 0 else fromL r (start - size)

abbrev AL (fr : Option (List Env)) : Around := { handled := none, depth := 302, frames := fr, guards := some [], units := 7 }

theorem if2 {m : Str → Option Value} {x y : Str} {a b : Value} (h1 : m x = some a) (h2 : m y = some b) : m = fun z => if z = x then some a else if z = y then some b else m z := by
  funext z
  by_cases e1 : z = x
  · subst e1; simp [h1]
  · by_cases e2 : z = y
    · subst e2; simp [e1, h2]
    · simp [e1, e2]

set_option pp.deepTerms false in
set_option pp.deepTerms.threshold 8 in
theorem from_c {w : World} {p : Program} {loose : List Str} {mean : ExcName → Option Value} {mg mb : Str → Option Value} {fr : Option (List Env)} {s : Shared} {Q E : Value → Shared → Prop}
    {r : Addr} {vs : List Value} {ps : List (Int × Int)} {st : Int} {t : Tok}
    (X : (hd.heap_39 w.params).In s.heap) (T : Top p loose mean mg mb s.heap) (hl : s.heap.IsList r vs.toArray) (hp : Pairs s.heap vs ps)
    (hb : ∀ p ∈ ps, 0 ≤ p.2 ∧ p.2 ≤ 64) (h0 : 0 ≤ st) (h1 : st ≤ 64) (hn : ps.length ≤ 64)
    (hret : ∀ d us nn h' tk', (∀ b o, s.heap.get? b = some o → h'.get? b = some o) → s.heap.get? d = none → h'.get? d = some (W.listOf us.toArray nn) → IntsAre us (fromL ps st) → Q (.ref d) { s with heap := h', toks := tk' }) :
    wpAny (model Challenge.rw_ny0006_01.row.prog w) (AL fr) (call (.ref 84) [.ref r, .int st t]) Q E s := by
  revert X; k_fill; intro X
  refine enter X T (by k_is) (by k_is) (Nat.lt_of_sub_pos (by exact Nat.le_of_ble_eq_true rfl)) (BindsTo.of_eq rfl) (locs rfl) ?_ rfl rfl rfl (by decide)
  intro L h₁ F N
  refine cut1 ?_; intro R hR
  k_steps
  subst hR
  rename_i d h2 _ h3 F' N'
  refine wpAny_execs_cons ?_
  refine For_mine ?_
  k_steps
  refine iter_list (l := r) (vs := vs) (h₀ := s.heap) (fun i m news => ∃ us nn cur t done, news = [(d, W.listOf us.toArray nn)] ∧ m (Str.ofString "due") = some (.ref d) ∧ m (Str.ofString "start") = some (.int cur t) ∧ 0 ≤ cur ∧ cur ≤ 64 ∧ IntsAre us done ∧ done.length ≤ i ∧ done ++ fromL (ps.drop i) cur = fromL ps st) rfl PassesOwn.never F' N' ?_ ?_ ?_ ?_
  · exact ⟨[], 0, st, t, [], rfl, rfl, rfl, h0, h1, .nil, Nat.le_refl _, by simp⟩
  · intro i m n _
    exact .inl hl
  · rintro I oI i v m₁ news₁ h tk hc hv ⟨us, nn, cur, t, done, rfl, hm1, hm2, c0, c1, hI, hdl, hJ⟩ off F₁ N₁
    have hip : i < ps.length := by
      have := (List.getElem?_eq_some_iff.mp hv).1
      rw [← hp.1]; exact this
    obtain ⟨T, t1, t2, rfl, hT⟩ := hp.2 i v ps[i] hv (by simp [hip])
    have hbi := hb ps[i] (by simp)
    have hdrop : ps.drop i = ps[i] :: ps.drop (i + 1) := List.drop_eq_getElem_cons hip
    rw [hdrop] at hJ
    generalize ps[i] = q at *
    obtain ⟨num, size⟩ := q
    dsimp only at hT hbi
    rw [if2 hm1 hm2] at F₁
    have hT' := hT.keeps F₁.keep
    have hdI : @Ne Nat d I := off _ (.head _)
    have hus : us.length ≤ 64 := by rw [hI.length]; omega
    k_steps
    · rename_i F' N'
      refine ⟨_, _, _, _, rfl, F', N', fun p hp => by rw [List.mem_singleton.mp hp]; exact hdI, ?_⟩
      refine ⟨us ++ [_], nn + 1, 0, _, done ++ [num.fmod (64 ^ (size - cur).toNat)], by rw [List.push_toArray], rfl, rfl, Int.le_refl _, by omega, hI.append (.cons _ _ .nil), by simp; omega, ?_⟩
      rw [← hJ, fromL, if_pos (by assumption)]; simp
    · rename_i F' N'
      refine ⟨_, _, _, _, rfl, F', N', fun p hp => by rw [List.mem_singleton.mp hp]; exact hdI, ?_⟩
      refine ⟨us, nn, cur - size, _, done, rfl, rfl, rfl, by omega, by omega, hI, by omega, ?_⟩
      rw [← hJ, fromL, if_neg (by assumption)]
  · rintro h tk m' news' ⟨us, nn, cur, t, done, rfl, hm1, hm2, c0, c1, hI, hdl, hJ⟩ F₁ N₁
    rw [if2 hm1 hm2] at F₁
    k_steps
    refine hret d us nn h _ F₁.keep (N₁.fresh (.head _)) (N₁.get (.head _)) ?_
    rw [List.drop_eq_nil_of_le (by rw [hp.1]; exact Nat.le_refl _), fromL, List.append_nil] at hJ
    rw [← hJ]; exact hI
end Mine
namespace Mine
theorem offF2 : True := by
  w_top off
  exact trivial
end Mine
open PySem PySem.W PyProof.Rows PySem.Calls
set_option Elab.async false
set_option maxRecDepth 100000
set_option maxHeartbeats 8000000
namespace Mine
abbrev tupOf (its : Array Value) (n : Nat) : Obj := { cls := .type "tuple", data := .seq its n }
def PairsIn (tl : List (Addr × Obj)) (us : List Value) (ps : List (Int × Int)) : Prop :=
  us.length = ps.length ∧ ∀ (i : Nat) (v : Value) (p : Int × Int), us[i]? = some v → ps[i]? = some p → ∃ T t u n, v = .ref T ∧ (T, tupOf #[.int p.1 t, .int p.2 u] n) ∈ tl

def joinL (first second : Int) : List (Int × Int) → Int → Int → List (Int × Int)
  | [], _, _ => []
  | (num, size) :: r, ahead, len =>
    let o := num.fmod 64
    let o' := if o = 43 then first else if o = 47 then second else o
    let ahead' := ahead * 64 ^ size.toNat + num - o + o'.fmod 64
    if (o'.fdiv 64).fmod 2 = 0 then (ahead', len + size) :: joinL first second r 0 0 else joinL first second r ahead' (len + size)

theorem if3 {m : Str → Option Value} {x y z : Str} {a b c : Value} (h1 : m x = some a) (h2 : m y = some b) (h3 : m z = some c) : m = fun q => if q = x then some a else if q = y then some b else if q = z then some c else m q := by
  funext q
  by_cases e1 : q = x
  · subst e1; simp [h1]
  · by_cases e2 : q = y
    · subst e2; simp [e1, h2]
    · by_cases e3 : q = z
      · subst e3; simp [e1, e2, h3]
      · simp [e1, e2, e3]
theorem if5 {m : Str → Option Value} {x y z x' y' : Str} {a b c a' b' : Value} (h1 : m x = some a) (h2 : m y = some b) (h3 : m z = some c) (h4 : m x' = some a') (h5 : m y' = some b') : m = fun q => if q = x then some a else if q = y then some b else if q = z then some c else if q = x' then some a' else if q = y' then some b' else m q := by
  funext q
  by_cases e1 : q = x
  · subst e1; simp [h1]
  · by_cases e2 : q = y
    · subst e2; simp [e1, h2]
    · by_cases e3 : q = z
      · subst e3; simp [e1, e2, h3]
      · by_cases e4 : q = x'
        · subst e4; simp [e1, e2, e3, h4]
        · by_cases e5 : q = y'
          · subst e5; simp [e1, e2, e3, e4, h5]
          · simp [e1, e2, e3, e4, e5]

theorem joinL_step {fi se num size ahead len o' : Int} {r : List (Int × Int)} (ho : o' = if num.fmod 64 = 43 then fi else if num.fmod 64 = 47 then se else num.fmod 64) :
    joinL fi se ((num, size) :: r) ahead len = if (o'.fdiv 64).fmod 2 = 0 then (ahead * 64 ^ size.toNat + num - num.fmod 64 + o'.fmod 64, len + size) :: joinL fi se r 0 0
      else joinL fi se r (ahead * 64 ^ size.toNat + num - num.fmod 64 + o'.fmod 64) (len + size) := by
  subst ho; rfl

theorem pow64_pos (n : Nat) : (0 : Int) < 64 ^ n := Int.pow_pos (by decide)
theorem pow64_succ (n : Nat) (h : 1 ≤ n) : ∃ q : Int, (64 : Int) ^ n = 64 * q ∧ 0 < q := by
  obtain ⟨k, rfl⟩ : ∃ k, n = k + 1 := ⟨n - 1, by omega⟩
  exact ⟨64 ^ k, by rw [Int.pow_succ, Int.mul_comm], pow64_pos k⟩

theorem join_bound {num size ahead len o' : Int} (a0 : 0 ≤ ahead) (a1 : ahead < 64 ^ len.toNat) (l0 : 0 ≤ len) (s1 : 1 ≤ size) (n0 : 0 ≤ num) (n1 : num < 64 ^ size.toNat) :
    0 ≤ ahead * 64 ^ size.toNat + num - num.fmod 64 + o'.fmod 64 ∧ ahead * 64 ^ size.toNat + num - num.fmod 64 + o'.fmod 64 < 64 ^ (len + size).toNat := by
  have e : (len + size).toNat = len.toNat + size.toNat := by omega
  rw [e, Int.pow_add]
  obtain ⟨q, hq, q0⟩ := pow64_succ size.toNat (by omega)
  have hP := pow64_pos size.toNat
  generalize (64 : Int) ^ size.toNat = P at *
  generalize (64 : Int) ^ len.toNat = M at *
  have h1 := Int.fmod_nonneg_of_pos num (b := 64) (by decide)
  have h2 := Int.fmod_lt_of_pos num (b := 64) (by decide)
  have h3 := Int.fmod_nonneg_of_pos o' (b := 64) (by decide)
  have h4 := Int.fmod_lt_of_pos o' (b := 64) (by decide)
  have h5 := Int.mul_fdiv_add_fmod num 64
  have h6 : 0 ≤ ahead * P := Int.mul_nonneg a0 (by omega)
  have h7 : (ahead + 1) * P ≤ M * P := Int.mul_le_mul_of_nonneg_right (by omega) (by omega)
  rw [Int.add_mul, Int.one_mul] at h7
  generalize ahead * P = B at *
  generalize M * P = C at *
  generalize num.fmod 64 = o at *
  generalize num.fdiv 64 = k at *
  generalize o'.fmod 64 = o2 at *
  omega

theorem mul_ok {ahead len size : Int} {i : Nat} (a0 : 0 ≤ ahead) (a1 : ahead < 64 ^ len.toNat) (l1 : len ≤ 32 * i) (hi : i ≤ 32) (s2 : size ≤ 32) : IntMulOk ahead (64 ^ size.toNat) := by
  have e : ∀ k : Nat, (64 : Int) ^ k = ((2 ^ (6 * k) : Nat) : Int) := fun k => by rw [Nat.pow_mul]; simp
  have b1 : Builtin.Int.intBits ahead ≤ 6144 := by
    rw [intBits_le_iff]
    rw [e] at a1
    refine Nat.lt_of_lt_of_le (m := 2 ^ (6 * len.toNat)) ?_ (Nat.pow_le_pow_right (by decide) (by omega))
    generalize 2 ^ (6 * len.toNat) = z at *
    omega
  have b2 : Builtin.Int.intBits ((64 : Int) ^ size.toNat) ≤ 200 := by
    rw [intBits_le_iff, e]
    have : (2 : Nat) ^ (6 * size.toNat) < 2 ^ 200 := Nat.pow_lt_pow_right (by decide) (by omega)
    simpa using this
  exact IntMulOk.of_le b1 b2 (by decide)

theorem PairsIn.snoc {tl tl' : List (Addr × Obj)} {us : List Value} {ps : List (Int × Int)} {T : Addr} {a b : Int} {t u : Tok} {n : Nat} (h : PairsIn tl us ps) (hs : ∀ p ∈ tl, p ∈ tl') (hT : (T, tupOf #[.int a t, .int b u] n) ∈ tl') :
    PairsIn tl' (us ++ [.ref T]) (ps ++ [(a, b)]) := by
  refine ⟨by simp [h.1], fun i v p hv hp => ?_⟩
  by_cases hi : i < us.length
  · rw [List.getElem?_append_left hi] at hv
    rw [List.getElem?_append_left (h.1 ▸ hi)] at hp
    obtain ⟨T, t, u, n, e, hm⟩ := h.2 i v p hv hp
    exact ⟨T, t, u, n, e, hs _ hm⟩
  · have hlt := (List.getElem?_eq_some_iff.mp hv).1
    rw [List.length_append, List.length_singleton] at hlt
    have hi' : i = us.length := by omega
    subst hi'
    rw [List.getElem?_append_right (Nat.le_refl _)] at hv
    rw [h.1, List.getElem?_append_right (Nat.le_refl _)] at hp
    simp at hv hp
    subst hv hp
    exact ⟨T, t, u, n, rfl, hT⟩

theorem app_fin {h₀ h' : Heap} {L I d D1 D2 : Addr} {oI o2 : Obj} {us : List Value} {nn : Nat} {a b : Int} {ta tb : Tok} {tl : List (Addr × Obj)} {out : List (Int × Int)}
    (N' : News h₀ L h' ((D2, o2) :: (D1, tupOf #[.int a ta, .int b tb] 0) :: (I, oI) :: (d, W.listOf (us.toArray.push (.ref D1)) (nn + 1)) :: tl)) (hlt : I < D1 ∧ d < D1 ∧ AllLt D1 tl) (hdI : d ≠ I) (htI : ∀ p ∈ tl, p.1 ≠ I) (htl : ∀ p ∈ tl, p.1 ≠ d) (hPI : PairsIn tl us out) :
    ∃ tl', News h₀ L h' ((I, oI) :: (d, W.listOf (us ++ [Value.ref D1]).toArray (nn + 1)) :: tl') ∧ (∀ p ∈ (d, W.listOf (us ++ [Value.ref D1]).toArray (nn + 1)) :: tl', p.1 ≠ I) ∧ (∀ p ∈ tl', p.1 ≠ d) ∧ PairsIn tl' (us ++ [Value.ref D1]) (out ++ [(a, b)]) := by
  rw [List.push_toArray] at N'
  refine ⟨(D1, tupOf #[.int a ta, .int b tb] 0) :: tl, fun p hp => N' p ?_, fun p hp => ?_, fun p hp => ?_, hPI.snoc (fun _ h => .tail _ h) (.head _)⟩
  · rcases List.mem_cons.mp hp with rfl | hp
    · exact .tail _ (.tail _ (.head _))
    · rcases List.mem_cons.mp hp with rfl | hp
      · exact .tail _ (.tail _ (.tail _ (.head _)))
      · rcases List.mem_cons.mp hp with rfl | hp
        · exact .tail _ (.head _)
        · exact .tail _ (.tail _ (.tail _ (.tail _ hp)))
  · rcases List.mem_cons.mp hp with rfl | hp
    · exact hdI
    · rcases List.mem_cons.mp hp with rfl | hp
      · exact Nat.ne_of_gt hlt.1
      · exact htI _ hp
  · rcases List.mem_cons.mp hp with rfl | hp
    · exact Nat.ne_of_gt hlt.2.1
    · exact htl p hp

theorem allLt_ne {D : Addr} {tl : List (Addr × Obj)} (h : AllLt D tl) : ∀ p ∈ tl, p.1 < D := ktn_ltOf h

local macro_rules | `(tactic| mul_fits) => `(tactic| assumption)
local macro_rules | `(tactic| k_all) => `(tactic| assumption)
set_option pp.deepTerms false in
set_option pp.deepTerms.threshold 8 in
theorem joined_c {w : World} {p : Program} {loose : List Str} {mean : ExcName → Option Value} {mg mb : Str → Option Value} {fr : Option (List Env)} {s : Shared} {Q E : Value → Shared → Prop}
    {r : Addr} {vs : List Value} {ps : List (Int × Int)} {fi se : Int} {t t' : Tok}
    (X : (hd.heap_39 w.params).In s.heap) (T : Top p loose mean mg mb s.heap) (hl : s.heap.IsList r vs.toArray) (hp : Pairs s.heap vs ps)
    (hb : ∀ p ∈ ps, 1 ≤ p.2 ∧ p.2 ≤ 32 ∧ 0 ≤ p.1 ∧ p.1 < 64 ^ p.2.toNat) (hn : ps.length ≤ 32)
    (hret : ∀ d us nn tl h' tk', (∀ b o, s.heap.get? b = some o → h'.get? b = some o) → s.heap.get? d = none → h'.get? d = some (W.listOf us.toArray nn) → (∀ p ∈ tl, h'.get? p.1 = some p.2 ∧ s.heap.get? p.1 = none) →
      PairsIn tl us (joinL fi se ps 0 0) → Q (.ref d) { s with heap := h', toks := tk' }) :
    wpAny (model Challenge.rw_ny0006_01.row.prog w) (AL fr) (call (.ref 77) [.ref r, .int fi t, .int se t']) Q E s := by
  revert X; k_fill; intro X
  refine enter X T (by k_is) (by k_is) (Nat.lt_of_sub_pos (by exact Nat.le_of_ble_eq_true rfl)) (BindsTo.of_eq rfl) (locs rfl) ?_ rfl rfl rfl (by decide)
  intro L h₁ F N
  refine cut2 ?_; intro R hR
  k_steps
  subst hR
  dsimp only
  rename_i d _ _ _ D _ _ _ _ h3 F' N'
  refine wpAny_execs_cons ?_
  refine For_mine ?_
  k_steps
  refine iter_list (l := r) (vs := vs) (h₀ := s.heap) (fun i m news => ∃ us nn ahead len ta tb tl out, news = (d, W.listOf us.toArray nn) :: tl ∧ m (Str.ofString "joined") = some (.ref d) ∧ m (Str.ofString "ahead") = some (.int ahead ta) ∧
    m (Str.ofString "length") = some (.int len tb) ∧ m (Str.ofString "first") = some (.int fi t) ∧ m (Str.ofString "second") = some (.int se t') ∧ 0 ≤ ahead ∧ ahead < 64 ^ len.toNat ∧ 0 ≤ len ∧ len ≤ 32 * i ∧ us.length ≤ i ∧ PairsIn tl us out ∧ (∀ p ∈ tl, p.1 ≠ d) ∧
    out ++ joinL fi se (ps.drop i) ahead len = joinL fi se ps 0 0) rfl PassesOwn.never F' (news₀ := [(d, W.listOf #[] 0)]) (fun p hp => N' p (.tail _ hp)) ?_ ?_ ?_ ?_
  · exact ⟨[], 0, 0, 0, _, _, [], [], rfl, rfl, rfl, rfl, rfl, rfl, Int.le_refl _, by decide, Int.le_refl _, by omega, Nat.le_refl _, ⟨rfl, fun i v p h => by simp at h⟩, (fun _ h => nomatch h), by simp⟩
  · intro i m n _
    exact .inl hl
  · rintro I oI i v m₁ news₁ h tk hc hv ⟨us, nn, ahead, len, ta, tb, tl, out, rfl, hm1, hm2, hm3, hm4, hm5, a0, a1, l0, l1, hus, hPI, htl, hJ⟩ off F₁ N₁
    have hip : i < ps.length := by
      have := (List.getElem?_eq_some_iff.mp hv).1
      rw [← hp.1]; exact this
    obtain ⟨T, t1, t2, rfl, hT⟩ := hp.2 i v ps[i] hv (by simp [hip])
    obtain ⟨s1, s2, n0, n1⟩ := hb ps[i] (by simp)
    have hdrop : ps.drop i = ps[i] :: ps.drop (i + 1) := List.drop_eq_getElem_cons hip
    rw [hdrop] at hJ
    generalize ps[i] = q at *
    obtain ⟨num, size⟩ := q
    dsimp only at hT s1 s2 n0 n1
    rw [if5 hm1 hm2 hm3 hm4 hm5] at F₁
    have hT' := hT.keeps F₁.keep
    have hdI : @Ne Nat d I := off _ (.head _)
    have hus' : us.length ≤ 64 := by omega
    have hmul : IntMulOk ahead (64 ^ size.toNat) := mul_ok a0 a1 l1 (by omega) s2
    k_steps
    · rename_i D1 _ l1' _ _ D2 _ l2' _ _ _ F' N'
      have ho : fi = if num.fmod 64 = 43 then fi else if num.fmod 64 = 47 then se else num.fmod 64 := by simp [*]
      rw [joinL_step ho, if_pos (by assumption)] at hJ
      obtain ⟨tl', N2, off2, htl2, hPI2⟩ := app_fin N' l1' hdI (fun p hp => off p (.tail _ hp)) htl hPI
      exact ⟨_, _, _, _, rfl, F', N2, off2, us ++ [.ref D1], nn + 1, 0, 0, _, _, tl', _, rfl, rfl, rfl, rfl, rfl, rfl, Int.le_refl _, by decide, Int.le_refl _, by omega, by simp; omega, hPI2, htl2, by rw [← hJ, List.append_assoc]; rfl⟩
    · rename_i F' N' _
      have ho : fi = if num.fmod 64 = 43 then fi else if num.fmod 64 = 47 then se else num.fmod 64 := by simp [*]
      rw [joinL_step ho, if_neg (by assumption)] at hJ
      have hbd := join_bound (o' := fi) a0 a1 l0 s1 n0 n1
      exact ⟨_, _, _, _, rfl, F', N', off, us, nn, _, _, _, _, tl, out, rfl, rfl, rfl, rfl, rfl, rfl, hbd.1, hbd.2, by omega, by omega, by omega, hPI, htl, hJ⟩
    · rename_i D1 _ l1' _ _ D2 _ l2' _ _ _ F' N'
      have ho : se = if num.fmod 64 = 43 then fi else if num.fmod 64 = 47 then se else num.fmod 64 := by simp [*]
      rw [joinL_step ho, if_pos (by assumption)] at hJ
      obtain ⟨tl', N2, off2, htl2, hPI2⟩ := app_fin N' l1' hdI (fun p hp => off p (.tail _ hp)) htl hPI
      exact ⟨_, _, _, _, rfl, F', N2, off2, us ++ [.ref D1], nn + 1, 0, 0, _, _, tl', _, rfl, rfl, rfl, rfl, rfl, rfl, Int.le_refl _, by decide, Int.le_refl _, by omega, by simp; omega, hPI2, htl2, by rw [← hJ, List.append_assoc]; rfl⟩
    · rename_i F' N' _
      have ho : se = if num.fmod 64 = 43 then fi else if num.fmod 64 = 47 then se else num.fmod 64 := by simp [*]
      rw [joinL_step ho, if_neg (by assumption)] at hJ
      have hbd := join_bound (o' := se) a0 a1 l0 s1 n0 n1
      exact ⟨_, _, _, _, rfl, F', N', off, us, nn, _, _, _, _, tl, out, rfl, rfl, rfl, rfl, rfl, rfl, hbd.1, hbd.2, by omega, by omega, by omega, hPI, htl, hJ⟩
    · rename_i D1 _ l1' _ _ D2 _ l2' _ _ _ F' N'
      have ho : num.fmod 64 = if num.fmod 64 = 43 then fi else if num.fmod 64 = 47 then se else num.fmod 64 := by simp [*]
      rw [joinL_step ho, if_pos (by assumption)] at hJ
      obtain ⟨tl', N2, off2, htl2, hPI2⟩ := app_fin N' l1' hdI (fun p hp => off p (.tail _ hp)) htl hPI
      exact ⟨_, _, _, _, rfl, F', N2, off2, us ++ [.ref D1], nn + 1, 0, 0, _, _, tl', _, rfl, rfl, rfl, rfl, rfl, rfl, Int.le_refl _, by decide, Int.le_refl _, by omega, by simp; omega, hPI2, htl2, by rw [← hJ, List.append_assoc]; rfl⟩
    · rename_i F' N' _
      have ho : num.fmod 64 = if num.fmod 64 = 43 then fi else if num.fmod 64 = 47 then se else num.fmod 64 := by simp [*]
      rw [joinL_step ho, if_neg (by assumption)] at hJ
      have hbd := join_bound (o' := num.fmod 64) a0 a1 l0 s1 n0 n1
      exact ⟨_, _, _, _, rfl, F', N', off, us, nn, _, _, _, _, tl, out, rfl, rfl, rfl, rfl, rfl, rfl, hbd.1, hbd.2, by omega, by omega, by omega, hPI, htl, hJ⟩
  · rintro h tk m' news' ⟨us, nn, ahead, len, ta, tb, tl, out, rfl, hm1, hm2, hm3, hm4, hm5, a0, a1, l0, l1, hus, hPI, htl, hJ⟩ F₁ N₁
    rw [if2 hm1 hm2] at F₁
    k_steps
    refine hret d us nn tl h _ F₁.keep (N₁.fresh (.head _)) (N₁.get (.head _)) (fun p hp => ⟨(N₁ p (.tail _ hp)).1, (N₁ p (.tail _ hp)).2.2⟩) ?_
    rw [List.drop_eq_nil_of_le (by rw [hp.1]; exact Nat.le_refl _), joinL, List.append_nil] at hJ
    rw [← hJ]; exact hPI
end Mine
namespace Mine
theorem offF3 : True := by
  w_top off
  exact trivial
end Mine
open PySem PySem.W PyProof.Rows PySem.Calls
set_option Elab.async false
set_option maxRecDepth 100000
set_option maxHeartbeats 8000000
namespace Mine
section
variable {prog : Program} {w : World} {A : Around} {E : Value → Shared → Prop} {s : Shared}

theorem next_item {it l : Addr} {i : Nat} {items : Array Value} {x : Value} {Q : Value → Shared → Prop} (hit : s.heap.IsListIter it l i)
    (hl : s.heap.IsList l items) (hx : items[i]? = some x)
    (hQ : ∀ h', h'.IsListIter it l (i + 1) → Heap.SameBut it s.heap h' → Q x { s with heap := h' }) :
    wpAny (model prog w) A (call (.builtin "next") [.ref it]) Q E s := by
  obtain ⟨o, ho, hc, hd⟩ := id hit
  obtain ⟨ol, hol, _, nl, hdl⟩ := hl
  refine call_function_entry (by decide +kernel) (by decide +kernel) kdk_entry_next (kdk_args_next _) ?_
  unfold Builtin.«next»
  refine wpAny_bind (m := someArgs "next" 1 2 _) (wpAny_of_eq (a := [Value.ref it]) (by first | rfl | kernel_rfl!) ?_)
  dsimp only
  refine wpAny_bind (wpAny_specialOf (name := Str.ofString "__next__") hit.typeIs slot_listiter_next.lookup ?_)
  refine wpAny_ite_split (fun hab => absurd hab (by decide)) (fun _ => ?_)
  refine wpAny_bind (wpAny_callSpecial?_slot (name := Str.ofString "__next__") hit.typeIs slot_listiter_next
    (wpAny_call_entry slot_listiter_next hit.typeIs entry_listiter_next ?_ (args_listiter_next _)))
  show wpAny _ _ (field (.ref it) 0 >>= _) _ _ s
  refine wpAny_bind (wpAny_field ho hd (x := .ref l) rfl ?_)
  show wpAny _ _ (if (Value.ref l == Value.none) = true then _ else _) _ _ s
  rw [if_neg (show ¬ ((Value.ref l == Value.none) = true) from Bool.false_ne_true)]
  show wpAny _ _ (field (.ref it) 1 >>= _) _ _ s
  refine wpAny_bind (wpAny_field ho hd (x := .int i 0) rfl ?_)
  show wpAny _ _ (seqItems? (.ref l) >>= _) _ _ s
  refine wpAny_bind (wpAny_seqItems hol hdl ?_)
  simp only [Int.toNat_natCast, hx]
  refine wpAny_bind (wpAny_setField ho hd (by simp) (wpAny_pure ⟨x, rfl, wpAny_pure ⟨_, rfl, hQ _ ?_ (Heap.SameBut.update ..)⟩⟩))
  exact ⟨_, Heap.get?_update_self _ ho (Obj.isFreed_of_fields (Obj.data_mapFields hd _)), (Obj.cls_mapFields ..).trans hc, by
    rw [Obj.data_mapFields hd]; simp [rawInt]⟩

theorem next_end {it l : Addr} {i : Nat} {items : Array Value} {Q : Value → Shared → Prop} (hh : A.handled = none) (hit : s.heap.IsListIter it l i)
    (hl : s.heap.IsList l items) (hx : items[i]? = none)
    (hE : ∀ h₂ o₂ h' e, h₂.get? it = some o₂ → Heap.SameBut it s.heap h₂ → Heap.NewExc h₂ h' e "StopIteration" → E (.ref e) { s with heap := h' }) :
    wpAny (model prog w) A (call (.builtin "next") [.ref it]) Q E s := by
  obtain ⟨o, ho, hc, hd⟩ := id hit
  obtain ⟨ol, hol, _, nl, hdl⟩ := hl
  refine call_function_entry (by decide +kernel) (by decide +kernel) kdk_entry_next (kdk_args_next _) ?_
  unfold Builtin.«next»
  refine wpAny_bind (m := someArgs "next" 1 2 _) (wpAny_of_eq (a := [Value.ref it]) (by first | rfl | kernel_rfl!) ?_)
  dsimp only
  refine wpAny_bind (wpAny_specialOf (name := Str.ofString "__next__") hit.typeIs slot_listiter_next.lookup ?_)
  refine wpAny_ite_split (fun hab => absurd hab (by decide)) (fun _ => ?_)
  refine wpAny_bind (wpAny_callSpecial?_slot (name := Str.ofString "__next__") hit.typeIs slot_listiter_next
    (wpAny_call_entry slot_listiter_next hit.typeIs entry_listiter_next ?_ (args_listiter_next _)))
  show wpAny _ _ (field (.ref it) 0 >>= _) _ _ s
  refine wpAny_bind (wpAny_field ho hd (x := .ref l) rfl ?_)
  show wpAny _ _ (if (Value.ref l == Value.none) = true then _ else _) _ _ s
  rw [if_neg (show ¬ ((Value.ref l == Value.none) = true) from Bool.false_ne_true)]
  show wpAny _ _ (field (.ref it) 1 >>= _) _ _ s
  refine wpAny_bind (wpAny_field ho hd (x := .int i 0) rfl ?_)
  show wpAny _ _ (seqItems? (.ref l) >>= _) _ _ s
  refine wpAny_bind (wpAny_seqItems hol hdl ?_)
  simp only [Int.toNat_natCast, hx]
  refine wpAny_bind (wpAny_rule (wpAny_bind (wpAny_setField ho hd (by simp) ?_)))
  show wpAny _ _ (newExc (.type "StopIteration") [] >>= _) _ _ _
  refine wpAny_bind ?_
  simp only [newExc, newTuple]
  refine wpAny_bind (wpAny_newObj_type ?_ (by size_fits))
  refine wpAny_bind (m := firstArgMember _ _) (wpAny_of_eq (a := Value.none) (by first | rfl | (simp only [firstArgMember]; rfl)) ?_)
  refine wpAny_newObj_type ?_ (by size_fits)
  simp only [raiseNew]
  refine wpAny_bind (wpAny_handled ?_)
  rw [show A.in1.in1.handled = none from hh]
  refine wpAny_bind (wpAny_pure (wpAny_throw ?_))
  have hz : ownMembersOf (.type "StopIteration") [] = #[] := by
    unfold ownMembersOf
    split <;> first | rfl | (rename_i h; revert h; decide) | simp_all
  refine hE (s.heap.update it (Obj.mapFields (·.setIfInBounds 0 .none))) _ _ _ (Heap.get?_update_self _ ho (Obj.isFreed_of_fields (Obj.data_mapFields hd _))) (Heap.SameBut.update ..) ⟨?_, ?_, ?_⟩
  · intro b ob e
    exact Heap.get?_push_of_some _ (Heap.get?_push_of_some _ e)
  · cases q : (s.heap.update it (Obj.mapFields (·.setIfInBounds 0 .none))).get? _ with
    | none => rfl
    | some o' =>
      have := Heap.lt_size q
      rw [Heap.size_push] at this
      exact absurd this (Nat.not_lt.mpr (Nat.le_succ _))
  · exact ⟨_, _, Heap.get?_push_size _ rfl, rfl, by rw [hz]; rfl⟩

theorem iter_call {l : Addr} {items : Array Value} {Q : Value → Shared → Prop} (hl : s.heap.IsList l items)
    (hQ : Q (.ref s.heap.objs.size) { s with heap := s.heap.push { cls := .type "list_iterator", data := .fields #[.ref l, .int 0 0] } }) :
    wpAny (model prog w) A (call (.builtin "iter") [.ref l]) Q E s := by
  refine call_function_entry (by decide +kernel) (by decide +kernel) kdk_entry_iter (kdk_args_iter _) ?_
  unfold Builtin.«iter»
  refine wpAny_bind (m := someArgs "iter" 1 2 _) (wpAny_of_eq (a := [Value.ref l]) (by first | rfl | kernel_rfl!) ?_)
  show wpAny _ _ (pyIter (.ref l) >>= _) _ _ _
  refine wpAny_bind (wpAny_pyIter_list hl ?_)
  exact wpAny_pure ⟨_, rfl, hQ⟩
end
end Mine
namespace Mine
theorem offF4 : True := by
  w_top off
  exact trivial
end Mine
open PySem PySem.W PyProof.Rows PySem.Calls
set_option Elab.async false
set_option maxRecDepth 100000
set_option maxHeartbeats 8000000
namespace Mine
def runV : List Int → Int → Option (Int × List Int)
  | [], _ => none
  | b :: r, acc => if (b.fdiv 64).fmod 2 = 1 then runV r (acc * 64 + b.fmod 64) else some (acc * 64 + b.fmod 64, r)

def ItAt (o : Obj) (l : Addr) (i : Nat) : Prop := o.cls = .type "list_iterator" ∧ o.data = .fields #[.ref l, .int i 0]
theorem ItAt.iter {o : Obj} {h : Heap} {it l : Addr} {i : Nat} (x : ItAt o l i) (e : h.get? it = some o) : h.IsListIter it l i := ⟨o, e, x.1, x.2⟩

def WPost (h₀ : Heap) (L : Addr) (J : Nat → (Str → Option Value) → List (Addr × Obj) → Prop) (n : Nat) (s : Shared) (Q : Flow → Shared → Prop) (f : Flow) (s' : Shared) : Prop :=
  match f with
  | .ret v => Q (.ret v) s'
  | .brk => Q .next s'
  | _ => ∃ n', n' < n ∧ ∃ h' tk m' news', s' = { s with heap := h', toks := tk } ∧ Fr h₀ L h' m' ∧ News h₀ L h' news' ∧ J n' m' news'

theorem while_mine {prog : Program} {w : World} {A : Around} {s : Shared} {env : Env} {h₀ : Heap} {test : Expr} {body : List Stmt} {pos : Pos} {Q : Flow → Shared → Prop} {E : Value → Shared → Prop} {m : Str → Option Value} {news : List (Addr × Obj)} {n : Nat}
    (J : Nat → (Str → Option Value) → List (Addr × Obj) → Prop) (F : Fr h₀ env.locals s.heap m) (N : News h₀ env.locals s.heap news) (hJ : J n m news)
    (turn : ∀ n m₁ news₁ h tk, J n m₁ news₁ → Fr h₀ env.locals h m₁ → News h₀ env.locals h news₁ →
      wpAny (model prog w) A (isTrue test env (eval test env)) (fun b s₂ => if b then wpAny (model prog w) A (execs body env) (WPost h₀ env.locals J n s Q) E s₂ else Q .next s₂) E { s with heap := h, toks := tk })
    (hE : PassesOwn (model prog w) A env E) :
    wpAny (model prog w) A (exec (.While test body [] pos) env) Q E s := by
  refine wpAny_While ?_
  refine codeAny_whileLoop (R := fun r s' => match r with | .ok f => Q f s' | .error e => cameBackBy (model prog w) A env E e s')
    (fun n s' => ∃ h tk m₁ news₁, s' = { s with heap := h, toks := tk } ∧ Fr h₀ env.locals h m₁ ∧ News h₀ env.locals h news₁ ∧ J n m₁ news₁) ?_ n ⟨s.heap, s.toks, m, news, rfl, F, N, hJ⟩
  rintro n s' ⟨h, tk, m₁, news₁, rfl, F₁, N₁, hJ₁⟩
  refine wpAny_mono (turn n m₁ news₁ h tk hJ₁ F₁ N₁) (fun b s₂ h₂ => ?_) hE
  cases b with
  | false => exact wpAny_execs_nil h₂
  | true =>
    refine wpAny_mono (wpAny_passesOwn hE h₂) (fun f s₃ h₃ => ?_) fun _ _ e => e
    cases f with
    | ret v => exact h₃
    | brk => exact h₃
    | next =>
      obtain ⟨n', hn', h', tk', m', news', e, F', N', hJ'⟩ := h₃
      exact ⟨n', hn', h', tk', m', news', e, F', N', hJ'⟩
    | cont =>
      obtain ⟨n', hn', h', tk', m', news', e, F', N', hJ'⟩ := h₃
      exact ⟨n', hn', h', tk', m', news', e, F', N', hJ'⟩

section
variable {prog : Program} {w : World} {A : Around} {s : Shared}
theorem next_itemN {E : Value → Shared → Prop} {Q : Value → Shared → Prop} {g : Heap} {L it l : Addr} {m : Str → Option Value} {oI : Obj} {nw : List (Addr × Obj)} {i : Nat} {items : Array Value} {x : Value}
    (F : Fr g L s.heap m) (N : News g L s.heap ((it, oI) :: nw)) (hit : ItAt oI l i) (hne : ∀ p ∈ nw, p.1 ≠ it) (hl : g.IsList l items) (hx : items[i]? = some x)
    (hQ : ∀ h' o', ItAt o' l (i + 1) → Fr g L h' m → News g L h' ((it, o') :: nw) → Q x { s with heap := h' }) :
    wpAny (model prog w) A (call (.builtin "next") [.ref it]) Q E s := by
  have hI := N _ (.head _)
  refine next_item (hit.iter hI.1) (hl.at fun o e => F.keep _ _ e) hx fun h' hit' hs => ?_
  obtain ⟨o', ho', r⟩ := hit'
  refine hQ h' o' r (F.change hs hI.2.1 hI.2.2) fun p hp => ?_
  rcases List.mem_cons.mp hp with rfl | hp
  · exact ⟨ho', hI.2⟩
  · have z := N p (.tail _ hp)
    exact ⟨hs.extBut _ _ (hne p hp) z.1, z.2⟩

theorem next_endN {E' E₁ : Value → Shared → Prop} {Q : Value → Shared → Prop} {base g : Heap} {outer : List Env} {name : Str} {scope : Scope} {a : Addr} {cd : Value} {L it l : Addr} {m : Str → Option Value} {oI : Obj} {nw : List (Addr × Obj)} {i : Nat} {items : Array Value}
    (hh : A.handled = none) (K : Below A base outer g)
    (F : Fr g L s.heap m) (N : News g L s.heap ((it, oI) :: nw)) (hit : ItAt oI l i) (hne : ∀ p ∈ nw, p.1 ≠ it) (hl : g.IsList l items) (hx : items[i]? = none)
    (hE : ∀ e h' o', RaisedSN base g outer e (.type "StopIteration") ((it, o') :: nw) h' → g.UpToSlots h' → E' (.ref e) { s with heap := h' }) (hk : scope.kind = .function) :
    wpAny (model prog w) (A.deeper (envOf name scope L a cd)) (call (.builtin "next") [.ref it]) Q
      (fun e s' => wpAny (model prog w) (A.deeper (envOf name scope L a cd)) (leaving (envOf name scope L a cd) e) (fun _ s'' => E' e s'') E₁ s') s := by
  have hI := N _ (.head _)
  refine next_end (by exact hh) (hit.iter hI.1) (hl.at fun o e => F.keep _ _ e) hx fun h₂ o₂ h' e ho₂ hs hx => ?_
  refine leave_newS (s' := { s with heap := h' }) K hx (F.change hs hI.2.1 hI.2.2) (news := (it, o₂) :: nw) (fun p hp => ?_) (fun h'' R _ hup => ?_) hk
  · rcases List.mem_cons.mp hp with rfl | hp
    · exact ⟨ho₂, hI.2⟩
    · have z := N p (.tail _ hp)
      exact ⟨hs.extBut _ _ (hne p hp) z.1, z.2⟩
  · exact hE e h'' o₂ R hup
end

theorem and63 (b : Int) : Builtin.bitAnd b 63 = b.fmod 64 := by rw [bitAnd_m6, Int.fmod_eq_emod_of_nonneg _ (by decide)]
theorem and64 (b : Int) : Builtin.bitAnd b 64 ≠ 0 ↔ (b.fdiv 64).fmod 2 = 1 := by
  have h := kbt_bitF b 6
  rw [show ((2 : Int) ^ 6) = 64 from by decide] at h
  rw [h]
  split
  · simp [*]
  · simp [*]
theorem nat_and_zero (n r : Nat) (hr : r < 64) : (n * 64) &&& r = 0 := by
  apply Nat.eq_of_testBit_eq
  intro j
  rw [Nat.testBit_and, Nat.zero_testBit]
  by_cases hj : j < 6
  · have : (n * 64).testBit j = false := by
      rw [show n * 64 = 2 ^ 6 * n from by omega, Nat.testBit_two_pow_mul]
      simp; omega
    simp [this]
  · have : r.testBit j = false := Nat.testBit_lt_two_pow (Nat.lt_of_lt_of_le hr (by
      have := Nat.pow_le_pow_right (n := 2) (by decide) (show 6 ≤ j by omega)
      simpa using this))
    simp [this]
theorem or_low (v r : Int) (hv : 0 ≤ v) (h0 : 0 ≤ r) (h1 : r < 64) : Builtin.bitOr (v * 64) r = v * 64 + r := by
  rw [bitOr_and]
  have : Builtin.bitAnd (v * 64) r = 0 := by
    unfold Builtin.bitAnd
    have e : decide (0 ≤ v * 64) = true := by simp; omega
    have e2 : decide (0 ≤ r) = true := by simp [h0]
    simp only [e, e2]
    have := nat_and_zero v.toNat r.toNat (by omega)
    have e3 : (v * 64).toNat = v.toNat * 64 := by omega
    rw [e3, this]; rfl
  rw [this]; omega
theorem bits64 {v : Int} {j : Nat} (h0 : 0 ≤ v) (h1 : v < 64 ^ j) (hj : j ≤ 64) : Builtin.Int.intBits v ≤ 384 := by
  rw [intBits_le_iff]
  have e : (64 : Int) ^ j = ((2 ^ (6 * j) : Nat) : Int) := by rw [Nat.pow_mul]; simp
  rw [e] at h1
  refine Nat.lt_of_lt_of_le (m := 2 ^ (6 * j)) ?_ (Nat.pow_le_pow_right (by decide) (by omega))
  generalize 2 ^ (6 * j) = z at *
  omega

theorem runV_snoc_none : ∀ (xs : List Int) (acc : Int), (∀ b ∈ xs, (b.fdiv 64).fmod 2 = 1) → runV xs acc = none
  | [], _, _ => rfl
  | b :: r, acc, h => by rw [runV, if_pos (h b (.head _))]; exact runV_snoc_none r _ fun b hb => h b (.tail _ hb)

theorem pow64_mono {a b : Nat} (h : a ≤ b) : (64 : Int) ^ a ≤ 64 ^ b := by
  obtain ⟨k, rfl⟩ := Nat.exists_eq_add_of_le h
  rw [Int.pow_add]
  have h1 := pow64_pos a
  have h2 : (1 : Int) ≤ 64 ^ k := pow64_pos k
  calc (64 : Int) ^ a = 64 ^ a * 1 := by rw [Int.mul_one]
    _ ≤ 64 ^ a * 64 ^ k := Int.mul_le_mul_of_nonneg_left h2 (Int.le_of_lt h1)
local macro_rules | `(tactic| walk_at "inplaceOp LShift int int") => `(tactic| refine ilshift_int (by decide) (by assumption) ?_)
set_option pp.deepTerms false in
set_option pp.deepTerms.threshold 8 in
theorem varint_c {w : World} {p : Program} {loose : List Str} {mean : ExcName → Option Value} {mg mb : Str → Option Value} {cn : Str} {cs : Scope} {a : Addr} {ccd : Value} {cl : List (Str × Addr)} {outer : List Env} {A₀ : Around} {base h₀ : Heap} {L : Addr}
    {m : Str → Option Value} {nw : List (Addr × Obj)} {s : Shared} {Q E : Value → Shared → Prop} {it l : Addr} {oI : Obj} {i : Nat} {vs : List Value} {xs : List Int}
    (B : Below A₀ base outer h₀) (F : Fr h₀ L s.heap m) (X : (hd.heap_39 w.params).In h₀) (N : News h₀ L s.heap ((it, oI) :: nw)) (T : Top p loose mean mg mb h₀) (hk : cs.kind = .function)
    (hit : ItAt oI l i) (hne : ∀ p ∈ nw, p.1 ≠ it) (hl : h₀.IsList l vs.toArray) (hI : IntsAre vs xs) (hb : ∀ x ∈ xs, 0 ≤ x ∧ x < 256) (hn : xs.length ≤ 64)
    (ret : ∀ val j, i < j → j ≤ xs.length → runV (xs.drop i) 0 = some (val, xs.drop j) → ∀ t h' tk o', ItAt o' l j → Fr h₀ L h' m → News h₀ L h' ((it, o') :: nw) → Q (.int val t) { s with heap := h', toks := tk })
    (exc : runV (xs.drop i) 0 = none → ∀ g e h' tk o', RaisedSN base g (envX cn cs L a ccd cl :: outer) e (.type "StopIteration") ((it, o') :: nw) h' → Fr h₀ L g m → g.UpToSlots h' → E (.ref e) { s with heap := h', toks := tk }) :
    wpAny (model Challenge.rw_ny0006_01.row.prog w) (ktrTop 303 10 (some []) cn cs L a ccd cl outer) (call (.ref 28) [.ref it]) Q E s := by
  revert X; k_fill; intro X
  refine wpAny_call ?_
  k_dflt ktr_enter
  rename_i g L' h1 FG F' N' B' X' T'
  have hlg : g.IsList l vs.toArray := hl.at fun o e => FG.keep _ _ e
  k_steps
  by_cases hi : i < xs.length
  · obtain ⟨t, hx⟩ := hI.get i xs[i] (by simp [hi])
    have hbi := hb xs[i] (by simp)
    have hdrop : xs.drop i = xs[i] :: xs.drop (i + 1) := List.drop_eq_getElem_cons hi
    refine next_itemN F' N' hit hne hlg (by simpa using hx) fun h2 o2 hit2 F2 N2 => ?_
    refine stN F2 N2 fun h3 F3 N3 => ?_
    refine cut1 ?_; intro R hR
    k_steps
    subst hR
    rename Fr g L' _ _ => F4
    rename News g L' _ _ => N4
    refine wpAny_execs_cons ?_
    refine while_mine (n := xs.length - (i + 1)) (fun n m news => ∃ j b val tb tv o', n = xs.length - j ∧ i < j ∧ j ≤ xs.length ∧ m (Str.ofString "iterator") = some (.ref it) ∧ m (Str.ofString "b") = some (.int b tb) ∧ m (Str.ofString "val") = some (.int val tv) ∧
      news = (it, o') :: nw ∧ ItAt o' l j ∧ 0 ≤ val ∧ val < 64 ^ j ∧ 0 ≤ b ∧ b < 256 ∧ (if (b.fdiv 64).fmod 2 = 1 then runV (xs.drop j) val else some (val, xs.drop j)) = runV (xs.drop i) 0) F4 N4 ?_ ?_ PassesOwn.leaving
    · have h63 := and63 xs[i]
      have h0 := Int.fmod_nonneg_of_pos xs[i] (b := 64) (by decide)
      have h1 := Int.fmod_lt_of_pos xs[i] (b := 64) (by decide)
      refine ⟨i + 1, xs[i], _, _, _, o2, rfl, Nat.lt_succ_self _, hi, rfl, rfl, rfl, rfl, hit2, by rw [h63]; exact h0, ?_, hbi.1, hbi.2, ?_⟩
      · rw [h63]
        have : (64 : Int) ^ 1 ≤ 64 ^ (i + 1) := pow64_mono (by omega)
        omega
      · rw [h63, hdrop, runV]; simp
    · rintro n m₁ news₁ h tk ⟨j, b, val, tb, tv, o', rfl, j0, j1, hm1, hm2, hm3, rfl, hit', v0, v1, b0, b1, hJ⟩ F₁ N₁
      rw [if3 hm1 hm2 hm3] at F₁
      have hsz : (Builtin.Int.intBits val : Int) + 6 ≤ 2 ^ 27 := by have := bits64 v0 v1 (by omega); omega
      k_steps
      · have hcont : (b.fdiv 64).fmod 2 = 1 := (and64 b).mp (by assumption)
        rw [if_pos hcont] at hJ
        rename Fr g L' _ _ => F5
        rename News g L' _ _ => N5
        by_cases hj : j < xs.length
        · obtain ⟨t, hx⟩ := hI.get j xs[j] (by simp [hj])
          have hbj := hb xs[j] (by simp)
          have hdropj : xs.drop j = xs[j] :: xs.drop (j + 1) := List.drop_eq_getElem_cons hj
          refine next_itemN F5 N5 hit' hne hlg (by simpa using hx) fun h6 o6 hit6 F6 N6 => ?_
          k_steps
          rename Fr g L' _ _ => F7
          rename News g L' _ _ => N7
          have h63 := and63 xs[j]
          have h0 := Int.fmod_nonneg_of_pos xs[j] (b := 64) (by decide)
          have h1 := Int.fmod_lt_of_pos xs[j] (b := 64) (by decide)
          have hor : Builtin.bitOr (val * 2 ^ (6 : Int).toNat) (Builtin.bitAnd xs[j] 63) = val * 64 + xs[j].fmod 64 := by
            rw [h63, show (2 : Int) ^ (6 : Int).toNat = 64 from by decide]
            exact or_low _ _ v0 h0 h1
          refine ⟨xs.length - (j + 1), by omega, _, _, _, _, rfl, F7, N7, j + 1, xs[j], _, _, _, o6, rfl, by omega, hj, rfl, rfl, rfl, rfl, hit6, by rw [hor]; omega, ?_, hbj.1, hbj.2, ?_⟩
          · rw [hor, Int.pow_succ]; omega
          · rw [hor, ← hJ, hdropj, runV]
        · have hx : vs.toArray[j]? = none := by simp; rw [hI.length]; omega
          have hdropj : xs.drop j = [] := List.drop_eq_nil_of_le (by omega)
          rw [hdropj, runV] at hJ
          refine next_endN rfl B' F5 N5 hit' hne hlg hx (fun e h' o' R hup => ?_) rfl
          exact exc hJ.symm g e h' _ o' R FG hup
      · rename Fr h₀ L _ _ => kF
        rename News h₀ L _ _ => kN
        have hstop : ¬ (b.fdiv 64).fmod 2 = 1 := fun h => (and64 b).mpr h (by assumption)
        rw [if_neg hstop] at hJ
        exact ret val j j0 j1 hJ.symm _ _ _ o' hit' kF kN
  · have hx : vs.toArray[i]? = none := by simp; rw [hI.length]; omega
    have hdrop : xs.drop i = [] := List.drop_eq_nil_of_le (by omega)
    refine next_endN rfl B' F' N' hit hne hlg hx (fun e h' o' R hup => ?_) rfl
    exact exc (by rw [hdrop]; rfl) g e h' _ o' R FG hup
end Mine
namespace Mine
theorem offF5 : True := by
  w_top off
  exact trivial
end Mine
open PySem PySem.W PyProof.Rows PySem.Calls
set_option Elab.async false
set_option maxRecDepth 100000
set_option maxHeartbeats 8000000
namespace Mine
def Stop (P : Prop) : Prop := P
theorem Stop.mk {P : Prop} (h : Stop P) : P := h
theorem Stop.go {P : Prop} (h : P) : Stop P := h

def toldF : Nat → List Int → List Int
  | 0, _ => []
  | n + 1, xs => match runV xs 0 with | none => [] | some (v, r) => v :: toldF n r

theorem iterN {prog : Program} {w : World} {A : Around} {E : Value → Shared → Prop} {s : Shared} {Q : Value → Shared → Prop} {g : Heap} {L l : Addr} {m : Str → Option Value} {news : List (Addr × Obj)} {items : Array Value}
    (F : Fr g L s.heap m) (N : News g L s.heap news) (hl : g.IsList l items)
    (hQ : ∀ I oI h', ItAt oI l 0 → Fr g L h' m → News g L h' ((I, oI) :: news) → (∀ p ∈ news, p.1 < I) → Q (.ref I) { s with heap := h' }) :
    wpAny (model prog w) A (call (.builtin "iter") [.ref l]) Q E s :=
  iter_call (hl.at fun _ e => F.keep _ _ e) (hQ _ _ _ ⟨rfl, rfl⟩ (F.push _) (News.push F N _ rfl) fun p hp => Heap.lt_size (N p hp).1)

local macro_rules | `(tactic| walk_at "call ref") => `(tactic| refine Stop.mk ?_)
local macro_rules | `(tactic| walk_at "exec Try") => `(tactic| refine Stop.mk ?_)
set_option pp.deepTerms false in
set_option pp.deepTerms.threshold 8 in
theorem told_c {w : World} {p : Program} {loose : List Str} {mean : ExcName → Option Value} {mg mb : Str → Option Value} {env : Env} {A₀ : Around} {base h₀ : Heap} {L : Addr}
    {m : Str → Option Value} {s : Shared} {Q E : Value → Shared → Prop} {sg : Addr} {vs : List Value} {xs : List Int}
    (B : Below A₀ base [] h₀) (F : Fr h₀ L s.heap m) (XB : (hd.heap_39 w.params).In base) (TB : Top p loose mean mg mb base) (hf : env.frame = some L) (hk : env.scope.kind = .function)
    (hl : s.heap.IsList sg vs.toArray) (hI : IntsAre vs xs) (hb : ∀ x ∈ xs, 0 ≤ x ∧ x < 256) (hn : xs.length ≤ 60)
    (ret : ∀ d us nn h' tk, (∀ b o, s.heap.get? b = some o → b ≠ L → h'.get? b = some o) → h'.Ns L m → s.heap.get? d = none → h'.get? d = some (W.listOf us.toArray nn) → IntsAre us (toldF (xs.length + 1) xs) →
      Q (.ref d) { s with heap := h', toks := tk }) :
    wpAny (model Challenge.rw_ny0006_01.row.prog w) (AL (some [env])) (call (.ref 65) [.ref sg]) Q E s := by
  have B' : Below (AL (some [env])) base [env] s.heap := ⟨rfl, (pushX B F hf hk).stays, (pushX B F hf hk).frames⟩
  have X : (hd.heap_39 w.params).In s.heap := XB.keeps B'.stays
  have T : Top p loose mean mg mb s.heap := TB.keeps B'.stays
  revert X; k_fill; intro X
  refine enter X T (by k_is) (by k_is) (Nat.lt_of_sub_pos (by exact Nat.le_of_ble_eq_true rfl)) (BindsTo.of_eq rfl) (locs rfl) ?_ rfl rfl rfl (by decide)
  intro L' h₁ F' N'
  k_steps
  rename Fr s.heap L' _ _ => F2
  rename News s.heap L' _ _ => N2
  rename_i d _ _ _
  refine iterN F2 N2 hl fun I oI h3 hit F3 N3 l3 => ?_
  k_steps
  rename Fr s.heap L' _ _ => F4
  rename News s.heap L' _ _ => N4
  refine Stop.go (wpAny_Try_except ?_)
  refine wpAny_execs_cons (For_mine ?_)
  k_steps
  rename_i hr F5 N5 _
  have hdI : @LT.lt Nat _ d I := l3 _ (.head _)
  refine iter_range (n := xs.length + 1) (fun i m news => ∃ us nn j done o', news = [(I, o'), (d, W.listOf us.toArray nn)] ∧ m (Str.ofString "told") = some (.ref d) ∧ m (Str.ofString "left") = some (.ref I) ∧
    ItAt o' sg j ∧ i ≤ j ∧ j ≤ xs.length ∧ IntsAre us done ∧ done.length = i ∧ done ++ toldF (xs.length + 1 - i) (xs.drop j) = toldF (xs.length + 1) xs) rfl PassesOwn.looking hr ?_ ?_ F5 N5 ?_ ?_ ?_
  · unfold Builtin.Range.small Builtin.Range.rangeFitsLong Builtin.Range.rangeSize
    simp; omega
  · rw [rangeSize_nat]; omega
  · exact ⟨[], 0, 0, [], oI, rfl, rfl, rfl, hit, Nat.le_refl _, Nat.zero_le _, .nil, rfl, rfl⟩
  · rintro I2 oI2 i t m₁ news₁ h tk hc hi ⟨us, nn, j, done, o', rfl, hm1, hm2, hit', ij, jn, hus, hdl, hJ⟩ off F₁ N₁
    rw [if2 hm1 hm2] at F₁
    have hI2 : @Ne Nat I I2 := off _ (.head _)
    have hd2 : @Ne Nat d I2 := off _ (.tail _ (.head _))
    have hus' : us.length ≤ 64 := by rw [hus.length]; omega
    k_steps
    rename Fr s.heap L' _ _ => F6
    rename News s.heap L' _ _ => N6
    refine Stop.go ?_
    refine varint_c (cl := []) (nw := [(I2, oI2), (d, W.listOf us.toArray nn)]) (oI := o') B' F6 X ?_ T rfl hit' ?_ hl hI hb (by omega) ?_ ?_
    · intro p hp
      rcases List.mem_cons.mp hp with rfl | hp
      · exact N6 _ (.tail _ (.head _))
      · rcases List.mem_cons.mp hp with rfl | hp
        · exact N6 _ (.head _)
        · exact N6 _ (.tail _ (.tail _ hp))
    · intro p hp
      rcases List.mem_cons.mp hp with rfl | hp
      · exact Ne.symm hI2
      · rw [List.mem_singleton.mp hp]; exact Nat.ne_of_lt hdI
    · intro val j' jj jn' hrun t' h7 tk7 o7 hit7 F7 N7
      k_steps
      rename Fr s.heap L' _ _ => F8
      rename News s.heap L' _ _ => N8
      rw [List.push_toArray] at N8
      obtain ⟨k, hk1⟩ : ∃ k, xs.length + 1 - i = k + 1 := ⟨xs.length - i, by omega⟩
      have hk2 : xs.length + 1 - (i + 1) = k := by omega
      refine ⟨_, _, _, [(I, o7), (d, W.listOf (us ++ [Value.int val t']).toArray (nn + 1))], rfl, F8, fun p hp => ?_, fun p hp => ?_, us ++ [Value.int val t'], nn + 1, j', done ++ [val], o7, rfl, rfl, rfl, hit7, by omega, jn', hus.append (.cons _ _ .nil), by simp [hdl], ?_⟩
      · rcases List.mem_cons.mp hp with rfl | hp
        · exact N8 _ (.tail _ (.head _))
        · rcases List.mem_cons.mp hp with rfl | hp
          · exact N8 _ (.head _)
          · exact N8 _ (.tail _ (.tail _ hp))
      · rcases List.mem_cons.mp hp with rfl | hp
        · exact hI2
        · rw [List.mem_singleton.mp hp]; exact hd2
      · rw [← hJ, hk1, hk2, toldF, hrun]; simp
    · intro hrun g e h7 tk7 o7 R FG hup
      obtain ⟨k, hk1⟩ : ∃ k, xs.length + 1 - i = k + 1 := ⟨xs.length - i, by omega⟩
      rw [hk1, toldF, hrun] at hJ
      have hD : KtsDicts ([env].filterMap (·.frame)) s.heap := by
        intro b hb
        obtain ⟨o, es, ep, ho, hdt, _⟩ := F.ns
        simp [hf] at hb
        subst hb
        exact ⟨o, es, ep, ho, hdt⟩
      refine caught_SN0 (s' := { s with heap := h7, toks := tk7 }) (T' := "StopIteration") R FG B' hup XB TB hD KtsTurn.refl (by k_is) rfl (by decide) (by rw [isSubtype_type]; kernel_rfl) (by rw [isSubtype_type]; kernel_rfl) (by rw [isSubtype_type]; kernel_rfl) ?_ rfl rfl (by decide) PassesOwnAt.never
      intro h8 g8 T8 F8 N8 B8 X8 TP8 D8
      k_steps
      have hfs : [env].filterMap (·.frame) = [L] := by simp [hf]
      rw [hfs] at T8
      have hmem : (d, W.listOf us.toArray nn) ∈ [(I, o7), (I2, oI2), (d, W.listOf us.toArray nn)] := .tail _ (.tail _ (.head _))
      refine ret d us nn h8 _ (fun b o e hb => F8.keep _ _ (T8.other b o e (by simpa using hb))) ?_ ?_ (N8.get hmem) ?_
      · obtain ⟨o, es, ep, ho, hdt, hks, hfd⟩ := F.ns
        obtain ⟨sl, hsl⟩ := T8.frame L o ho (by simp)
        exact ⟨_, es, ep, F8.keep _ _ hsl, hdt, hks, hfd⟩
      · cases hq : s.heap.get? d with
        | none => rfl
        | some o =>
          obtain ⟨sl, hsl⟩ := T8.up hq
          have := N8.fresh hmem
          rw [hsl] at this; cases this
      · simp only [List.append_nil] at hJ
        rw [← hJ]; exact hus
  · rintro h tk m' news' ⟨us, nn, j, done, o', rfl, hm1, hm2, hit', ij, jn, hus, hdl, hJ⟩ F₁ N₁
    omega
end Mine
namespace Mine
theorem offF6 : True := by
  w_top off
  exact trivial
end Mine
open PySem PySem.W PyProof.Rows PySem.Calls
set_option Elab.async false
set_option maxRecDepth 100000
set_option maxHeartbeats 8000000
namespace Mine
abbrev AN (d u : Nat) (fr : Option (List Env)) : Around := { handled := none, depth := d, frames := fr, guards := some [], units := u }

local macro_rules | `(tactic| walk_at "call type:type") => `(tactic| ((with_reducible show wpAny _ _ (call _ [Value.bytes _ _]) _ _ _); refine call_type_of (Tx := "bytes") rfl (by decide +kernel) ?_))
theorem buffer_c {w : World} {p : Program} {loose : List Str} {mean : ExcName → Option Value} {mg mb : Str → Option Value} {fr : Option (List Env)} {s : Shared} {Q E : Value → Shared → Prop} {bs : Array UInt8} {t : Tok}
    (X : (hd.heap_39 w.params).In s.heap) (T : Top p loose mean mg mb s.heap)
    (hret : ∀ h' tk', (∀ b o, s.heap.get? b = some o → h'.get? b = some o) → Q (.bytes bs t) { s with heap := h', toks := tk' }) :
    wpAny (model Challenge.rw_ny0006_01.row.prog w) (AN 304 13 fr) (call (.ref 35) [.bytes bs t]) Q E s := by
  revert X; k_fill; intro X
  refine enter X T (by k_is) (by k_is) (Nat.lt_of_sub_pos (by exact Nat.le_of_ble_eq_true rfl)) (BindsTo.of_eq rfl) (locs rfl) ?_ rfl rfl rfl (by decide)
  intro L h₁ F N
  k_steps
  rename Fr s.heap L _ _ => F'
  exact hret _ _ F'.keep

theorem truth_c {w : World} {p : Program} {loose : List Str} {mean : ExcName → Option Value} {mg mb : Str → Option Value} {fr : Option (List Env)} {s : Shared} {Q E : Value → Shared → Prop}
    (X : (hd.heap_39 w.params).In s.heap) (T : Top p loose mean mg mb s.heap)
    (hret : ∀ h' tk', (∀ b o, s.heap.get? b = some o → h'.get? b = some o) → Q (.bool false) { s with heap := h', toks := tk' }) :
    wpAny (model Challenge.rw_ny0006_01.row.prog w) (AN 304 13 fr) (call (.ref 42) [.bool false]) Q E s := by
  revert X; k_fill; intro X
  refine enter X T (by k_is) (by k_is) (Nat.lt_of_sub_pos (by exact Nat.le_of_ble_eq_true rfl)) (BindsTo.of_eq rfl) (locs rfl) ?_ rfl rfl rfl (by decide)
  intro L h₁ F N
  k_steps
  rename Fr s.heap L _ _ => F'
  exact hret _ _ F'.keep
end Mine
namespace Mine
theorem offF7 : True := by
  w_top off
  exact trivial
end Mine
open PySem PySem.W PyProof.Rows PySem.Calls
set_option Elab.async false
set_option maxRecDepth 100000
set_option maxHeartbeats 8000000
namespace Mine
theorem news_keeps {h₀ h h' : Heap} {L : Addr} {news : List (Addr × Obj)} (N : News h₀ L h news) (hk : ∀ b o, h.get? b = some o → h'.get? b = some o) : News h₀ L h' news := fun p hp => ⟨hk _ _ (N p hp).1, (N p hp).2⟩

def b64L : List Int := [65, 66, 67, 68, 69, 70, 71, 72, 73, 74, 75, 76, 77, 78, 79, 80, 81, 82, 83, 84, 85, 86, 87, 88, 89, 90, 97, 98, 99, 100, 101, 102, 103, 104, 105, 106, 107, 108, 109, 110, 111, 112, 113, 114, 115, 116, 117, 118, 119, 120, 121, 122, 48, 49, 50, 51, 52, 53, 54, 55, 56, 57, 43, 47]
def ch (k : Int) : Int := b64L.getD k.toNat 0

def enc : Int → Int → List Int → List Int
  | lb, lc, [] => if lb = 2 then [ch ((lc % 4) * 16), 61, 61] else if lb = 4 then [ch ((lc % 16) * 4), 61] else []
  | lb, lc, b :: r =>
    let lc' := (lc * 256 + b) % 65536
    if lb = 0 then ch (lc' / 4 % 64) :: enc 2 lc' r
    else if lb = 2 then ch (lc' / 16 % 64) :: enc 4 lc' r
    else ch (lc' / 64 % 64) :: ch (lc' % 64) :: enc 0 lc' r

theorem b64_item {prog : Program} {w : World} {A : Around} {E : Value → Shared → Prop} {s : Shared} {Q : Value → Shared → Prop} {value slice : Expr} {t ui : Tok} {i : Int} (hi : 0 ≤ i ∧ i < 64) (h : ∀ t' k, Q (.int (ch i) t') { s with toks := k })
    (hs : subscripted slice false (.bytes #[65, 66, 67, 68, 69, 70, 71, 72, 73, 74, 75, 76, 77, 78, 79, 80, 81, 82, 83, 84, 85, 86, 87, 88, 89, 90, 97, 98, 99, 100, 101, 102, 103, 104, 105, 106, 107, 108, 109, 110, 111, 112, 113, 114, 115, 116, 117, 118, 119, 120, 121, 122, 48, 49, 50, 51, 52, 53, 54, 55, 56, 57, 43, 47] t) (.int i ui) = operate [.bytes #[65, 66, 67, 68, 69, 70, 71, 72, 73, 74, 75, 76, 77, 78, 79, 80, 81, 82, 83, 84, 85, 86, 87, 88, 89, 90, 97, 98, 99, 100, 101, 102, 103, 104, 105, 106, 107, 108, 109, 110, 111, 112, 113, 114, 115, 116, 117, 118, 119, 120, 121, 122, 48, 49, 50, 51, 52, 53, 54, 55, 56, 57, 43, 47] t, .int i ui] (getItem (.bytes #[65, 66, 67, 68, 69, 70, 71, 72, 73, 74, 75, 76, 77, 78, 79, 80, 81, 82, 83, 84, 85, 86, 87, 88, 89, 90, 97, 98, 99, 100, 101, 102, 103, 104, 105, 106, 107, 108, 109, 110, 111, 112, 113, 114, 115, 116, 117, 118, 119, 120, 121, 122, 48, 49, 50, 51, 52, 53, 54, 55, 56, 57, 43, 47] t) (.int i ui)) := by with_unfolding_all rfl)
    (ht : ∀ r, letTemporaryGo value (.bytes #[65, 66, 67, 68, 69, 70, 71, 72, 73, 74, 75, 76, 77, 78, 79, 80, 81, 82, 83, 84, 85, 86, 87, 88, 89, 90, 97, 98, 99, 100, 101, 102, 103, 104, 105, 106, 107, 108, 109, 110, 111, 112, 113, 114, 115, 116, 117, 118, 119, 120, 121, 122, 48, 49, 50, 51, 52, 53, 54, 55, 56, 57, 43, 47] t) r = pure () := by intro _; with_unfolding_all rfl) :
    wpAny (model prog w) A (subscriptTail value slice (.bytes #[65, 66, 67, 68, 69, 70, 71, 72, 73, 74, 75, 76, 77, 78, 79, 80, 81, 82, 83, 84, 85, 86, 87, 88, 89, 90, 97, 98, 99, 100, 101, 102, 103, 104, 105, 106, 107, 108, 109, 110, 111, 112, 113, 114, 115, 116, 117, 118, 119, 120, 121, 122, 48, 49, 50, 51, 52, 53, 54, 55, 56, 57, 43, 47] t) (.int i ui)) Q E s :=
  KBw.item_K (ks := b64L) (by decide) (by decide) hi.1 hi.2 (fun t' k _ _ => h t' k) hs ht
theorem and63_in (y : Int) : 0 ≤ Builtin.bitAnd y 63 ∧ Builtin.bitAnd y 63 < 64 := by
  rw [and63]; exact ⟨Int.fmod_nonneg_of_pos _ (by decide), Int.fmod_lt_of_pos _ (by decide)⟩
theorem ch_in (k : Int) : 0 ≤ ch k ∧ ch k < 128 := by
  have h : ∀ x ∈ b64L, 0 ≤ x ∧ x < 128 := by decide
  unfold ch
  rw [List.getD_eq_getElem?_getD]
  cases e : b64L[k.toNat]? with
  | none => decide
  | some x => exact h x (List.mem_of_getElem? e)
theorem nat_and_zero8 (n r : Nat) (hr : r < 256) : (n * 256) &&& r = 0 := by
  apply Nat.eq_of_testBit_eq
  intro j
  rw [Nat.testBit_and, Nat.zero_testBit]
  by_cases hj : j < 8
  · have : (n * 256).testBit j = false := by
      rw [show n * 256 = 2 ^ 8 * n from by omega, Nat.testBit_two_pow_mul]
      simp; omega
    simp [this]
  · have : r.testBit j = false := Nat.testBit_lt_two_pow (Nat.lt_of_lt_of_le hr (by
      have := Nat.pow_le_pow_right (n := 2) (by decide) (show 8 ≤ j by omega)
      simpa using this))
    simp [this]
theorem lcEq {lc x : Int} (hv : 0 ≤ lc) (h0 : 0 ≤ x) (h1 : x < 256) : Builtin.bitAnd (Builtin.bitOr (lc * 2 ^ Int.toNat 8) x) 65535 = (lc * 256 + x) % 65536 := by
  rw [show (2 : Int) ^ Int.toNat 8 = 256 from by decide, bitAnd_m16, bitOr_and]
  have : Builtin.bitAnd (lc * 256) x = 0 := by
    unfold Builtin.bitAnd
    have e : decide (0 ≤ lc * 256) = true := by simp; omega
    have e2 : decide (0 ≤ x) = true := by simp [h0]
    simp only [e, e2]
    have := nat_and_zero8 lc.toNat x.toNat (by omega)
    have e3 : (lc * 256).toNat = lc.toNat * 256 := by omega
    rw [e3, this]; rfl
  rw [this, Int.sub_zero]
theorem chEq (y : Int) (k : Nat) : Builtin.bitAnd (y.fdiv (2 ^ k)) 63 = y / 2 ^ k % 64 := by
  rw [and63, Int.fmod_eq_emod_of_nonneg _ (by decide), Int.fdiv_eq_ediv_of_nonneg _ (Int.le_of_lt (kbt_pos k))]
theorem if4 {m : Str → Option Value} {x y z x' : Str} {a b c a' : Value} (h1 : m x = some a) (h2 : m y = some b) (h3 : m z = some c) (h4 : m x' = some a') : m = fun q => if q = x then some a else if q = y then some b else if q = z then some c else if q = x' then some a' else m q := by
  funext q
  by_cases e1 : q = x
  · subst e1; simp [h1]
  · by_cases e2 : q = y
    · subst e2; simp [e1, h2]
    · by_cases e3 : q = z
      · subst e3; simp [e1, e2, h3]
      · by_cases e4 : q = x'
        · subst e4; simp [e1, e2, e3, h4]
        · simp [e1, e2, e3, e4]
local macro_rules | `(tactic| walk_at "subscriptTail") => `(tactic| (refine b64_item ?k ?_; (case k => first | exact and63_in _ | assumption); intro _ _))
local macro_rules | `(tactic| walk_at "binaryOp LShift int int") => `(tactic| refine lshift_int_small (by decide) (by decide) (by assumption) ?_)
local macro_rules | `(tactic| walk_at "call ref") => `(tactic| refine Stop.mk ?_)
local macro_rules | `(tactic| walk_at "exec For Name Name cons nil") => `(tactic| refine Stop.mk ?_)
set_option pp.deepTerms false in
set_option pp.deepTerms.threshold 8 in
theorem b2a_c {w : World} {p : Program} {loose : List Str} {mean : ExcName → Option Value} {mg mb : Str → Option Value} {fr : Option (List Env)} {s : Shared} {Q E : Value → Shared → Prop} {bs : Array UInt8} {ns : List Int} {t : Tok}
    (X : (hd.heap_39 w.params).In s.heap) (T : Top p loose mean mg mb s.heap) (hb : KBw.bInts bs = ns) (hn : ns.length ≤ 64)
    (hret : ∀ h' tk' t', (∀ b o, s.heap.get? b = some o → h'.get? b = some o) → Q (.bytes (byteArr (enc 0 0 ns)) t') { s with heap := h', toks := tk' }) :
    wpAny (model Challenge.rw_ny0006_01.row.prog w) (AN 303 10 fr) (call (.ref 50) [.bytes bs t] [(Str.ofString "newline", .bool false)]) Q E s := by
  revert X; k_fill; intro X
  refine enter X T (by k_is) (by k_is) (Nat.lt_of_sub_pos (by exact Nat.le_of_ble_eq_true rfl)) (BindsTo.of_eq rfl) (locs rfl) ?_ rfl rfl rfl (by decide)
  intro L h₁ F N
  k_steps
  rename Fr s.heap L _ _ => F1
  rename News s.heap L _ _ => N1
  refine Stop.go (buffer_c (X.keeps F1.keep) (T.keeps F1.keep) fun h2 tk2 k2 => ?_)
  have F2 := F1.keeps k2
  have N2 := news_keeps N1 k2
  k_steps
  rename Fr s.heap L _ _ => F3
  rename News s.heap L _ _ => N3
  refine Stop.go (truth_c (X.keeps F3.keep) (T.keeps F3.keep) fun h4 tk4 k4 => ?_)
  have F4 := F3.keeps k4
  have N4 := news_keeps N3 k4
  k_steps
  rename_i d _ _ _ _ _ F5 N5
  refine Stop.go (For_mine ?_)
  k_steps
  refine iter_bytes (fun i m news => ∃ us nn lb lc ta tb outs, news = [(d, W.listOf us.toArray nn)] ∧ m (Str.ofString "out") = some (.ref d) ∧ m (Str.ofString "leftbits") = some (.int lb ta) ∧ m (Str.ofString "leftchar") = some (.int lc tb) ∧
    m (Str.ofString "newline") = some (.bool false) ∧ (lb = 0 ∨ lb = 2 ∨ lb = 4) ∧ 0 ≤ lc ∧ lc < 65536 ∧ IntsAre us outs ∧ outs.length ≤ 2 * i ∧ (∀ x ∈ outs, 0 ≤ x ∧ x < 128) ∧ outs ++ enc lb lc (ns.drop i) = enc 0 0 ns) rfl PassesOwn.never F5 N5 ?_ ?_ ?_
  · exact ⟨[], 0, 0, 0, _, _, [], rfl, rfl, rfl, rfl, rfl, .inl rfl, Int.le_refl _, by decide, .nil, Nat.le_refl _, (fun _ h => nomatch h), by simp⟩
  · rintro I oI i b t m₁ news₁ h tk hc hi ⟨us, nn, lb, lc, ta, tb, outs, rfl, hm1, hm2, hm3, hm4, hlb, lc0, lc1, hus, hol, hob, hJ⟩ off F₁ N₁
    rw [if4 hm1 hm2 hm3 hm4] at F₁
    have hdI : @Ne Nat d I := off _ (.head _)
    have hbi := KBw.ints_get hi
    rw [hb] at hbi
    have hil : i < ns.length := (List.getElem?_eq_some_iff.mp hbi).1
    have hus' : us.length ≤ 200 := by rw [hus.length]; omega
    have hdrop : ns.drop i = (b.toNat : Int) :: ns.drop (i + 1) := by
      rw [List.drop_eq_getElem_cons hil]; congr 1
      exact Option.some.inj ((List.getElem?_eq_getElem hil).symm.trans hbi)
    have b0 : (0 : Int) ≤ (b.toNat : Int) := by omega
    have b1 : (b.toNat : Int) < 256 := by have := b.toNat_lt; omega
    rw [hdrop] at hJ
    generalize (b.toNat : Int) = x at *
    rcases hlb with rfl | rfl | rfl
    all_goals k_steps
    all_goals rename Fr s.heap L _ _ => F6
    all_goals rename News s.heap L _ _ => N6
    all_goals have hlc := lcEq lc0 b0 b1
    all_goals have hlc0 := Int.emod_nonneg (lc * 256 + x) (b := 65536) (by decide)
    all_goals have hlc1 := Int.emod_lt_of_pos (lc * 256 + x) (b := 65536) (by decide)
    all_goals simp only [List.push_toArray] at N6
    · refine ⟨_, _, _, _, rfl, F6, N6, (fun p hp => by rw [List.mem_singleton.mp hp]; exact hdI), us ++ [_], nn + 1, 2, _, _, _, outs ++ [_], rfl, rfl, rfl, rfl, rfl, .inr (.inl rfl), by rw [hlc]; exact hlc0, by rw [hlc]; exact hlc1, hus.append (.cons _ _ .nil), by simp; omega, ?_, ?_⟩
      · intro y hy
        rcases List.mem_append.mp hy with hy | hy
        · exact hob y hy
        · rw [List.mem_singleton.mp hy]; exact ch_in _
      · rw [← hJ, hlc, chEq, enc]; simp
    · refine ⟨_, _, _, _, rfl, F6, N6, (fun p hp => by rw [List.mem_singleton.mp hp]; exact hdI), us ++ [_], nn + 1, 4, _, _, _, outs ++ [_], rfl, rfl, rfl, rfl, rfl, .inr (.inr rfl), by rw [hlc]; exact hlc0, by rw [hlc]; exact hlc1, hus.append (.cons _ _ .nil), by simp; omega, ?_, ?_⟩
      · intro y hy
        rcases List.mem_append.mp hy with hy | hy
        · exact hob y hy
        · rw [List.mem_singleton.mp hy]; exact ch_in _
      · rw [← hJ, hlc, chEq, enc]; simp
    · refine ⟨_, _, _, _, rfl, F6, N6, (fun p hp => by rw [List.mem_singleton.mp hp]; exact hdI), us ++ [_] ++ [_], nn + 1 + 1, 0, _, _, _, outs ++ [_] ++ [_], rfl, rfl, rfl, rfl, rfl, .inl rfl, by rw [hlc]; exact hlc0, by rw [hlc]; exact hlc1, (hus.append (.cons _ _ .nil)).append (.cons _ _ .nil), by simp; omega, ?_, ?_⟩
      · intro y hy
        rcases List.mem_append.mp hy with hy | hy
        · rcases List.mem_append.mp hy with hy | hy
          · exact hob y hy
          · rw [List.mem_singleton.mp hy]; exact ch_in _
        · rw [List.mem_singleton.mp hy]; exact ch_in _
      · rw [← hJ, hlc, chEq, chEq, enc]; simp
  · rintro h tk m' news' ⟨us, nn, lb, lc, ta, tb, outs, rfl, hm1, hm2, hm3, hm4, hlb, lc0, lc1, hus, hol, hob, hJ⟩ F₁ N₁
    rw [if4 hm1 hm2 hm3 hm4] at F₁
    have hsz : bs.size = ns.length := by rw [← hb, KBw.ints_length]
    rw [List.drop_eq_nil_of_le (by omega)] at hJ
    have hus' : us.length ≤ 200 := by rw [hus.length]; omega
    have hi3 : 0 ≤ Builtin.bitAnd lc 3 * 2 ^ Int.toNat 4 ∧ Builtin.bitAnd lc 3 * 2 ^ Int.toNat 4 < 64 := by rw [bitAnd_m2, show (2 : Int) ^ Int.toNat 4 = 16 from by decide]; omega
    have hi15 : 0 ≤ Builtin.bitAnd lc 15 * 2 ^ Int.toNat 2 ∧ Builtin.bitAnd lc 15 * 2 ^ Int.toNat 2 < 64 := by rw [bitAnd_m4, show (2 : Int) ^ Int.toNat 2 = 4 from by decide]; omega
    have hz3 : (Builtin.bitAnd lc 3).natAbs < 2 ^ 64 := by rw [bitAnd_m2]; omega
    have hz15 : (Builtin.bitAnd lc 15).natAbs < 2 ^ 64 := by rw [bitAnd_m4]; omega
    rcases hlb with rfl | rfl | rfl
    all_goals k_steps
    all_goals rename Fr s.heap L _ _ => F6
    all_goals rename News s.heap L _ _ => N6
    all_goals (try simp only [List.push_toArray] at N6)
    · refine KBa.make_K F6 N6 rfl ⟨_, N6.get (.head _), rfl, _, rfl⟩ hus (fun n hn => ⟨(hob n hn).1, by have := (hob n hn).2; omega⟩) (by omega) fun h7 t7 k7 F7 N7 _ => ?_
      have e : outs = enc 0 0 ns := by rw [← hJ, enc]; simp
      rw [e]
      exact hret h7 k7 t7 F7.keep
    · have e : outs ++ [ch (Builtin.bitAnd lc 3 * 2 ^ Int.toNat 4)] ++ [61] ++ [61] = enc 0 0 ns := by
        rw [← hJ, bitAnd_m2, show (2 : Int) ^ Int.toNat 4 = 16 from by decide, enc]; simp
      refine KBa.make_K F6 N6 rfl ⟨_, N6.get (.head _), rfl, _, rfl⟩ (((hus.append (.cons _ _ .nil)).append (.cons _ _ .nil)).append (.cons _ _ .nil)) (fun n hn => ?_) (by simp; omega) fun h7 t7 k7 F7 N7 _ => ?_
      · simp only [List.mem_append, List.mem_singleton] at hn
        rcases hn with ((hn | rfl) | rfl) | rfl
        · exact ⟨(hob n hn).1, by have := (hob n hn).2; omega⟩
        · have := ch_in (Builtin.bitAnd lc 3 * 2 ^ Int.toNat 4); omega
        · decide
        · decide
      · rw [e]
        exact hret h7 k7 t7 F7.keep
    · have e : outs ++ [ch (Builtin.bitAnd lc 15 * 2 ^ Int.toNat 2)] ++ [61] = enc 0 0 ns := by
        rw [← hJ, bitAnd_m4, show (2 : Int) ^ Int.toNat 2 = 4 from by decide, enc]; simp
      refine KBa.make_K F6 N6 rfl ⟨_, N6.get (.head _), rfl, _, rfl⟩ ((hus.append (.cons _ _ .nil)).append (.cons _ _ .nil)) (fun n hn => ?_) (by simp; omega) fun h7 t7 k7 F7 N7 _ => ?_
      · simp only [List.mem_append, List.mem_singleton] at hn
        rcases hn with (hn | rfl) | rfl
        · exact ⟨(hob n hn).1, by have := (hob n hn).2; omega⟩
        · have := ch_in (Builtin.bitAnd lc 15 * 2 ^ Int.toNat 2); omega
        · decide
      · rw [e]
        exact hret h7 k7 t7 F7.keep
end Mine
namespace Mine
theorem offF8 : True := by
  w_top off
  exact trivial
end Mine
open PySem PySem.W PyProof.Rows PySem.Calls
set_option Elab.async false
set_option maxRecDepth 100000
set_option maxHeartbeats 8000000
namespace Mine
section
variable {prog : Program} {w : World} {A : Around} {E : Value → Shared → Prop} {s : Shared}
theorem mt_check (a b : Value) : checkBuiltinCall "bytes.maketrans" ⟨[a, b], []⟩ = pure () := by kernel_rfl
theorem mt_entry : entryFor table "bytes.maketrans" = some Builtin.«bytes.maketrans» := entryFor_of_tree (by kernel_rfl)
theorem mt_plain : plainId "bytes.maketrans" = true := by decide +kernel
def idTab : Array UInt8 := (Array.range 256).map (·.toUInt8)
theorem call_maketrans {a b c d : UInt8} {t u : Tok} {Q : Value → Shared → Prop}
    (h : ∀ t' k, Q (.bytes ((idTab.setIfInBounds a.toNat c).setIfInBounds b.toNat d) t') { s with toks := k }) :
    wpAny (model prog w) A (call (.builtin "bytes.maketrans") [.bytes #[a, b] t, .bytes #[c, d] u]) Q E s := by
  refine wpAny_call (codeAny_call_builtin mt_plain mt_entry ?_)
  rw [mt_check]
  refine wpAny_pure ?_
  show wpAny _ _ (Builtin.«bytes.maketrans» _) _ _ _
  unfold Builtin.«bytes.maketrans» Builtin.Bytes.maketransM
  refine wpAny_bind (wpAny_of_eq (a := ()) (by first | rfl | kernel_rfl) ?_)
  refine wpAny_bind (wpAny_of_eq (a := ()) (by first | rfl | kernel_rfl) ?_)
  refine wpAny_bind (wpAny_of_eq KBd.like_eq ?_)
  refine wpAny_bind (wpAny_of_eq KBd.like_eq ?_)
  refine wpAny_ite_split (fun hab => absurd hab (by simp)) (fun _ => ?_)
  show wpAny _ _ (mkBytes ((idTab.setIfInBounds a.toNat c).setIfInBounds b.toNat d) >>= fun v => ret v) _ _ _
  refine wpAny_bind ?_
  unfold mkBytes
  rw [if_neg (by simp [idTab, sizeLine_eq])]
  refine wpAny_bind (wpAny_fresh ?_)
  exact wpAny_pure (wpAny_pure (h _ _))

theorem slot_translate : Slot "bytes" "translate" "bytes.translate" :=
  .of (owner := "bytes") (n := "translate") (by rw [typeLookup_type, builtinLookup_eq_fast]; kernel_rfl) (by decide +kernel) (by decide +kernel) (by decide +kernel)
    (by first | exact .inl (by decide +kernel) | exact .inr (by decide +kernel)) (by rw [isSubtype_type]; kernel_rfl)
theorem type_translate : typeOf (.builtin "bytes.translate") = pure (.type "method_descriptor") := by show builtinType _ = _; rw [builtinType_eq_fast]; kernel_rfl
theorem entry_translate : entryFor table "bytes.translate" = some Builtin.«bytes.translate» := entryFor_of_tree (by kernel_rfl)
theorem args_translate (a b : Value) : argsOk "bytes.translate" ⟨[a, b], []⟩ := by unfold argsOk; kernel_rfl
theorem get_translate {M : Model} {b : Array UInt8} {t : Tok} {pl : Sem Bool} {Q : Value × List Value → Shared → Prop} (h : Q (.builtin "bytes.translate", [.bytes b t]) s) : wpAny M A (getMethod (.bytes b t) (Str.ofString "translate") pl) Q E s := by
  with_reducible exact KBd.method_of (.bytes b t) (typeIs_bytes _ _ _) slot_translate type_translate KBd.noRef h
theorem call_translate {b tab : Array UInt8} {t u : Tok} {Q : Value → Shared → Prop} (hsz : tab.size = 256) (hb : b.size ≤ sizeLine)
    (h : ∀ t' k, Q (.bytes (b.map fun c => tab.getD c.toNat c) t') { s with toks := k }) :
    wpAny (model prog w) A (call (.builtin "bytes.translate") [.bytes b t, .bytes tab u]) Q E s := by
  refine wpAny_call_entry slot_translate (typeIs_bytes _ _ _) entry_translate ?_ (args_translate _ _)
  unfold Builtin.«bytes.translate» Builtin.Bytes.translateM
  dsimp only
  refine wpAny_ite_split (fun hab => absurd hab (by simp)) (fun _ => ?_)
  refine wpAny_ite_split (fun hab => absurd hab (by simp)) (fun _ => ?_)
  refine wpAny_ite_split (fun hab => absurd hab (by simp)) (fun _ => ?_)
  refine wpAny_bind (wpAny_of_eq KBd.like_eq ?_)
  refine wpAny_ite_split (fun hab => absurd hab (by simp [hsz])) (fun _ => ?_)
  refine wpAny_bind (wpAny_pure ?_)
  show wpAny _ _ ((pure #[] : Sem (Array UInt8)) >>= _) _ _ _
  refine wpAny_bind (wpAny_pure ?_)
  refine wpAny_bind (wpAny_of_eq (a := b) rfl ?_)
  have e : b.filter (fun x => !(#[] : Array UInt8).contains x) = b := by
    apply Array.filter_eq_self.mpr
    intro a _; simp
  simp only [e]
  refine wpAny_ite_split (fun hab => ?_) (fun _ => ?_)
  · have hab' : b.map (fun c => tab.getD c.toNat c) = b := by simpa using hab
    refine wpAny_bind (wpAny_rule (wpAny_bind (wpAny_of_eq (a := Value.bytes b t) (by first | rfl | kernel_rfl) ?_)))
    refine wpAny_pure ⟨_, rfl, ?_⟩
    have := h t s.toks
    rw [hab'] at this
    exact this
  · refine wpAny_bind (m := mkBytes _) (wpAny_mkBytes ?_ (by simpa using hb))
    exact wpAny_pure ⟨_, rfl, h _ _⟩
end
end Mine
namespace Mine
theorem offF9 : True := by
  w_top off
  exact trivial
end Mine
open PySem PySem.W PyProof.Rows PySem.Calls
set_option Elab.async false
set_option maxRecDepth 100000
set_option maxHeartbeats 8000000
namespace Mine
def tr (a b x : Int) : Int := if x = 43 then a else if x = 47 then b else x

theorem enc_in : ∀ (ns : List Int) (lb lc : Int), ∀ x ∈ enc lb lc ns, 0 ≤ x ∧ x < 128
  | [], lb, lc => by
    intro x hx
    unfold enc at hx
    split at hx
    · simp only [List.mem_cons, List.not_mem_nil, or_false] at hx
      rcases hx with rfl | rfl | rfl
      · exact ch_in _
      · decide
      · decide
    · split at hx
      · simp only [List.mem_cons, List.not_mem_nil, or_false] at hx
        rcases hx with rfl | rfl
        · exact ch_in _
        · decide
      · cases hx
  | b :: r, lb, lc => by
    intro x hx
    unfold enc at hx
    dsimp only at hx
    split at hx
    · rcases List.mem_cons.mp hx with rfl | hx
      · exact ch_in _
      · exact enc_in r _ _ x hx
    · split at hx
      · rcases List.mem_cons.mp hx with rfl | hx
        · exact ch_in _
        · exact enc_in r _ _ x hx
      · rcases List.mem_cons.mp hx with rfl | hx
        · exact ch_in _
        · rcases List.mem_cons.mp hx with rfl | hx
          · exact ch_in _
          · exact enc_in r _ _ x hx
theorem enc_len : ∀ (ns : List Int) (lb lc : Int), (enc lb lc ns).length ≤ 2 * ns.length + 3
  | [], lb, lc => by
    unfold enc
    split
    · simp
    · split <;> simp
  | b :: r, lb, lc => by
    have h0 := enc_len r 0 ((lc * 256 + b) % 65536)
    have h2 := enc_len r 2 ((lc * 256 + b) % 65536)
    have h4 := enc_len r 4 ((lc * 256 + b) % 65536)
    unfold enc
    dsimp only
    split
    · simp; omega
    · split
      · simp; omega
      · simp; omega

theorem tab_at (c d : UInt8) : ∀ x : UInt8, x.toNat < 128 → ((idTab.setIfInBounds 43 c).setIfInBounds 47 d).getD x.toNat x = if x.toNat = 43 then c else if x.toNat = 47 then d else x := by
  intro x hx
  have hs : idTab.size = 256 := by simp [idTab]
  rw [Array.getD_eq_getD_getElem?]
  by_cases h7 : x.toNat = 47
  · rw [h7, Array.getElem?_setIfInBounds_self_of_lt (by simp [hs])]
    simp
  · rw [Array.getElem?_setIfInBounds_ne (by omega)]
    by_cases h3 : x.toNat = 43
    · rw [h3, Array.getElem?_setIfInBounds_self_of_lt (by simp [hs])]
      simp
    · rw [Array.getElem?_setIfInBounds_ne (by omega)]
      simp [idTab, h7, h3, show x.toNat < 256 from by omega]

theorem translated {ns : List Int} {a b : Int} (h : ∀ x ∈ ns, 0 ≤ x ∧ x < 128) :
    (byteArr ns).map (fun c => ((idTab.setIfInBounds 43 a.toNat.toUInt8).setIfInBounds 47 b.toNat.toUInt8).getD c.toNat c) = byteArr (ns.map (tr a b)) := by
  unfold byteArr
  simp only [List.map_toArray, List.map_map]
  congr 1
  apply List.map_congr_left
  intro x hx
  have := h x hx
  have e : (x.toNat.toUInt8).toNat = x.toNat := by simp; omega
  simp only [Function.comp]
  rw [tab_at _ _ _ (by rw [e]; omega), e]
  unfold tr
  by_cases h3 : x = 43
  · subst h3; rfl
  · by_cases h7 : x = 47
    · subst h7; rfl
    · rw [if_neg (by omega), if_neg (by omega), if_neg h3, if_neg h7]

local macro_rules | `(tactic| walk_at "call ref") => `(tactic| refine Stop.mk ?_)
set_option pp.deepTerms false in
set_option pp.deepTerms.threshold 8 in
theorem enc1_c {w : World} {p : Program} {loose : List Str} {mean : ExcName → Option Value} {mg mb : Str → Option Value} {fr : Option (List Env)} {s : Shared} {Q E : Value → Shared → Prop} {bs : Array UInt8} {ns : List Int} {t : Tok}
    (X : (hd.heap_39 w.params).In s.heap) (T : Top p loose mean mg mb s.heap) (hb : KBw.bInts bs = ns) (hn : ns.length ≤ 64)
    (hret : ∀ h' tk' t', (∀ b o, s.heap.get? b = some o → h'.get? b = some o) → Q (.bytes (byteArr (enc 0 0 ns)) t') { s with heap := h', toks := tk' }) :
    wpAny (model Challenge.rw_ny0006_01.row.prog w) (AL fr) (call (.ref 58) [.bytes bs t]) Q E s := by
  revert X; k_fill; intro X
  refine enter X T (by k_is) (by k_is) (Nat.lt_of_sub_pos (by exact Nat.le_of_ble_eq_true rfl)) (binds_K X rfl (by k_is) rfl rfl rfl) (locs rfl) ?_ rfl rfl rfl (by decide)
  intro L h₁ F N
  k_steps
  rename Fr s.heap L _ _ => F1
  rename News s.heap L _ _ => N1
  refine Stop.go (b2a_c (X.keeps F1.keep) (T.keeps F1.keep) hb hn fun h2 tk2 t2 k2 => ?_)
  have F2 := F1.keeps k2
  have N2 := news_keeps N1 k2
  k_steps
  rename Fr s.heap L _ _ => F3
  exact hret _ _ _ F3.keep

local macro_rules | `(tactic| walk_at "getMethod bytes") => `(tactic| refine get_translate ?_)
local macro_rules | `(tactic| walk_at "getMethod type:bytes") => `(tactic| (k_here; refine' method_type ?F ?X ?m (by decide +kernel) ?e ?h ?_; (case F => k_asm); (case X => k_asm); (case m => first | rfl | kernel_rfl); (case e => k_dflt k_is); (case h => k_handed)))
local macro_rules | `(tactic| walk_at "call builtin:bytes.maketrans") => `(tactic| (refine call_maketrans (a := 43) (b := 47) ?_; intro _ _))
set_option pp.deepTerms false in
set_option pp.deepTerms.threshold 8 in
theorem enc2_c {w : World} {p : Program} {loose : List Str} {mean : ExcName → Option Value} {mg mb : Str → Option Value} {fr : Option (List Env)} {s : Shared} {Q E : Value → Shared → Prop} {bs : Array UInt8} {ns : List Int} {t u : Tok} {a b : Int}
    (X : (hd.heap_39 w.params).In s.heap) (T : Top p loose mean mg mb s.heap) (hb : KBw.bInts bs = ns) (hn : ns.length ≤ 64)
    (hret : ∀ h' tk' t', (∀ b o, s.heap.get? b = some o → h'.get? b = some o) → Q (.bytes (byteArr ((enc 0 0 ns).map (tr a b))) t') { s with heap := h', toks := tk' }) :
    wpAny (model Challenge.rw_ny0006_01.row.prog w) (AL fr) (call (.ref 58) [.bytes bs t, .bytes (byteArr [a, b]) u]) Q E s := by
  revert X; k_fill; intro X
  refine enter X T (by k_is) (by k_is) (Nat.lt_of_sub_pos (by exact Nat.le_of_ble_eq_true rfl)) (binds_K X rfl (by k_is) rfl rfl rfl) (locs rfl) ?_ rfl rfl rfl (by decide)
  intro L h₁ F N
  k_steps
  rename Fr s.heap L _ _ => F1
  rename News s.heap L _ _ => N1
  refine Stop.go (b2a_c (X.keeps F1.keep) (T.keeps F1.keep) hb hn fun h2 tk2 t2 k2 => ?_)
  have F2 := F1.keeps k2
  have N2 := news_keeps N1 k2
  k_steps
  · rename Fr s.heap L _ _ => F3
    refine call_translate (by simp [idTab]) ?_ fun t3 k3 => ?_
    · rw [byteArr_size, sizeLine_eq]
      have := enc_len ns 0 0
      omega
    · have e := translated (ns := enc 0 0 ns) (a := a) (b := b) (enc_in ns 0 0)
      have r := hret _ k3 t3 F3.keep
      rw [← e] at r
      exact r
  · exfalso
    rename_i hne
    exact hne rfl
end Mine
namespace Mine
theorem offC1 : True := by
  w_top off
  exact trivial
end Mine
open PySem PySem.W PyProof.Rows PySem.Calls
set_option Elab.async false
set_option maxRecDepth 100000
namespace Mine
section
variable {prog : Program} {w : World} {A : Around} {s : Shared}

theorem compLoop_any {elt target iter : Expr} {scope : Scope} {pos : Pos} {it acc : Value} {env : Env} {R : Result → Shared → Prop} (I : Nat → Shared → Prop)
    (turn : ∀ n s, I n s → wpAny (model prog w) A (pyNext it) (fun r s₁ => match r with
      | none => R (.ok .next) s₁
      | some v => wpAny (model prog w) A (letOwnedTupleGo target it v) (fun _ s₁' => wpAny (model prog w) A (assign target env v) (fun _ s₂ =>
          wpAny (model prog w) A (eval elt env) (fun x s₄ =>
              wpAny (model prog w) A (call (.builtin "list.append") [acc, x]) (fun _ s₅ => ∃ m, m < n ∧ I m s₅) (notedBy (model prog w) A env fun e s' => R (.error e) s') s₄) (notedBy (model prog w) A env fun e s' => R (.error e) s') s₂)
          (notedBy (model prog w) A env fun e s' => R (.error e) s') s₁') (notedBy (model prog w) A env fun e s' => R (.error e) s') s₁) (notedBy (model prog w) A env fun e s' => R (.error e) s') s)
    (n : Nat) (h : I n s) : codeAny (model prog w) A (.compLoop (.ListComp elt [⟨target, iter, [], 0⟩] scope pos) 0 it acc env) R s := by
  refine codeAny_loop rfl I (fun n s hI => ?_) n h
  show wpAny _ A ((compTurn (.ListComp elt [⟨target, iter, [], 0⟩] scope pos) 0 it acc env).onRaise (fun x => do noteFrame x env; theTreesLotGoes x)) _ _ s
  refine wpAny_noted ?_
  rw [compTurn_list]
  refine wpAny_bind (wpAny_standAt (wpAny_bind (wpAny_mono (turn n s hI) (fun r s₁ h₁ => ?_) fun _ _ h' => h')))
  cases r with
  | none => exact wpAny_pure h₁
  | some v =>
    refine wpAny_bind (wpAny_mono h₁ (fun _ s₁' h₁' => ?_) fun _ _ h' => h')
    refine wpAny_bind (wpAny_mono h₁' (fun _ s₂ h₂ => wpAny_bind (wpAny_mono (wpAny_tests_nil (Q := fun ok s₃ => ok = true ∧ s₃ = s₂) ⟨rfl, rfl⟩) (fun ok s₃ h₃ => ?_) fun _ _ h' => h')) fun _ _ h' => h')
    obtain ⟨rfl, rfl⟩ := h₃
    exact wpAny_bind (wpAny_bind (wpAny_mono h₂ (fun x s₄ h₄ => wpAny_bind (wpAny_mono h₄ (fun _ s₅ h₅ => wpAny_pure (wpAny_pure ⟨rfl, h₅⟩)) fun _ _ h' => h')) fun _ _ h' => h'))

/-- what a turn of a comprehension leaves -/
def EltPost (base : Heap) (C D : Addr) (wr : List Addr) (own : List (Addr × Obj)) (ys : List Value) (J : List Value → List (Addr × Obj) → Prop) (s : Shared) (y : Value) (s' : Shared) : Prop :=
  ∃ h' tk m' news', s' = { s with heap := h', toks := tk } ∧ Fr base C h' m' ∧ News base C h' (own ++ (D, LCg.lst ys) :: news') ∧ (∀ p ∈ news', p.1 ∉ wr ∧ p.1 ≠ D) ∧ J (ys ++ [y]) news'

theorem compCore {elt target iter : Expr} {scope : Scope} {cl : List (Str × Addr)} {pos : Pos} {env : Env} {E : Value → Shared → Prop} {I : Addr} {fp wr : List Addr} {n : Nat} {P Md : Nat → Value → Heap → Prop} {St : Nat → Heap → Prop}
    {base : Heap} {news : List (Addr × Obj)} {RR : Value → Addr → Result → Shared → Prop}
    (W : KTurns prog w A target I fp wr n P Md St) (S : List (Addr × Obj) → Prop)
    (hIo : ∀ i h, St i h → ∃ own : List (Addr × Obj), own.map (·.1) = wr ∧ ∀ p ∈ own, h.get? p.1 = some p.2)
    (hSt : ∀ (i : Nat) (h h' : Heap) (own : List (Addr × Obj)) (C : Addr) (nw : List (Addr × Obj)), St i h → own.map (·.1) = wr → (∀ p ∈ own, h.get? p.1 = some p.2) → (∀ p ∈ own, h'.get? p.1 = some p.2) → (∀ b o, base.get? b = some o → h'.get? b = some o) → News base C h' nw → S nw → St i h')
    (hself : ∀ (s : Shared) (Q : Value → Shared → Prop) (E : Value → Shared → Prop), St 0 s.heap → Q (.ref I) s → wpAny (model prog w) A (pyIter (.ref I)) Q E s)
    (hwr : ∀ b ∈ wr, base.get? b = none) (hfp : ∀ b ∈ fp, b < s.heap.objs.size)
    (hb : ∀ b o, base.get? b = some o → s.heap.get? b = some o) (hbs : base.objs.size ≤ s.heap.objs.size)
    (hst : St 0 s.heap) (N : ∀ p ∈ news, s.heap.get? p.1 = some p.2 ∧ base.get? p.1 = none) (off : ∀ p ∈ news, p.1 ∉ wr)
    (hcell : ∀ y ∈ scope.names, y.2 ≠ .cell) (hkind : scope.kind = .function) (hsz : n ≤ sizeLine)
    (J : Nat → List Value → List (Addr × Obj) → Prop) (h0 : J 0 [] news) (hJS : ∀ i ys nw, J i ys nw → S nw)
    (turn : ∀ (C D : Addr) (i : Nat) (v : Value) (ys : List Value) (m₂ : Str → Option Value) (news₁ : List (Addr × Obj)) (h : Heap) (tk : Nat) (own : List (Addr × Obj)) (E' : Value → Shared → Prop), i < n → P i v h → J i ys news₁ → ys.length = i → own.map (·.1) = wr → D ∉ wr → (∀ p ∈ news₁, p.1 ∉ wr ∧ p.1 ≠ D) → Fr base C h m₂ → News base C h (own ++ (D, LCg.lst ys) :: news₁) →
      wpAny (model prog w) A (assign target (compEnvC scope cl C env) v) (fun _ s₃ => wpAny (model prog w) A (eval elt (compEnvC scope cl C env)) (EltPost base C D wr own ys (J (i + 1)) s) E' s₃) E' { s with heap := h, toks := tk })
    (hRR : ∀ D C h tk m' ys news', J n ys news' → ys.length = n → Fr base C h m' → News base C h ((D, LCg.lst ys) :: news') → (∀ p ∈ news', p.1 ≠ D) → s.heap.get? D = none → s.heap.get? C = none → RR (.ref D) C (.ok .next) { s with heap := h, toks := tk }) :
    wpAny (model prog w) A (newList []) (fun acc s₃ => wpAny (model prog w) A (newFunctionEnv scope env.globals cl [] env.qual none .none (some env)) (fun cenv s₄ =>
      codeAny (model prog w) A (.compStart (.ListComp elt [⟨target, iter, [], 0⟩] scope pos) 0 (.ref I) acc { cenv with scope := relabel scope env }) (RR acc cenv.locals) s₄) E s₃) E s := by
  refine wpAny_newObj_type (wpAny_newFunctionEnv hcell (by intro y hy; simp at hy) (fun h₁ hns₁ hsb₁ => ?_) hkind)
  dsimp only at hns₁ hsb₁ ⊢
  generalize hH2 : s.heap.push { cls := .type "list", dict := none, data := .seq ([] : List Value).toArray } = H2 at hns₁ hsb₁ ⊢
  have hC : H2.objs.size = s.heap.objs.size + 1 := by rw [← hH2, Heap.size_push]
  have hDC : s.heap.objs.size ≠ H2.objs.size := by rw [hC]; exact Nat.ne_of_lt (Nat.lt_succ_self _)
  have below : ∀ b, b < s.heap.objs.size → b ≠ H2.objs.size ∧ b ≠ s.heap.objs.size := fun b hb => ⟨by rw [hC]; exact Nat.ne_of_lt (Nat.lt_succ_of_lt hb), Nat.ne_of_lt hb⟩
  have hDf : s.heap.objs.size ∉ fp := fun hm => Nat.lt_irrefl _ (hfp _ hm)
  have hCf : H2.objs.size ∉ fp := fun hm => by have := hfp _ hm; rw [hC] at this; exact Nat.lt_irrefl _ (Nat.lt_of_succ_lt this)
  have hDw : s.heap.objs.size ∉ wr := fun hm => hDf (W.sub _ hm)
  have hCw : H2.objs.size ∉ wr := fun hm => hCf (W.sub _ hm)
  have old : ∀ b o, s.heap.get? b = some o → h₁.get? b = some o := fun b o e => hsb₁.extBut b o (below b (Heap.lt_size e)).1 (Heap.get?_push_of_some _ (hH2 ▸ Heap.get?_push_of_some _ e))
  have hacc : h₁.get? s.heap.objs.size = some (LCg.lst []) := hsb₁.extBut _ _ hDC (Heap.get?_push_of_some _ (hH2 ▸ Heap.get?_push_size _ rfl))
  have hst₁ : St 0 h₁ := W.frame _ _ _ hst fun b _ o e => old b o e
  have fresh : ∀ a, s.heap.objs.size ≤ a → s.heap.get? a = none := fun a ha => by
    cases e : s.heap.get? a with
    | none => rfl
    | some o' => exact absurd (Heap.lt_size e) (Nat.not_lt.mpr ha)
  have fresh₀ : ∀ a, s.heap.objs.size ≤ a → base.get? a = none := fun a ha => by
    cases e : base.get? a with
    | none => rfl
    | some o' => have := hb a o' e; rw [fresh a ha] at this; cases this
  have hD₀ := fresh₀ _ (Nat.le_refl s.heap.objs.size)
  have hC₀ := fresh₀ H2.objs.size (by rw [hC]; exact Nat.le_succ _)
  have F₁ : Fr base H2.objs.size h₁ (fun _ => none) := ⟨hns₁, fun b o e => old b o (hb b o e), by rw [hC]; exact Nat.le_succ_of_le hbs⟩
  have N₁ : News base H2.objs.size h₁ ((s.heap.objs.size, LCg.lst []) :: news) := fun p hp => by
    rcases List.mem_cons.mp hp with rfl | hp
    · exact ⟨hacc, hDC, hD₀⟩
    · exact ⟨old _ _ (N p hp).1, (below _ (Heap.lt_size (N p hp).1)).1, (N p hp).2⟩
  have offn : ∀ p ∈ news, p.1 ∉ wr ∧ p.1 ≠ s.heap.objs.size := fun p hp => ⟨off p hp, (below _ (Heap.lt_size (N p hp).1)).2⟩
  have loop : ∀ s₃ : Shared, s₃ = { s with heap := h₁, toks := s.toks + ([] : List (Str × Value)).length } →
      codeAny (model prog w) A (.compLoop (.ListComp elt [⟨target, iter, [], 0⟩] scope pos) 0 (.ref I) (.ref s.heap.objs.size) (compEnvC scope cl H2.objs.size env))
        (RR (.ref s.heap.objs.size) H2.objs.size) s₃ := by
    rintro s₃ rfl
    refine compLoop_any
      (fun k s' => ∃ h' tk i ys m' news', s' = { s with heap := h', toks := tk } ∧ i ≤ n ∧ k = n + 1 - i ∧ ys.length = i ∧ St i h' ∧ Fr base H2.objs.size h' m' ∧ News base H2.objs.size h' ((s.heap.objs.size, LCg.lst ys) :: news') ∧
        (∀ p ∈ news', p.1 ∉ wr ∧ p.1 ≠ s.heap.objs.size) ∧ J i ys news') ?_ (n + 1)
      ⟨h₁, _, 0, [], _, news, rfl, Nat.zero_le _, rfl, rfl, hst₁, F₁, N₁, offn, h0⟩
    rintro k s' ⟨h', tk, i, ys, m', news', rfl, hi, rfl, hyl, hst', F', N', off', hJ⟩
    have offD : ∀ p ∈ (s.heap.objs.size, LCg.lst ys) :: news', p.1 ∉ wr := fun p hp => by
      rcases List.mem_cons.mp hp with rfl | hp
      · exact hDw
      · exact (off' p hp).1
    have next : ∀ h₂ : Heap, (∀ b o, b ∉ wr → h'.get? b = some o → h₂.get? b = some o) → Fr base H2.objs.size h₂ m' ∧ News base H2.objs.size h₂ ((s.heap.objs.size, LCg.lst ys) :: news') := fun h₂ hk =>
      ⟨⟨F'.ns.at' fun o e => hk _ o hCw e, fun b o e => hk b o (fun hm => by rw [hwr b hm] at e; cases e) (F'.keep b o e), F'.above⟩, fun p hp => ⟨hk _ _ (offD p hp) (N' p hp).1, (N' p hp).2⟩⟩
    by_cases hlt : i < n
    · refine W.item i _ _ _ hlt hst' fun v h₂ tk₂ hMd hk₂ => ?_
      refine W.go i v _ _ _ hMd fun h₃ hP hst₃ hk₃ => ?_
      obtain ⟨F₃, N₃⟩ := next h₃ fun b o hb x => hk₃ b o hb (hk₂ b o hb x)
      obtain ⟨own, howr, hown⟩ := hIo _ _ hst₃
      have N₄ : News base H2.objs.size h₃ (own ++ (s.heap.objs.size, LCg.lst ys) :: news') := fun p hp => by
        rcases List.mem_append.mp hp with hp | hp
        · have hm : p.1 ∈ wr := howr ▸ List.mem_map_of_mem hp
          exact ⟨hown p hp, fun e => hCw (e ▸ hm), hwr _ hm⟩
        · exact N₃ p hp
      refine wpAny_mono (turn H2.objs.size s.heap.objs.size i v ys m' news' h₃ tk₂ own _ hlt hP hJ hyl howr hDw off' F₃ N₄) (fun _ s₄ h₄ => ?_) fun _ _ e => e
      refine wpAny_mono h₄ (fun y s₅ h₅ => ?_) fun _ _ e => e
      obtain ⟨h₅, tk₅, m₅, news₅, rfl, F₅, N₅, off₅, hJ₅⟩ := h₅
      have zD := (N₅ (s.heap.objs.size, LCg.lst ys) (List.mem_append_right _ (.head _))).1
      have hst₅ : St (i + 1) h₅ := hSt _ h₃ h₅ own H2.objs.size news₅ hst₃ howr hown (fun p hp => (N₅ p (List.mem_append_left _ hp)).1) F₅.keep (fun p hp => N₅ p (List.mem_append_right _ (.tail _ hp))) (hJS _ _ _ hJ₅)
      refine append_at (hsz := by show ys.toArray.size ≤ sizeLine; rw [List.size_toArray, hyl]; exact Nat.le_trans hi hsz) zD fun h₆ hs₆ hD₆ => ?_
      refine ⟨n + 1 - (i + 1), by omega, h₆, tk₅, i + 1, ys ++ [y], m₅, news₅, rfl, hlt, rfl, by rw [List.length_append, List.length_singleton, hyl],
        W.frame _ _ _ hst₅ fun b hb o e => hs₆.extBut b o (fun q => hDf (q ▸ hb)) e, F₅.change hs₆ hDC hD₀, fun p hp => ?_, off₅, hJ₅⟩
      rcases List.mem_cons.mp hp with rfl | hp
      · exact ⟨hD₆.trans (congrArg some (LCg.lst_snoc ys y)), hDC, hD₀⟩
      · have z := N₅ p (List.mem_append_right _ (.tail _ hp))
        exact ⟨hs₆.extBut _ _ (off₅ p hp).2 z.1, z.2⟩
    · obtain rfl : i = n := Nat.le_antisymm hi (Nat.not_lt.mp hlt)
      refine W.done _ _ _ hst' fun h₂ tk₂ hk₂ => ?_
      obtain ⟨F₂, N₂⟩ := next h₂ hk₂
      exact hRR _ _ h₂ tk₂ m' ys news' hJ hyl F₂ N₂ (fun p hp => (off' p hp).2) (fresh _ (Nat.le_refl _)) (fresh _ (by rw [hC]; exact Nat.le_succ _))
  exact codeAny_compStart_list (loop _ rfl) (hself _ _ _ hst₁ (loop _ rfl))
end
end Mine
namespace Mine
theorem offC2 : True := by
  w_top off
  exact trivial
end Mine
open PySem PySem.W PyProof.Rows PySem.Calls
set_option Elab.async false
set_option maxRecDepth 100000
namespace Mine
section
variable {prog : Program} {w : World} {A : Around} {s : Shared}

theorem own1 {a : Addr} {own : List (Addr × Obj)} (h : own.map (·.1) = [a]) : ∃ q, own = [(a, q)] := by
  cases own with
  | nil => cases h
  | cons p r =>
    rw [List.map_cons] at h
    injection h with h1 h2
    have h3 : r = [] := List.map_eq_nil_iff.mp h2
    exact ⟨p.2, by rw [h3, ← h1]⟩

def CompM (prog : Program) (w : World) (A : Around) (elt target iter : Expr) (scope : Scope) (cl : List (Str × Addr)) (pos : Pos) (env : Env) (E : Value → Shared → Prop) (RR : Value → Addr → Result → Shared → Prop) (it : Value) (s₂ : Shared) : Prop :=
  wpAny (model prog w) A (newList []) (fun acc s₃ => wpAny (model prog w) A (newFunctionEnv scope env.globals cl [] env.qual none .none (some env)) (fun cenv s₄ =>
      codeAny (model prog w) A (.compStart (.ListComp elt [⟨target, iter, [], 0⟩] scope pos) 0 it acc { cenv with scope := relabel scope env }) (RR acc cenv.locals) s₄) E s₃) E s₂

theorem Comp_mine {elt target iter : Expr} {scope : Scope} {cl : List (Str × Addr)} {pos : Pos} {env : Env} {Q E}
    (hclos : closureFor scope env = pure cl) (hkind : scope.kind = .function) (hnames : ∀ x ∈ scope.names, x.2 = .local → scope.names.lookup x.1 = some .local)
    (h : wpAny (model prog w) A (eval iter env) (fun xv s₁ => wpAny (model prog w) A (pyIter xv) (CompM prog w A elt target iter scope cl pos env E (compPost (model prog w) A E none Q)) E s₁) E s)
    (hs : ∀ x, foldedSetIterable iter env x = pure x := by intro _; rfl) :
    wpAny (model prog w) A (eval (.ListComp elt [⟨target, iter, [], 0⟩] scope pos) env) Q E s := by
  rw [eval_ListComp]
  exact wpAny_comprehension_free (use := none) rfl hs hclos hkind hnames h

theorem CompA_mine {elt target iter : Expr} {scope : Scope} {cl : List (Str × Addr)} {pos spos py : Pos} {y : Str} {env : Env} {Q : Flow → Shared → Prop} {E}
    (hsw : swapsWith (.ListComp elt [⟨target, iter, [], 0⟩] scope pos) (some (.Name y py)) spos.line env = pure true)
    (hclos : closureFor scope env = pure cl) (hkind : scope.kind = .function) (hnames : ∀ x ∈ scope.names, x.2 = .local → scope.names.lookup x.1 = some .local)
    (h : wpAny (model prog w) A (eval iter env) (fun xv s₁ => wpAny (model prog w) A (pyIter xv) (CompM prog w A elt target iter scope cl pos env E (compPost (model prog w) A E (some (assign (.Name y py) env)) fun _ s' => Q .next s')) E s₁) E s)
    (hs : ∀ x, foldedSetIterable iter env x = pure x := by intro _; rfl) :
    wpAny (model prog w) A (exec (.Assign [.Name y py] (.ListComp elt [⟨target, iter, [], 0⟩] scope pos) spos) env) Q E s := by
  rw [exec_Assign_Name_used _ _ _ _ hsw]
  refine wpAny_bind (wpAny_standAt (wpAny_bind ?_))
  show wpAny _ A (do let _ ← comprehension (.ListComp elt [⟨target, iter, [], 0⟩] scope pos) scope env _ (newList []) false (eval iter env) (some (assign (.Name y py) env))) _ _ s
  exact wpAny_bind (wpAny_mono (wpAny_comprehension_free (use := some (assign (.Name y py) env)) (Q := fun _ s' => Q .next s') rfl hs hclos hkind hnames h) (fun _ s' hq => wpAny_pure (wpAny_pure hq)) fun _ _ e => e)

def Done (s : Shared) (n : Nat) (J : List Value → List (Addr × Obj) → Prop) (RR : Value → Addr → Result → Shared → Prop) : Prop :=
  ∀ D C h tk m' ys news', J ys news' → ys.length = n → Fr s.heap C h m' → News s.heap C h ((D, LCg.lst ys) :: news') → (∀ p ∈ news', p.1 ≠ D) → s.heap.get? D = none → s.heap.get? C = none → RR (.ref D) C (.ok .next) { s with heap := h, toks := tk }

theorem done_none {n : Nat} {J : List Value → List (Addr × Obj) → Prop} {E : Value → Shared → Prop} {Q : Value → Shared → Prop}
    (hQ : ∀ D ys news' h' tk, J ys news' → ys.length = n → (∀ b o, s.heap.get? b = some o → h'.get? b = some o) → s.heap.get? D = none → h'.get? D = some (LCg.lst ys) → (∀ p ∈ news', h'.get? p.1 = some p.2 ∧ s.heap.get? p.1 = none ∧ p.1 ≠ D) → Q (.ref D) { s with heap := h', toks := tk }) :
    Done s n J (compPost (model prog w) A E none Q) := by
  intro D C h tk m' ys news' hJ hn F N off hD hC
  refine ⟨m', F.ns, fun h' hs => hQ D ys news' h' tk hJ hn ?_ hD ?_ ?_⟩
  · intro b o e
    exact hs.extBut b o (fun q => by rw [q, hC] at e; cases e) (F.keep b o e)
  · exact hs.extBut _ _ (N _ (.head _)).2.1 (N _ (.head _)).1
  · intro p hp
    have z := N p (.tail _ hp)
    exact ⟨hs.extBut _ _ z.2.1 z.1, z.2.2, off p hp⟩

theorem done_some {n : Nat} {J : List Value → List (Addr × Obj) → Prop} {E : Value → Shared → Prop} {Q : Flow → Shared → Prop} {env : Env} {y : Str} {py : Pos} {hb : Heap} {m : Str → Option Value}
    (F₀ : Fr hb env.locals s.heap m) (hy : env.kindOf y = some .local) (hp : (env.scope.kind == .class || (env.scope.kind == .module && env.locals != env.globals)) = false)
    (hQ : ∀ D ys news' h' tk, J ys news' → ys.length = n → (∀ b o, s.heap.get? b = some o → b ≠ env.locals → h'.get? b = some o) → Fr hb env.locals h' (fun z => if z = y then some (.ref D) else m z) → s.heap.get? D = none → h'.get? D = some (LCg.lst ys) →
      (∀ p ∈ news', h'.get? p.1 = some p.2 ∧ s.heap.get? p.1 = none ∧ p.1 ≠ D) → Q .next { s with heap := h', toks := tk }) :
    Done s n J (compPost (model prog w) A E (some (assign (.Name y py) env)) fun _ s' => Q .next s') := by
  intro D C h tk m' ys news' hJ hn F N off hD hC
  have F₁ : Fr hb env.locals h m := F₀.keeps F.keep
  show wpAny _ _ (assign (.Name y py) env (.ref D)) _ _ _
  have hLC : env.locals ≠ C := fun q => by
    obtain ⟨o, _, _, e, _⟩ := F₀.ns
    rw [q, hC] at e; cases e
  refine wpAny_assign_Name (wpAny_storeName_local hy F₁.ns (fun h₂ hn₂ hs₂ => ?_) hp)
  have F₂ := F₁.set hn₂ hs₂
  refine ⟨m', F.ns.sameBut hs₂ (Ne.symm hLC), fun h' hs => hQ D ys news' h' _ hJ hn ?_ ?_ hD ?_ ?_⟩
  · intro b o e hb
    exact hs.extBut b o (fun q => by rw [q, hC] at e; cases e) (hs₂.extBut b o hb (F.keep b o e))
  · exact F₂.change hs (Ne.symm hLC) (by
      cases q : hb.get? C with
      | none => rfl
      | some o => have := F₀.keep _ _ q; rw [hC] at this; cases this)
  · have z := N _ (.head _)
    refine hs.extBut _ _ z.2.1 (hs₂.extBut _ _ (fun q => ?_) z.1)
    obtain ⟨o, _, _, e, _⟩ := F₀.ns
    rw [← q, hD] at e; cases e
  · intro p hp
    have z := N p (.tail _ hp)
    refine ⟨hs.extBut _ _ z.2.1 (hs₂.extBut _ _ (fun q => ?_) z.1), z.2.2, off p hp⟩
    obtain ⟨o, _, _, e, _⟩ := F₀.ns
    rw [← q, z.2.2] at e; cases e

/-- over a list, by a name -/
theorem comp_list {elt iter : Expr} {x : Str} {px : Pos} {scope : Scope} {cl : List (Str × Addr)} {pos : Pos} {env : Env} {E : Value → Shared → Prop} {RR : Value → Addr → Result → Shared → Prop} {l : Addr} {vs : List Value}
    (J : Nat → List Value → List (Addr × Obj) → Prop) (hh : A.handled = none) (hl : s.heap.IsList l vs.toArray) (hcell : ∀ y ∈ scope.names, y.2 ≠ .cell) (hkind : scope.kind = .function) (hsz : vs.length ≤ sizeLine)
    (hx : scope.names.lookup x = some .local) (h0 : J 0 [] [])
    (turn : ∀ (C D I : Addr) (oI : Obj) (i : Nat) (v : Value) (ys : List Value) (m₂ : Str → Option Value) (news₁ : List (Addr × Obj)) (h : Heap) (tk : Nat) (E' : Value → Shared → Prop), vs[i]? = some v → J i ys news₁ → ys.length = i → D ≠ I → (∀ p ∈ news₁, p.1 ≠ I ∧ p.1 ≠ D) →
      Fr s.heap C h (fun y => if y = x then some v else m₂ y) → News s.heap C h ((I, oI) :: (D, LCg.lst ys) :: news₁) →
      wpAny (model prog w) A (eval elt (compEnvC scope cl C env)) (EltPost s.heap C D [I] [(I, oI)] ys (J (i + 1)) s) E' { s with heap := h, toks := tk })
    (done : Done s vs.length (J vs.length) RR) :
    wpAny (model prog w) A (pyIter (.ref l)) (CompM prog w A elt (.Name x px) iter scope cl pos env E RR) E s := by
  obtain ⟨ol, hol, hlc, hln⟩ := id hl
  have hlt : l < s.heap.objs.size := Heap.lt_size hol
  have hne : l ≠ s.heap.objs.size := Nat.ne_of_lt hlt
  have hnew : s.heap.get? s.heap.objs.size = none := by
    cases e : s.heap.get? s.heap.objs.size with
    | none => rfl
    | some o' => exact absurd (Heap.lt_size e) (Nat.lt_irrefl _)
  refine wpAny_pyIter_list hl ?_
  have hlen : vs.toArray.size = vs.length := by simp
  have W := Walks.list (prog := prog) (w := w) hh s.heap.objs.size l hne vs.toArray
  rw [hlen] at W
  unfold CompM
  refine compCore (s := { s with heap := s.heap.push _ }) (base := s.heap) (news := []) (KTurns.ofWalks W fun i v s Q E st q => letGo_other q) (fun _ => True) ?_ ?_ (fun s Q E st q => W.self 0 s Q E st q) ?_ ?_ (fun b o e => Heap.get?_push_of_some _ e) (by show _ ≤ (s.heap.push _).objs.size; rw [Heap.size_push]; exact Nat.le_succ _)
    ⟨⟨_, Heap.get?_push_size _ rfl, rfl, rfl⟩, hl.at fun o e => Heap.get?_push_of_some _ e⟩ (fun p hp => nomatch hp) (fun p hp => nomatch hp) hcell hkind hsz J h0 (fun _ _ _ _ => trivial) ?_ ?_
  · rintro i h ⟨⟨o, ho, _⟩, _⟩
    exact ⟨[(s.heap.objs.size, o)], rfl, fun p hp => by rw [List.mem_singleton.mp hp]; exact ho⟩
  · rintro i h h' own C nw ⟨⟨o, ho, r⟩, _⟩ ha h1 h2 hk hn _
    obtain ⟨q, rfl⟩ := own1 ha
    have e := h1 _ (.head _)
    have e' := h2 _ (.head _)
    dsimp only at e e'
    rw [ho] at e
    obtain rfl := Option.some.inj e
    exact ⟨⟨_, e', r⟩, hl.at fun o e => hk _ _ e⟩
  · intro b hb
    rw [List.mem_singleton.mp hb]; exact hnew
  · intro b hb
    show b < (s.heap.push _).objs.size
    rw [Heap.size_push]
    rcases List.mem_cons.mp hb with rfl | hb
    · exact Nat.lt_succ_self _
    · rw [List.mem_singleton.mp hb]; exact Nat.lt_succ_of_lt hlt
  · intro C D i v ys m₂ news₁ h tk own E' hi hP hJ hyl howr hDw off F N
    obtain ⟨q, rfl⟩ := own1 howr
    refine wpAny_assign_Name (wpAny_storeName_local (lookup_relabel_local hx) F.ns (fun h₃ hn₃ hs₃ => ?_) (by simp [compEnvC, relabel, hkind]))
    exact turn C D s.heap.objs.size q i v ys _ news₁ h₃ _ E' (by simpa using hP) hJ hyl (by simpa using hDw) (fun p hp => by simpa using off p hp) (F.set hn₃ hs₃) (N.set hs₃)
  · intro D C h tk m' ys news' hJ hn F N off hD hC
    have hf : ∀ b, (s.heap.push ({ cls := .type "list_iterator", data := .fields #[.ref l, .int 0 0] } : Obj)).get? b = none → s.heap.get? b = none := fun b hb => by
      cases e : s.heap.get? b with
      | none => rfl
      | some o => rw [Heap.get?_push_of_some _ e] at hb; cases hb
    exact done D C h tk m' ys news' hJ hn F N off (hf _ hD) (hf _ hC)

/-- over a range, by a name -/
theorem comp_range {elt iter : Expr} {x : Str} {px : Pos} {scope : Scope} {cl : List (Str × Addr)} {pos : Pos} {env : Env} {E : Value → Shared → Prop} {RR : Value → Addr → Result → Shared → Prop} {r : Addr} {a₀ b₀ : Int} {t₀ u₀ v₀ : Tok} {n : Nat}
    (J : Nat → List Value → List (Addr × Obj) → Prop) (hh : A.handled = none) (hr : IsRange s.heap r a₀ b₀ 1 t₀ u₀ v₀) (hsmall : Builtin.Range.small a₀ b₀ 1 = true) (hz : Builtin.Range.rangeSize a₀ b₀ 1 = (n : Int))
    (hcell : ∀ y ∈ scope.names, y.2 ≠ .cell) (hkind : scope.kind = .function) (hsz : n ≤ sizeLine) (hx : scope.names.lookup x = some .local) (h0 : J 0 [] [])
    (turn : ∀ (C D I : Addr) (oI : Obj) (i : Nat) (t : Tok) (ys : List Value) (m₂ : Str → Option Value) (news₁ : List (Addr × Obj)) (h : Heap) (tk : Nat) (E' : Value → Shared → Prop), i < n → J i ys news₁ → ys.length = i → D ≠ I → (∀ p ∈ news₁, p.1 ≠ I ∧ p.1 ≠ D) →
      Fr s.heap C h (fun y => if y = x then some (.int (a₀ + (i : Int)) t) else m₂ y) → News s.heap C h ((I, oI) :: (D, LCg.lst ys) :: news₁) →
      wpAny (model prog w) A (eval elt (compEnvC scope cl C env)) (EltPost s.heap C D [I] [(I, oI)] ys (J (i + 1)) s) E' { s with heap := h, toks := tk })
    (done : Done s n (J n) RR) :
    wpAny (model prog w) A (pyIter (.ref r)) (CompM prog w A elt (.Name x px) iter scope cl pos env E RR) E s := by
  have hnew : s.heap.get? s.heap.objs.size = none := by
    cases e : s.heap.get? s.heap.objs.size with
    | none => rfl
    | some o' => exact absurd (Heap.lt_size e) (Nat.lt_irrefl _)
  refine wpAny_pyIter_range hr hsmall ?_
  have W := Walks.range (prog := prog) (w := w) hh s.heap.objs.size a₀ 1 n
  unfold CompM
  refine compCore (s := { s with heap := s.heap.push _ }) (base := s.heap) (news := []) (KTurns.ofWalks W fun i v s Q E st q => letGo_other q) (fun _ => True) ?_ ?_ (fun s Q E st q => W.self 0 s Q E st q) ?_ ?_ (fun b o e => Heap.get?_push_of_some _ e) (by show _ ≤ (s.heap.push _).objs.size; rw [Heap.size_push]; exact Nat.le_succ _)
    (by show IsRangeIter _ _ _ _ _; rw [hz]; simpa using Heap.get?_push_size _ rfl) (fun p hp => nomatch hp) (fun p hp => nomatch hp) hcell hkind hsz J h0 (fun _ _ _ _ => trivial) ?_ ?_
  · intro i h st
    exact ⟨[(s.heap.objs.size, _)], rfl, fun p hp => by rw [List.mem_singleton.mp hp]; exact st⟩
  · rintro i h h' own C nw st ha h1 h2 hk hn _
    obtain ⟨q, rfl⟩ := own1 ha
    have e := h1 _ (.head _)
    have e' := h2 _ (.head _)
    dsimp only at e e'
    rw [st] at e
    obtain rfl := Option.some.inj e
    exact e'
  · intro b hb
    rw [List.mem_singleton.mp hb]; exact hnew
  · intro b hb
    show b < (s.heap.push _).objs.size
    rw [Heap.size_push, List.mem_singleton.mp hb]; exact Nat.lt_succ_self _
  · rintro C D i v ys m₂ news₁ h tk own E' hi ⟨t, rfl⟩ hJ hyl howr hDw off F N
    obtain ⟨q, rfl⟩ := own1 howr
    have e1 : a₀ + (i : Int) * 1 = a₀ + (i : Int) := by omega
    rw [e1]
    refine wpAny_assign_Name (wpAny_storeName_local (lookup_relabel_local hx) F.ns (fun h₃ hn₃ hs₃ => ?_) (by simp [compEnvC, relabel, hkind]))
    exact turn C D s.heap.objs.size q i t ys _ news₁ h₃ _ E' hi hJ hyl (by simpa using hDw) (fun p hp => by simpa using off p hp) (F.set hn₃ hs₃) (N.set hs₃)
  · intro D C h tk m' ys news' hJ hn F N off hD hC
    have hf : ∀ b o, (s.heap.push o).get? b = none → s.heap.get? b = none := fun b o hb => by
      cases e : s.heap.get? b with
      | none => rfl
      | some o => rw [Heap.get?_push_of_some _ e] at hb; cases hb
    exact done D C h tk m' ys news' hJ hn F N off (hf _ _ hD) (hf _ _ hC)

/-- over bytes, by a name -/
theorem comp_bytes {elt iter : Expr} {x : Str} {px : Pos} {scope : Scope} {cl : List (Str × Addr)} {pos : Pos} {env : Env} {E : Value → Shared → Prop} {RR : Value → Addr → Result → Shared → Prop} {b : Array UInt8} {tb : Tok}
    (J : Nat → List Value → List (Addr × Obj) → Prop) (hh : A.handled = none)
    (hcell : ∀ y ∈ scope.names, y.2 ≠ .cell) (hkind : scope.kind = .function) (hsz : b.size ≤ sizeLine) (hx : scope.names.lookup x = some .local) (h0 : J 0 [] [])
    (turn : ∀ (C D I : Addr) (oI : Obj) (i : Nat) (c : UInt8) (t : Tok) (ys : List Value) (m₂ : Str → Option Value) (news₁ : List (Addr × Obj)) (h : Heap) (tk : Nat) (E' : Value → Shared → Prop), b[i]? = some c → J i ys news₁ → ys.length = i → D ≠ I → (∀ p ∈ news₁, p.1 ≠ I ∧ p.1 ≠ D) →
      Fr s.heap C h (fun y => if y = x then some (.int (c.toNat : Int) t) else m₂ y) → News s.heap C h ((I, oI) :: (D, LCg.lst ys) :: news₁) →
      wpAny (model prog w) A (eval elt (compEnvC scope cl C env)) (EltPost s.heap C D [I] [(I, oI)] ys (J (i + 1)) s) E' { s with heap := h, toks := tk })
    (done : Done s b.size (J b.size) RR) :
    wpAny (model prog w) A (pyIter (.bytes b tb)) (CompM prog w A elt (.Name x px) iter scope cl pos env E RR) E s := by
  have hnew : s.heap.get? s.heap.objs.size = none := by
    cases e : s.heap.get? s.heap.objs.size with
    | none => rfl
    | some o' => exact absurd (Heap.lt_size e) (Nat.lt_irrefl _)
  refine KBw.pyIter_bytes ?_
  have W := KBw.walks (prog := prog) (w := w) hh s.heap.objs.size b tb
  unfold CompM
  refine compCore (s := { s with heap := s.heap.push _ }) (base := s.heap) (news := []) (KTurns.ofWalks W fun i v s Q E st q => letGo_other q) (fun _ => True) ?_ ?_ (fun s Q E st q => W.self 0 s Q E st q) ?_ ?_ (fun b o e => Heap.get?_push_of_some _ e) (by show _ ≤ (s.heap.push _).objs.size; rw [Heap.size_push]; exact Nat.le_succ _)
    ⟨_, Heap.get?_push_size _ rfl, rfl, rfl⟩ (fun p hp => nomatch hp) (fun p hp => nomatch hp) hcell hkind hsz J h0 (fun _ _ _ _ => trivial) ?_ ?_
  · rintro i h ⟨o, ho, _⟩
    exact ⟨[(s.heap.objs.size, o)], rfl, fun p hp => by rw [List.mem_singleton.mp hp]; exact ho⟩
  · rintro i h h' own C nw ⟨o, ho, r⟩ ha h1 h2 hk hn _
    obtain ⟨q, rfl⟩ := own1 ha
    have e := h1 _ (.head _)
    have e' := h2 _ (.head _)
    dsimp only at e e'
    rw [ho] at e
    obtain rfl := Option.some.inj e
    exact ⟨_, e', r⟩
  · intro b hb
    rw [List.mem_singleton.mp hb]; exact hnew
  · intro b hb
    show b < (s.heap.push _).objs.size
    rw [Heap.size_push, List.mem_singleton.mp hb]; exact Nat.lt_succ_self _
  · rintro C D i v ys m₂ news₁ h tk own E' hi ⟨c, u, hc, rfl⟩ hJ hyl howr hDw off F N
    obtain ⟨q, rfl⟩ := own1 howr
    refine wpAny_assign_Name (wpAny_storeName_local (lookup_relabel_local hx) F.ns (fun h₃ hn₃ hs₃ => ?_) (by simp [compEnvC, relabel, hkind]))
    exact turn C D s.heap.objs.size q i c u ys _ news₁ h₃ _ E' hc hJ hyl (by simpa using hDw) (fun p hp => by simpa using off p hp) (F.set hn₃ hs₃) (N.set hs₃)
  · intro D C h tk m' ys news' hJ hn F N off hD hC
    have hf : ∀ b o, (s.heap.push o).get? b = none → s.heap.get? b = none := fun b o hb => by
      cases e : s.heap.get? b with
      | none => rfl
      | some o => rw [Heap.get?_push_of_some _ e] at hb; cases hb
    exact done D C h tk m' ys news' hJ hn F N off (hf _ _ hD) (hf _ _ hC)
end
end Mine
namespace Mine
theorem offC3 : True := by
  w_top off
  exact trivial
end Mine
open PySem PySem.W PyProof.Rows PySem.Calls
set_option Elab.async false
set_option maxRecDepth 100000
namespace Mine
section
variable {prog : Program} {w : World} {A : Around} {s : Shared}
theorem own2 {a b : Addr} {own : List (Addr × Obj)} (h : own.map (·.1) = [a, b]) : ∃ q q', own = [(a, q), (b, q')] := by
  cases own with
  | nil => cases h
  | cons p r =>
    rw [List.map_cons] at h
    injection h with h1 h2
    obtain ⟨q', rfl⟩ := own1 h2
    exact ⟨p.2, q', by rw [← h1]⟩

theorem comp_enum {elt iter : Expr} {x₁ x₂ : Str} {p₁ p₂ tp : Pos} {kk : Nat} {scope : Scope} {cl : List (Str × Addr)} {pos : Pos} {env : Env} {E : Value → Shared → Prop} {RR : Value → Addr → Result → Shared → Prop} {l : Addr} {vs : List Value}
    (J : Nat → List Value → List (Addr × Obj) → Prop) (hh : A.handled = none) (hl : s.heap.IsList l vs.toArray) (hcell : ∀ y ∈ scope.names, y.2 ≠ .cell) (hkind : scope.kind = .function) (hsz : vs.length ≤ sizeLine)
    (hx₁ : scope.names.lookup x₁ = some .local) (hx₂ : scope.names.lookup x₂ = some .local) (h0 : J 0 [] [])
    (turn : ∀ (C D e it : Addr) (oe oi : Obj) (i : Nat) (t : Tok) (v : Value) (ys : List Value) (m₂ : Str → Option Value) (news₁ : List (Addr × Obj)) (h : Heap) (tk : Nat) (E' : Value → Shared → Prop), vs[i]? = some v → J i ys news₁ → ys.length = i → D ≠ e → D ≠ it → (∀ p ∈ news₁, p.1 ≠ e ∧ p.1 ≠ it ∧ p.1 ≠ D) →
      Fr s.heap C h (fun y => if y = x₂ then some v else if y = x₁ then some (.int (i : Int) t) else m₂ y) → News s.heap C h ((e, oe) :: (it, oi) :: (D, LCg.lst ys) :: news₁) →
      wpAny (model prog w) A (eval elt (compEnvC scope cl C env)) (EltPost s.heap C D [e, it] [(e, oe), (it, oi)] ys (J (i + 1)) s) E' { s with heap := h, toks := tk })
    (done : Done s vs.length (J vs.length) RR) :
    wpAny (model prog w) A (call (.type "enumerate") [.ref l]) (fun xv s₁ => wpAny (model prog w) A (pyIter xv) (CompM prog w A elt (.Tuple [.Name x₁ p₁, .Name x₂ p₂] kk tp) iter scope cl pos env E RR) E s₁) E s := by
  obtain ⟨ol, hol, hlc, hln⟩ := id hl
  have hlt : l < s.heap.objs.size := Heap.lt_size hol
  have new : ∀ a, s.heap.objs.size ≤ a → s.heap.get? a = none := fun a ha => by
    cases e : s.heap.get? a with
    | none => rfl
    | some o' => exact absurd (Heap.lt_size e) (Nat.not_lt.mpr ha)
  refine call_enumerate_list hl fun h' hE hI hsz' hk => ?_
  refine wpAny_pyIter_enum hE ?_
  have hlen : vs.toArray.size = vs.length := by simp
  have W := WalksT.enumerate (prog := prog) (w := w) hh (s.heap.objs.size + 1) s.heap.objs.size l (Nat.succ_ne_self _) (ktu_ne 1 hlt) (Nat.ne_of_lt hlt) vs.toArray
  rw [hlen] at W
  generalize hn0 : s.heap.objs.size = n0 at *
  unfold CompM
  refine compCore (s := { s with heap := h' }) (base := s.heap) (news := []) (KTurns.ofWalksU W.toU) (fun _ => True) ?_ ?_ (fun s Q E st q => W.self 0 s Q E st q) ?_ ?_ hk (by show _ ≤ h'.objs.size; rw [hsz', hn0]; exact Nat.le_add_right _ _)
    ⟨⟨_, hE⟩, hI, hl.at fun o e => hk l o e⟩ (fun p hp => nomatch hp) (fun p hp => nomatch hp) hcell hkind hsz J h0 (fun _ _ _ _ => trivial) ?_ ?_
  · rintro i h ⟨⟨old, he⟩, ⟨o, ho, _⟩, _⟩
    obtain ⟨oe, hoe⟩ : ∃ oe, h.get? (n0 + 1) = some oe := ⟨_, he⟩
    refine ⟨[(n0 + 1, oe), (n0, o)], rfl, fun p hp => ?_⟩
    rcases List.mem_cons.mp hp with rfl | hp
    · exact hoe
    · rw [List.mem_singleton.mp hp]; exact ho
  · rintro i h g own C nw ⟨⟨old, he⟩, ⟨o, ho, r⟩, _⟩ ha h1 h2 hkb hn _
    obtain ⟨q, q', rfl⟩ := own2 ha
    have e1 := h1 _ (.head _)
    have e1' := h2 _ (.head _)
    have e2 := h1 _ (.tail _ (.head _))
    have e2' := h2 _ (.tail _ (.head _))
    dsimp only at e1 e1' e2 e2'
    unfold IsEnum at he
    rw [he] at e1
    rw [ho] at e2
    obtain rfl := Option.some.inj e1
    obtain rfl := Option.some.inj e2
    exact ⟨⟨old, e1'⟩, ⟨_, e2', r⟩, hl.at fun o e => hkb _ _ e⟩
  · intro b hb
    rcases List.mem_cons.mp hb with rfl | hb
    · exact new _ (Nat.le_succ _)
    · rw [List.mem_singleton.mp hb]; exact new _ (Nat.le_refl _)
  · intro b hb
    show b < h'.objs.size
    rw [hsz']
    rcases List.mem_cons.mp hb with rfl | hb
    · exact Nat.lt_succ_self _
    · rcases List.mem_cons.mp hb with rfl | hb
      · exact Nat.lt_succ_of_lt (Nat.lt_succ_self _)
      · rw [List.mem_singleton.mp hb]; exact Nat.lt_succ_of_lt (Nat.lt_succ_of_lt hlt)
  · rintro C D i v ys m₂ news₁ h tk own E' hi ⟨T, vals, rfl, ⟨t, x, hx, rfl⟩, hT⟩ hJ hyl howr hDw off F N
    obtain ⟨q, q', rfl⟩ := own2 howr
    refine unpackN_ F N hT hh rfl rfl fun h₂ F₂ N₂ => ?_
    show wpAny _ _ (assignInOrder [assign (.Name x₁ p₁) (compEnvC scope cl C env), assign (.Name x₂ p₂) (compEnvC scope cl C env)] [.int (i : Int) t, x]) _ _ _
    unfold assignInOrder
    refine wpAny_bind (wpAny_holding (wpAny_assign_Name (wpAny_storeName_local (lookup_relabel_local hx₁) F₂.ns (fun h₃ hn₃ hs₃ => ?_) (by simp [compEnvC, relabel, hkind]))))
    have F₃ := F₂.set hn₃ hs₃
    have N₃ := N₂.set hs₃
    unfold assignInOrder
    refine wpAny_bind (wpAny_holding (wpAny_assign_Name (wpAny_storeName_local (lookup_relabel_local hx₂) F₃.ns (fun h₄ hn₄ hs₄ => ?_) (by simp [compEnvC, relabel, hkind]))))
    unfold assignInOrder
    refine wpAny_pure ?_
    exact turn C D (n0 + 1) n0 q q' i t x ys _ news₁ h₄ _ E' (by simpa using hx) hJ hyl (fun e => hDw (by rw [e]; exact .head _)) (fun e => hDw (by rw [e]; exact .tail _ (.head _)))
      (fun p hp => ⟨fun e => (off p hp).1 (by rw [e]; exact .head _), fun e => (off p hp).1 (by rw [e]; exact .tail _ (.head _)), (off p hp).2⟩) (F₃.set hn₄ hs₄) (N₃.set hs₄)
  · intro D C h tk m' ys news' hJ hn F N off hD hC
    have hf : ∀ b, h'.get? b = none → s.heap.get? b = none := fun b hb => by
      cases e : s.heap.get? b with
      | none => rfl
      | some o => rw [hk _ _ e] at hb; cases hb
    exact done D C h tk m' ys news' hJ hn F N off (hf _ hD) (hf _ hC)
end
end Mine
namespace Mine
theorem offG1 : True := by
  w_top off
  exact trivial
end Mine
open PySem PySem.W PyProof.Rows PySem.Calls
set_option Elab.async false
set_option maxRecDepth 100000
set_option maxHeartbeats 8000000
namespace Mine
section
variable {prog : Program} {w : World} {A : Around} {s : Shared}
theorem enterC {K : Frag} {p : Program} {loose : List Str} {mean : ExcName → Option Value} {mg mb : Str → Option Value} {Q E : Value → Shared → Prop}
    {name qual : Str} {params : Arguments} {body : List Stmt} {scope : Scope} {dV kV doc pm cdv ct oc : Value} {an od : Option Addr} {osl : Array (Option Value)} {f : Addr}
    {args : List Value} {kw : List (Str × Value)} {binds : List (Str × Value)}
    (X : K.In s.heap) (T : Top p loose mean mg mb s.heap)
    (ho : K.lookup f = some ⟨oc, od, .func (fnOf name qual params body scope dV kV doc pm an cdv ct), osl⟩) (hcd : codeIn K cdv qual = true) (hroom : A.depth < recursionLimit)
    (hbind : BindsTo s (fnOf name qual params body scope dV kV doc pm an cdv ct) ⟨args, kw⟩ binds)
    (hkind : ∀ n, ∀ x ∈ binds, scope.names.lookup x.1 = some .local ∨ (scope.names.lookup x.1 = some .cell ∧ ((cellsFrom n scope.names []).lookup x.1).isSome = true))
    (hnd : ((cellsFrom 0 scope.names []).map (·.1)).Nodup)
    (h : ∀ L h₁ tk cells, Fr s.heap L h₁ (bindL (envOfC qual scope L f cdv).kindOf binds fun _ => none) → News s.heap L h₁ cells →
      CellsAre (bindC (envOfC qual scope L f cdv).kindOf binds fun _ => none) (cellsFrom (L + 1) scope.names []) cells →
      wpAny (model prog w) (A.deeper (envOfC qual scope L f cdv)) (execs body (envOfC qual scope L f cdv))
        (fun fl s' => Q (match fl with | .ret v => v | _ => .none) s') (fun _ _ => False) { s with heap := h₁, toks := tk })
    (hco : scope.isCoroutine = false) (hgen : scope.isGenerator = false) (hk : scope.kind = .function) :
    wpAny (model prog w) A (call (.ref f) args kw) Q E s := by
  refine wpAny_call ?_
  refine codeAny_call_function (fd := fnOf name qual params body scope dV kV doc pm an cdv ct) hroom (X _ _ ho) rfl hco hgen rfl (codeRec_of X hcd) (hbind _ _ _ _ ?_)
  refine wpAny_newFunctionEnv_cells hk (hkind _) fun env' he s' x => ?_
  subst he
  refine ⟨T.nolimit.keeps x.toInCall.keep, codeAny_func ?_⟩
  obtain ⟨h₁, tk, rfl, _⟩ := x.done
  have hk₁ := x.toInCall.keep
  obtain ⟨cells, NC, Y⟩ := Cl.news (h₀ := s.heap) (Nat.le_refl _) fun n c hm => ⟨x.cell n c (lookup_of_mem_nodup (cellsFrom_names scope.names 0 (s.heap.objs.size + 1) [] [] rfl ▸ hnd) hm), x.above n c hm⟩
  refine wpAny_mono (h s.heap.objs.size h₁ tk cells ⟨x.toInCall.ns, hk₁, Nat.le_refl _⟩ NC Y) (fun fl s' hq => hq) fun _ _ e => e.elim
end

section
variable {M : Model} {A : Around} {E : Value → Shared → Prop} {s : Shared} {h₀ : Heap} {C : Addr} {m : Str → Option Value} {scope : Scope} {cl : List (Str × Addr)} {env : Env} {x : Str} {pos : Pos} {v : Value} {Q : Value → Shared → Prop}
theorem ldC (F : Fr h₀ C s.heap m) (hv : m x = some v) (h : Q v s) (hk : scope.kind = .function) (hl : (compEnvC scope cl C env).kindOf x = some .local) (hd : (x == ("__debug__" : Str)) = false) :
    wpAny M A (eval (.Name x pos) (compEnvC scope cl C env)) Q E s := wpAny_Name (wpAny_loadName_local (env := compEnvC scope cl C env) hk hl F.ns hv h) hd
theorem ldCc {c : Addr} {o : Obj} (F : Fr h₀ C s.heap m) (hc : h₀.get? c = some o) (ho : o.data = .cell (some v)) (h : Q v s) (hcl : cl.lookup x = some c) (hk : scope.kind = .function) (hl : (compEnvC scope cl C env).kindOf x = some .cell) (hd : (x == ("__debug__" : Str)) = false) :
    wpAny M A (eval (.Name x pos) (compEnvC scope cl C env)) Q E s := wpAny_Name (wpAny_loadName_cell (env := compEnvC scope cl C env) hk hl hcl ⟨o, F.keep _ _ hc, ho⟩ h) hd
theorem ldCb {K : Frag} {p : Program} {loose : List Str} {mean : ExcName → Option Value} {mg mb : Str → Option Value} (F : Fr h₀ C s.heap m) (X : K.In h₀) (T : Top p loose mean mg mb h₀) (e : nsIn K mainGlobals x = some none) (hv : bootBuiltins x = some v) (hn : x ≠ "__name__") (h : Q v s)
    (hg : env.globals = mainGlobals) (hb : env.builtins = builtinsNs) (hk : scope.kind = .function) (hx : (compEnvC scope cl C env).kindOf x = some .globalImplicit) (hd : (x == ("__debug__" : Str)) = false) :
    wpAny M A (eval (.Name x pos) (compEnvC scope cl C env)) Q E s :=
  Name_function_global hk hx (loadGlobal_builtin (env := compEnvC scope cl C env) (by show s.heap.Ns env.globals mg; rw [hg]; exact T.g.keeps F.keep) (mg_none_of X T.g e) (by show s.heap.Ns env.builtins mb; rw [hb]; exact T.b.keeps F.keep) ((T.builtins x hn).trans hv) h) hd
end

theorem news_add {h₀ h h' : Heap} {L D : Addr} {m : Str → Option Value} {o : Obj} {news : List (Addr × Obj)} (F : Fr h₀ L h m) (N : News h₀ L h news) (k : ∀ b o, h.get? b = some o → h'.get? b = some o) (hD : h.get? D = none) (hg : h'.get? D = some o) :
    News h₀ L h' ((D, o) :: news) := fun p hp => by
  rcases List.mem_cons.mp hp with rfl | hp
  · refine ⟨hg, fun q => ?_, ?_⟩
    · obtain ⟨o, _, _, e, _⟩ := F.ns
      dsimp only at q
      rw [q] at hD
      rw [hD] at e; cases e
    · cases q : h₀.get? D with
      | none => rfl
      | some o => have := F.keep _ _ q; rw [hD] at this; cases this
  · exact news_keeps N k p hp

def terms (b : Int) : Nat → List Int → List Int
  | _, [] => []
  | k, x :: r => x * b ^ k :: terms b (k + 1) r
theorem terms_get (b : Int) : ∀ (xs : List Int) (k i : Nat) (x : Int), xs[i]? = some x → (terms b k xs)[i]? = some (x * b ^ (k + i))
  | [], _, _, _, h => by simp at h
  | y :: r, k, 0, x, h => by simp at h; subst h; rfl
  | y :: r, k, i + 1, x, h => by
    rw [List.getElem?_cons_succ] at h
    rw [terms, List.getElem?_cons_succ, terms_get b r (k + 1) i x h]
    congr 2; congr 1; omega
theorem terms_len (b : Int) : ∀ (xs : List Int) (k : Nat), (terms b k xs).length = xs.length
  | [], _ => rfl
  | _ :: r, k => by rw [terms, List.length_cons, List.length_cons, terms_len b r]
def placeL (N : Int) (m : Nat) : List Int := (List.range m).map fun k => (N.fdiv (64 ^ k)).fmod 64
theorem placeL_get {N : Int} {m i : Nat} (h : i < m) : (placeL N m)[i]? = some ((N.fdiv (64 ^ i)).fmod 64) := by simp [placeL, h]
theorem placeL_len (N : Int) (m : Nat) : (placeL N m).length = m := by simp [placeL]
theorem take_snoc {α : Type} {l : List α} {i : Nat} {x : α} (h : l[i]? = some x) : l.take (i + 1) = l.take i ++ [x] := by
  rw [List.take_add_one, h]; rfl

section
variable {prog : Program} {w : World} {A : Around} {E : Value → Shared → Prop} {s : Shared}
theorem last_item {value slice : Expr} {l : Addr} {us : List Value} {v : Value} {n : Nat} {t : Tok} {Q : Value → Shared → Prop} (hl : s.heap.get? l = some (W.listOf (us ++ [v]).toArray n)) (hz : us.length ≤ 1000) (h : Q v s)
    (hs : subscripted slice false (.ref l) (.int (-1) t) = operate [.ref l, .int (-1) t] (getItem (.ref l) (.int (-1) t))) :
    wpAny (model prog w) A (subscriptTail value slice (.ref l) (.int (-1) t)) Q E s := by
  have hL : s.heap.IsList l (us ++ [v]).toArray := ⟨_, hl, rfl, n, rfl⟩
  refine tail_any hL.typeIs slot_list_getitem.lookup (wpAny_getItem_list_neg (k := -1) hL (by decide) (by simp; omega) (by decide) ?_ h) hs
  have e : ((-1 : Int) + ((us ++ [v]).toArray.size : Int)).toNat = us.length := by simp; omega
  rw [e]; simp
end
def figE (p : Int) : Int × Bool := (if p < 26 then p + 1 else if p < 52 then p + 7 else if p < 62 then p - 4 else 4 * p - 205, decide (¬ p < 52))
def runsR : List (Int × Bool) → List Int → List (List Int)
  | [], acc => [acc]
  | (f, e) :: r, acc => if e then (acc ++ [f]) :: runsR r [] else runsR r (acc ++ [f])
def ListsIn (tl : List (Addr × Obj)) (us : List Value) (rs : List (List Int)) : Prop :=
  us.length = rs.length ∧ ∀ (j : Nat) (v : Value) (r : List Int), us[j]? = some v → rs[j]? = some r → ∃ a vs n, v = .ref a ∧ (a, W.listOf vs.toArray n) ∈ tl ∧ IntsAre vs r


theorem ListsIn.snoc {tl tl' : List (Addr × Obj)} {us : List Value} {rs : List (List Int)} {T : Addr} {vs : List Value} {r : List Int} {n : Nat} (h : ListsIn tl us rs) (hs : ∀ p ∈ tl, p ∈ tl') (hT : (T, W.listOf vs.toArray n) ∈ tl') (hI : IntsAre vs r) :
    ListsIn tl' (us ++ [.ref T]) (rs ++ [r]) := by
  refine ⟨by simp [h.1], fun i v p hv hp => ?_⟩
  by_cases hi : i < us.length
  · rw [List.getElem?_append_left hi] at hv
    rw [List.getElem?_append_left (h.1 ▸ hi)] at hp
    obtain ⟨a, ws, n, e, hm, hw⟩ := h.2 i v p hv hp
    exact ⟨a, ws, n, e, hs _ hm, hw⟩
  · have hlt := (List.getElem?_eq_some_iff.mp hv).1
    rw [List.length_append, List.length_singleton] at hlt
    have hi' : i = us.length := by omega
    subst hi'
    rw [List.getElem?_append_right (Nat.le_refl _)] at hv
    rw [h.1, List.getElem?_append_right (Nat.le_refl _)] at hp
    simp at hv hp
    subst hv hp
    exact ⟨T, vs, n, rfl, hT, hI⟩

/-- the runs built so far: R the list of runs, cur the run under way, dn the runs done -/
def RJ (R P : Addr) (ws : List Value) (sh : Int) (i : Nat) (fs : List (Int × Bool)) (all : List (List Int)) (m : Str → Option Value) (news : List (Addr × Obj)) : Prop :=
  ∃ us nn cur cv cn dn rd cr ts, news = (R, W.listOf (us ++ [Value.ref cur]).toArray nn) :: (cur, W.listOf cv.toArray cn) :: (P, W.listOf ws.toArray 0) :: dn ∧
    m (Str.ofString "runs") = some (.ref R) ∧ m (Str.ofString "short") = some (.int sh ts) ∧ IntsAre cv cr ∧ ListsIn dn us rd ∧ (∀ p ∈ dn, p.1 ≠ R ∧ p.1 ≠ cur ∧ p.1 ≠ P) ∧ @Ne Nat R cur ∧ @Ne Nat P R ∧ @Ne Nat P cur ∧ us.length ≤ i ∧ cv.length ≤ i ∧
    rd ++ runsR fs cr = all

section
variable {h₀ h' : Heap} {L I R P cur : Addr} {oI : Obj} {s : Shared} {Q : Flow → Shared → Prop} {tk : Nat} {m' : Str → Option Value} {us cv ws : List Value} {sh f : Int} {ts tf : Tok} {nn cn i : Nat} {dn : List (Addr × Obj)} {rd all : List (List Int)} {cr : List Int} {fs : List (Int × Bool)}
theorem rj_add (F' : Fr h₀ L h' m') (N' : News h₀ L h' ((I, oI) :: (R, W.listOf (us ++ [Value.ref cur]).toArray nn) :: (cur, W.listOf (cv.toArray.push (.int f tf)) cn) :: (P, W.listOf ws.toArray 0) :: dn))
    (hm1 : m' (Str.ofString "runs") = some (.ref R)) (hms : m' (Str.ofString "short") = some (.int sh ts)) (hcv : IntsAre cv cr) (hLI : ListsIn dn us rd) (hdn : ∀ p ∈ dn, p.1 ≠ R ∧ p.1 ≠ cur ∧ p.1 ≠ P) (n1 : @Ne Nat R cur) (n2 : @Ne Nat P R) (n3 : @Ne Nat P cur) (hul : us.length ≤ i) (hcl : cv.length ≤ i)
    (hJ : rd ++ runsR ((f, false) :: fs) cr = all) (i1 : @Ne Nat R I) (i2 : @Ne Nat cur I) (i3 : @Ne Nat P I) (i4 : ∀ p ∈ dn, p.1 ≠ I) :
    TurnPost h₀ L I oI (RJ R P ws sh (i + 1) fs all) s Q .next { s with heap := h', toks := tk } := by
  rw [List.push_toArray] at N'
  refine ⟨_, _, _, _, rfl, F', N', fun p hp => ?_, us, nn, cur, _, cn, dn, rd, cr ++ [f], ts, rfl, hm1, hms, hcv.append (.cons _ _ .nil), hLI, hdn, n1, n2, n3, by omega, by simp; omega, hJ⟩
  rcases List.mem_cons.mp hp with rfl | hp
  · exact i1
  · rcases List.mem_cons.mp hp with rfl | hp
    · exact i2
    · rcases List.mem_cons.mp hp with rfl | hp
      · exact i3
      · exact i4 p hp
theorem rj_new {D : Addr} (F' : Fr h₀ L h' m') (N' : News h₀ L h' ((D, W.listOf #[] 0) :: (I, oI) :: (R, W.listOf ((us ++ [Value.ref cur]).toArray.push (.ref D)) nn) :: (cur, W.listOf (cv.toArray.push (.int f tf)) cn) :: (P, W.listOf ws.toArray 0) :: dn))
    (hD : I < D ∧ R < D ∧ cur < D ∧ P < D ∧ AllLt D dn)
    (hm1 : m' (Str.ofString "runs") = some (.ref R)) (hms : m' (Str.ofString "short") = some (.int sh ts)) (hcv : IntsAre cv cr) (hLI : ListsIn dn us rd) (hdn : ∀ p ∈ dn, p.1 ≠ R ∧ p.1 ≠ cur ∧ p.1 ≠ P) (n1 : @Ne Nat R cur) (n2 : @Ne Nat P R) (n3 : @Ne Nat P cur) (hul : us.length ≤ i) (hcl : cv.length ≤ i)
    (hJ : rd ++ runsR ((f, true) :: fs) cr = all) (i1 : @Ne Nat R I) (i2 : @Ne Nat cur I) (i3 : @Ne Nat P I) (i4 : ∀ p ∈ dn, p.1 ≠ I) :
    TurnPost h₀ L I oI (RJ R P ws sh (i + 1) fs all) s Q .next { s with heap := h', toks := tk } := by
  rw [List.push_toArray, List.push_toArray] at N'
  obtain ⟨d1, d2, d3, d4, d5⟩ := hD
  refine ⟨_, _, _, (R, W.listOf ((us ++ [Value.ref cur]) ++ [Value.ref D]).toArray nn) :: (D, W.listOf #[] 0) :: (P, W.listOf ws.toArray 0) :: (cur, W.listOf (cv ++ [Value.int f tf]).toArray cn) :: dn, rfl, F', fun p hp => N' p ?_, fun p hp => ?_, us ++ [Value.ref cur], nn, D, [], 0, (cur, W.listOf (cv ++ [Value.int f tf]).toArray cn) :: dn, rd ++ [cr ++ [f]], [], ts, rfl, hm1, hms, .nil,
    hLI.snoc (fun _ h => .tail _ h) (.head _) (hcv.append (.cons _ _ .nil)), fun p hp => ?_, Nat.ne_of_lt d2, n2, Nat.ne_of_lt d4, by simp; omega, Nat.zero_le _, by rw [List.append_assoc]; exact hJ⟩
  · simp only [List.mem_cons] at hp ⊢
    rcases hp with rfl | rfl | rfl | rfl | rfl | hp <;> simp [*]
  · rcases List.mem_cons.mp hp with rfl | hp
    · exact i1
    · rcases List.mem_cons.mp hp with rfl | hp
      · exact Nat.ne_of_gt d1
      · rcases List.mem_cons.mp hp with rfl | hp
        · exact i3
        · rcases List.mem_cons.mp hp with rfl | hp
          · exact i2
          · exact i4 p hp
  · rcases List.mem_cons.mp hp with rfl | hp
    · exact ⟨Ne.symm n1, Nat.ne_of_lt d3, Ne.symm n3⟩
    · exact ⟨(hdn p hp).1, Nat.ne_of_lt (ktn_ltOf d5 p hp), (hdn p hp).2.2⟩
end


theorem runsR_bound : ∀ (fs : List (Int × Bool)) (acc : List Int), (∀ p ∈ fs, 0 ≤ p.1 ∧ p.1 < 64) → (∀ x ∈ acc, 0 ≤ x ∧ x < 64) → ∀ r ∈ runsR fs acc, (∀ x ∈ r, 0 ≤ x ∧ x < 64) ∧ r.length ≤ acc.length + fs.length
  | [], acc, _, ha, r, hr => by
    rw [runsR, List.mem_singleton] at hr
    subst hr; exact ⟨ha, Nat.le_refl _⟩
  | (f, e) :: fs, acc, hf, ha, r, hr => by
    have ha' : ∀ x ∈ acc ++ [f], 0 ≤ x ∧ x < 64 := fun x hx => by
      rcases List.mem_append.mp hx with hx | hx
      · exact ha x hx
      · rw [List.mem_singleton] at hx; subst hx; exact hf _ (.head _)
    rw [runsR] at hr
    split at hr
    · rcases List.mem_cons.mp hr with rfl | hr
      · exact ⟨ha', by simp⟩
      · have := runsR_bound fs [] (fun p hp => hf p (.tail _ hp)) (fun _ h => nomatch h) r hr
        refine ⟨this.1, ?_⟩
        have := this.2
        simp at this ⊢; omega
    · have := runsR_bound fs (acc ++ [f]) (fun p hp => hf p (.tail _ hp)) ha' r hr
      refine ⟨this.1, ?_⟩
      have := this.2
      simp at this ⊢; omega
theorem runsR_count : ∀ (fs : List (Int × Bool)) (acc : List Int), (runsR fs acc).length ≤ fs.length + 1
  | [], _ => by simp [runsR]
  | (f, e) :: fs, acc => by
    have h1 := runsR_count fs []
    have h2 := runsR_count fs (acc ++ [f])
    rw [runsR]; split <;> simp <;> omega
theorem figE_bound {p : Int} (h0 : 0 ≤ p) (h1 : p < 64) : 0 ≤ (figE p).1 ∧ (figE p).1 < 64 := by
  unfold figE; dsimp only; split
  · omega
  · split
    · omega
    · split <;> omega
theorem placeL_bound {N : Int} {m : Nat} : ∀ x ∈ placeL N m, 0 ≤ x ∧ x < 64 := fun x hx => by
  obtain ⟨k, _, rfl⟩ := List.mem_map.mp hx
  exact ⟨Int.fmod_nonneg_of_pos _ (by decide), Int.fmod_lt_of_pos _ (by decide)⟩

def shortI (ns : List Int) : Int := (-(ns.length : Int)).fmod 3
def numI (ns : List Int) : Int := (terms 256 0 ns.reverse).sum * 4 ^ (shortI ns).toNat
def plI (ns : List Int) : List Int := (placeL (numI ns) ((4 * (ns.length : Int) + shortI ns).fdiv 3).toNat).reverse
def figsI (ns : List Int) : List (Int × Bool) := (plI ns).map figE ++ (List.replicate (shortI ns).toNat ((61 : Int), true) ++ [((48 : Int), false)])
def pairR (r : List Int) : Int × Int := ((terms 64 0 r.reverse).sum, (r.length : Int))
def runsOut (ns : List Int) : List (Int × Int) := (runsR (figsI ns) []).map pairR


def ListsAt (h : Heap) (us : List Value) (rs : List (List Int)) : Prop :=
  us.length = rs.length ∧ ∀ (j : Nat) (v : Value) (r : List Int), us[j]? = some v → rs[j]? = some r → ∃ a vs, v = .ref a ∧ h.IsList a vs.toArray ∧ IntsAre vs r
theorem runs_end {h₀ h' : Heap} {L R P cur : Addr} {oP : Obj} {us cv : List Value} {nn cn : Nat} {t : Tok} {dn : List (Addr × Obj)} {rd all : List (List Int)} {cr : List Int}
    (N7 : News h₀ L h' ((R, W.listOf (us ++ [Value.ref cur]).toArray nn) :: (cur, W.listOf (cv.toArray.push (.int 48 t)) cn) :: (P, oP) :: dn)) (hcv : IntsAre cv cr) (hLI : ListsIn dn us rd) (hJ : rd ++ [cr ++ [48]] = all) :
    ∃ us2 : List Value, h'.IsList R us2.toArray ∧ ListsAt h' us2 all := by
  rw [List.push_toArray] at N7
  refine ⟨us ++ [Value.ref cur], ⟨_, N7.get (.head _), rfl, _, rfl⟩, ?_⟩
  have hL2 : ListsIn ((cur, W.listOf (cv ++ [Value.int 48 t]).toArray cn) :: dn) (us ++ [Value.ref cur]) all := hJ ▸ hLI.snoc (fun p hp => List.mem_cons_of_mem _ hp) (.head _) (hcv.append (.cons 48 _ .nil))
  refine ⟨hL2.1, fun j v r h1 h2 => ?_⟩
  obtain ⟨a, vs, n, e, hm, hI⟩ := hL2.2 j v r h1 h2
  refine ⟨a, vs, e, ⟨_, N7.get (o := W.listOf vs.toArray n) ?_, rfl, n, rfl⟩, hI⟩
  rcases List.mem_cons.mp hm with hm | hm
  · rw [hm]; exact .tail _ (.head _)
  · exact .tail _ (.tail _ (.tail _ hm))


theorem elt_fin {base h8 : Heap} {C D I D8 D6 D5 : Addr} {oI o6 o5 : Obj} {ys : List Value} {news₁ : List (Addr × Obj)} {m : Str → Option Value} {a b : Int} {ta tb : Tok} {ps : List (Int × Int)} {i tk : Nat} {s : Shared}
    (F8 : Fr base C h8 m) (N8 : News base C h8 ((D8, tupOf #[.int a ta, .int b tb] 0) :: (D6, o6) :: (D5, o5) :: (I, oI) :: (D, LCg.lst ys) :: news₁)) (l8 : D6 < D8 ∧ D5 < D8 ∧ I < D8 ∧ D < D8 ∧ AllLt D8 news₁) (off : ∀ p ∈ news₁, p.1 ≠ I ∧ p.1 ≠ D)
    (hJ : PairsIn news₁ ys (ps.take i)) (hg : ps[i]? = some (a, b)) :
    EltPost base C D [I] [(I, oI)] ys (fun ys news => PairsIn news ys (ps.take (i + 1))) s (.ref D8) { s with heap := h8, toks := tk } := by
  refine ⟨_, _, _, (D8, tupOf #[.int a ta, .int b tb] 0) :: news₁, rfl, F8, fun p hp => N8 p ?_, fun p hp => ?_, ?_⟩
  · simp only [List.mem_cons, List.mem_append, List.not_mem_nil, or_false] at hp ⊢
    rcases hp with rfl | rfl | rfl | hp
    · simp
    · simp
    · exact .inl rfl
    · simp [hp]
  · rcases List.mem_cons.mp hp with rfl | hp
    · exact ⟨by simp; exact Nat.ne_of_gt l8.2.2.1, Nat.ne_of_gt l8.2.2.2.1⟩
    · exact ⟨by simp; exact (off p hp).1, (off p hp).2⟩
  · dsimp only
    rw [take_snoc hg]
    exact hJ.snoc (fun _ h => .tail _ h) (.head _)

local macro_rules | `(tactic| walk_at "exec For Name Name cons nil") => `(tactic| refine Stop.mk ?_)
local macro_rules | `(tactic| walk_at "exec For Name Call cons nil") => `(tactic| refine Stop.mk ?_)
local macro_rules | `(tactic| walk_at "eval ListComp") => `(tactic| refine Stop.mk ?_)
local macro_rules | `(tactic| walk_at "call type:enumerate") => `(tactic| refine Stop.mk ?_)
local macro_rules | `(tactic| walk_at "eval Name") => `(tactic| ((with_reducible show wpAny _ _ (eval (Expr.Name _ _) (compEnvC _ _ _ _)) _ _ _); first
  | refine ldC (by assumption) rfl ?_ rfl rfl (by decide)
  | refine ldCc (by assumption) (by assumption) (by assumption) ?_ rfl rfl rfl (by decide)
  | refine ldCb (v := Value.type "enumerate") (by assumption) (by assumption) (by assumption) (by k_is) rfl (by decide) ?_ rfl rfl rfl rfl (by decide)
  | refine ldCb (by assumption) (by assumption) (by assumption) (by k_is) rfl (by decide) ?_ rfl rfl rfl rfl (by decide)))
local macro_rules | `(tactic| walk_at "binaryOp FloorDiv int int") => `(tactic| refine floordiv_int (by assumption) ?_ (Or.inl (by assumption)))
local macro_rules | `(tactic| walk_at "subscriptTail Name UnaryOp ref int") => `(tactic| (refine' last_item ?k1 ?k2 ?_ ?k3; (case k1 => exact News.get (by k_asm) (by k_mem)); (case k2 => assumption); (case k3 => with_unfolding_all rfl)))
local macro_rules | `(tactic| k_all) => `(tactic| first | assumption | (refine List.forall_mem_cons.mpr ⟨?ka, ?kb⟩; (case ka => k_ne); (case kb => k_all)))
local macro_rules | `(tactic| mul_fits) => `(tactic| assumption)
set_option maxHeartbeats 1000000

set_option pp.deepTerms false in
set_option pp.deepTerms.threshold 8 in

set_option pp.deepTerms false in
set_option pp.deepTerms.threshold 8 in
theorem runs_c {w : World} {p : Program} {loose : List Str} {mean : ExcName → Option Value} {mg mb : Str → Option Value} {fr : Option (List Env)} {s : Shared} {Q E : Value → Shared → Prop}
    {l : Addr} {vs : List Value} {ns : List Int}
    (X : (hd.heap_39 w.params).In s.heap) (T : Top p loose mean mg mb s.heap) (hl : s.heap.IsList l vs.toArray) (hI : IntsAre vs ns) (hb : ∀ x ∈ ns, 0 ≤ x ∧ x < 256) (hn : ns.length ≤ 20)
    (hret : ∀ d us nn tl h' tk, (∀ b o, s.heap.get? b = some o → h'.get? b = some o) → s.heap.get? d = none → h'.get? d = some (W.listOf us.toArray nn) → (∀ p ∈ tl, h'.get? p.1 = some p.2 ∧ s.heap.get? p.1 = none) → PairsIn tl us (runsOut ns) → Q (.ref d) { s with heap := h', toks := tk }) :
    wpAny (model Challenge.rw_ny0006_01.row.prog w) (AL fr) (call (.ref 70) [.ref l]) Q E s := by
  revert X; k_fill; intro X
  refine enterC X T (by k_is) (by k_is) (Nat.lt_of_sub_pos (by exact Nat.le_of_ble_eq_true rfl)) (BindsTo.of_eq rfl) (kindsX rfl) (by decide) ?_ rfl rfl rfl
  intro L h₁ tk cells F N hC
  obtain ⟨o, hcells, ho⟩ := CellsAre.one (n := Str.ofString "number") (c := L + 1) hC
  clear hC
  subst hcells
  k_steps
  refine Stop.go (Comp_mine (cl := []) rfl rfl (by decide) ?_)
  k_steps
  rename Fr s.heap L _ _ => F1
  rename News s.heap L _ _ => N1
  rename IntsAre _ ns.reverse => hI1
  rename_i R1 ws1 _ _ _
  refine Stop.go ?_
  refine comp_enum (vs := ws1) (fun i ys news => news = [] ∧ IntsAre ys ((terms 256 0 ns.reverse).take i)) rfl ⟨_, N1.get (.head _), rfl, _, rfl⟩ (by decide) rfl (by rw [hI1.length]; simp [sizeLine_eq]; omega) rfl rfl ⟨rfl, .nil⟩ ?_ ?_
  · rintro C D e it oe oi i t v ys m₂ news₁ h tk E' hv ⟨rfl, hJ⟩ hyl hDe hDi off F2 N2
    have hi : i < ns.reverse.length := by rw [← hI1.length]; exact (List.getElem?_eq_some_iff.mp hv).1
    have hg : ns.reverse[i]? = some ns.reverse[i] := List.getElem?_eq_getElem hi
    have hbi := hb ns.reverse[i] (by rw [← List.mem_reverse]; exact List.getElem_mem _)
    generalize ns.reverse[i] = x at *
    obtain ⟨tt, hx⟩ := hI1.get i x hg
    rw [hx] at hv
    obtain rfl := Option.some.inj hv
    have hmul : IntMulOk x (256 ^ (i : Int).toNat) := IntMulOk.of_left (intBits_le_iff.mpr (by omega))
    have hi2 : i ≤ 20 := by rw [List.length_reverse] at hi; omega
    clear F1 N1
    k_steps
    refine ⟨_, _, _, [], rfl, F2, N2, (fun _ h => nomatch h), rfl, ?_⟩
    have ht := terms_get 256 ns.reverse 0 i x hg
    rw [take_snoc ht, Nat.zero_add]
    exact hJ.append (.cons _ _ .nil)
  · refine done_none fun D ys news' h' tk hJ hn' k hD hDg hnw => ?_
    obtain ⟨rfl, hys⟩ := hJ
    rw [hI1.length, ← terms_len 256 ns.reverse 0, List.take_length] at hys
    have F2 := F1.keeps k
    have N2 : News s.heap L h' ((D, W.listOf ys.toArray ys.length) :: [(L + 1, o)]) := fun p hp => by
      rcases List.mem_cons.mp hp with rfl | hp
      · refine ⟨hDg, fun q => ?_, ?_⟩
        · obtain ⟨o, _, _, e, _⟩ := F1.ns
          have hD' := hD
          dsimp only at hD' q
          rw [q] at hD'
          rw [hD'] at e; cases e
        · cases q : s.heap.get? D with
          | none => rfl
          | some o => have := F1.keep _ _ q; rw [hD] at this; cases this
      · exact news_keeps N1 k p (.tail _ hp)
    clear F1 N1
    have hsh0 := Int.fmod_nonneg_of_pos (-(ns.length : Int)) (b := 3) (by decide)
    have hsh1 := Int.fmod_lt_of_pos (-(ns.length : Int)) (b := 3) (by decide)
    have hmul2 : IntMulOk (terms 256 0 ns.reverse).sum (4 ^ ((-(ns.length : Int)).fmod 3).toNat) := by
      refine IntMulOk.of_right (intBits_le_iff.mpr ?_)
      generalize (-(ns.length : Int)).fmod 3 = z at *
      have hz : z = 0 ∨ z = 1 ∨ z = 2 := by omega
      rcases hz with rfl | rfl | rfl <;> decide
    k_steps
    refine Stop.go (Comp_mine (cl := [(Str.ofString "number", L + 1)]) rfl rfl (by decide) ?_)
    k_steps
    rename_i oc _ _ hoc h3 _ _ _ _ hr F3 N3 _
    have hout : ∀ sh, (-(ns.length : Int)).fmod 3 = sh → runsOut ns = (runsR ((placeL ((terms 256 0 ns.reverse).sum * 4 ^ sh.toNat) ((4 * (ns.length : Int) + sh).fdiv 3).toNat).reverse.map figE ++ (List.replicate sh.toNat ((61 : Int), true) ++ [((48 : Int), false)])) []).map pairR := fun sh e => by subst e; rfl
    have hout := hout _ rfl
    generalize hNum : (terms 256 0 ns.reverse).sum * 4 ^ ((-(ns.length : Int)).fmod 3).toNat = Num at *
    generalize hsh : (-(ns.length : Int)).fmod 3 = sh at *
    have hm : Builtin.Range.rangeSize 0 ((4 * (ns.length : Int) + sh).fdiv 3) 1 = (((4 * (ns.length : Int) + sh).fdiv 3).toNat : Int) := by rw [rangeSize_nat, Int.sub_zero]
    have hm2 : ((4 * (ns.length : Int) + sh).fdiv 3).toNat ≤ 27 := by
      rw [Int.fdiv_eq_ediv_of_nonneg _ (by decide)]; omega
    have hsm : Builtin.Range.small 0 ((4 * (ns.length : Int) + sh).fdiv 3) 1 = true := by
      rw [Int.fdiv_eq_ediv_of_nonneg _ (by decide)] at *
      unfold Builtin.Range.small Builtin.Range.rangeFitsLong
      rw [rangeSize_nat]
      simp; omega
    have hcl : h3.get? (L + 1) = some oc := (N3 _ (.tail _ (.head _))).1
    refine comp_range (fun i ys news => news = [] ∧ IntsAre ys ((placeL Num ((4 * (ns.length : Int) + sh).fdiv 3).toNat).take i)) rfl hr hsm hm (by decide) rfl (by rw [sizeLine_eq]; omega) rfl ⟨rfl, .nil⟩ ?_ ?_
    · rintro C D I oI i t ys m₂ news₁ h tk E' hi ⟨rfl, hJ⟩ hyl hDI off F4 N4
      have hnz : (64 : Int) ^ (0 + (i : Int)).toNat ≠ 0 := Int.ne_of_gt (pow64_pos _)
      have hnp : Builtin.divisionGoesByPylong Num (64 ^ (0 + (i : Int)).toNat) = false := by
        refine PyProof.noPylong_of_log2 ?_
        rw [show (0 + (i : Int)).toNat = i by omega, show ((64 : Int) ^ i).natAbs = 2 ^ (6 * i) by rw [Int.natAbs_pow, Nat.pow_mul]; rfl, Nat.log2_two_pow]
        omega
      clear F3 N3 F2 N2
      k_steps
      refine ⟨_, _, _, [], rfl, F4, N4, (fun _ h => nomatch h), rfl, ?_⟩
      rw [take_snoc (placeL_get hi)]
      have e : (0 + (i : Int)).toNat = i := by omega
      rw [e]
      exact hJ.append (.cons _ _ .nil)
    · refine done_none fun D2 ys2 news2 h5 tk5 hJ2 hn2 k2 hD2 hDg2 hnw2 => ?_
      obtain ⟨rfl, hys2⟩ := hJ2
      rw [List.take_of_length_le (by rw [placeL_len]; exact Nat.le_refl _)] at hys2
      have F5 := F3.keeps k2
      have N5 : News s.heap L h5 [(D2, W.listOf ys2.toArray ys2.length), (L + 1, oc)] := news_add F3 (fun p hp => N3 p (.tail _ hp)) k2 hD2 hDg2
      clear F3 N3 F2 N2
      k_steps
      rename_i P ws hP hIw _ _ _ _ c1 _ _ R _ lR _ F6 N6
      generalize hpl : (placeL Num ((4 * (ns.length : Int) + sh).fdiv 3).toNat).reverse = pl at *
      have hpl2 : pl.length ≤ 27 := by rw [← hpl, List.length_reverse, placeL_len]; exact hm2
      have hplb : ∀ x ∈ pl, 0 ≤ x ∧ x < 64 := fun x hx => placeL_bound x (by rw [← List.mem_reverse, hpl]; exact hx)
      have hab := runsR_bound (pl.map figE ++ (List.replicate sh.toNat ((61 : Int), true) ++ [((48 : Int), false)])) [] (fun p hp => by
        rcases List.mem_append.mp hp with hp | hp
        · obtain ⟨x, hx, rfl⟩ := List.mem_map.mp hp
          exact figE_bound (hplb x hx).1 (hplb x hx).2
        · rcases List.mem_append.mp hp with hp | hp
          · rw [(List.mem_replicate.mp hp).2]; decide
          · rw [List.mem_singleton.mp hp]; decide) (fun _ h => nomatch h)
      have hac := runsR_count (pl.map figE ++ (List.replicate sh.toNat ((61 : Int), true) ++ [((48 : Int), false)])) []
      have hfl : (pl.map figE ++ (List.replicate sh.toNat ((61 : Int), true) ++ [((48 : Int), false)])).length ≤ 30 := by simp; omega
      generalize hrest : List.replicate sh.toNat ((61 : Int), true) ++ [((48 : Int), false)] = rest at *
      refine Stop.go (For_mine ?_)
      k_steps
      refine iter_list (vs := ws) (fun i => RJ R P ws sh i ((pl.drop i).map figE ++ rest) (runsR (pl.map figE ++ rest) [])) rfl PassesOwn.never F6 (news₀ := [(R, W.listOf #[Value.ref c1] 0), (c1, W.listOf #[] 0), (P, W.listOf ws.toArray 0)]) (fun p hp => N6 p (by
          simp only [List.mem_cons, List.not_mem_nil, or_false] at hp ⊢
          rcases hp with rfl | rfl | rfl <;> simp)) ?_ ?_ ?_ ?_
      · exact ⟨[], 0, c1, [], 0, [], [], [], _, rfl, rfl, rfl, .nil, ⟨rfl, fun j v r h => by simp at h⟩, (fun _ h => nomatch h), by omega, by omega, by omega, Nat.le_refl _, Nat.le_refl _, by simp⟩
      · rintro i m n ⟨us, nn, cur, cv, cn, dn, rd, cr, ts, rfl, _⟩
        exact .inr ⟨0, .tail _ (.tail _ (.head _))⟩
      · rintro I oI i v m₁ news₁ h tk hc hv ⟨us, nn, cur, cv, cn, dn, rd, cr, ts, rfl, hm1, hms, hcv, hLI, hdn, n1, n2, n3, hul, hcl2, hJ⟩ off F₁ N₁
        rw [if2 hm1 hms] at F₁
        have hil : i < pl.length := by rw [← hIw.length]; exact (List.getElem?_eq_some_iff.mp hv).1
        have hg : pl[i]? = some pl[i] := List.getElem?_eq_getElem hil
        have hdrop : pl.drop i = pl[i] :: pl.drop (i + 1) := List.drop_eq_getElem_cons hil
        generalize pl[i] = x at *
        obtain ⟨tt, hx⟩ := hIw.get i x hg
        rw [hx] at hv
        obtain rfl := Option.some.inj hv
        rw [hdrop] at hJ
        have i1 : @Ne Nat R I := off _ (.head _)
        have i2 : @Ne Nat cur I := off _ (.tail _ (.head _))
        have i3 : @Ne Nat P I := off _ (.tail _ (.tail _ (.head _)))
        have d1 : ∀ p ∈ dn, p.1 ≠ cur := fun p hp => (hdn p hp).2.1
        have d2 : ∀ p ∈ dn, p.1 ≠ R := fun p hp => (hdn p hp).1
        have hul2 : us.length ≤ 1000 := by omega
        have hcl3 : cv.length ≤ 1000 := by omega
        have d3 : ∀ p ∈ dn, p.1 ≠ I := fun p hp => off p (.tail _ (.tail _ (.tail _ hp)))
        clear F6 N6
        k_steps
        · rename Fr s.heap L _ _ => F7
          rename News s.heap L _ _ => N7
          exact rj_add F7 N7 rfl rfl hcv hLI hdn n1 n2 n3 hul hcl2 (by rw [← hJ, List.map_cons, List.cons_append]; congr 3; simp [figE, *]) i1 i2 i3 d3
        · rename Fr s.heap L _ _ => F7
          rename News s.heap L _ _ => N7
          exact rj_add F7 N7 rfl rfl hcv hLI hdn n1 n2 n3 hul hcl2 (by rw [← hJ, List.map_cons, List.cons_append]; congr 3; simp [figE, *]) i1 i2 i3 d3
        · rename Fr s.heap L _ _ => F7
          rename News s.heap L _ _ => N7
          exact rj_new F7 N7 (by assumption) rfl rfl hcv hLI hdn n1 n2 n3 hul hcl2 (by rw [← hJ, List.map_cons, List.cons_append]; congr 3; simp [figE, *]; omega) i1 i2 i3 d3
        · rename Fr s.heap L _ _ => F7
          rename News s.heap L _ _ => N7
          exact rj_new F7 N7 (by assumption) rfl rfl hcv hLI hdn n1 n2 n3 hul hcl2 (by rw [← hJ, List.map_cons, List.cons_append]; congr 3; simp [figE, *]; omega) i1 i2 i3 d3
      · clear F6 N6
        rintro h tk m' news' ⟨us, nn, cur, cv, cn, dn, rd, cr, ts, rfl, hm1, hms, hcv, hLI, hdn, n1, n2, n3, hul, hcl2, hJ⟩ F₁ N₁
        rw [if2 hm1 hms] at F₁
        rw [List.drop_eq_nil_of_le (by rw [hIw.length]; exact Nat.le_refl _), List.map_nil, List.nil_append] at hJ
        k_steps
        refine Stop.go (For_mine ?_)
        k_steps
        rename Fr s.heap L _ _ => F7
        rename News s.heap L _ _ => N7
        rename IsRange _ _ _ _ _ _ _ _ => hr2
        have hz : sh = 0 ∨ sh = 1 ∨ sh = 2 := by omega
        refine iter_range (n := sh.toNat) (fun i => RJ R P ws sh (40 + i) (List.replicate (sh.toNat - i) ((61 : Int), true) ++ [((48 : Int), false)]) (runsR (pl.map figE ++ rest) [])) rfl PassesOwn.never hr2 ?_ ?_ F7 N7 ?_ ?_ ?_
        · rcases hz with rfl | rfl | rfl <;> rfl
        · rcases hz with rfl | rfl | rfl <;> rfl
        · exact ⟨us, nn, cur, cv, cn, dn, rd, cr, ts, rfl, rfl, rfl, hcv, hLI, hdn, n1, n2, n3, by rw [hIw.length] at hul; omega, by rw [hIw.length] at hcl2; omega, by rw [← hJ, ← hrest]; rfl⟩
        · clear F7 N7 hm1 hms hcv hLI hdn n1 n2 n3 hul hcl2 hJ
          rintro I oI i t m₁ news₁ h tk hc hi ⟨us, nn, cur, cv, cn, dn, rd, cr, ts, rfl, hm1, hms, hcv, hLI, hdn, n1, n2, n3, hul, hcl2, hJ⟩ off F₁ N₁
          rw [if2 hm1 hms] at F₁
          have i1 : @Ne Nat R I := off _ (.head _)
          have i2 : @Ne Nat cur I := off _ (.tail _ (.head _))
          have i3 : @Ne Nat P I := off _ (.tail _ (.tail _ (.head _)))
          have d1 : ∀ p ∈ dn, p.1 ≠ cur := fun p hp => (hdn p hp).2.1
          have d2 : ∀ p ∈ dn, p.1 ≠ R := fun p hp => (hdn p hp).1
          have hul2 : us.length ≤ 1000 := by omega
          have hcl3 : cv.length ≤ 1000 := by omega
          have d3 : ∀ p ∈ dn, p.1 ≠ I := fun p hp => off p (.tail _ (.tail _ (.tail _ hp)))
          k_steps
          rename Fr s.heap L _ _ => F7
          rename News s.heap L _ _ => N7
          exact rj_new (i := 40 + i) F7 N7 (by assumption) rfl rfl hcv hLI hdn n1 n2 n3 hul hcl2 (by rw [← hJ, show sh.toNat - i = (sh.toNat - (i + 1)) + 1 by omega, List.replicate_succ]; rfl) i1 i2 i3 d3
        · clear F7 N7 hm1 hms hcv hLI hdn n1 n2 n3 hul hcl2 hJ
          rintro h tk m' news' ⟨us, nn, cur, cv, cn, dn, rd, cr, ts, rfl, hm1, hms, hcv, hLI, hdn, n1, n2, n3, hul, hcl2, hJ⟩ F₁ N₁
          rw [if2 hm1 hms] at F₁
          rw [Nat.sub_self] at hJ
          have d1 : ∀ p ∈ dn, p.1 ≠ cur := fun p hp => (hdn p hp).2.1
          have d2 : ∀ p ∈ dn, p.1 ≠ R := fun p hp => (hdn p hp).1
          have hul2 : us.length ≤ 1000 := by omega
          have hcl3 : cv.length ≤ 1000 := by omega
          k_steps
          rename Fr s.heap L _ _ => F7
          rename News s.heap L _ _ => N7
          rw [List.replicate_zero, List.nil_append, runsR, if_neg (by decide), runsR] at hJ
          generalize hall : runsR (pl.map figE ++ rest) [] = all at *
          obtain ⟨us2, hR2, hL2⟩ := runs_end N7 hcv hLI hJ
          have XB := X.keeps F7.keep
          have TB := T.keeps F7.keep
          have hac2 : us2.length ≤ 31 := by rw [hL2.1]; omega
          clear hcv hLI hJ hdn d1 d2 hul hcl2 hul2 hcl3 hm1 hms n1 n2 n3
          refine Stop.go (Comp_mine (cl := []) rfl rfl (by decide) ?_)
          k_steps
          refine comp_list (vs := us2) (fun i ys news => PairsIn news ys ((all.map pairR).take i)) rfl hR2 (by decide) rfl (by rw [sizeLine_eq]; omega) rfl ⟨rfl, fun j v r h => by simp at h⟩ ?_ ?_
          · clear F7
            rintro C D I oI i v ys m₂ news₁ h tk E' hv hJ hyl hDI off F4 N4
            have hi : i < all.length := by rw [← hL2.1]; exact (List.getElem?_eq_some_iff.mp hv).1
            have hg : all[i]? = some all[i] := List.getElem?_eq_getElem hi
            have hbi := hab all[i] (List.getElem_mem _)
            generalize all[i] = r at *
            obtain ⟨a, rvs, rfl, hra, hrI⟩ := hL2.2 i v r hv hg
            dsimp only at F4 N4
            have hra4 : Heap.IsList _ a rvs.toArray := hra
            clear hra
            rename News s.heap L _ _ => N7
            clear N7
            have hrl : rvs.length ≤ 31 := by rw [hrI.length]; have := hbi.2; simp only [List.length_nil] at this; omega
            k_steps
            refine Stop.go (Comp_mine (cl := []) rfl rfl (by decide) ?_)
            k_steps
            rename IntsAre _ r.reverse => hI5
            rename_i _ D5 ws5 h5 F5 N5 _ l5
            refine Stop.go ?_
            refine comp_enum (vs := ws5) (fun i ys news => news = [] ∧ IntsAre ys ((terms 64 0 r.reverse).take i)) rfl ⟨_, N5.get (.head _), rfl, _, rfl⟩ (by decide) rfl (by rw [hI5.length]; simp [sizeLine_eq]; rw [hrI.length] at hrl; omega) rfl rfl ⟨rfl, .nil⟩ ?_ ?_
            · rintro C2 D2 e it oe oi i2 t v ys2 m₃ news₂ h6 tk6 E2 hv2 ⟨rfl, hJ2⟩ hyl2 hDe hDi off2 F6 N6
              have hi2 : i2 < r.reverse.length := by rw [← hI5.length]; exact (List.getElem?_eq_some_iff.mp hv2).1
              have hg2 : r.reverse[i2]? = some r.reverse[i2] := List.getElem?_eq_getElem hi2
              have hbi2 := hbi.1 r.reverse[i2] (by rw [← List.mem_reverse]; exact List.getElem_mem _)
              generalize r.reverse[i2] = x at *
              obtain ⟨tt, hx⟩ := hI5.get i2 x hg2
              rw [hx] at hv2
              obtain rfl := Option.some.inj hv2
              have hmul : IntMulOk x (64 ^ (i2 : Int).toNat) := IntMulOk.of_left (intBits_le_iff.mpr (by omega))
              have hi3 : i2 ≤ 40 := by rw [List.length_reverse, ← hrI.length] at hi2; omega
              clear F5 N5 hR2 hL2 XB TB
              k_steps
              refine ⟨_, _, _, [], rfl, F6, N6, (fun _ h => nomatch h), rfl, ?_⟩
              have ht := terms_get 64 r.reverse 0 i2 x hg2
              rw [take_snoc ht, Nat.zero_add]
              exact hJ2.append (.cons _ _ .nil)
            · refine done_none fun D6 ys6 news6 h6 tk6 hJ6 hn6 k6 hD6 hDg6 hnw6 => ?_
              obtain ⟨rfl, hys⟩ := hJ6
              rw [hI5.length, ← terms_len 64 r.reverse 0, List.take_length] at hys
              have F6 := F5.keeps k6
              have N6 := news_add F5 N5 k6 hD6 hDg6
              clear F5 N5
              k_steps
              rename Fr _ C _ _ => F7
              refine len_list (Fr.lst F7 hra4) ?_ ?_
              · simp; omega
              k_steps
              rename_i D8 h8 F8 N8 l8
              have e8 : ((rvs.toArray.size : Nat) : Int) = (r.length : Int) := by simp [hrI.length]
              rw [e8] at N8
              have hg3 : (all.map pairR)[i]? = some ((terms 64 0 r.reverse).sum, (r.length : Int)) := by rw [List.getElem?_map, hg]; rfl
              exact elt_fin F8 N8 l8 off hJ hg3
          · refine done_none fun D6 ys6 news6 h6 tk6 hJ6 hn6 k6 hD6 hDg6 hnw6 => ?_
            rename Fr s.heap L _ _ => F7
            have hfresh : ∀ b, _ → s.heap.get? b = none := fun b (hb : Heap.get? _ b = none) => by
              cases q : s.heap.get? b with
              | none => rfl
              | some o => have := F7.keep _ _ q; rw [hb] at this; cases this
            have hdone : ∀ tk, Q (.ref D6) { s with heap := h6, toks := tk } := fun tk => by
              refine hret D6 ys6 _ news6 h6 tk (fun b o e => k6 b o (F7.keep b o e)) (hfresh _ hD6) hDg6 (fun p hp => ⟨(hnw6 p hp).1, hfresh _ (hnw6 p hp).2.1⟩) ?_
              rw [hout]
              rw [List.take_of_length_le (by rw [List.length_map, hL2.1]; exact Nat.le_refl _)] at hJ6
              exact hJ6
            have F8 := F7.keeps k6
            clear F7
            k_steps
            exact hdone _
end Mine
namespace Mine
theorem offP0 : True := by
  w_top off
  exact trivial
end Mine
open PySem PySem.W PyProof.Rows PySem.Calls
set_option Elab.async false
set_option linter.unusedVariables false
namespace Mine
/-- the value of a row of figures -/
def valB (b : Int) : List Int → Int
  | [] => 0
  | x :: r => x * b ^ r.length + valB b r
theorem terms_shift (b : Int) : ∀ (l : List Int) (k : Nat), (terms b (k + 1) l).sum = b * (terms b k l).sum
  | [], k => by simp [terms]
  | x :: r, k => by
    rw [terms, terms, List.sum_cons, List.sum_cons, terms_shift b r (k + 1), Int.mul_add, Int.pow_succ]
    congr 1
    rw [Int.mul_comm (b ^ k) b, ← Int.mul_assoc, ← Int.mul_assoc, Int.mul_comm x b]
theorem terms_app (b : Int) : ∀ (l m : List Int) (k : Nat), (terms b k (l ++ m)).sum = (terms b k l).sum + (terms b (k + l.length) m).sum
  | [], m, k => by simp [terms]
  | x :: r, m, k => by
    rw [List.cons_append, terms, terms, List.sum_cons, List.sum_cons, terms_app b r m (k + 1), List.length_cons, Int.add_assoc]
    congr 3
    congr 1
    omega
theorem terms_val (b : Int) : ∀ r : List Int, (terms b 0 r.reverse).sum = valB b r
  | [] => rfl
  | x :: r => by
    rw [List.reverse_cons, terms_app, terms_val b r, valB, Int.add_comm]
    congr 1
    simp [terms]
theorem pairR_eq (r : List Int) : pairR r = (valB 64 r, (r.length : Int)) := by rw [pairR, terms_val]
theorem val_app (b : Int) : ∀ p q : List Int, valB b (p ++ q) = valB b p * b ^ q.length + valB b q
  | [], q => by simp [valB]
  | x :: p, q => by
    rw [List.cons_append, valB, valB, val_app b p q, List.length_append, Int.pow_add, Int.add_mul, Int.mul_assoc, Int.add_assoc]
theorem val_snoc (b : Int) (p : List Int) (f : Int) : valB b (p ++ [f]) = valB b p * b + f := by
  rw [val_app]; simp [valB, Int.pow_one]
def Figs (b : Int) (r : List Int) : Prop := ∀ x ∈ r, 0 ≤ x ∧ x < b
theorem val_in {b : Int} (hb : 0 < b) : ∀ {r : List Int}, Figs b r → 0 ≤ valB b r ∧ valB b r < b ^ r.length
  | [], _ => by simp [valB]
  | x :: r, h => by
    have hx := h x List.mem_cons_self
    have ih := val_in hb (r := r) fun y hy => h y (List.mem_cons_of_mem _ hy)
    have hp : 0 < b ^ r.length := Int.pow_pos hb
    rw [valB, List.length_cons, Int.pow_succ]
    have h1 : 0 ≤ x * b ^ r.length := Int.mul_nonneg hx.1 (Int.le_of_lt hp)
    have h2 : (x + 1) * b ^ r.length ≤ b * b ^ r.length := Int.mul_le_mul_of_nonneg_right (by omega) (Int.le_of_lt hp)
    rw [Int.add_mul, Int.one_mul] at h2
    rw [Int.mul_comm (b ^ r.length) b]
    omega
theorem Figs.app {b : Int} {p q : List Int} (h : Figs b p) (h' : Figs b q) : Figs b (p ++ q) := fun x hx => by
  rcases List.mem_append.mp hx with hx | hx
  · exact h x hx
  · exact h' x hx
theorem Figs.drop {b : Int} {p : List Int} (h : Figs b p) (n : Nat) : Figs b (p.drop n) := fun x hx => h x (List.mem_of_mem_drop hx)
theorem Figs.one {b x : Int} (h0 : 0 ≤ x) (h1 : x < b) : Figs b [x] := fun y hy => by rw [List.mem_singleton.mp hy]; exact ⟨h0, h1⟩
theorem Figs.nil {b : Int} : Figs b [] := fun _ h => nomatch h
theorem mod_val {p q : List Int} (h : Figs 64 q) : (valB 64 (p ++ q)).fmod (64 ^ q.length) = valB 64 q := by
  have hv := val_in (by decide) h
  rw [val_app, Int.fmod_eq_emod_of_nonneg _ (by omega), Int.add_comm, Int.add_mul_emod_self_right, Int.emod_eq_of_lt hv.1 hv.2]
theorem mod_drop {r : List Int} (h : Figs 64 r) {st : Nat} (hs : st ≤ r.length) : (valB 64 r).fmod (64 ^ ((r.length : Int) - (st : Int)).toNat) = valB 64 (r.drop st) := by
  have e : ((r.length : Int) - (st : Int)).toNat = (r.drop st).length := by rw [List.length_drop]; omega
  rw [e]
  have := mod_val (p := r.take st) (h.drop st)
  rwa [List.take_append_drop] at this

/-- a sign that ends a number -/
def ends (x : Int) : Bool := !decide ((x.fdiv 64).fmod 2 = 1)
def fig (x : Int) : Int := x.fmod 64
theorem fig_in (x : Int) : 0 ≤ fig x ∧ fig x < 64 := ⟨Int.fmod_nonneg_of_pos _ (by decide), Int.fmod_lt_of_pos _ (by decide)⟩
def rn (t : Bool) : List Int → List Int → List (List Int)
  | [], acc => if t then [acc ++ [48]] else []
  | x :: r, acc => if ends x then (acc ++ [fig x]) :: rn t r [] else rn t r (acc ++ [fig x])
def tailOf (t : Bool) : List Int := if t then [48] else []
theorem told_rn (t : Bool) : ∀ (xs acc : List Int) (n : Nat), xs.length + (tailOf t).length ≤ n →
    (match runV (xs ++ tailOf t) (valB 64 acc) with | none => [] | some (v, r) => v :: toldF n r) = (rn t xs acc).map (valB 64)
  | [], acc, n, hn => by
    cases t with
    | false => rfl
    | true =>
      show (match runV [48] (valB 64 acc) with | none => [] | some (v, r) => v :: toldF n r) = [valB 64 (acc ++ [48])]
      rw [runV, if_neg (by decide), val_snoc]
      try dsimp only
      cases n with
      | zero => rfl
      | succ n => rfl
  | x :: xs, acc, n, hn => by
    rw [List.cons_append, runV, rn]
    by_cases hx : (x.fdiv 64).fmod 2 = 1
    · rw [if_pos hx, if_neg (by simp [ends, hx])]
      have := told_rn t xs (acc ++ [fig x]) n (by rw [List.length_cons] at hn; omega)
      rw [val_snoc] at this
      exact this
    · rw [if_neg hx, if_pos (by simp [ends, hx])]
      try dsimp only
      rw [List.map_cons, val_snoc]
      congr 1
      cases n with
      | zero => rw [List.length_cons] at hn; omega
      | succ n => exact told_rn t xs [] n (by rw [List.length_cons] at hn; omega)
theorem told_eq (t : Bool) (xs : List Int) (n : Nat) (hn : xs.length + (tailOf t).length < n) : toldF n (xs ++ tailOf t) = (rn t xs []).map (valB 64) := by
  cases n with
  | zero => omega
  | succ n => exact told_rn t xs [] n (by omega)
theorem from_rn (t : Bool) : ∀ (xs acc : List Int) (st : Nat), st ≤ acc.length + xs.length → Figs 64 acc →
    fromL ((rn t xs acc).map pairR) (st : Int) = (rn t (xs.drop (st - acc.length)) (acc.drop st)).map (valB 64)
  | [], acc, st, hst, hA => by
    have hst : st ≤ acc.length := by simpa using hst
    rw [List.drop_nil]
    cases t with
    | false => rfl
    | true =>
      show fromL [pairR (acc ++ [48])] (st : Int) = [valB 64 (acc.drop st ++ [48])]
      rw [pairR_eq, fromL, if_pos (by rw [List.length_append]; simp; omega), mod_drop (hA.app (Figs.one (by decide) (by decide))) (by simp; omega), List.drop_append_of_le_length hst]
      rfl
  | x :: xs, acc, st, hst, hA => by
    have hF : Figs 64 (acc ++ [fig x]) := hA.app (Figs.one (fig_in x).1 (fig_in x).2)
    rw [List.length_cons] at hst
    rw [rn]
    by_cases hx : ends x = true
    · rw [if_pos hx, List.map_cons, pairR_eq, fromL]
      by_cases hs : st ≤ acc.length
      · rw [if_pos (by rw [List.length_append]; simp; omega), mod_drop hF (by simp; omega)]
        have := from_rn t xs [] 0 (by omega) Figs.nil
        rw [show ((0 : Nat) : Int) = 0 from rfl] at this
        rw [this, show st - acc.length = 0 by omega, List.drop_zero, List.drop_zero, rn.eq_2, if_pos hx, List.map_cons, List.drop_append_of_le_length hs]
        simp
      · rw [if_neg (by rw [List.length_append]; simp; omega)]
        have := from_rn t xs [] (st - acc.length - 1) (by simp; omega) Figs.nil
        have e : (st : Int) - ((acc ++ [fig x]).length : Int) = ((st - acc.length - 1 : Nat) : Int) := by simp; omega
        rw [e, this]
        have e2 : st - acc.length = (st - acc.length - 1) + 1 := by omega
        rw [List.drop_eq_nil_of_le (as := acc) (by omega)]
        conv => rhs; rw [e2, List.drop_succ_cons]
        simp
    · rw [if_neg hx, from_rn t xs (acc ++ [fig x]) st (by simp; omega) hF]
      congr 1
      by_cases hs : st ≤ acc.length
      · rw [show st - acc.length = 0 by omega, show st - (acc ++ [fig x]).length = 0 by simp; omega, List.drop_zero, List.drop_zero, rn, if_neg hx, List.drop_append_of_le_length hs]
      · have e2 : st - acc.length = (st - (acc ++ [fig x]).length) + 1 := by simp; omega
        rw [e2, List.drop_succ_cons, List.drop_eq_nil_of_le (as := acc) (by omega), List.drop_eq_nil_of_le (as := acc ++ [fig x]) (by simp; omega)]
theorem tell_rn (t : Bool) (xs : List Int) (st : Nat) (hs : st ≤ xs.length) (n : Nat) (hn : (xs.drop st).length + (tailOf t).length < n) : toldF n (xs.drop st ++ tailOf t) = fromL ((rn t xs []).map pairR) (st : Int) := by
  rw [told_eq t _ n hn, from_rn t xs [] st (by simpa using hs) Figs.nil]
  simp
theorem rn_ne : ∀ xs acc, rn true xs acc ≠ []
  | [], acc => by simp [rn]
  | x :: xs, acc => by
    rw [rn]; split
    · simp
    · exact rn_ne xs _
theorem rn_last : ∀ xs acc, (rn true xs acc).dropLast = rn false xs acc
  | [], acc => rfl
  | x :: xs, acc => by
    rw [rn, rn]; split
    · rw [List.dropLast_cons_of_ne_nil (rn_ne xs []), rn_last xs []]
    · exact rn_last xs _
def spl (x : Int) : Int × Bool := (fig x, ends x)
theorem runsR_rn : ∀ xs acc, runsR (xs.map spl ++ [((48 : Int), false)]) acc = rn true xs acc
  | [], acc => rfl
  | x :: xs, acc => by
    rw [List.map_cons, List.cons_append, rn, spl, runsR]
    by_cases hx : ends x = true
    · rw [if_pos hx, if_pos hx, runsR_rn xs []]
    · rw [if_neg hx, if_neg hx, runsR_rn xs _]
/-- the sizes -/
theorem rn_ok (t : Bool) : ∀ xs acc, Figs 64 acc → (∀ r ∈ rn t xs acc, 1 ≤ r.length ∧ r.length ≤ acc.length + xs.length + 1 ∧ Figs 64 r) ∧ (rn t xs acc).length ≤ xs.length + 1
  | [], acc, hA => by
    cases t with
    | false => exact ⟨fun r h => by simp [rn] at h, by simp [rn]⟩
    | true =>
      refine ⟨fun r h => ?_, by simp [rn]⟩
      have : r = acc ++ [48] := by simpa [rn] using h
      subst this
      exact ⟨by simp, by simp, hA.app (Figs.one (by decide) (by decide))⟩
  | x :: xs, acc, hA => by
    have hF : Figs 64 (acc ++ [fig x]) := hA.app (Figs.one (fig_in x).1 (fig_in x).2)
    rw [rn]
    split
    · have ih := rn_ok t xs [] Figs.nil
      refine ⟨fun r h => ?_, by rw [List.length_cons, List.length_cons]; omega⟩
      rcases List.mem_cons.mp h with rfl | h
      · refine ⟨by simp, ?_, hF⟩
        simp
      · have := ih.1 r h
        refine ⟨this.1, ?_, this.2.2⟩
        have h2 := this.2.1
        simp at h2 ⊢; omega
    · have ih := rn_ok t xs _ hF
      refine ⟨fun r h => ?_, by rw [List.length_cons]; omega⟩
      have := ih.1 r h
      refine ⟨this.1, ?_, this.2.2⟩
      have h2 := this.2.1
      simp at h2 ⊢; omega
/-- the joining -/
def Sgn (x : Int) : Prop := (ends x = false ∧ x ≠ 43 ∧ x ≠ 47) ∨ (ends x = true ∧ 0 ≤ x ∧ x < 64)
theorem fig_small {x : Int} (h0 : 0 ≤ x) (h1 : x < 64) : fig x = x := by unfold fig; rw [Int.fmod_eq_emod_of_nonneg _ (by decide)]; omega
theorem join_rn (a b : Int) : ∀ (xs acc pre : List Int), (∀ x ∈ xs, Sgn x) → Figs 64 acc →
    joinL a b ((rn true xs acc).map pairR) (valB 64 pre) (pre.length : Int) = (rn true (xs.map (tr a b)) (pre ++ acc)).map pairR
  | [], acc, pre, _, hA => by
    show joinL a b [pairR (acc ++ [48])] _ _ = [pairR (pre ++ acc ++ [48])]
    rw [pairR_eq, pairR_eq, joinL]
    have e : (valB 64 (acc ++ [48])).fmod 64 = 48 := by rw [val_snoc, Int.fmod_eq_emod_of_nonneg _ (by decide)]; omega
    try dsimp only
    rw [e]
    have e5 : (if (48 : Int) = 43 then a else if (48 : Int) = 47 then b else 48) = 48 := by rw [if_neg (by decide), if_neg (by decide)]
    rw [e5, if_pos (by decide), joinL, List.append_assoc, val_app 64 pre]
    have e6 : (pre.length : Int) + ((acc ++ [48]).length : Int) = ((pre ++ (acc ++ [48])).length : Int) := by simp
    have e7 : ((48 : Int).fmod 64) = 48 := by decide
    have e8 : ((acc ++ [48]).length : Int).toNat = (acc ++ [48]).length := rfl
    rw [e6, e7, e8, Int.sub_add_cancel]
  | x :: xs, acc, pre, hS, hA => by
    have hxs := hS x List.mem_cons_self
    have hr : ∀ y ∈ xs, Sgn y := fun y hy => hS y (List.mem_cons_of_mem _ hy)
    have hF : Figs 64 (acc ++ [fig x]) := hA.app (Figs.one (fig_in x).1 (fig_in x).2)
    rw [List.map_cons, rn, rn]
    rcases hxs with ⟨he, h1, h2⟩ | ⟨he, h0, h1⟩
    · have et : tr a b x = x := by unfold tr; rw [if_neg h1, if_neg h2]
      rw [et, if_neg (by rw [he]; decide), if_neg (by rw [he]; decide), join_rn a b xs _ pre hr hF, List.append_assoc]
    · rw [if_pos he, List.map_cons, pairR_eq, fig_small h0 h1, joinL]
      have e : (valB 64 (acc ++ [x])).fmod 64 = x := by rw [val_snoc, Int.fmod_eq_emod_of_nonneg _ (by decide)]; omega
      try dsimp only
      rw [e]
      have e2 : (if x = 43 then a else if x = 47 then b else x) = tr a b x := rfl
      rw [e2]
      generalize tr a b x = y
      have ev : valB 64 pre * 64 ^ ((acc ++ [x]).length : Int).toNat + valB 64 (acc ++ [x]) - x + y.fmod 64 = valB 64 (pre ++ acc ++ [fig y]) := by
        rw [List.append_assoc, val_app 64 pre, val_snoc, val_snoc]
        have e3 : ((acc ++ [x]).length : Int).toNat = (acc ++ [fig y]).length := by simp
        rw [e3]
        unfold fig
        omega
      have el : (pre.length : Int) + ((acc ++ [x]).length : Int) = ((pre ++ acc ++ [fig y]).length : Int) := by simp
      rw [ev, el]
      have hm : (y.fdiv 64).fmod 2 = 0 ∨ (y.fdiv 64).fmod 2 = 1 := by rw [Int.fmod_eq_emod_of_nonneg _ (by decide)]; omega
      rcases hm with hm | hm
      · rw [if_pos hm, if_pos (by simp [ends, hm]), List.map_cons, pairR_eq]
        congr 1
        exact join_rn a b xs [] [] hr Figs.nil
      · rw [if_neg (by omega), if_neg (by simp [ends, hm])]
        have := join_rn a b xs [] (pre ++ acc ++ [fig y]) hr Figs.nil
        rw [List.append_nil] at this
        exact this
/-- the digits -/
theorem fdv (N : Int) (k : Nat) : N.fdiv (64 ^ k) = N / 64 ^ k := Int.fdiv_eq_ediv_of_nonneg _ (Int.le_of_lt (Int.pow_pos (by decide)))
theorem place_eq (N : Int) (m : Nat) : placeL N m = (List.range m).map fun k => N / 64 ^ k % 64 := by
  unfold placeL
  apply List.map_congr_left
  intro k _
  rw [fdv, Int.fmod_eq_emod_of_nonneg _ (by decide)]
theorem place_add (H T : Int) (i j : Nat) (h0 : 0 ≤ T) (h1 : T < 64 ^ j) : placeL (H * 64 ^ j + T) (j + i) = placeL T j ++ placeL H i := by
  have hp : (0 : Int) < 64 ^ j := Int.pow_pos (by decide)
  rw [place_eq, place_eq, place_eq, List.range_add, List.map_append, List.map_map]
  congr 1
  · apply List.map_congr_left
    intro k hk
    have hk := List.mem_range.mp hk
    have hk0 : (0 : Int) < 64 ^ k := Int.pow_pos (by decide)
    have e : (64 : Int) ^ j = 64 ^ (j - k - 1) * 64 * 64 ^ k := by
      rw [← Int.pow_succ, ← Int.pow_add]
      congr 1; omega
    rw [e, ← Int.mul_assoc, Int.add_comm, Int.add_mul_ediv_right _ _ (by omega), ← Int.mul_assoc, Int.add_mul_emod_self_right]
  · apply List.map_congr_left
    intro k _
    show (H * 64 ^ j + T) / 64 ^ (j + k) % 64 = H / 64 ^ k % 64
    rw [Int.pow_add, ← Int.ediv_ediv_of_nonneg (by omega), Int.add_comm, Int.add_mul_ediv_right _ _ (by omega), Int.ediv_eq_zero_of_lt h0 h1, Int.zero_add]
theorem place4 (H : Int) : placeL H 4 = [H % 64, H / 64 % 64, H / 4096 % 64, H / 262144 % 64] := by
  rw [place_eq]
  simp [List.range_succ]
/-- base64, octet by octet -/
def Oct (ns : List Int) : Prop := ∀ x ∈ ns, 0 ≤ x ∧ x < 256
theorem short3 (a b c : Int) (r : List Int) : shortI (a :: b :: c :: r) = shortI r := by
  unfold shortI
  rw [Int.fmod_eq_emod_of_nonneg _ (by decide), Int.fmod_eq_emod_of_nonneg _ (by decide)]
  simp; omega
def mI (ns : List Int) : Nat := ((4 * (ns.length : Int) + shortI ns).fdiv 3).toNat
theorem short_m (ns : List Int) : 4 * ns.length + (shortI ns).toNat = 3 * mI ns := by
  unfold mI shortI
  rw [Int.fmod_eq_emod_of_nonneg _ (by decide), Int.fdiv_eq_ediv_of_nonneg _ (by decide)]
  omega
theorem mI3 (a b c : Int) (r : List Int) : mI (a :: b :: c :: r) = mI r + 4 := by
  have h1 := short_m (a :: b :: c :: r)
  have h2 := short_m r
  rw [short3] at h1
  simp at h1
  omega
theorem pow_m (ns : List Int) : (256 : Int) ^ ns.length * 4 ^ (shortI ns).toNat = 64 ^ mI ns := by
  rw [show (256 : Int) = 4 ^ 4 by decide, show (64 : Int) = 4 ^ 3 by decide, ← Int.pow_mul, ← Int.pow_mul, ← Int.pow_add, short_m]
theorem num_eq (ns : List Int) : numI ns = valB 256 ns * 4 ^ (shortI ns).toNat := by rw [numI, terms_val]
theorem num_in {ns : List Int} (h : Oct ns) : 0 ≤ numI ns ∧ numI ns < 64 ^ mI ns := by
  have hv := val_in (b := 256) (by decide) h
  have hp : (0 : Int) < 4 ^ (shortI ns).toNat := Int.pow_pos (by decide)
  rw [num_eq, ← pow_m]
  exact ⟨Int.mul_nonneg hv.1 (Int.le_of_lt hp), Int.mul_lt_mul_of_pos_right hv.2 hp⟩
theorem num3 (a b c : Int) (r : List Int) : numI (a :: b :: c :: r) = (a * 65536 + b * 256 + c) * 64 ^ mI r + numI r := by
  rw [num_eq, num_eq, short3, ← pow_m, ← Int.mul_assoc, ← Int.add_mul]
  congr 1
  rw [valB, valB, valB, List.length_cons, List.length_cons, Int.pow_succ, Int.pow_succ]
  generalize (256 : Int) ^ r.length = P
  have e1 : a * (P * 256 * 256) = a * P * 65536 := by rw [Int.mul_assoc P, ← Int.mul_assoc]; rfl
  have e2 : b * (P * 256) = b * P * 256 := by rw [← Int.mul_assoc]
  have e3 : a * 65536 * P = a * P * 65536 := by rw [Int.mul_assoc, Int.mul_comm 65536 P, ← Int.mul_assoc]
  have e4 : b * 256 * P = b * P * 256 := by rw [Int.mul_assoc, Int.mul_comm 256 P, ← Int.mul_assoc]
  rw [Int.add_mul, Int.add_mul, e1, e2, e3, e4]
  omega
theorem plI_eq (ns : List Int) : plI ns = (placeL (numI ns) (mI ns)).reverse := rfl
theorem pl3 {a b c : Int} {r : List Int} (h : Oct (a :: b :: c :: r)) : plI (a :: b :: c :: r) = a / 4 :: (a % 4 * 16 + b / 16) :: (b % 16 * 4 + c / 64) :: c % 64 :: plI r := by
  have ha := h a (by simp)
  have hb := h b (by simp)
  have hc := h c (by simp)
  have hr : Oct r := fun x hx => h x (by simp [hx])
  have hn := num_in hr
  rw [plI_eq, plI_eq, num3, mI3, place_add _ _ _ _ hn.1 hn.2, List.reverse_append, place4]
  simp only [List.reverse_cons, List.reverse_nil, List.nil_append, List.cons_append]
  congr 1
  · omega
  congr 1
  · omega
  congr 1
  · omega
  congr 1
  omega
theorem enc_pl : ∀ (ns : List Int) (lc : Int), Oct ns → enc 0 lc ns = (plI ns).map ch ++ List.replicate (shortI ns).toNat 61
  | [], lc, _ => by
    have : enc 0 lc [] = [] := by rw [enc, if_neg (by decide), if_neg (by decide)]
    rw [this]; rfl
  | [a], lc, h => by
    have ha := h a (by simp)
    have e1 : plI [a] = [a / 4, a % 4 * 16] := by
      have : mI [a] = 2 := by have := short_m [a]; have e : (shortI [a]).toNat = 2 := rfl; rw [e] at this; simp at this; omega
      rw [plI_eq, this, num_eq, place_eq]
      simp [List.range_succ, valB]
      have : (shortI [a]).toNat = 2 := rfl
      rw [this]
      omega
    rw [e1, enc]
    try dsimp only
    rw [if_pos rfl, enc, if_pos rfl]
    have : (shortI [a]).toNat = 2 := rfl
    rw [this]
    have e2 : (lc * 256 + a) % 65536 / 4 % 64 = a / 4 := by omega
    have e3 : (lc * 256 + a) % 65536 % 4 * 16 = a % 4 * 16 := by omega
    rw [e2, e3]
    rfl
  | [a, b], lc, h => by
    have ha := h a (by simp)
    have hb := h b (by simp)
    have e1 : plI [a, b] = [a / 4, a % 4 * 16 + b / 16, b % 16 * 4] := by
      have : mI [a, b] = 3 := by have := short_m [a, b]; have e : (shortI [a, b]).toNat = 1 := rfl; rw [e] at this; simp at this; omega
      rw [plI_eq, this, num_eq, place_eq]
      simp [List.range_succ, valB]
      have : (shortI [a, b]).toNat = 1 := rfl
      rw [this]
      omega
    rw [e1, enc]
    try dsimp only
    rw [if_pos rfl, enc]
    try dsimp only
    rw [if_neg (by decide), if_pos rfl, enc, if_neg (by decide), if_pos rfl]
    have : (shortI [a, b]).toNat = 1 := rfl
    rw [this]
    have e2 : (lc * 256 + a) % 65536 / 4 % 64 = a / 4 := by omega
    have e3 : ((lc * 256 + a) % 65536 * 256 + b) % 65536 / 16 % 64 = a % 4 * 16 + b / 16 := by omega
    have e4 : ((lc * 256 + a) % 65536 * 256 + b) % 65536 % 16 * 4 = b % 16 * 4 := by omega
    rw [e2, e3, e4]
    rfl
  | a :: b :: c :: r, lc, h => by
    have ha := h a (by simp)
    have hb := h b (by simp)
    have hc := h c (by simp)
    have hr : Oct r := fun x hx => h x (by simp [hx])
    rw [pl3 h, short3, enc]
    try dsimp only
    rw [if_pos rfl, enc]
    try dsimp only
    rw [if_neg (by decide), if_pos rfl, enc]
    try dsimp only
    rw [if_neg (by decide), if_neg (by decide), enc_pl r _ hr]
    simp only [List.map_cons, List.cons_append]
    have e2 : (lc * 256 + a) % 65536 / 4 % 64 = a / 4 := by omega
    have e3 : ((lc * 256 + a) % 65536 * 256 + b) % 65536 / 16 % 64 = a % 4 * 16 + b / 16 := by omega
    have e4 : (((lc * 256 + a) % 65536 * 256 + b) % 65536 * 256 + c) % 65536 / 64 % 64 = b % 16 * 4 + c / 64 := by omega
    have e5 : (((lc * 256 + a) % 65536 * 256 + b) % 65536 * 256 + c) % 65536 % 64 = c % 64 := by omega
    rw [e2, e3, e4, e5]
theorem ch_spl : ∀ k : Nat, k < 64 → spl (ch (k : Int)) = figE (k : Int) ∧ ((ends (ch (k : Int)) = false ∧ ch (k : Int) ≠ 43 ∧ ch (k : Int) ≠ 47) ∨ (ends (ch (k : Int)) = true ∧ 0 ≤ ch (k : Int) ∧ ch (k : Int) < 64)) := by decide +kernel
theorem pl_in {ns : List Int} : ∀ x ∈ plI ns, 0 ≤ x ∧ x < 64 := fun x hx => by
  rw [plI_eq, place_eq, List.mem_reverse] at hx
  obtain ⟨k, _, rfl⟩ := List.mem_map.mp hx
  omega
theorem ch_spl' {x : Int} (h : 0 ≤ x ∧ x < 64) : spl (ch x) = figE x ∧ Sgn (ch x) := by
  have := ch_spl x.toNat (by omega)
  rw [Int.toNat_of_nonneg h.1] at this
  exact this
theorem figs_enc {ns : List Int} (h : Oct ns) : figsI ns = (enc 0 0 ns).map spl ++ [((48 : Int), false)] := by
  rw [enc_pl ns 0 h, figsI, List.map_append, List.append_assoc, List.map_map, List.map_replicate]
  congr 1
  exact List.map_congr_left fun x hx => (ch_spl' (pl_in x hx)).1.symm
theorem sgn_enc {ns : List Int} (h : Oct ns) : ∀ x ∈ enc 0 0 ns, Sgn x := fun x hx => by
  rw [enc_pl ns 0 h] at hx
  rcases List.mem_append.mp hx with hx | hx
  · obtain ⟨y, hy, rfl⟩ := List.mem_map.mp hx
    exact (ch_spl' (pl_in y hy)).2
  · rw [List.eq_of_mem_replicate hx]
    exact .inr ⟨by decide, by decide, by decide⟩
theorem runsOut_rn {ns : List Int} (h : Oct ns) : runsOut ns = (rn true (enc 0 0 ns) []).map pairR := by rw [runsOut, figs_enc h, runsR_rn]
theorem joinL_rn {ns : List Int} (a b : Int) (h : Oct ns) : joinL a b (runsOut ns) 0 0 = (rn true ((enc 0 0 ns).map (tr a b)) []).map pairR := by
  rw [runsOut_rn h]
  exact join_rn a b (enc 0 0 ns) [] [] (sgn_enc h) Figs.nil
theorem runsOut_ok {ns : List Int} (hb : ∀ x ∈ ns, 0 ≤ x ∧ x < 256) (hn : ns.length ≤ 12) :
    (∀ p ∈ runsOut ns, 1 ≤ p.2 ∧ p.2 ≤ 32 ∧ 0 ≤ p.1 ∧ p.1 < 64 ^ p.2.toNat) ∧ (runsOut ns).length ≤ 32 := by
  rw [runsOut_rn hb]
  have hl := enc_len ns 0 0
  have ok := rn_ok true (enc 0 0 ns) [] Figs.nil
  refine ⟨fun p hp => ?_, by rw [List.length_map]; omega⟩
  obtain ⟨r, hr, rfl⟩ := List.mem_map.mp hp
  obtain ⟨h1, h2, h3⟩ := ok.1 r hr
  have hv := val_in (by decide) h3
  simp only [List.length_nil] at h2
  rw [pairR_eq]
  exact ⟨by show (1 : Int) ≤ (r.length : Int); omega, by show (r.length : Int) ≤ 32; omega, hv.1, hv.2⟩
theorem joinL_ok {ns : List Int} (a b : Int) (hb : ∀ x ∈ ns, 0 ≤ x ∧ x < 256) (hn : ns.length ≤ 12) :
    (∀ p ∈ joinL a b (runsOut ns) 0 0, 0 ≤ p.2 ∧ p.2 ≤ 64) ∧ (joinL a b (runsOut ns) 0 0).length ≤ 64 := by
  rw [joinL_rn a b hb]
  have hl := enc_len ns 0 0
  have ok := rn_ok true ((enc 0 0 ns).map (tr a b)) [] Figs.nil
  rw [List.length_map] at ok
  refine ⟨fun p hp => ?_, by rw [List.length_map]; omega⟩
  obtain ⟨r, hr, rfl⟩ := List.mem_map.mp hp
  obtain ⟨h1, h2, h3⟩ := ok.1 r hr
  simp only [List.length_nil] at h2
  rw [pairR_eq]
  exact ⟨by show (0 : Int) ≤ (r.length : Int); omega, by show (r.length : Int) ≤ 64; omega⟩
theorem tell_both (xs : List Int) (st : Nat) (hs : st ≤ xs.length) :
    toldF ((xs.drop st).length + 1) (xs.drop st) = fromL ((rn true xs []).map pairR).dropLast (st : Int) ∧
    toldF ((xs.drop st ++ [48]).length + 1) (xs.drop st ++ [48]) = fromL ((rn true xs []).map pairR) (st : Int) := by
  refine ⟨?_, tell_rn true xs st hs _ (by simp [tailOf])⟩
  rw [← List.map_dropLast, rn_last]
  have := tell_rn false xs st hs ((xs.drop st).length + 1) (by simp [tailOf])
  rw [← this]
  simp [tailOf]
theorem plain_tell {ns : List Int} (hb : ∀ x ∈ ns, 0 ≤ x ∧ x < 256) (hn : ns.length ≤ 12) (st : Nat) (hs : st ≤ (enc 0 0 ns).length) :
    toldF (((enc 0 0 ns).drop st).length + 1) ((enc 0 0 ns).drop st) = fromL (runsOut ns).dropLast (st : Int) ∧
    toldF (((enc 0 0 ns).drop st ++ [48]).length + 1) ((enc 0 0 ns).drop st ++ [48]) = fromL (runsOut ns) (st : Int) := by
  rw [runsOut_rn hb]
  exact tell_both _ st hs
theorem other_tell {ns : List Int} {a b : Int} (ha : 0 ≤ a ∧ a < 256) (hb' : 0 ≤ b ∧ b < 256) (hb : ∀ x ∈ ns, 0 ≤ x ∧ x < 256) (hn : ns.length ≤ 12) (st : Nat) (hs : st ≤ (enc 0 0 ns).length) :
    toldF ((((enc 0 0 ns).map (tr a b)).drop st).length + 1) (((enc 0 0 ns).map (tr a b)).drop st) = fromL (joinL a b (runsOut ns) 0 0).dropLast (st : Int) ∧
    toldF ((((enc 0 0 ns).map (tr a b)).drop st ++ [48]).length + 1) (((enc 0 0 ns).map (tr a b)).drop st ++ [48]) = fromL (joinL a b (runsOut ns) 0 0) (st : Int) := by
  rw [joinL_rn a b hb]
  exact tell_both _ st (by rw [List.length_map]; exact hs)
end Mine
namespace Mine
theorem offL0 : True := by
  w_top off
  exact trivial
end Mine
open PySem PySem.W PyProof.Rows PySem.Calls
set_option Elab.async false
namespace Mine
theorem pick_from (vs : List Value) (a : Nat) (h : a ≤ vs.length) : (slicePick vs.toArray (some (a : Int)) none none).toList = vs.drop a := by
  have e : sliceBounds (some (a : Int)) none none vs.toArray.size = ((a : Int), (vs.length : Int), 1) := by
    simp only [sliceBounds, Option.getD_none, show (1 : Int) > 0 by decide, if_true, if_neg (show ¬ ((a : Int) < 0) by omega), List.size_toArray]
    congr 1
    omega
  rw [kmk_pick_nat _ e]
  show (vs.drop a).take (vs.length - a) = _
  rw [List.take_of_length_le (by rw [List.length_drop]; exact Nat.le_refl _)]
theorem pick_last (vs : List Value) : (slicePick vs.toArray none (some (-1)) none).toList = vs.dropLast := by
  have e : sliceBounds none (some (-1)) none vs.toArray.size = (((0 : Nat) : Int), ((vs.length - 1 : Nat) : Int), 1) := by
    simp only [sliceBounds, Option.getD_none, show (1 : Int) > 0 by decide, if_true, if_pos (show ((-1 : Int) < 0) by decide), List.size_toArray]
    congr 1
    congr 1
    omega
  rw [kmk_pick_nat _ e]
  show (vs.drop 0).take (vs.length - 1 - 0) = _
  rw [List.drop_zero, Nat.sub_zero, List.dropLast_eq_take]
section
variable {prog : Program} {w : World} {A : Around} {E : Value → Shared → Prop} {s : Shared} {h₀ : Heap} {L l : Addr} {m : Str → Option Value} {news : List (Addr × Obj)} {value slice : Expr} {vs : List Value} {ns : List Int} {Q : Value → Shared → Prop}
theorem slice_from {a : Nat} {t : Tok} (F : Fr h₀ L s.heap m) (N : News h₀ L s.heap news) (hl : s.heap.IsList l vs.toArray) (hI : IntsAre vs ns) (ha : a ≤ ns.length) (hn : ns.length ≤ 1000)
    (h : ∀ D h' ws, Fr h₀ L h' m → News h₀ L h' ((D, W.listOf ws.toArray 0) :: news) → (∀ p ∈ news, p.1 < D) → IntsAre ws (ns.drop a) → Q (.ref D) { s with heap := h' })
    (hs : subscripted slice false (.ref l) (.ref s.heap.objs.size) = operate [.ref s.heap.objs.size, .ref l] (getItem (.ref l) (.ref s.heap.objs.size))) (ht : ∀ r, letTemporaryGo value (.ref l) r = pure ()) :
    wpAny (model prog w) A (subscriptTail value slice (.ref l) (.ref s.heap.objs.size)) Q E { s with heap := s.heap.push { cls := .type "slice", data := .fields #[.int (a : Int) t, .none, .none] } } :=
  kmk_slice_lit F N hl (.int _ _) .none (pick_from vs a (by rw [hI.length]; exact ha)) (fun D h' F' N' hlt => h D h' _ F' N' hlt (IntsAre.drop hI a)) hs ht (by rw [List.size_toArray, hI.length, sizeLine_eq]; omega)
theorem slice_last {t : Tok} (F : Fr h₀ L s.heap m) (N : News h₀ L s.heap news) (hl : s.heap.IsList l vs.toArray) (hn : vs.length ≤ 1000)
    (h : ∀ D h', Fr h₀ L h' m → News h₀ L h' ((D, W.listOf vs.dropLast.toArray 0) :: news) → (∀ p ∈ news, p.1 < D) → Q (.ref D) { s with heap := h' })
    (hs : subscripted slice false (.ref l) (.ref s.heap.objs.size) = operate [.ref s.heap.objs.size, .ref l] (getItem (.ref l) (.ref s.heap.objs.size))) (ht : ∀ r, letTemporaryGo value (.ref l) r = pure ()) :
    wpAny (model prog w) A (subscriptTail value slice (.ref l) (.ref s.heap.objs.size)) Q E { s with heap := s.heap.push { cls := .type "slice", data := .fields #[.none, .int (-1) t, .none] } } :=
  kmk_slice_lit F N hl .none (.int _ _) (pick_last vs) h hs ht (by rw [List.size_toArray, sizeLine_eq]; omega)
theorem max_bytes {b : Array UInt8} {t : Tok} (hh : A.handled = none) (hb : 0 < b.size) (hlt : ∀ (i : Nat) c, b[i]? = some c → (c.toNat : Int) < 128)
    (h : ∀ M t' h' tk, M < 128 → (∀ b o, s.heap.get? b = some o → h'.get? b = some o) → Q (.int M t') { s with heap := h', toks := tk }) :
    wpAny (model prog w) A (call (.builtin "max") [.bytes b t]) Q E s := by
  refine call_max_walk (KBw.pyIter_bytes ?_)
  refine ⟨_, _, _, _, _, _, _, rfl, KBw.walks (A := A.in1) hh s.heap.objs.size b t, ⟨_, Heap.get?_push_size _ rfl, rfl, rfl⟩, ?_, hb, CmpOf.ints_gt (fun i => (b[i]?.map (fun c => (c.toNat : Int))).getD 0) ?_, fun v h' tk hP hk => ?_⟩
  · intro c hc
    rw [List.mem_singleton.mp hc]
    show _ < (s.heap.push _).objs.size
    rw [Heap.size_push]; exact Nat.lt_succ_self _
  · rintro i v ⟨c, u, hc, rfl⟩
    exact ⟨u, by simp [hc]⟩
  · obtain ⟨c, u, hc, rfl⟩ := hP
    exact h _ _ _ _ (hlt _ _ hc) fun b o e => hk b o (fun hm => by rw [List.mem_singleton] at hm; exact absurd (hm ▸ Heap.lt_size e) (Nat.lt_irrefl _)) (Heap.get?_push_of_some _ e)
end
theorem pairs_last {h : Heap} {vs : List Value} {ps : List (Int × Int)} (hp : Pairs h vs ps) : Pairs h vs.dropLast ps.dropLast := by
  refine ⟨by rw [List.length_dropLast, List.length_dropLast, hp.1], fun i v p hv hpp => ?_⟩
  rw [List.dropLast_eq_take] at hv hpp
  have h1 : vs[i]? = some v := by
    rw [List.getElem?_take] at hv; split at hv
    · exact hv
    · cases hv
  have h2 : ps[i]? = some p := by
    rw [List.getElem?_take] at hpp; split at hpp
    · exact hpp
    · cases hpp
  exact hp.2 i v p h1 h2
end Mine
namespace Mine
theorem offL00 : True := by
  w_top off
  exact trivial
end Mine
open PySem PySem.W PyProof.Rows PySem.Calls
set_option Elab.async false
namespace Mine
section
variable {prog : Program} {w : World} {A : Around} {E : Value → Shared → Prop} {s : Shared} {env : Env} {h₀ : Heap} {L d : Addr} {m : Str → Option Value} {rest : List (Addr × Obj)} {o : Obj} {Q : Value → Shared → Prop}
theorem dict2 {k1 k2 v1 v2 : Expr} {pos : Pos} (F : Fr h₀ L s.heap m) (N : News h₀ L s.heap rest) (hbig : h₀.NoLimit)
    (h : ∀ (d : Addr) h' o, Fr h₀ L h' m → News h₀ L h' ((d, o) :: rest) → (∀ p ∈ rest, p.1 < d) → (d == sysModules) = false → o.IsDictOf (PySem.intKind prog w) [] →
      wpAny (model prog w) A (eval k1 env) (fun a s1 => wpAny (model prog w) A (eval v1 env) (fun b s2 => wpAny (model prog w) A (eval k2 env) (fun c s3 => wpAny (model prog w) A (eval v2 env)
        (fun e s4 => KdnMade prog w (PySem.intKind prog w) d Q [(a, b), (c, e)] s4) E s3) E s2) E s1) E { s with heap := h' }) :
    wpAny (model prog w) A (eval (.Dict [some k1, some k2] [v1, v2] pos) env) Q E s :=
  kdn_eval (knd := PySem.intKind prog w) F N hbig rfl rfl (List.cons_ne_nil _ _) (Nat.le_of_ble_eq_true rfl) fun d h' o F' N' hlt hm hd =>
    pairTrees_cons_walk (wpAny_mono (h d h' o F' N' hlt hm hd) (fun _ _ h1 => wpAny_mono h1 (fun _ _ h2 => pairTrees_cons_walk (wpAny_mono h2 (fun _ _ h3 => wpAny_mono h3 (fun _ _ h4 => pairTrees_nil_walk h4) fun _ _ e => e) fun _ _ e => e)) fun _ _ e => e) fun _ _ e => e)
theorem made2 {x y : Int} {tx ty : Tok} {v u : Value} (F : Fr h₀ L s.heap m) (N : News h₀ L s.heap ((d, o) :: rest)) (hlt : ∀ p ∈ rest, p.1 < d) (hd : o.IsDictOf (PySem.intKind prog w) []) (hxy : x ≠ y)
    (h : ∀ h' o', Fr h₀ L h' m → News h₀ L h' ((d, o') :: rest) → o'.IsDictOf (PySem.intKind prog w) [(x, v), (y, u)] → Q (.ref d) { s with heap := h', toks := s.toks + 2 }) :
    KdnMade prog w (PySem.intKind prog w) d Q [(.int x tx, v), (.int y ty, u)] s :=
  kdn_made_int F N (.head fun p hp => Nat.ne_of_lt (hlt p hp)) hd rfl (by simp [intKeyPairs, hxy]) h
theorem get2 {a b x : Int} {ta tb t u : Tok} (N : News h₀ L s.heap ((d, o) :: rest)) (hd : o.IsDictOf (PySem.intKind prog w) [(43, .int a ta), (47, .int b tb)]) (lo : (d == sysModules) = false)
    (h : ∀ t', Q (.int (tr a b x) t') { s with toks := s.toks + 1 }) : wpAny (model prog w) A (call (.builtin "dict.get") [.ref d, .int x t, .int x u]) Q E s := by
  refine kdg_get2 N (.head _) hd lo (intKind_is _ _ x t) _ rfl ?_
  unfold tr at h
  by_cases h1 : x = 43
  · subst h1; exact h _
  · by_cases h2 : x = 47
    · subst h2; exact h _
    · rw [if_neg h1, if_neg h2] at h
      have : valueAt [((43 : Int), Value.int a ta), (47, Value.int b tb)] x = none := by
        unfold valueAt
        rw [List.find?_cons_of_neg (by simpa using fun e => h1 e.symm), List.find?_cons_of_neg (by simpa using fun e => h2 e.symm)]; rfl
      rw [this]
      exact h _
end
end Mine
namespace Mine
theorem offL1 : True := by
  w_top off
  exact trivial
end Mine
open PySem PySem.W PyProof.Rows PySem.Calls
set_option Elab.async false
set_option maxRecDepth 100000
set_option maxHeartbeats 4000000
namespace Mine
theorem if1 {m : Str → Option Value} {x : Str} {a : Value} (h1 : m x = some a) : m = fun z => if z = x then some a else m z := by
  funext z
  by_cases e1 : z = x
  · subst e1; simp [h1]
  · simp [e1]
def LawN (s₁ : Shared) (L l : Addr) (s' : Shared) : Prop :=
  ∃ h tk n tn o m, s' = { s₁ with heap := h, toks := tk } ∧ Fr s₁.heap L h m ∧ m (Str.ofString "script") = some (.ref l) ∧ News s₁.heap L h [(L + 1, o)] ∧ o.data = Data.cell (some (.int n tn))
def LawQ (s₁ : Shared) (L l : Addr) (f : Flow) (s' : Shared) : Prop := match f with | .next => LawN s₁ L l s' | _ => False
theorem seq_cutN {M : Model} {A : Around} {st : Stmt} {rest : List Stmt} {env : Env} {Q : Flow → Shared → Prop} {E : Value → Shared → Prop} {s s₁ : Shared} {l : Addr} {its : Array Value} (hL : s₁.heap.IsList l its)
    (h1 : wpAny M A (exec st env) (LawQ s₁ s₁.heap.objs.size l) E s)
    (h2 : ∀ h tk n tn o m, Fr s₁.heap s₁.heap.objs.size h m → m (Str.ofString "script") = some (.ref l) → News s₁.heap s₁.heap.objs.size h [(s₁.heap.objs.size + 1, o)] → o.data = Data.cell (some (.int n tn)) → wpAny M A (execs rest env) Q (fun _ _ => False) { s₁ with heap := h, toks := tk }) :
    wpAny M A (execs (st :: rest) env) Q E s := by
  refine wpAny_execs_cons (wpAny_mono h1 (fun f s' hq => ?_) fun _ _ e => e)
  cases f with
  | next =>
    obtain ⟨h, tk, n, tn, o, m, rfl, F, hm, N, ho⟩ := hq
    exact wpAny_mono (h2 h tk n tn o m F hm N ho) (fun _ _ h => h) (fun _ _ h => h.elim)
  | _ => exact hq.elim

theorem octs_in {sl : List Int} : ∀ x ∈ ([1, 173, 62, 255] : List Int) ++ sl.map (fun x => x.fmod 256), 0 ≤ x ∧ x < 256 := fun x hx => by
  rcases List.mem_append.mp hx with hx | hx
  · simp only [List.mem_cons, List.not_mem_nil, or_false] at hx
    rcases hx with rfl | rfl | rfl | rfl <;> decide
  · obtain ⟨y, _, rfl⟩ := List.mem_map.mp hx
    exact ⟨Int.fmod_nonneg_of_pos _ (by decide), Int.fmod_lt_of_pos _ (by decide)⟩
theorem news_tl {h₀ h h' : Heap} {L D : Addr} {m : Str → Option Value} {o : Obj} {news tl : List (Addr × Obj)} (F : Fr h₀ L h m) (N : News h₀ L h news) (k : ∀ b o, h.get? b = some o → h'.get? b = some o) (hD : h.get? D = none) (hg : h'.get? D = some o)
    (ht : ∀ p ∈ tl, h'.get? p.1 = some p.2 ∧ h.get? p.1 = none) : News h₀ L h' ((D, o) :: (news ++ tl)) := fun p hp => by
  rcases List.mem_cons.mp hp with rfl | hp
  · exact news_add F N k hD hg _ (.head _)
  · rcases List.mem_append.mp hp with hp | hp
    · exact news_keeps N k p hp
    · obtain ⟨a, o⟩ := p
      exact news_add F N k (ht _ hp).2 (ht _ hp).1 _ (.head _)
section
variable {prog : Program} {w : World} {A : Around} {E : Value → Shared → Prop} {s : Shared} {h₀ : Heap} {L : Addr} {m : Str → Option Value} {news : List (Addr × Obj)}
theorem add_ints {l b : Addr} {its its2 : List Value} {ns ms : List Int} {Q : Value → Shared → Prop} (F : Fr h₀ L s.heap m) (N : News h₀ L s.heap news) (hl : s.heap.IsList l its.toArray) (hb : s.heap.IsList b its2.toArray)
    (hi : IntsAre its ns) (hj : IntsAre its2 ms) (hsz : ns.length + ms.length ≤ sizeLine)
    (h : ∀ O h' us, Fr h₀ L h' m → News h₀ L h' ((O, W.listOf us.toArray 0) :: news) → IntsAre us (ns ++ ms) → Q (.ref O) { s with heap := h' }) :
    wpAny (model prog w) A (binaryOp .Add (.ref l) (.ref b)) Q E s :=
  add_arrays_ints F N hl hb hi hj (fun h' F' N' hI => h _ h' _ F' N' hI) hsz
end
theorem pairs_of {h : Heap} {tl : List (Addr × Obj)} {us : List Value} {ps : List (Int × Int)} (hp : PairsIn tl us ps) (ht : ∀ p ∈ tl, h.get? p.1 = some p.2) : Pairs h us ps :=
  ⟨hp.1, fun i v p hv hpp => by
    obtain ⟨T, t, u, n, e, hm⟩ := hp.2 i v p hv hpp
    exact ⟨T, t, u, e, ⟨_, ht _ hm, rfl, n, rfl⟩⟩⟩
theorem PairsIn.mono {tl tl' : List (Addr × Obj)} {us : List Value} {ps : List (Int × Int)} (hp : PairsIn tl us ps) (hs : ∀ p ∈ tl, p ∈ tl') : PairsIn tl' us ps :=
  ⟨hp.1, fun i v p hv hpp => by
    obtain ⟨T, t, u, n, e, hm⟩ := hp.2 i v p hv hpp
    exact ⟨T, t, u, n, e, hs _ hm⟩⟩
def Tells (sg : List Int) (ps : List (Int × Int)) : Prop :=
  (∀ x ∈ sg, 0 ≤ x ∧ x < 256) ∧ sg.length ≤ 40 ∧ ps.length ≤ 64 ∧ (∀ p ∈ ps, 0 ≤ p.2 ∧ p.2 ≤ 64) ∧
  ∀ st, st ≤ sg.length → toldF ((sg.drop st).length + 1) (sg.drop st) = fromL ps.dropLast (st : Int) ∧ toldF ((sg.drop st ++ [48]).length + 1) (sg.drop st ++ [48]) = fromL ps (st : Int)
theorem tells1 {ns : List Int} (hb : ∀ x ∈ ns, 0 ≤ x ∧ x < 256) (hn : ns.length ≤ 12) : Tells (enc 0 0 ns) (runsOut ns) := by
  refine ⟨fun x hx => ?_, ?_, ?_, fun p hp => ?_, fun st hs => plain_tell hb hn st hs⟩
  · have := enc_in ns 0 0 x hx; omega
  · have := enc_len ns 0 0; omega
  · have := (runsOut_ok hb hn).2; omega
  · have := (runsOut_ok hb hn).1 p hp; omega
theorem tells2 {ns : List Int} {a b : Int} (ha : 0 ≤ a ∧ a < 256) (hb' : 0 ≤ b ∧ b < 256) (hb : ∀ x ∈ ns, 0 ≤ x ∧ x < 256) (hn : ns.length ≤ 12) : Tells ((enc 0 0 ns).map (tr a b)) (joinL a b (runsOut ns) 0 0) := by
  refine ⟨fun x hx => ?_, ?_, ?_, fun p hp => ?_, fun st hs => other_tell ha hb' hb hn st (by simpa using hs)⟩
  · obtain ⟨y, hy, rfl⟩ := List.mem_map.mp hx
    have := enc_in ns 0 0 y hy
    unfold tr; split
    · exact ha
    · split
      · exact hb'
      · omega
  · have := enc_len ns 0 0; simp; omega
  · have := (joinL_ok a b hb hn).2; omega
  · exact (joinL_ok a b hb hn).1 p hp
def RowIs (fx tls : List (Addr × Obj)) (v : Value) : Prop :=
  ∃ Ti sg tg Xa uX nX ps, v = Value.ref Ti ∧ (Ti, tupOf #[.bytes (byteArr sg) tg, .ref Xa] 0) ∈ fx ∧ (Xa, W.listOf uX.toArray nX) ∈ fx ∧ PairsIn tls uX ps ∧ Tells sg ps
theorem two_cases {T1 T2 : Addr} {i : Nat} {v : Value} {P : Value → Prop} (h : [Value.ref T1, Value.ref T2][i]? = some v) (h1 : P (.ref T1)) (h2 : P (.ref T2)) : P v := by
  match i, h with
  | 0, h => simp at h; subst h; exact h1
  | 1, h => simp at h; subst h; exact h2
  | i + 2, h => simp at h
theorem done_store {prog : Program} {w : World} {A : Around} {s : Shared} {n : Nat} {J : List Value → List (Addr × Obj) → Prop} {E : Value → Shared → Prop} {Q : Shared → Prop} {env : Env} {y : Str} {py : Pos} {hb : Heap} {m : Str → Option Value}
    (F₀ : Fr hb env.locals s.heap m) (hy : env.kindOf y = some .local) (hp : (env.scope.kind == .class || (env.scope.kind == .module && env.locals != env.globals)) = false)
    (hQ : ∀ D ys news' h' tk, J ys news' → ys.length = n → (∀ b o, s.heap.get? b = some o → b ≠ env.locals → h'.get? b = some o) → Fr hb env.locals h' (fun z => if z = y then some (.ref D) else m z) → s.heap.get? D = none → h'.get? D = some (LCg.lst ys) →
      (∀ p ∈ news', h'.get? p.1 = some p.2 ∧ s.heap.get? p.1 = none ∧ p.1 ≠ D) → Q { s with heap := h', toks := tk }) :
    Done s n J (compPost (model prog w) A E (some (assign (.Name y py) env)) fun _ s' => Q s') := done_some (Q := fun _ s' => Q s') F₀ hy hp hQ
theorem news_addL {h₀ h h' : Heap} {L D : Addr} {m : Str → Option Value} {o : Obj} {news : List (Addr × Obj)} (F : Fr h₀ L h m) (N : News h₀ L h news) (k : ∀ b o, h.get? b = some o → b ≠ L → h'.get? b = some o) (hD : h.get? D = none) (hg : h'.get? D = some o) :
    News h₀ L h' ((D, o) :: news) := fun p hp => by
  rcases List.mem_cons.mp hp with rfl | hp
  · refine ⟨hg, fun q => ?_, ?_⟩
    · obtain ⟨o, _, _, e, _⟩ := F.ns
      dsimp only at q
      rw [q] at hD
      rw [hD] at e; cases e
    · cases q : h₀.get? D with
      | none => rfl
      | some o => have := F.keep _ _ q; rw [hD] at this; cases this
  · exact ⟨k _ _ (N p hp).1 (N p hp).2.1, (N p hp).2⟩
theorem fr_told {h₀ h h' : Heap} {L : Addr} {m : Str → Option Value} (F : Fr h₀ L h m) (k : ∀ b o, h.get? b = some o → b ≠ L → h'.get? b = some o) (ns : h'.Ns L m) : Fr h₀ L h' m :=
  ⟨ns, fun b o e => k b o (F.keep b o e) (fun q => by have h1 := Heap.lt_size e; have h2 := F.above; subst q; exact absurd h1 (Nat.not_lt.mpr h2)), F.above⟩
theorem told_law {w : World} {p : Program} {loose : List Str} {mean : ExcName → Option Value} {mg mb : Str → Option Value} {env : Env} {A₀ : Around} {base h₀ : Heap} {L : Addr}
    {m : Str → Option Value} {s : Shared} {Q E : Value → Shared → Prop} {sg : Addr} {vs : List Value} {xs : List Int}
    (F : Fr h₀ L s.heap m) (XB : (hd.heap_39 w.params).In base) (TB : Top p loose mean mg mb base) (B : Below A₀ base [] h₀) (hf : env.frame = some L) (hk : env.scope.kind = .function)
    (hl : s.heap.IsList sg vs.toArray) (hI : IntsAre vs xs) (hb : ∀ x ∈ xs, 0 ≤ x ∧ x < 256) (hn : xs.length ≤ 60)
    (ret : ∀ d us nn h' tk, Fr h₀ L h' m → (∀ b o, s.heap.get? b = some o → b ≠ L → h'.get? b = some o) → s.heap.get? d = none → h'.get? d = some (W.listOf us.toArray nn) → IntsAre us (toldF (xs.length + 1) xs) →
      Q (.ref d) { s with heap := h', toks := tk }) :
    wpAny (model Challenge.rw_ny0006_01.row.prog w) (callerA.deeper env) (call (.ref 65) [.ref sg]) Q E s := by
  have := told_c (E := E) B F XB TB hf hk hl hI hb hn fun d us nn h' tk k ns hd hg hI => ret d us nn h' tk (fr_told F k ns) k hd hg hI
  exact this
theorem news_tail {h₀ h : Heap} {L : Addr} {x : Addr × Obj} {l : List (Addr × Obj)} (N : News h₀ L h (x :: l)) : News h₀ L h l := fun p hp => N p (.tail _ hp)
theorem enc_pos : ∀ {ns : List Int}, 0 < ns.length → 0 < (enc 0 0 ns).length
  | [], h => absurd h (Nat.lt_irrefl _)
  | b :: r, _ => by rw [enc]; simp
theorem Comp_cell {prog : Program} {w : World} {A : Around} {s : Shared} {elt target iter : Expr} {scope : Scope} {pos : Pos} {env : Env} {Q E} {x : Str} {c : Addr} {o : Obj} (hc : s.heap.get? c = some o)
    (hclos : closureFor scope env = pure [(x, c)]) (hkind : scope.kind = .function) (hnames : ∀ x ∈ scope.names, x.2 = .local → scope.names.lookup x.1 = some .local)
    (h : wpAny (model prog w) A (eval iter env) (fun xv s₁ => wpAny (model prog w) A (pyIter xv) (CompM prog w A elt target iter scope [(x, c)] pos env E (compPost (model prog w) A E none Q)) E s₁) E s)
    (hs : ∀ x, foldedSetIterable iter env x = pure x := by intro _; rfl) :
    wpAny (model prog w) A (eval (.ListComp elt [⟨target, iter, [], 0⟩] scope pos) env) Q E s := Comp_mine (cl := [(x, c)]) hclos hkind hnames h hs
theorem sg_get {sg : List Int} (hb : ∀ x ∈ sg, 0 ≤ x ∧ x < 256) {i : Nat} {c : UInt8} (h : (byteArr sg)[i]? = some c) : sg[i]? = some (c.toNat : Int) := by
  have e := KBa.ints_make (ns := sg) (fun x hx => by have := hb x hx; omega)
  have e2 : (KBw.bInts (byteArr sg))[i]? = some (c.toNat : Int) := by
    unfold KBw.bInts
    rw [List.getElem?_map]
    have : (byteArr sg).toList[i]? = some c := by simpa using h
    rw [this]; rfl
  rw [← e]; exact e2
theorem sg_size {sg : List Int} : (byteArr sg).size = sg.length := by simp [byteArr]
local macro_rules | `(tactic| walk_at "eval Name") => `(tactic| ((with_reducible show wpAny _ _ (eval (Expr.Name _ _) (compEnvC _ _ _ _)) _ _ _); first
  | refine ldC (by assumption) rfl ?_ rfl rfl (by decide)
  | refine ldCc (by assumption) (by assumption) (by assumption) ?_ rfl rfl rfl (by decide)
  | refine ldCb (by assumption) (by assumption) (by assumption) (by k_is) rfl (by decide) ?_ rfl rfl rfl rfl (by decide)))
local macro_rules | `(tactic| walk_at "eval ListComp") => `(tactic| refine Stop.mk ?_)
local macro_rules | `(tactic| walk_at "exec For") => `(tactic| refine Stop.mk ?_)
local macro_rules | `(tactic| walk_at "exec For Tuple List cons nil") => `(tactic| refine Stop.mk ?_)
local macro_rules | `(tactic| walk_at "exec For Name Call cons nil") => `(tactic| refine Stop.mk ?_)
local macro_rules | `(tactic| walk_at "exec Assign cons ListComp") => `(tactic| refine Stop.mk ?_)
local macro_rules | `(tactic| walk_at "subscriptTail Name Slice ref ref") => `(tactic| ((with_reducible show wpAny _ _ (subscriptTail (Expr.Name (Str.ofString "signs") _) _ _ _) _ _ _); refine Stop.mk ?_))
local macro_rules | `(tactic| walk_at "subscriptTail Name Slice ref ref") => `(tactic| ((with_reducible show wpAny _ _ (subscriptTail (Expr.Name (Str.ofString "table") _) _ _ _) _ _ _); refine Stop.mk ?_))
local macro_rules | `(tactic| walk_at "call builtin:max") => `(tactic| refine Stop.mk ?_)
local macro_rules | `(tactic| walk_at "eval Dict") => `(tactic| refine Stop.mk ?_)
local macro_rules | `(tactic| walk_at "KdnMade") => `(tactic| refine Stop.mk ?_)
local macro_rules | `(tactic| walk_at "getMethod ref") => `(tactic| refine Stop.mk ?_)
local macro_rules | `(tactic| walk_at "call builtin:dict.get") => `(tactic| refine Stop.mk ?_)
local macro_rules | `(tactic| walk_at "call ref") => `(tactic| refine Stop.mk ?_)
local macro_rules | `(tactic| walk_at "binaryOp Add ref ref") => `(tactic| refine Stop.mk ?_)
set_option pp.deepTerms false in
set_option pp.deepTerms.threshold 6 in
set_option pp.mvars false in
theorem t1 : PySem.Challenge.rw_ny0006_01.Holds := hd (by
  k_go0
  (all_goals try k_fold)
  rename Heap.IsList _ _ _ => hL
  rename IntsAre _ _ => hI
  refine seq_cutN hL ?_ ?_
  · k_steps
    · rename Fr _ _ _ _ => F
      rename News _ _ _ _ => N
      exact ⟨_, _, _, _, _, _, rfl, F, rfl, fun p hp => N p (.tail _ hp), by assumption⟩
    · rename decide _ = false => hd1
      rename _ ∨ _ => hd2
      have hd3 := of_decide_eq_false hd1
      have := List.length_pos_iff.mpr hd3
      omega
    · rename Fr _ _ _ _ => F
      rename News _ _ _ _ => N
      exact ⟨_, _, _, _, _, _, rfl, F, rfl, fun p hp => N p (.tail _ hp), by assumption⟩
  · rename Fr _ _ _ _ => F
    rename News _ _ _ _ => N
    clear F N
    intro h tk n tn o m F hm N ho
    rw [if1 hm] at F
    rename Below .. => K0
    k_steps
    refine Stop.go (Comp_mine (cl := []) rfl rfl (by decide) ?_)
    k_steps
    rename_i q4 _ _ D1 ws1 h1 F1 N1 hI1 hC1 _ _
    generalize hsl : List.take (min 9 _ - 1) (List.drop 1 _) = sl at *
    have hsl8 : sl.length ≤ 8 := by omega
    refine comp_list (vs := ws1) (fun i ys news => news = [] ∧ IntsAre ys ((sl.map (fun x => x.fmod 256)).take i)) rfl ⟨_, N1.get (.head _), rfl, _, rfl⟩ (by decide) rfl (by rw [hI1.length, sizeLine_eq]; omega) rfl ⟨rfl, .nil⟩ ?_ ?_
    · rintro C D I oI i v ys m₂ news₁ h tk E' hv ⟨rfl, hJ⟩ hyl hDI off F4 N4
      have hi : i < sl.length := by rw [← hI1.length]; exact (List.getElem?_eq_some_iff.mp hv).1
      have hg : sl[i]? = some sl[i] := List.getElem?_eq_getElem hi
      generalize sl[i] = x at *
      obtain ⟨tt, hx⟩ := hI1.get i x hg
      rw [hx] at hv
      obtain rfl := Option.some.inj hv
      clear F1 N1
      k_steps
      refine ⟨_, _, _, [], rfl, F4, N4, (fun _ h => nomatch h), rfl, ?_⟩
      have hg3 : (sl.map (fun x => x.fmod 256))[i]? = some (x.fmod 256) := by rw [List.getElem?_map, hg]; rfl
      rw [take_snoc hg3]
      exact hJ.append (.cons _ _ .nil)
    · refine done_none fun D2 ys2 news2 h2 tk2 hJ2 hn2 k2 hD2 hDg2 hnw2 => ?_
      obtain ⟨rfl, hys2⟩ := hJ2
      rw [List.take_of_length_le (by rw [List.length_map, hI1.length]; exact Nat.le_refl _)] at hys2
      have F2 := F1.keeps k2
      have N2 := news_add F1 (fun p hp => N1 p (.tail _ hp)) k2 hD2 hDg2
      clear F1 N1
      k_steps
      refine Stop.go ?_
      refine add_ints F2 N2 ⟨_, N2.get (.tail _ (.head _)), rfl, _, rfl⟩ ⟨_, N2.get (.head _), rfl, _, rfl⟩ (.cons 1 _ (.cons 173 _ (.cons 62 _ (.cons 255 _ .nil)))) hys2 ?_ ?_
      · simp [sizeLine_eq]; omega
      · intro O h3 os F3 N3 hI3
        have hbo := octs_in (sl := sl)
        have hol : (([1, 173, 62, 255] : List Int) ++ sl.map (fun x => x.fmod 256)).length ≤ 12 := by simp; omega
        have hoc0 : 0 < (([1, 173, 62, 255] : List Int) ++ sl.map (fun x => x.fmod 256)).length := by simp
        generalize ([1, 173, 62, 255] : List Int) ++ sl.map (fun x => x.fmod 256) = oc at *
        have N4 : News _ _ h3 [_, _] := fun p hp => N3 p (by
          rcases List.mem_cons.mp hp with rfl | hp
          · exact .head _
          · exact .tail _ (.tail _ (.tail _ hp)))
        clear N3 F2 N2
        rename Frag.In _ _ => KX
        rename Top _ _ _ _ _ _ => T
        k_steps
        rename Fr _ _ _ _ => F4
        rename News _ _ _ _ => N4
        refine Stop.go (runs_c (KX.keeps F4.keep) (T.keeps F4.keep) ⟨_, N4.get (.head _), rfl, _, rfl⟩ hI3 hbo (by omega) ?_)
        intro R us nn tl h5 tk5 k5 hR hRg htl hPI
        have F5 := F4.keeps k5
        have N5 := news_tl F4 N4 k5 hR hRg htl
        simp only [List.cons_append, List.nil_append] at N5
        clear F4 N4 hR hRg htl
        have hnp : Builtin.divisionGoesByPylong n 256 = false := PyProof.noPylong_of_log2 (by decide)
        have hnz : (256 : Int) ≠ 0 := by decide
        k_steps
        rename Fr _ _ _ _ => F6
        rename News _ _ _ _ => N6
        have hro := runsOut_ok hbo hol
        refine Stop.go (joined_c (KX.keeps F6.keep) (T.keeps F6.keep) ⟨_, N6.get (.head _), rfl, _, rfl⟩ (pairs_of hPI fun p hp => (N6 p (.tail _ (.tail _ (.tail _ hp)))).1) hro.1 hro.2 ?_)
        intro J us2 nn2 tl2 h7 tk7 k7 hJ hJg htl2 hPJ
        have F7 := F6.keeps k7
        have N7 := news_tl F6 N6 k7 hJ hJg htl2
        simp only [List.cons_append, List.nil_append] at N7
        have hPI7 : PairsIn (tl ++ tl2) us (runsOut oc) := hPI.mono fun p hp => List.mem_append_left _ hp
        have hPJ7 : PairsIn (tl ++ tl2) us2 _ := hPJ.mono fun p hp => List.mem_append_right _ hp
        generalize tl ++ tl2 = tls at *
        clear F6 N6 hJ hJg htl2 hPI hPJ
        k_steps
        rename Fr _ _ _ _ => F8
        rename News _ _ _ _ => N8
        rename KBa.In oc => hKB
        refine Stop.go (enc1_c (KX.keeps F8.keep) (T.keeps F8.keep) (KBa.ints_make hKB) (by omega) ?_)
        intro h9 tk9 t9 k9
        have F9 := F8.keeps k9
        have N9 := news_keeps N8 k9
        clear F8 N8
        k_steps
        rename Fr _ _ _ _ => F10
        rename News _ _ _ _ => N10
        refine Stop.go (enc2_c (KX.keeps F10.keep) (T.keeps F10.keep) (KBa.ints_make hKB) (by omega) ?_)
        intro h11 tk11 t11 k11
        have F11 := F10.keeps k11
        have N11 := news_keeps N10 k11
        clear F10 N10
        k_steps
        refine Stop.go (For_mine ?_)
        k_steps
        rename_i T1 _ _ T2 _ _ W0 h12 F12 N12 _
        have ht1 := tells1 hbo hol
        have ha : 0 ≤ n.fmod 256 ∧ n.fmod 256 < 256 := ⟨Int.fmod_nonneg_of_pos _ (by decide), Int.fmod_lt_of_pos _ (by decide)⟩
        have hbb : 0 ≤ (n.fdiv 256).fmod 256 ∧ (n.fdiv 256).fmod 256 < 256 := ⟨Int.fmod_nonneg_of_pos _ (by decide), Int.fmod_lt_of_pos _ (by decide)⟩
        have ht2 := tells2 ha hbb hbo hol
        have hN : ∃ fx, News _ _ h12 fx ∧ (W0, W.listOf [Value.ref T1, Value.ref T2].toArray 0) ∈ fx ∧ (T1, tupOf #[.bytes (byteArr (enc 0 0 oc)) t9, .ref R] 0) ∈ fx ∧ (T2, tupOf #[.bytes (byteArr ((enc 0 0 oc).map (tr (n.fmod 256) ((n.fdiv 256).fmod 256)))) t11, .ref J] 0) ∈ fx ∧
            (R, W.listOf us.toArray nn) ∈ fx ∧ (J, W.listOf us2.toArray nn2) ∈ fx ∧ (_, o) ∈ fx ∧ ∀ p ∈ tls, p ∈ fx :=
          ⟨_, N12, .head _, .tail _ (.tail _ (.head _)), .tail _ (.head _), .tail _ (.tail _ (.tail _ (.tail _ (.tail _ (.head _))))), .tail _ (.tail _ (.tail _ (.tail _ (.head _)))), .tail _ (.tail _ (.tail _ (.tail _ (.tail _ (.tail _ (.tail _ (.head _))))))), fun p hp => .tail _ (.tail _ (.tail _ (.tail _ (.tail _ (.tail _ (.tail _ (.tail _ hp)))))))⟩
        clear N12
        obtain ⟨fx, N12, hW0, hT1, hT2, hRx, hJx, hox, htx⟩ := hN
        refine iter_list (vs := [Value.ref T1, Value.ref T2]) (fun i m news => news = fx ∧ m (Str.ofString "plain") = some (.bytes (byteArr (enc 0 0 oc)) t9) ∧ m (Str.ofString "other") = some (.bytes (byteArr ((enc 0 0 oc).map (tr (n.fmod 256) ((n.fdiv 256).fmod 256)))) t11)) rfl PassesOwn.never F12 N12 ⟨rfl, rfl, rfl⟩ ?_ ?_ ?_
        · rintro i m n ⟨rfl, _, _⟩
          exact .inr ⟨0, hW0⟩
        · rintro I oI i v m₁ news₁ h tk hc hv ⟨hnews, hm1, hm2⟩ off F₁ N₁
          subst hnews
          rw [if2 hm1 hm2] at F₁
          have hv2 : RowIs news₁ tls v :=
            two_cases (P := RowIs news₁ tls) hv ⟨T1, _, _, R, us, nn, _, rfl, hT1, hRx, hPI7, ht1⟩ ⟨T2, _, _, J, us2, nn2, _, rfl, hT2, hJx, hPJ7, ht2⟩
          obtain ⟨Ti, sg, tg, Xa, uX, nX, ps, rfl, hTi, hXa, hPX, hTl⟩ := hv2
          have hTup : IsTup h Ti #[.bytes (byteArr sg) tg, .ref Xa] := ⟨_, (N₁ _ (.tail _ hTi)).1, rfl, 0, rfl⟩
          have N₂ : News _ _ h ((Xa, W.listOf uX.toArray nX) :: (I, oI) :: news₁) := fun p hp => by
            rcases List.mem_cons.mp hp with rfl | hp
            · exact N₁ _ (.tail _ hXa)
            · exact N₁ _ hp
          clear F12 N12 N₁ hv
          k_steps
          rename Fr _ _ _ _ => F13
          rename News _ _ _ _ => N13
          have hsgl := hTl.2.1
          refine Stop.go (CompA_mine (cl := []) rfl rfl rfl (by decide) ?_)
          k_steps
          refine comp_bytes (fun i ys news => news = [] ∧ IntsAre ys (sg.take i)) rfl (by decide) rfl (by rw [sg_size, sizeLine_eq]; omega) rfl ⟨rfl, .nil⟩ ?_ ?_
          · rintro C D I2 oI2 i2 c t ys m₂ news₂ h2 tk2 E' hv ⟨rfl, hJ⟩ hyl hDI off2 F14 N14
            clear F13 N13
            k_steps
            refine ⟨_, _, _, [], rfl, F14, N14, (fun _ h => nomatch h), rfl, ?_⟩
            rw [take_snoc (sg_get hTl.1 hv)]
            exact hJ.append (.cons _ _ .nil)
          · refine done_store F13 ?_ ?_ ?_
            · rfl
            · rfl
            intro S ys news2 h14 tk14 hJ hn k14 F14 hS hSg hnw
            obtain ⟨rfl, hys⟩ := hJ
            rw [sg_size, List.take_length] at hys
            have N14 := news_addL F13 N13 k14 hS hSg
            clear F13 N13
            k_steps
            refine Stop.go (For_mine ?_)
            k_steps
            rename Fr _ _ _ _ => F15
            rename News _ _ _ _ => N15
            rename IsRange _ _ _ _ _ _ _ _ => hr
            refine iter_range (n := sg.length + 1) (fun i m news => news = (S, W.listOf ys.toArray ys.length) :: (Xa, W.listOf uX.toArray nX) :: (I, oI) :: news₁ ∧ m (Str.ofString "signs") = some (.ref S) ∧ m (Str.ofString "table") = some (.ref Xa) ∧
              m (Str.ofString "plain") = some (.bytes (byteArr (enc 0 0 oc)) t9) ∧ m (Str.ofString "other") = some (.bytes (byteArr ((enc 0 0 oc).map (tr (n.fmod 256) ((n.fdiv 256).fmod 256)))) t11)) rfl PassesOwn.never hr ?_ ?_ F15 N15 ⟨rfl, rfl, rfl, rfl, rfl⟩ ?_ ?_
            · unfold Builtin.Range.small Builtin.Range.rangeFitsLong
              rw [rangeSize_nat]; simp; omega
            · rw [rangeSize_nat]; omega
            · clear F15 N15
              rintro I2 oI2 i t m₂ news₂ h tk hc hi ⟨rfl, hm1, hm2, hm3, hm4⟩ off2 F₂ N₂
              rw [if4 hm1 hm2 hm3 hm4] at F₂
              have hysl : ys.length ≤ 40 := by rw [hys.length]; exact hsgl
              revert F₂ N₂
              (repeat (rename Fr .. => g; clear g))
              (repeat (rename News .. => g; clear g))
              intro F₂ N₂
              have hi0 : (0 + (i : Int)) = (i : Int) := by omega
              rw [hi0]
              k_steps
              rename Fr .. => F16
              rename News .. => N16
              refine Stop.go (slice_from F16 N16 ⟨_, N16.get (.tail _ (.head _)), rfl, _, rfl⟩ hys (by omega) (by omega) ?_ (by with_unfolding_all rfl) (by intro _; with_unfolding_all rfl))
              intro D1 h17 ws1 F17 N17 _ hI17
              clear F16 N16
              k_steps
              refine Stop.go (told_law F17 KX T K0 ?_ ?_ ⟨_, N17.get (.head _), rfl, _, rfl⟩ hI17 (fun x hx => hTl.1 x (List.mem_of_mem_drop hx)) (by rw [List.length_drop]; omega) ?_)
              · rfl
              · rfl
              intro d1 u1 n1 h18 tk18 F18 k18 hd1 hd1g hI18
              have N18 := news_addL F17 N17 k18 hd1 hd1g
              rw [(hTl.2.2.2.2 i (by omega)).1] at hI18
              clear F17 N17
              k_steps
              have huX : uX.length ≤ 1000 := by rw [hPX.1]; have := hTl.2.2.1; omega
              refine Stop.go (slice_last F18 N18 ⟨_, N18.get (.tail _ (.tail _ (.tail _ (.tail _ (.head _))))), rfl, _, rfl⟩ huX ?_ (by with_unfolding_all rfl) (by intro _; with_unfolding_all rfl))
              intro D2 h19 F19 N19 _
              have hpr19 := pairs_of hPX fun p hp => (N19 p (.tail _ (.tail _ (.tail _ (.tail _ (.tail _ (.tail _ (.tail _ (htx p hp))))))))).1
              clear F18 N18
              k_steps
              rename Fr .. => F20
              rename News .. => N20
              refine Stop.go (from_c (KX.keeps F20.keep) (T.keeps F20.keep) ⟨_, N20.get (.head _), rfl, _, rfl⟩ (pairs_last hpr19) (fun p hp => hTl.2.2.2.1 p ((List.dropLast_sublist ps).subset hp)) (by omega) (by omega) (by rw [List.length_dropLast]; have := hTl.2.2.1; omega) ?_)
              intro d3 u3 n3 h21 tk21 k21 hd3 hd3g hI21
              have F21 := F20.keeps k21
              have N21 := news_add F20 N20 k21 hd3 hd3g
              clear F20 N20 hpr19
              k_steps
              rename Fr .. => F22
              rename News .. => N22
              have N22 := news_tail (news_tail (news_tail (news_tail N22)))
              refine Stop.go (slice_from F22 N22 ⟨_, N22.get (.tail _ (.head _)), rfl, _, rfl⟩ hys (by omega) (by omega) ?_ (by with_unfolding_all rfl) (by intro _; with_unfolding_all rfl))
              intro D4 h23 ws4 F23 N23 _ hI23
              clear F22 N22 hI18 hI21
              k_steps
              rename Fr .. => F24
              rename News .. => N24
              refine Stop.go (add_ints F24 N24 ⟨_, N24.get (.tail _ (.head _)), rfl, _, rfl⟩ ⟨_, N24.get (.head _), rfl, _, rfl⟩ hI23 (.cons 48 _ .nil) ?_ ?_)
              · rw [List.length_drop]; simp [sizeLine_eq]; omega
              intro D5 h25 ws5 F25 N25 hI25
              clear F24 N24
              have N25 : News _ _ h25 (_ :: (I2, oI2) :: _) := fun p hp => N25 p (by
                rcases List.mem_cons.mp hp with rfl | hp
                · exact .head _
                · exact .tail _ (.tail _ (.tail _ hp)))
              k_steps
              rename Fr .. => F26
              refine Stop.go (told_law F26 KX T K0 ?_ ?_ ⟨_, N25.get (.head _), rfl, _, rfl⟩ hI25 (fun x hx => ?_) (by rw [List.length_append, List.length_drop]; simp; omega) ?_)
              · rfl
              · rfl
              · rcases List.mem_append.mp hx with hx | hx
                · exact hTl.1 x (List.mem_of_mem_drop hx)
                · rw [List.mem_singleton.mp hx]; decide
              intro d6 u6 n6 h27 tk27 F27 k27 hd6 hd6g hI27
              have N27 := news_addL F26 N25 k27 hd6 hd6g
              rw [(hTl.2.2.2.2 i (by omega)).2] at hI27
              clear F26 N25
              k_steps
              rename Fr .. => F28
              rename News .. => N28
              refine Stop.go (from_c (KX.keeps F28.keep) (T.keeps F28.keep) ⟨_, N28.get (.tail _ (.tail _ (.tail _ (.tail _ (.head _))))), rfl, _, rfl⟩ (pairs_of hPX fun p hp => (N28 p (.tail _ (.tail _ (.tail _ (.tail _ (.tail _ (.tail _ (htx p hp)))))))).1) hTl.2.2.2.1 (by omega) (by omega) hTl.2.2.1 ?_)
              intro d7 u7 n7 h29 tk29 k29 hd7 hd7g hI29
              have F29 := F28.keeps k29
              have N29 := news_add F28 N28 k29 hd7 hd7g
              clear F28 N28
              k_steps
              exact ⟨_, _, _, _, rfl, F29, news_tail (news_tail (news_tail N29)), off2, rfl, rfl, rfl, rfl, rfl⟩
            · clear F15 N15
              rintro h tk m' news' ⟨rfl, hm1, hm2, hm3, hm4⟩ F₂ N₂
              k_steps
              exact ⟨_, _, _, _, rfl, F₂, fun p hp => N₂ p (.tail _ (.tail _ hp)), off, rfl, hm3, hm4⟩
        · clear F12 N12
          rintro h tk m' news' ⟨rfl, hm1, hm2⟩ F₁ N₁
          rw [if2 hm1 hm2] at F₁
          revert F₁ N₁
          (repeat (rename Fr .. => g; clear g))
          (repeat (rename News .. => g; clear g))
          intro F₁ N₁
          k_steps
          have hbp : ∀ x ∈ enc 0 0 oc, 0 ≤ x ∧ x < 256 := ht1.1
          refine Stop.go (max_bytes rfl (by rw [sg_size]; exact enc_pos hoc0) (fun i c hc => (enc_in oc 0 0 _ (List.mem_of_getElem? (sg_get hbp hc))).2) ?_)
          intro M tM h30 tk30 hM k30
          have F30 := F₁.keeps k30
          have N30 := news_keeps N₁ k30
          have hbig := (T.keeps F30.keep).nolimit
          clear F₁ N₁
          k_steps
          have hcell := (N30 _ hox).1
          refine Stop.go (Comp_cell (x := Str.ofString "n") hcell ?_ ?_ ?_ ?_)
          · rfl
          · rfl
          · decide
          k_steps
          refine comp_bytes (fun i ys news => news = [] ∧ IntsAre ys (((enc 0 0 oc).map (tr (n.fmod 256) ((n.fdiv 256).fmod 256))).take i)) rfl (by decide) rfl (by rw [sg_size, sizeLine_eq]; have := ht1.2.1; omega) rfl ⟨rfl, .nil⟩ ?_ ?_
          · rintro C D I2 oI2 i2 c t ys m₂ news₂ h2 tk2 E' hv ⟨rfl, hJ⟩ hyl hDI off2 F31 N31
            have hg := sg_get hbp hv
            generalize (c.toNat : Int) = x at *
            clear F30 N30
            dsimp only at F31 N31 hcell
            k_steps
            refine Stop.go (dict2 F31 N31 hbig ?_)
            intro d1 h32 o1 F32 N32 hlt1 hm1' hd1
            clear F31 N31
            k_steps
            refine Stop.go (made2 F32 N32 hlt1 hd1 (by decide) ?_)
            intro h33 o2 F33 N33 hd2
            clear F32 N32
            k_steps
            refine Stop.go (kdg_method (knd := PySem.intKind _ _) N33 (.head _) hd2 ?_)
            k_steps
            refine Stop.go (get2 N33 hd2 hm1' ?_)
            intro t'
            refine ⟨_, _, _, [], rfl, F33, news_tail N33, (fun _ h => nomatch h), rfl, ?_⟩
            have hg3 : ((enc 0 0 oc).map (tr (n.fmod 256) ((n.fdiv 256).fmod 256)))[i2]? = some (tr (n.fmod 256) ((n.fdiv 256).fmod 256) x) := by rw [List.getElem?_map, hg]; rfl
            rw [take_snoc hg3]
            exact hJ.append (.cons _ _ .nil)
          · refine done_none fun D2 ys2 news2 h2 tk2 hJ2 hn2 k2 hD2 hDg2 hnw2 => ?_
            obtain ⟨rfl, hys2⟩ := hJ2
            rw [sg_size, ← List.length_map (f := tr (n.fmod 256) ((n.fdiv 256).fmod 256)), List.take_length] at hys2
            have F31 := F30.keeps k2
            have N31 := news_add F30 N30 k2 hD2 hDg2
            clear F30 N30
            k_steps
            have hl2 := ht2.2.1
            refine KBa.make_K F31 N31 rfl ⟨_, N31.get (.head _), rfl, _, rfl⟩ hys2 ht2.1 (by omega) ?_
            intro h34 t34 k34 F34 N34 _
            refine eq_bytes ?_
            rw [beq_self_eq_true]
            refine goodW_bool F34 ?_ ?_ ?_
            · assumption
            · intro cls
              rfl
            · first | wrow_post | kc_post)
end Mine
theorem PySem.Challenge.cw_ny0006_01_holds : PySem.Challenge.rw_ny0006_01.Holds := by
  exact Mine.t1
