import PyProof.Rows.All
import Wide.All
import OpenK.AllK
import Wide.FinOn
import Lean
import PySem.Challenge.RW_ew0040_01
open PySem PySem.W PySem.Calls PyProof.Rows
set_option Elab.async false
set_option maxRecDepth 100000
namespace Mine

set_option maxHeartbeats 8000000 in
open_top hd for PySem.Challenge.rw_ew0040_01

section
section
variable {prog : Program} {w : World} {A : Around} {s : Shared} {base : Heap} {outer : List Env} {K : Frag} {p : Program} {loose : List Str} {mean : ExcName → Option Value} {mg mb : Str → Option Value}

theorem depth_le {α : Type} {M : Model} {t : Sem α} {Q : α → Shared → Prop} {E : Value → Shared → Prop} {d u : Nat} (h : wpAny M { A with depth := d, units := u } t Q E s) (hd : A.depth ≤ d) (hu : A.units ≤ u) : wpAny M A t Q E s :=
  fun Γ q hΓ => h Γ q ⟨hΓ.1, Nat.le_trans hΓ.2.1 hd, hΓ.2.2.1, hΓ.2.2.2.1, Nat.le_trans hΓ.2.2.2.2 hu⟩

theorem enter0 {R : Result → Shared → Prop} {name qual : Str} {params : Arguments} {body : List Stmt} {scope : Scope} {dV kV doc pm cdv ct oc : Value} {an od : Option Addr} {osl : Array (Option Value)} {f : Addr} {args : Args} {binds : List (Str × Value)}
    (_B : Below A base outer s.heap) (X : K.In s.heap) (T : Top p loose mean mg mb s.heap)
    (ho : K.lookup f = some ⟨oc, od, .func (fnOf name qual params body scope dV kV doc pm an cdv ct), osl⟩) (hcd : codeIn K cdv qual = true) (hroom : A.depth < recursionLimit)
    (hbind : BindsTo s (fnOf name qual params body scope dV kV doc pm an cdv ct) args binds) (hloc : ∀ y ∈ binds, scope.names.lookup y.1 = some .local)
    (h : ∀ L' h₁, Fr s.heap L' h₁ (fun y => binds.reverse.lookup y) → News s.heap L' h₁ [] →
      wpAny (model prog w) (A.deeper (envOf qual scope L' f cdv)) (execs body (envOf qual scope L' f cdv))
        (fun fl s' => R (.ok (.ret (match fl with | .ret v => v | _ => .none))) s')
        (fun e s' => wpAny (model prog w) (A.deeper (envOf qual scope L' f cdv)) (leaving (envOf qual scope L' f cdv) e) (fun _ s'' => R (.error e) s'') (fun e' s'' => R (.error e') s'') s')
        { s with heap := h₁, toks := s.toks + binds.length })
    (hco : scope.isCoroutine = false) (hgen : scope.isGenerator = false) (hk : scope.kind = .function)
    (hcell : ∀ x ∈ scope.names, x.2 ≠ .cell) : codeAny (model prog w) A (.call (.ref f) args) R s :=
  codeAny_call_def (fd := fnOf name qual params body scope dV kV doc pm an cdv ct) (body := body) (binds := binds) hroom (X _ _ ho) rfl T.nolimit (codeRec_of X hcd) rfl hbind hcell hloc
    (fun h₁ hns hk₁ => h _ h₁ ⟨hns, hk₁, Nat.le_refl _⟩ News.nil) hco hgen hk
end

/-- a contract of a def: what a call of it, read-only on all that stood before, gives back. -/
def Ct (w : World) (mean : ExcName → Option Value) (mg mb : Str → Option Value) (d u : Nat) (f : Addr) (args : List Value) (P : Heap → Prop) (Rt : Heap → Heap → Value → Prop) (Ex : Heap → List Env → Heap → Heap → Value → Prop) : Prop :=
  ∀ (A : Around) (base : Heap) (outer : List Env) (s : Shared) (Q E : Value → Shared → Prop),
    A.handled = none → A.depth ≤ d → A.units ≤ u → Below A base outer s.heap → (Mine.hd.heap_39 w.params).In s.heap → Top Mine.hd.view_39 (looseW Mine.hd.view_39 [Str.ofString "_dnsname_match", Str.ofString "match_hostname"]) mean mg mb s.heap → P s.heap →
    (∀ v h' tk', s.heap.StaysIn h' → Rt s.heap h' v → Q v { s with heap := h', toks := tk' }) →
    (∀ e h' tk', Ex base outer s.heap h' e → E e { s with heap := h', toks := tk' }) →
    wpAny (model PySem.Challenge.rw_ew0040_01.row.prog w) A (call (.ref f) args) Q E s

def NoEx : Heap → List Env → Heap → Heap → Value → Prop := fun _ _ _ _ _ => False

theorem news_stays {h₀ h h' : Heap} {L : Addr} {news : List (Addr × Obj)} (N : News h₀ L h news) (st : h.StaysIn h') : News h₀ L h' news :=
  fun p hp => ⟨st _ _ (N p hp).1, (N p hp).2⟩
theorem fr_stays {h₀ h h' : Heap} {L : Addr} {m : Str → Option Value} (F : Fr h₀ L h m) (st : h.StaysIn h') : Fr h₀ L h' m :=
  ⟨F.ns.keeps st, fun b o e => st b o (F.keep b o e), F.above⟩
theorem news_fresh {h₀ h h' : Heap} {L D : Addr} {m : Str → Option Value} {news : List (Addr × Obj)} {o : Obj} (F : Fr h₀ L h m) (N : News h₀ L h news) (st : h.StaysIn h') (e : h.get? D = none) (g : h'.get? D = some o) : News h₀ L h' ((D, o) :: news) := by
  intro p hp
  rcases List.mem_cons.mp hp with rfl | hp
  · refine ⟨g, ?_, ?_⟩
    · rintro rfl
      obtain ⟨oL, _, _, hL, _⟩ := F.ns
      rw [e] at hL; cases hL
    · cases q : h₀.get? D with
      | none => rfl
      | some o' => have := F.keep _ _ q; rw [e] at this; cases this
  · exact ⟨st _ _ (N p hp).1, (N p hp).2⟩

/-- a contract used within a function's frame. -/
theorem Ct.use {w : World} {mean : ExcName → Option Value} {mg mb : Str → Option Value} {d u : Nat} {f : Addr} {args : List Value} {P : Heap → Prop} {Rt : Heap → Heap → Value → Prop}
    (C : Ct w mean mg mb d u f args P Rt NoEx) {A A₀ : Around} {base h₀ : Heap} {outer : List Env} {env : Env} {s : Shared} {L : Addr} {m : Str → Option Value} {news : List (Addr × Obj)} {Q E : Value → Shared → Prop}
    (B : Below A₀ base outer h₀) (F : Fr h₀ L s.heap m) (X : (Mine.hd.heap_39 w.params).In h₀) (N : News h₀ L s.heap news) (T : Top Mine.hd.view_39 (looseW Mine.hd.view_39 [Str.ofString "_dnsname_match", Str.ofString "match_hostname"]) mean mg mb h₀)
    (hA : A.frames = some (env :: outer)) (hf : env.frame = some L) (hke : env.scope.kind = .function) (hh : A.handled = none) (hd : A.depth ≤ d) (hu : A.units ≤ u) (hP : P s.heap)
    (k : ∀ v h' tk', Fr h₀ L h' m → News h₀ L h' news → s.heap.StaysIn h' → Rt s.heap h' v → Q v { s with heap := h', toks := tk' }) :
    wpAny (model PySem.Challenge.rw_ew0040_01.row.prog w) A (call (.ref f) args) Q E s := by
  have hnew : base.get? L = none := by
    cases hq : base.get? L with
    | none => rfl
    | some o => exact absurd (Nat.lt_of_lt_of_le (Heap.lt_size (B.stays L o hq)) F.above) (Nat.lt_irrefl _)
  have B' : Below A base (env :: outer) s.heap := ⟨hA, fun b o e => F.keep b o (B.stays b o e), Heap.FunFrames.cons (by rw [hke]; decide) hf F.ns hnew (B.frames.of_keeps fun b o e _ => ⟨o, F.keep b o e, rfl⟩)⟩
  exact C A base (env :: outer) s Q E hh hd hu B' (X.keeps F.keep) (T.keeps F.keep) hP (fun v h' tk' st r => k v h' tk' (fr_stays F st) (news_stays N st) st r) (fun _ _ _ x => x.elim)

section
variable {prog : Program} {w : World} {A : Around} {E : Value → Shared → Prop} {s : Shared} {env : Env} {h₀ : Heap} {target : Expr} {body : List Stmt} {Q : Flow → Shared → Prop}

def TEnd (h₀ : Heap) (L I : Addr) (it : Obj) (J : (Str → Option Value) → List (Addr × Obj) → Prop) (s s₂ : Shared) : Prop :=
  ∃ h' tk m' news', s₂ = { s with heap := h', toks := tk } ∧ Fr h₀ L h' m' ∧ News h₀ L h' ((I, it) :: news') ∧ (∀ p ∈ news', p.1 ≠ I) ∧ J m' news'
def TPost (h₀ : Heap) (L I : Addr) (it : Obj) (J : (Str → Option Value) → List (Addr × Obj) → Prop) (s : Shared) (Q : Flow → Shared → Prop) (f : Flow) (s₂ : Shared) : Prop :=
  match f with
  | .ret v => Q (.ret v) s₂
  | .brk => Q .next s₂
  | _ => TEnd h₀ L I it J s s₂
theorem TEnd.intro {L I : Addr} {it : Obj} {J : (Str → Option Value) → List (Addr × Obj) → Prop} {s : Shared} {h' : Heap} {tk : Nat} {m' : Str → Option Value} {all : List (Addr × Obj)} (F : Fr h₀ L h' m') (N : News h₀ L h' all) (news' : List (Addr × Obj))
    (sub : ∀ p ∈ (I, it) :: news', p ∈ all) (off : ∀ p ∈ news', p.1 ≠ I) (r : J m' news') : TEnd h₀ L I it J s { s with heap := h', toks := tk } := ⟨h', tk, m', news', rfl, F, fun p hp => N p (sub p hp), off, r⟩

theorem loop_core {I ax : Addr} {n : Nat} {P : Nat → Value → Prop} {St : Nat → Heap → Prop} {m₀ : Str → Option Value} {news : List (Addr × Obj)} {h1 : Heap}
    (W : KTurns prog w A target I [I, ax] [I] n (fun i v _ => P i v) (fun i v h => P i v ∧ St (i + 1) h) St) (hst : St 0 h1) (hit : ∀ i h, St i h → ∃ o, h.get? I = some o)
    (hI0 : h₀.get? I = none) (hax : ∃ o, h₀.get? ax = some o) (hL : env.locals ≠ I) (hn : ∀ p ∈ news, p.1 ≠ I)
    (F : Fr h₀ env.locals h1 m₀) (N : News h₀ env.locals h1 news) (J : Nat → (Str → Option Value) → List (Addr × Obj) → Prop) (h0 : J 0 m₀ news)
    (turn : ∀ i v m₁ news₁ h tk it, i < n → P i v → J i m₁ news₁ → (∀ p ∈ news₁, p.1 ≠ I) → Fr h₀ env.locals h m₁ → News h₀ env.locals h ((I, it) :: news₁) →
      wpAny (model prog w) A (assign target env v) (fun _ s₃ => wpAny (model prog w) A (execs body env) (TPost h₀ env.locals I it (J (i + 1)) { s with heap := h, toks := tk } Q) E s₃) E { s with heap := h, toks := tk })
    (done : ∀ m₁ news₁ h tk, J n m₁ news₁ → Fr h₀ env.locals h m₁ → News h₀ env.locals h news₁ → Q .next { s with heap := h, toks := tk }) {tk0 : Nat} :
    TurnsAt prog w A h₀ env target body Q E (.ref I) { s with heap := h1, toks := tk0 } := by
  obtain ⟨oax, hoax⟩ := hax
  have haxI : ax ≠ I := fun e => by rw [e, hI0] at hoax; cases hoax
  refine ⟨I, [I, ax], [I], n, _, _, St, m₀, news, J, rfl, W, ?_, ?_, ?_, hst, F, N, h0, ?_, ?_⟩
  · intro hm
    rcases List.mem_cons.mp hm with e | hm
    · exact hL e
    · have e := List.mem_singleton.mp hm
      exact absurd (Nat.lt_of_lt_of_le (Heap.lt_size hoax) F.above) (e ▸ Nat.lt_irrefl _)
  · intro b hb; rw [List.mem_singleton.mp hb]; exact hI0
  · intro p hp hb; exact hn p hp (List.mem_singleton.mp hb)
  · intro i v m₁ news₁ h tk own hi hP hJ hoff hown hget hall hst₁ F₁ N₁
    obtain ⟨it, hit'⟩ := hit _ _ hst₁
    have hmem := hall I (List.mem_cons_self ..) hI0 it hit'
    have N₂ : News h₀ env.locals h ((I, it) :: news₁) := fun p hp => by
      rcases List.mem_cons.mp hp with rfl | hp
      · exact N₁ _ (List.mem_append_left _ hmem)
      · exact N₁ _ (List.mem_append_right _ hp)
    have fin : ∀ s₃, TEnd h₀ env.locals I it (J (i + 1)) { s with heap := h, toks := tk } s₃ → LoopStepU h₀ env.locals [I] own (J (i + 1)) { s with heap := h, toks := tk } .next s₃ := by
      rintro s₃ ⟨h', tk', m', news', e, F', N', ho, hj⟩
      refine ⟨rfl, h', tk', m', news', e, F', fun p hp => ?_, fun p hp hb => ho p hp (List.mem_singleton.mp hb), hj⟩
      rcases List.mem_append.mp hp with hp | hp
      · have hpI : p.1 = I := by
          rcases List.mem_cons.mp (hown p hp) with e | e
          · exact e
          · have e := List.mem_singleton.mp e
            have := (N₁ p (List.mem_append_left _ hp)).2.2
            rw [e, hoax] at this; cases this
        have h2 : h.get? p.1 = some p.2 := hget p hp
        rw [hpI, hit'] at h2
        have : p = (I, it) := Prod.ext hpI (Option.some.inj h2).symm
        rw [this]; exact N' _ (List.mem_cons_self ..)
      · exact N' _ (List.mem_cons_of_mem _ hp)
    refine wpAny_mono (turn i v m₁ news₁ h tk it hi hP hJ (fun p hp e => hoff p hp (List.mem_singleton.mpr e)) F₁ N₂) (fun _ s₂ h₂ => wpAny_mono h₂ (fun f s₃ q => ?_) fun _ _ e => e) fun _ _ e => e
    cases f with
    | ret v => exact .ret q
    | brk => exact .brk q
    | next => exact .next (fin _ q)
    | cont => exact .cont (fin _ q)
  · intro h' tk m' news' F' N' _ hJ
    exact done m' news' h' tk hJ F' N'

theorem loop_tup {ax : Addr} {items : Array Value} {m₀ : Str → Option Value} {news : List (Addr × Obj)} (hh : A.handled = none) (ht : IsTup h₀ ax items) (F : Fr h₀ env.locals s.heap m₀) (N : News h₀ env.locals s.heap news)
    (J : Nat → (Str → Option Value) → List (Addr × Obj) → Prop) (h0 : J 0 m₀ news)
    (turn : ∀ i v m₁ news₁ h tk I it, i < items.size → items[i]? = some v → J i m₁ news₁ → (∀ p ∈ news₁, p.1 ≠ I) → Fr h₀ env.locals h m₁ → News h₀ env.locals h ((I, it) :: news₁) →
      wpAny (model prog w) A (assign target env v) (fun _ s₃ => wpAny (model prog w) A (execs body env) (TPost h₀ env.locals I it (J (i + 1)) { s with heap := h, toks := tk } Q) E s₃) E { s with heap := h, toks := tk })
    (done : ∀ m₁ news₁ h tk, J items.size m₁ news₁ → Fr h₀ env.locals h m₁ → News h₀ env.locals h news₁ → Q .next { s with heap := h, toks := tk }) :
    wpAny (model prog w) A (pyIter (.ref ax)) (fun it s₂ => TurnsAt prog w A h₀ env target body Q E it s₂) E s := by
  obtain ⟨o, ho, hc, n, hd⟩ := ht
  have hax : s.heap.get? ax = some o := F.keep _ _ ho
  have hl : s.heap.IsTuple ax items := ⟨o, hax, hc, n, hd⟩
  have hne : ax ≠ s.heap.objs.size := Nat.ne_of_lt (Heap.lt_size hax)
  refine wpAny_pyIter_tuple hl ?_
  exact loop_core (tk0 := s.toks) (KTurns.ofWalks (Walks.tuple hh s.heap.objs.size ax hne items) fun i v s Q E st q => letGo_tupleiter st.1 q) ⟨⟨_, Heap.get?_push_size _ rfl, rfl, rfl⟩, hl.at fun o e => Heap.get?_push_of_some _ e⟩
    (fun i h st => let ⟨o, ho, _⟩ := st.1; ⟨o, ho⟩) (next_is_new F) ⟨o, ho⟩ (fun e => absurd F.ns.lt (e ▸ Nat.lt_irrefl _)) (fun p hp e => absurd (Heap.lt_size (N p hp).1) (e ▸ Nat.lt_irrefl _)) (F.push _)
    (fun p hp => ⟨Heap.get?_push_of_some _ (N p hp).1, (N p hp).2⟩) J h0 (fun i v m₁ news₁ h tk it hi hP => turn i v m₁ news₁ h tk _ it hi hP) done

theorem loop_list {ax : Addr} {items : Array Value} {m₀ : Str → Option Value} {news : List (Addr × Obj)} (hh : A.handled = none) (ht : h₀.IsList ax items) (F : Fr h₀ env.locals s.heap m₀) (N : News h₀ env.locals s.heap news)
    (J : Nat → (Str → Option Value) → List (Addr × Obj) → Prop) (h0 : J 0 m₀ news)
    (turn : ∀ i v m₁ news₁ h tk I it, i < items.size → items[i]? = some v → J i m₁ news₁ → (∀ p ∈ news₁, p.1 ≠ I) → Fr h₀ env.locals h m₁ → News h₀ env.locals h ((I, it) :: news₁) →
      wpAny (model prog w) A (assign target env v) (fun _ s₃ => wpAny (model prog w) A (execs body env) (TPost h₀ env.locals I it (J (i + 1)) { s with heap := h, toks := tk } Q) E s₃) E { s with heap := h, toks := tk })
    (done : ∀ m₁ news₁ h tk, J items.size m₁ news₁ → Fr h₀ env.locals h m₁ → News h₀ env.locals h news₁ → Q .next { s with heap := h, toks := tk }) :
    wpAny (model prog w) A (pyIter (.ref ax)) (fun it s₂ => TurnsAt prog w A h₀ env target body Q E it s₂) E s := by
  obtain ⟨o, ho, hc, n, hd⟩ := ht
  have hax : s.heap.get? ax = some o := F.keep _ _ ho
  have hl : s.heap.IsList ax items := ⟨o, hax, hc, n, hd⟩
  have hne : ax ≠ s.heap.objs.size := Nat.ne_of_lt (Heap.lt_size hax)
  refine wpAny_pyIter_list hl ?_
  exact loop_core (tk0 := s.toks) (KTurns.ofWalks (Walks.list hh s.heap.objs.size ax hne items) fun i v s Q E st q => letGo_listiter st.1 q) ⟨⟨_, Heap.get?_push_size _ rfl, rfl, rfl⟩, hl.at fun o e => Heap.get?_push_of_some _ e⟩
    (fun i h st => let ⟨o, ho, _⟩ := st.1; ⟨o, ho⟩) (next_is_new F) ⟨o, ho⟩ (fun e => absurd F.ns.lt (e ▸ Nat.lt_irrefl _)) (fun p hp e => absurd (Heap.lt_size (N p hp).1) (e ▸ Nat.lt_irrefl _)) (F.push _)
    (fun p hp => ⟨Heap.get?_push_of_some _ (N p hp).1, (N p hp).2⟩) J h0 (fun i v m₁ news₁ h tk it hi hP => turn i v m₁ news₁ h tk _ it hi hP) done
end

section
variable {prog : Program} {w : World} {A : Around} {E : Value → Shared → Prop} {s : Shared} {value slice : PySem.Expr} {l : Addr} {vs : List Value} {ws : List PySem.Str} {i : Int} {u : Tok} {Q : Value → Shared → Prop}
theorem item_mem (hl : s.heap.IsList l vs.toArray) (hw : StrsAre vs ws) (h0 : 0 ≤ i) (h1 : i < (ws.length : Int)) (hfit : i < 2 ^ 63) (h : ∀ x t', x ∈ ws → Q (.str x t') s)
    (hs : subscripted slice false (.ref l) (.int i u) = operate [.ref l, .int i u] (getItem (.ref l) (.int i u)) := by with_unfolding_all rfl) :
    wpAny (model prog w) A (subscriptTail value slice (.ref l) (.int i u)) Q E s :=
  KTb.item_list hl hw h0 h1 hfit (fun t' hlt => h _ t' (by rw [List.getD_eq_getElem?_getD, List.getElem?_eq_getElem hlt]; exact List.getElem_mem _)) hs
end
end

section
section
variable {prog : Program} {w : World} {A : Around} {h₀ : Heap} {L : Addr} {m : Str → Option Value} {env : Env} {elt : Expr} {x : Str} {scope : Scope} {cl : List (Str × Addr)} {s : Shared} {S : List (Addr × Obj) → Prop} {Fin : List Value → List (Addr × Obj) → Prop} {news : List (Addr × Obj)}
theorem comp_strs {vs : List Value} {xs : List Str} (g : Str → Str) (hi : StrsAre vs xs)
    (turn : ∀ x0 t I oI C oC D m₂ ys h tk (E' : Value → Shared → Prop), x0 ∈ xs → LCg.NsObj oC m₂ → m₂ x = some (.str x0 t) → Fr h₀ L h m → News h₀ L h ((I, oI) :: (C, oC) :: (D, LCg.lst ys) :: news) → LCg.Off3 I C D news → ((@Ne Nat I C) ∧ (@Ne Nat I D) ∧ (@Ne Nat C D)) → S news →
      wpAny (model prog w) A (eval elt (compEnvC scope cl C env)) (LCg.CompEnd h₀ L m { s with heap := h, toks := tk } I oI C oC D (LCg.lst ys) S (fun y news' => news' = news ∧ ∃ t, y = .str (g x0) t)) E' { s with heap := h, toks := tk })
    (hS : S news) (fin : ∀ ys, StrsAre ys (xs.map g) → Fin ys news) : LCg.CompRest prog w A h₀ L m env elt x scope cl s S (fun i v => vs.toArray[i]? = some v) Fin vs.toArray.size 0 [] news := by
  have key : ∀ (j i : Nat) (ys : List Value), i + j = vs.length → StrsAre ys ((xs.take i).map g) → LCg.CompRest prog w A h₀ L m env elt x scope cl s S (fun i v => vs.toArray[i]? = some v) Fin j i ys news := by
    intro j
    induction j with
    | zero =>
      intro i ys hij hy
      have e : i = xs.length := by have := hi.length; omega
      subst e
      rw [List.take_length] at hy
      exact LCg.CompRest.zero (fin ys hy)
    | succ j ih =>
      intro i ys hij hy
      refine LCg.CompRest.succ ?_
      intro v I oI C oC D m₂ h tk E' hv hC hx F N off ne
      obtain ⟨x0, t, hv', hk⟩ := hi.item i v (by simpa using hv)
      rw [hv'] at hx
      refine wpAny_mono (turn x0 t I oI C oC D m₂ ys h tk E' (List.mem_of_getElem? hk) hC hx F N off ne hS) (fun y s₂ hq => ?_) fun _ _ e => e
      obtain ⟨h', tk', nw, e, F', N', off', hS', hn, t', hy'⟩ := hq
      rw [hn] at N' off' hS'
      refine ⟨h', tk', news, e, F', N', off', hS', ?_⟩
      rw [hy']
      refine ih (i + 1) _ (by omega) ?_
      rw [List.take_add_one, hk]
      simpa using kct_snoc hy
  rw [List.size_toArray]
  exact key vs.length 0 [] (by omega) (by simp only [List.take_zero, List.map_nil]; exact .nil)
end
section
variable {prog : Program} {w : World} {A : Around} {E : Value → Shared → Prop} {s : Shared} {x : Str} {t : Tok} {Q : Value → Shared → Prop}
theorem repr_lay (hl : PyData.layable0 (.str x) = true) (h : (reprText x).length ≤ 10 * x.length + 2 → ∀ t k, Q (.str (reprText x) t) { s with toks := k }) : wpAny (model prog w) A (call (.builtin "repr") [.str x t]) Q E s :=
  P.repr_of_str (h (len_repr_of_layable hl) _ _) (fits_repr_of_layable hl)
end

theorem pick1 (vs : List Value) : kms_pick vs.toArray.toList (some 1) none = vs.drop 1 := by
  unfold kms_pick kms_lo kms_hi
  simp only [List.length_drop]
  cases vs with
  | nil => rfl
  | cons v r =>
    have e : min (Int.toNat 1) (v :: r).length = 1 := by simp
    simp only [show ¬ ((1 : Int) < 0) by decide, if_false, e]
    show List.take ((r.length + 1) - 1) r = r
    exact List.take_of_length_le (by omega)
section
variable {prog : Program} {w : World} {A : Around} {E : Value → Shared → Prop} {s : Shared} {h₀ : Heap} {L : Addr} {m : PySem.Str → Option Value} {news : List (Addr × Obj)} {x y : PySem.Str} {t u : Tok} {Q : Value → Shared → Prop}
theorem split_S (hF : Fr h₀ L s.heap m) (hN : News h₀ L s.heap news) (hy : (y.length == 0) = false)
    (h : ∀ D vs h' k, StrsAre vs (Txt.split x y) → 1 ≤ vs.length → vs.length ≤ x.length + 2 → Fr h₀ L h' m → News h₀ L h' ((D, listOf vs.toArray 0) :: news) → (∀ p ∈ news, p.1 < D) → Q (.ref D) { s with heap := h', toks := k }) (hsz : x.length + 2 ≤ sizeLine) :
    wpAny (model prog w) A (call (.builtin "str.split") [.str x t, .str y u]) Q E s :=
  KSpl.split1 hF hN hy (fun D l h' k e a F N lt => by
    have a' : StrsAre (strValues l) (Txt.split x y) := e ▸ a
    have hl := a'.len_eq
    exact h D _ h' k a' (by rw [hl]; exact split_pos x y) (by rw [hl]; exact split_le x y) F N lt) hsz
end

section
variable {prog : Program} {w : World} {A : Around} {E : Value → Shared → Prop} {s : Shared} {value slice : PySem.Expr} {l : Addr} {vs : List Value} {ws : List PySem.Str} {u : Tok} {Q : Value → Shared → Prop}
theorem item0_S (hl : s.heap.IsList l vs.toArray) (hw : StrsAre vs ws) (h1 : 1 ≤ vs.length) (h : ∀ x r t', ws = x :: r → Q (.str x t') s)
    (hs : subscripted slice false (.ref l) (.int 0 u) = operate [.ref l, .int 0 u] (getItem (.ref l) (.int 0 u)) := by with_unfolding_all rfl) :
    wpAny (model prog w) A (subscriptTail value slice (.ref l) (.int 0 u)) Q E s := by
  cases hw with
  | nil => simp at h1
  | cons x t r => exact tail_any hl.typeIs slot_list_getitem.lookup (wpAny_getItem_list hl (by decide) (by decide) (x := .str x t) rfl (h x _ t rfl)) hs
end

section
open PySem.SeqAt PySem.Spec
theorem reads_of_strs {h : Heap} {a : Addr} {vs : List Value} {ns : List Str} (hl : h.IsList a vs.toArray) (hi : StrsAre vs ns) : Reads h (.ref a) (.list (ns.map PyData.str)) [a] := by
  obtain ⟨o, ho, hc, n, hd⟩ := hl
  exact Reads.list ho hc hd (by simpa using strs_readAll h hi)
theorem depthAll_strs : ∀ ns : List Str, PyData.depthAll (ns.map PyData.str) ≤ 1
  | [] => by simp [PyData.depthAll]
  | n :: r => by
    have := depthAll_strs r
    simp only [List.map_cons, PyData.depthAll, PyData.depth]
    omega
theorem shaped_strs (ns : List Str) (ho : ns.all PyData.strOk = true) : shaped (.list (ns.map PyData.str)) = true := by
  have h1 := depthAll_strs ns
  have h2 : PyData.depth (.list (ns.map PyData.str)) ≤ 64 := by simp only [PyData.depth]; omega
  show (PyData.canLay0 (.list (ns.map PyData.str)) && decide (PyData.depth (.list (ns.map PyData.str)) ≤ 64)) = true
  rw [Bool.and_eq_true]
  exact ⟨by simp only [PyData.canLay0]; rw [canLayAll_strs']; exact ho, decide_eq_true h2⟩
theorem noMix_strs : ∀ ns ms : List Str, noMixAll (ns.map PyData.str) (ms.map PyData.str) = true
  | [], [] => by simp [noMixAll]
  | [], _ :: _ => by simp [noMixAll]
  | _ :: _, [] => by simp [noMixAll]
  | _ :: r, _ :: q => by simp [noMixAll, noMix, noMix_strs r q]
theorem same_strs : ∀ ns ms : List Str, PySem.Spec.sameAll (ns.map PyData.str) (ms.map PyData.str) = decide (ns = ms)
  | [], [] => by simp [PySem.Spec.sameAll]
  | [], _ :: _ => by simp [PySem.Spec.sameAll]
  | _ :: _, [] => by simp [PySem.Spec.sameAll]
  | n :: r, k :: q => by
    simp only [List.map_cons, PySem.Spec.sameAll, PySem.Spec.same, same_strs r q]
    by_cases h : n = k <;> simp [h]
variable {prog : Program} {w : World} {A : Around} {E : Value → Shared → Prop} {s : Shared}
theorem eq_strsK {a b : Addr} {vs us : List Value} {ns ms : List Str} {Q : Value → Shared → Prop} (hl : s.heap.IsList a vs.toArray) (hi : StrsAre vs ns) (hl' : s.heap.IsList b us.toArray) (hi' : StrsAre us ms) (ho : ns.all PyData.strOk = true) (ho' : ms.all PyData.strOk = true) (hu : A.units + 64 < cLine)
    (h : Q (.bool (decide (ns = ms))) s) : wpAny (model prog w) A (compareOp .Eq (.ref a) (.ref b)) Q E s :=
  eq_dataH_same (reads_of_strs hl hi) (reads_of_strs hl' hi') (shaped_strs ns ho) (shaped_strs ms ho') hu (by simp only [noMix]; exact noMix_strs ns ms) (by simp only [PySem.Spec.same]; rw [same_strs]; exact h)
theorem ne_strsK {a b : Addr} {vs us : List Value} {ns ms : List Str} {Q : Value → Shared → Prop} (hl : s.heap.IsList a vs.toArray) (hi : StrsAre vs ns) (hl' : s.heap.IsList b us.toArray) (hi' : StrsAre us ms) (ho : ns.all PyData.strOk = true) (ho' : ms.all PyData.strOk = true) (hu : A.units + 64 < cLine)
    (h : Q (.bool (!decide (ns = ms))) s) : wpAny (model prog w) A (compareOp .NotEq (.ref a) (.ref b)) Q E s :=
  ne_dataH_same (reads_of_strs hl hi) (reads_of_strs hl' hi') (shaped_strs ns ho) (shaped_strs ms ho') hu (by simp only [noMix]; exact noMix_strs ns ms) (by simp only [PySem.Spec.same]; rw [same_strs]; exact h)
end

theorem head_short {x y a : Str} {r : List Str} (e : Txt.split x y = a :: r) : a.length ≤ x.length := part_short (y := y) (by rw [e]; exact List.mem_cons_self)

section
variable {prog : Program} {w : World} {A : Around} {E : Value → Shared → Prop} {s : Shared} {x y : Str} {t : Tok} {Q : Value → Shared → Prop}
theorem len_part1 (hx : x.length ≤ 1000) (h : ∀ t k, (Txt.partition x y).1.length ≤ x.length → Q (.int ((Txt.partition x y).1.length) t) { s with toks := k }) : wpAny (model prog w) A (call (.builtin "len") [.str (Txt.partition x y).1 t]) Q E s :=
  have hp := (fact_partition x y).1
  P.len_str (by omega) (h _ _ hp)
theorem len_part3 (hx : x.length ≤ 1000) (h : ∀ t k, (Txt.partition x y).2.2.length ≤ x.length → Q (.int ((Txt.partition x y).2.2.length) t) { s with toks := k }) : wpAny (model prog w) A (call (.builtin "len") [.str (Txt.partition x y).2.2 t]) Q E s :=
  have hp := (fact_partition x y).2.2
  P.len_str (by omega) (h _ _ hp)
end

section
variable {prog : Program} {w : World} {A : Around} {E : Value → Shared → Prop} {s : Shared} {x : Str} {D : Addr} {ys : List Value} {Q : Value → Shared → Prop}
theorem len_stars (hl : s.heap.IsList D ys.toArray) (hc : CarriedAll ys (List.map PyData.str (List.filter (fun a => a == Str.ofString "*") (signs x)))) (hx : x.length ≤ 1000)
    (h : ∀ t k, Q (.int ((List.filter (fun a => a == Str.ofString "*") (signs x)).length : Nat) t) { s with toks := k }) : wpAny (model prog w) A (call (.builtin "len") [.ref D]) Q E s := by
  have e : ys.length = (List.filter (fun a => a == Str.ofString "*") (signs x)).length := by rw [hc.len_eq, List.length_map]
  have hb : (List.filter (fun a => a == Str.ofString "*") (signs x)).length ≤ x.length := by
    have := List.length_filter_le (fun a => a == Str.ofString "*") (signs x)
    rw [signs_length] at this; exact this
  refine PyProof.Rows.len_list hl (by rw [List.size_toArray, e]; omega) ?_
  rw [List.size_toArray, e]
  exact h _ _
end

section
variable {prog : Program} {w : World} {A : Around} {E : Value → Shared → Prop} {s : Shared} {value slice : PySem.Expr} {l : Addr} {vs : List Value} {ws r : List PySem.Str} {x : Str} {u : Tok} {Q : Value → Shared → Prop}
theorem item0_H (hl : s.heap.IsList l vs.toArray) (hw : StrsAre vs ws) (e : ws = x :: r) (h : ∀ t', Q (.str x t') s)
    (hs : subscripted slice false (.ref l) (.int 0 u) = operate [.ref l, .int 0 u] (getItem (.ref l) (.int 0 u)) := by with_unfolding_all rfl) :
    wpAny (model prog w) A (subscriptTail value slice (.ref l) (.int 0 u)) Q E s := by
  subst e
  cases hw with
  | cons x t r => exact tail_any hl.typeIs slot_list_getitem.lookup (wpAny_getItem_list hl (by decide) (by decide) (x := .str x t) rfl (h t)) hs
end
end

section
noncomputable section
def dnm (dn host : Str) : Option Bool :=
  if dn.length = 0 then some false
  else if 1 < Txt.count ((Txt.split dn (Str.ofString ".")).headD Str.empty) (Str.ofString "*") then none
  else if Txt.count ((Txt.split dn (Str.ofString ".")).headD Str.empty) (Str.ofString "*") = 0 then some (Txt.lower dn == Txt.lower host)
  else if List.map Txt.lower (List.drop 1 (Txt.split dn (Str.ofString "."))) = List.drop 1 (Txt.split (Txt.lower host) (Str.ofString ".")) then
    if ((Txt.split dn (Str.ofString ".")).headD Str.empty == Str.ofString "*") = true then some (decide (0 < (((Txt.split (Txt.lower host) (Str.ofString ".")).headD Str.empty).length : Int)))
    else if (Txt.startswith ((Txt.split dn (Str.ofString ".")).headD Str.empty) (Str.ofString "xn--") || Txt.startswith host (Str.ofString "xn--")) = true then
      some (Txt.lower ((Txt.split dn (Str.ofString ".")).headD Str.empty) == (Txt.split (Txt.lower host) (Str.ofString ".")).headD Str.empty)
    else if (((Txt.split (Txt.lower host) (Str.ofString ".")).headD Str.empty).length : Int) < ((Txt.partition (Txt.lower ((Txt.split dn (Str.ofString ".")).headD Str.empty)) (Str.ofString "*")).1.length : Int) + ((Txt.partition (Txt.lower ((Txt.split dn (Str.ofString ".")).headD Str.empty)) (Str.ofString "*")).2.2.length : Int) then some false
    else if Txt.startswith ((Txt.split (Txt.lower host) (Str.ofString ".")).headD Str.empty) (Txt.partition (Txt.lower ((Txt.split dn (Str.ofString ".")).headD Str.empty)) (Str.ofString "*")).1 = true then
      some (Txt.endswith ((Txt.split (Txt.lower host) (Str.ofString ".")).headD Str.empty) (Txt.partition (Txt.lower ((Txt.split dn (Str.ofString ".")).headD Str.empty)) (Str.ofString "*")).2.2)
    else some false
  else some false

section
variable {dn host x y z : Str} {r q q2 : List Str}
theorem dnm1 (h : (dn.length : Int) = 0) : dnm dn host = some false := by
  unfold dnm; rw [if_pos (by omega)]
theorem dnm2 (h : (dn.length : Int) ≠ 0) (e : Txt.split dn (Str.ofString ".") = x :: r) (hc : 1 < Txt.count x (Str.ofString "*")) : dnm dn host = none := by
  unfold dnm; rw [if_neg (by omega), if_pos (by rw [e]; exact hc)]
theorem dnm3 (h : (dn.length : Int) ≠ 0) (e : Txt.split dn (Str.ofString ".") = x :: r) (hc : ¬ 1 < Txt.count x (Str.ofString "*")) (h0 : Txt.count x (Str.ofString "*") = 0) : dnm dn host = some (Txt.lower dn == Txt.lower host) := by
  unfold dnm; rw [if_neg (by omega), if_neg (by rw [e]; exact hc), if_pos (by rw [e]; exact h0)]
theorem dnm4 (h : (dn.length : Int) ≠ 0) (e : Txt.split dn (Str.ofString ".") = x :: r) (hc : ¬ 1 < Txt.count x (Str.ofString "*")) (h0 : Txt.count x (Str.ofString "*") ≠ 0)
    (hn : ¬ List.map Txt.lower (List.drop 1 (Txt.split dn (Str.ofString "."))) = List.drop 1 (Txt.split (Txt.lower host) (Str.ofString "."))) : dnm dn host = some false := by
  unfold dnm; rw [if_neg (by omega), if_neg (by rw [e]; exact hc), if_neg (by rw [e]; exact h0), if_neg hn]
theorem dnm5 (h : (dn.length : Int) ≠ 0) (e : Txt.split dn (Str.ofString ".") = x :: r) (hc : ¬ 1 < Txt.count x (Str.ofString "*")) (h0 : Txt.count x (Str.ofString "*") ≠ 0)
    (hn : List.map Txt.lower (List.drop 1 (Txt.split dn (Str.ofString "."))) = List.drop 1 (Txt.split (Txt.lower host) (Str.ofString "."))) (hs : (x == Str.ofString "*") = true) (e2 : Txt.split (Txt.lower host) (Str.ofString ".") = y :: q) :
    dnm dn host = some (decide (0 < (y.length : Int))) := by
  unfold dnm; rw [if_neg (by omega), if_neg (by rw [e]; exact hc), if_neg (by rw [e]; exact h0), if_pos hn, if_pos (by rw [e]; exact hs), e2]; rfl
theorem dnm6 (h : (dn.length : Int) ≠ 0) (e : Txt.split dn (Str.ofString ".") = x :: r) (hc : ¬ 1 < Txt.count x (Str.ofString "*")) (h0 : Txt.count x (Str.ofString "*") ≠ 0)
    (hn : List.map Txt.lower (List.drop 1 (Txt.split dn (Str.ofString "."))) = List.drop 1 (Txt.split (Txt.lower host) (Str.ofString "."))) (hs : (x == Str.ofString "*") = false) (e2 : Txt.split (Txt.lower host) (Str.ofString ".") = y :: q)
    (hx : Txt.startswith x (Str.ofString "xn--") = true) : dnm dn host = some (Txt.lower x == y) := by
  unfold dnm; rw [if_neg (by omega), if_neg (by rw [e]; exact hc), if_neg (by rw [e]; exact h0), if_pos hn, if_neg (by rw [e]; simp [hs]), if_pos (by rw [e]; simp [hx]), e2, e]; rfl
theorem dnm7 (h : (dn.length : Int) ≠ 0) (e : Txt.split dn (Str.ofString ".") = x :: r) (hc : ¬ 1 < Txt.count x (Str.ofString "*")) (h0 : Txt.count x (Str.ofString "*") ≠ 0)
    (hn : List.map Txt.lower (List.drop 1 (Txt.split dn (Str.ofString "."))) = List.drop 1 (Txt.split (Txt.lower host) (Str.ofString "."))) (hs : (x == Str.ofString "*") = false) (e2 : Txt.split (Txt.lower host) (Str.ofString ".") = y :: q)
    (hx : Txt.startswith host (Str.ofString "xn--") = true) : dnm dn host = some (Txt.lower x == y) := by
  unfold dnm; rw [if_neg (by omega), if_neg (by rw [e]; exact hc), if_neg (by rw [e]; exact h0), if_pos hn, if_neg (by rw [e]; simp [hs]), if_pos (by rw [e]; simp [hx]), e2, e]; rfl
theorem dnm8 (h : (dn.length : Int) ≠ 0) (e : Txt.split dn (Str.ofString ".") = x :: r) (hc : ¬ 1 < Txt.count x (Str.ofString "*")) (h0 : Txt.count x (Str.ofString "*") ≠ 0)
    (hn : List.map Txt.lower (List.drop 1 (Txt.split dn (Str.ofString "."))) = List.drop 1 (Txt.split (Txt.lower host) (Str.ofString "."))) (hs : (x == Str.ofString "*") = false) (e2 : Txt.split (Txt.lower host) (Str.ofString ".") = y :: q)
    (hx : Txt.startswith x (Str.ofString "xn--") = false) (hz : Txt.startswith host (Str.ofString "xn--") = false)
    (hl : (y.length : Int) < ((Txt.partition (Txt.lower x) (Str.ofString "*")).1.length : Int) + ((Txt.partition (Txt.lower x) (Str.ofString "*")).2.2.length : Int)) : dnm dn host = some false := by
  unfold dnm; rw [if_neg (by omega), if_neg (by rw [e]; exact hc), if_neg (by rw [e]; exact h0), if_pos hn, if_neg (by rw [e]; simp [hs]), if_neg (by rw [e]; simp [hx, hz]), if_pos (by rw [e, e2]; exact hl)]
theorem dnm9 (h : (dn.length : Int) ≠ 0) (e : Txt.split dn (Str.ofString ".") = x :: r) (hc : ¬ 1 < Txt.count x (Str.ofString "*")) (h0 : Txt.count x (Str.ofString "*") ≠ 0)
    (hn : List.map Txt.lower (List.drop 1 (Txt.split dn (Str.ofString "."))) = List.drop 1 (Txt.split (Txt.lower host) (Str.ofString "."))) (hs : (x == Str.ofString "*") = false)
    (hx : Txt.startswith x (Str.ofString "xn--") = false) (hz : Txt.startswith host (Str.ofString "xn--") = false)
    {y1 y2 y3 : Str} {q1 q2 q3 : List Str} (hl : ¬ (y2.length : Int) < ((Txt.partition (Txt.lower x) (Str.ofString "*")).1.length : Int) + ((Txt.partition (Txt.lower x) (Str.ofString "*")).2.2.length : Int)) (e2 : Txt.split (Txt.lower host) (Str.ofString ".") = y2 :: q2) (hst : Txt.startswith y3 (Txt.partition (Txt.lower x) (Str.ofString "*")).1 = true) (e3 : Txt.split (Txt.lower host) (Str.ofString ".") = y3 :: q3)
    (e1 : Txt.split (Txt.lower host) (Str.ofString ".") = y1 :: q1)
    :
    dnm dn host = some (Txt.endswith y1 (Txt.partition (Txt.lower x) (Str.ofString "*")).2.2) := by
  obtain ⟨rfl, rfl⟩ := List.cons.inj (e1.symm.trans e2)
  obtain ⟨rfl, rfl⟩ := List.cons.inj (e1.symm.trans e3)
  unfold dnm; rw [if_neg (by omega), if_neg (by rw [e]; exact hc), if_neg (by rw [e]; exact h0), if_pos hn, if_neg (by rw [e]; simp [hs]), if_neg (by rw [e]; simp [hx, hz]), if_neg (by rw [e, e1]; exact hl), if_pos (by rw [e, e1]; exact hst), e, e1]; rfl
theorem dnm10 (h : (dn.length : Int) ≠ 0) (e : Txt.split dn (Str.ofString ".") = x :: r) (hc : ¬ 1 < Txt.count x (Str.ofString "*")) (h0 : Txt.count x (Str.ofString "*") ≠ 0)
    (hn : List.map Txt.lower (List.drop 1 (Txt.split dn (Str.ofString "."))) = List.drop 1 (Txt.split (Txt.lower host) (Str.ofString "."))) (hs : (x == Str.ofString "*") = false)
    (hx : Txt.startswith x (Str.ofString "xn--") = false) (hz : Txt.startswith host (Str.ofString "xn--") = false)
    {y1 y2 : Str} {q1 q2 : List Str} (hl : ¬ (y2.length : Int) < ((Txt.partition (Txt.lower x) (Str.ofString "*")).1.length : Int) + ((Txt.partition (Txt.lower x) (Str.ofString "*")).2.2.length : Int)) (e2 : Txt.split (Txt.lower host) (Str.ofString ".") = y2 :: q2) (hst : Txt.startswith y1 (Txt.partition (Txt.lower x) (Str.ofString "*")).1 = false) (e1 : Txt.split (Txt.lower host) (Str.ofString ".") = y1 :: q1)
    :
    dnm dn host = some (Txt.startswith y1 (Txt.partition (Txt.lower x) (Str.ofString "*")).1) := by
  obtain ⟨rfl, rfl⟩ := List.cons.inj (e1.symm.trans e2)
  rw [hst]; unfold dnm; rw [if_neg (by omega), if_neg (by rw [e]; exact hc), if_neg (by rw [e]; exact h0), if_pos hn, if_neg (by rw [e]; simp [hs]), if_neg (by rw [e]; simp [hx, hz]), if_neg (by rw [e, e1]; exact hl), if_neg (by rw [e, e1]; simp only [List.headD_cons]; rw [hst]; decide)]
end
end
def ExC : Heap → List Env → Heap → Heap → Value → Prop := fun base outer h h' e => ∃ a t vs, e = .ref a ∧ RaisedS base h outer a (.ref 24) t vs [] h' ∧ h.UpToSlots h'
end

section
structure Stop (P : Prop) : Prop where
  out : P
theorem stop {P : Prop} (h : Stop P) : P := h.out
theorem contra_ne {x y : Str} (h1 : (x != y) = false) (h2 : (x == y) = false) : False := by
  rw [bne, h2] at h1; cases h1

theorem news_swap {h₀ h : Heap} {L : Addr} {a b : Addr × Obj} {r : List (Addr × Obj)} (N : News h₀ L h (a :: b :: r)) : News h₀ L h (b :: a :: r) := fun p hp => N p (by
  rcases List.mem_cons.mp hp with e | hp
  · exact List.mem_cons_of_mem _ (List.mem_cons.mpr (.inl e))
  · rcases List.mem_cons.mp hp with e | hp
    · exact List.mem_cons.mpr (.inl e)
    · exact List.mem_cons_of_mem _ (List.mem_cons_of_mem _ hp))
theorem ne_of_contains {l : List Str} {x y : Str} (hm : x ∈ l) (hy : l.contains y = false) : ¬ y = x := fun e => by
  subst e
  have h : l.contains y = true := by simp [hm]
  rw [h] at hy; cases hy
def AllNe (I : Nat) : List (Addr × Obj) → Prop
  | [] => True
  | p :: r => @Ne Nat p.1 I ∧ AllNe I r
theorem AllNe.of {I : Addr} : ∀ {l : List (Addr × Obj)}, (∀ p ∈ l, p.1 ≠ I) → AllNe I l
  | [], _ => trivial
  | _ :: _, h => ⟨h _ List.mem_cons_self, AllNe.of fun p hp => h p (List.mem_cons_of_mem _ hp)⟩
theorem AllNe.mem {I : Addr} : ∀ {l : List (Addr × Obj)}, AllNe I l → ∀ p ∈ l, p.1 ≠ I
  | [], _, _, h => nomatch h
  | _ :: _, x, p, h => by
    rcases List.mem_cons.mp h with rfl | h
    · exact x.1
    · exact AllNe.mem x.2 p h

section
variable {prog : Program} {w : World} {A : Around} {E : Value → Shared → Prop} {s : Shared} {env : Env} {h₀ : Heap} {target : Expr} {body : List Stmt} {Q : Flow → Shared → Prop}

/-- a turn's end: the names that the loop stores are forgotten, the others stand. -/
def TEndS (h₀ : Heap) (L I : Addr) (it : Obj) (stored : List Str) (m₀ : Str → Option Value) (J : List (Addr × Obj) → Prop) (s s₂ : Shared) : Prop :=
  ∃ h' tk m' news', s₂ = { s with heap := h', toks := tk } ∧ Fr h₀ L h' m' ∧ News h₀ L h' ((I, it) :: news') ∧ AllNe I news' ∧ (∀ y, stored.contains y = false → m' y = m₀ y) ∧ J news'
def TPostS (h₀ : Heap) (L I : Addr) (it : Obj) (stored : List Str) (m₀ : Str → Option Value) (J : List (Addr × Obj) → Prop) (s : Shared) (Q : Flow → Shared → Prop) (f : Flow) (s₂ : Shared) : Prop :=
  match f with
  | .ret v => Q (.ret v) s₂
  | .brk => Q .next s₂
  | _ => TEndS h₀ L I it stored m₀ J s s₂
theorem TEndS.intro {L I : Addr} {it : Obj} {stored : List Str} {m₀ : Str → Option Value} {J : List (Addr × Obj) → Prop} {s : Shared} {h' : Heap} {tk : Nat} {m' : Str → Option Value} {all : List (Addr × Obj)} (F : Fr h₀ L h' m') (N : News h₀ L h' all) (news' : List (Addr × Obj))
    (sub : ∀ p ∈ (I, it) :: news', p ∈ all) (off : AllNe I news') (hm : ∀ y, stored.contains y = false → m' y = m₀ y) (r : J news') : TEndS h₀ L I it stored m₀ J s { s with heap := h', toks := tk } :=
  ⟨h', tk, m', news', rfl, F, fun p hp => N p (sub p hp), off, hm, r⟩

theorem upto_fun {stored : List Str} {m m₀ : Str → Option Value} (h : ∀ y, stored.contains y = false → m y = m₀ y) : m = fun y => if stored.contains y = true then m y else m₀ y := by
  funext y
  cases hc : stored.contains y with
  | true => simp
  | false => simp [h y hc]

theorem loop_coreS {I : Addr} {fp : List Addr} {n : Nat} {P : Nat → Value → Prop} {St : Nat → Heap → Prop} {m₀ : Str → Option Value} {news : List (Addr × Obj)} {h1 : Heap} (stored : List Str)
    (W : KTurns prog w A target I fp [I] n (fun i v _ => P i v) (fun i v h => P i v ∧ St (i + 1) h) St) (hst : St 0 h1) (hit : ∀ i h, St i h → ∃ o, h.get? I = some o)
    (hI0 : h₀.get? I = none) (hfp : ∀ b ∈ fp, b = I ∨ ∃ o, h₀.get? b = some o) (hL : env.locals ≠ I) (hn : ∀ p ∈ news, p.1 ≠ I)
    (F : Fr h₀ env.locals h1 m₀) (N : News h₀ env.locals h1 news) (J : Nat → List (Addr × Obj) → Prop) (h0 : J 0 news)
    (turn : ∀ i v (u : Str → Option Value) news₁ h tk it, i < n → P i v → J i news₁ → AllNe I news₁ → Fr h₀ env.locals h (fun y => if stored.contains y = true then u y else m₀ y) → News h₀ env.locals h ((I, it) :: news₁) →
      wpAny (model prog w) A (assign target env v) (fun _ s₃ => wpAny (model prog w) A (execs body env) (TPostS h₀ env.locals I it stored m₀ (J (i + 1)) { s with heap := h, toks := tk } Q) E s₃) E { s with heap := h, toks := tk })
    (done : ∀ (u : Str → Option Value) news₁ h tk, J n news₁ → Fr h₀ env.locals h (fun y => if stored.contains y = true then u y else m₀ y) → News h₀ env.locals h news₁ → Q .next { s with heap := h, toks := tk }) {tk0 : Nat} :
    TurnsAt prog w A h₀ env target body Q E (.ref I) { s with heap := h1, toks := tk0 } := by
  refine ⟨I, fp, [I], n, _, _, St, m₀, news, (fun i m nw => (∀ y, stored.contains y = false → m y = m₀ y) ∧ J i nw), rfl, W, ?_, ?_, ?_, hst, F, N, ⟨fun _ _ => rfl, h0⟩, ?_, ?_⟩
  · intro hm
    rcases hfp _ hm with e | ⟨o, e⟩
    · exact hL e
    · exact absurd (Nat.lt_of_lt_of_le (Heap.lt_size e) F.above) (Nat.lt_irrefl _)
  · intro b hb; rw [List.mem_singleton.mp hb]; exact hI0
  · intro p hp hb; exact hn p hp (List.mem_singleton.mp hb)
  · rintro i v m₁ news₁ h tk own hi hP ⟨hm₁, hJ⟩ hoff hown hget hall hst₁ F₁ N₁
    obtain ⟨it, hit'⟩ := hit _ _ hst₁
    have hmem := hall I (W.sub I (List.mem_singleton.mpr rfl)) hI0 it hit'
    have N₂ : News h₀ env.locals h ((I, it) :: news₁) := fun p hp => by
      rcases List.mem_cons.mp hp with rfl | hp
      · exact N₁ _ (List.mem_append_left _ hmem)
      · exact N₁ _ (List.mem_append_right _ hp)
    rw [upto_fun hm₁] at F₁
    have fin : ∀ s₃, TEndS h₀ env.locals I it stored m₀ (J (i + 1)) { s with heap := h, toks := tk } s₃ → LoopStepU h₀ env.locals [I] own (fun m nw => (∀ y, stored.contains y = false → m y = m₀ y) ∧ J (i + 1) nw) { s with heap := h, toks := tk } .next s₃ := by
      rintro s₃ ⟨h', tk', m', news', e, F', N', ho, hm', hj⟩
      refine ⟨rfl, h', tk', m', news', e, F', fun p hp => ?_, fun p hp hb => ho.mem p hp (List.mem_singleton.mp hb), hm', hj⟩
      rcases List.mem_append.mp hp with hp | hp
      · have hpI : p.1 = I := by
          rcases hfp _ (hown p hp) with e | ⟨o, e⟩
          · exact e
          · have := (N₁ p (List.mem_append_left _ hp)).2.2
            rw [e] at this; cases this
        have h2 : h.get? p.1 = some p.2 := hget p hp
        rw [hpI, hit'] at h2
        have : p = (I, it) := Prod.ext hpI (Option.some.inj h2).symm
        rw [this]; exact N' _ (List.mem_cons_self ..)
      · exact N' _ (List.mem_cons_of_mem _ hp)
    refine wpAny_mono (turn i v m₁ news₁ h tk it hi hP hJ (AllNe.of fun p hp e => hoff p hp (List.mem_singleton.mpr e)) F₁ N₂) (fun _ s₂ h₂ => wpAny_mono h₂ (fun f s₃ q => ?_) fun _ _ e => e) fun _ _ e => e
    cases f with
    | ret v => exact .ret q
    | brk => exact .brk q
    | next => exact .next (fin _ q)
    | cont => exact .cont (fin _ q)
  · rintro h' tk m' news' F' N' _ ⟨hm', hJ⟩
    rw [upto_fun hm'] at F'
    exact done m' news' h' tk hJ F' N'

theorem loop_tupS {ax : Addr} {items : Array Value} {m₀ : Str → Option Value} {news : List (Addr × Obj)} (stored : List Str) (J : Nat → List (Addr × Obj) → Prop) (hh : A.handled = none) (ht : IsTup h₀ ax items) (F : Fr h₀ env.locals s.heap m₀) (N : News h₀ env.locals s.heap news)
    (h0 : J 0 news)
    (turn : ∀ i v (u : Str → Option Value) news₁ h tk I it, i < items.size → items[i]? = some v → J i news₁ → AllNe I news₁ → Fr h₀ env.locals h (fun y => if stored.contains y = true then u y else m₀ y) → News h₀ env.locals h ((I, it) :: news₁) →
      wpAny (model prog w) A (assign target env v) (fun _ s₃ => wpAny (model prog w) A (execs body env) (TPostS h₀ env.locals I it stored m₀ (J (i + 1)) { s with heap := h, toks := tk } Q) E s₃) E { s with heap := h, toks := tk })
    (done : ∀ (u : Str → Option Value) news₁ h tk, J items.size news₁ → Fr h₀ env.locals h (fun y => if stored.contains y = true then u y else m₀ y) → News h₀ env.locals h news₁ → Q .next { s with heap := h, toks := tk }) :
    wpAny (model prog w) A (pyIter (.ref ax)) (fun it s₂ => TurnsAt prog w A h₀ env target body Q E it s₂) E s := by
  obtain ⟨o, ho, hc, n, hd⟩ := ht
  have hax : s.heap.get? ax = some o := F.keep _ _ ho
  have hl : s.heap.IsTuple ax items := ⟨o, hax, hc, n, hd⟩
  have hne : ax ≠ s.heap.objs.size := Nat.ne_of_lt (Heap.lt_size hax)
  refine wpAny_pyIter_tuple hl ?_
  exact loop_coreS (tk0 := s.toks) stored (KTurns.ofWalks (Walks.tuple hh s.heap.objs.size ax hne items) fun i v s Q E st q => letGo_tupleiter st.1 q) ⟨⟨_, Heap.get?_push_size _ rfl, rfl, rfl⟩, hl.at fun o e => Heap.get?_push_of_some _ e⟩
    (fun i h st => let ⟨o, ho, _⟩ := st.1; ⟨o, ho⟩) (next_is_new F) (fun b hb => (List.mem_cons.mp hb).imp id fun e => ⟨o, by rw [List.mem_singleton.mp e]; exact ho⟩) (fun e => absurd F.ns.lt (e ▸ Nat.lt_irrefl _)) (fun p hp e => absurd (Heap.lt_size (N p hp).1) (e ▸ Nat.lt_irrefl _)) (F.push _)
    (fun p hp => ⟨Heap.get?_push_of_some _ (N p hp).1, (N p hp).2⟩) J h0 (fun i v u news₁ h tk it hi hP => turn i v u news₁ h tk _ it hi hP) done

theorem loop_listS {ax : Addr} {items : Array Value} {m₀ : Str → Option Value} {news : List (Addr × Obj)} (stored : List Str) (J : Nat → List (Addr × Obj) → Prop) (hh : A.handled = none) (ht : h₀.IsList ax items) (F : Fr h₀ env.locals s.heap m₀) (N : News h₀ env.locals s.heap news)
    (h0 : J 0 news)
    (turn : ∀ i v (u : Str → Option Value) news₁ h tk I it, i < items.size → items[i]? = some v → J i news₁ → AllNe I news₁ → Fr h₀ env.locals h (fun y => if stored.contains y = true then u y else m₀ y) → News h₀ env.locals h ((I, it) :: news₁) →
      wpAny (model prog w) A (assign target env v) (fun _ s₃ => wpAny (model prog w) A (execs body env) (TPostS h₀ env.locals I it stored m₀ (J (i + 1)) { s with heap := h, toks := tk } Q) E s₃) E { s with heap := h, toks := tk })
    (done : ∀ (u : Str → Option Value) news₁ h tk, J items.size news₁ → Fr h₀ env.locals h (fun y => if stored.contains y = true then u y else m₀ y) → News h₀ env.locals h news₁ → Q .next { s with heap := h, toks := tk }) :
    wpAny (model prog w) A (pyIter (.ref ax)) (fun it s₂ => TurnsAt prog w A h₀ env target body Q E it s₂) E s := by
  obtain ⟨o, ho, hc, n, hd⟩ := ht
  have hax : s.heap.get? ax = some o := F.keep _ _ ho
  have hl : s.heap.IsList ax items := ⟨o, hax, hc, n, hd⟩
  have hne : ax ≠ s.heap.objs.size := Nat.ne_of_lt (Heap.lt_size hax)
  refine wpAny_pyIter_list hl ?_
  exact loop_coreS (tk0 := s.toks) stored (KTurns.ofWalks (Walks.list hh s.heap.objs.size ax hne items) fun i v s Q E st q => letGo_listiter st.1 q) ⟨⟨_, Heap.get?_push_size _ rfl, rfl, rfl⟩, hl.at fun o e => Heap.get?_push_of_some _ e⟩
    (fun i h st => let ⟨o, ho, _⟩ := st.1; ⟨o, ho⟩) (next_is_new F) (fun b hb => (List.mem_cons.mp hb).imp id fun e => ⟨o, by rw [List.mem_singleton.mp e]; exact ho⟩) (fun e => absurd F.ns.lt (e ▸ Nat.lt_irrefl _)) (fun p hp e => absurd (Heap.lt_size (N p hp).1) (e ▸ Nat.lt_irrefl _)) (F.push _)
    (fun p hp => ⟨Heap.get?_push_of_some _ (N p hp).1, (N p hp).2⟩) J h0 (fun i v u news₁ h tk it hi hP => turn i v u news₁ h tk _ it hi hP) done

theorem loop_rangeS {x : Str} {px : Pos} {r : Addr} {a b : Int} {n : Nat} {t0 u0 v0 : Tok} {m₀ : Str → Option Value} {news : List (Addr × Obj)} (stored : List Str) (J : Nat → List (Addr × Obj) → Prop) (hh : A.handled = none) (hr : IsRange s.heap r a b 1 t0 u0 v0)
    (hsmall : Builtin.Range.small a b 1 = true) (hn : Builtin.Range.rangeSize a b 1 = (n : Int)) (F : Fr h₀ env.locals s.heap m₀) (N : News h₀ env.locals s.heap news)
    (h0 : J 0 news)
    (turn : ∀ i t (u : Str → Option Value) news₁ h tk I it, i < n → J i news₁ → AllNe I news₁ → Fr h₀ env.locals h (fun y => if stored.contains y = true then u y else m₀ y) → News h₀ env.locals h ((I, it) :: news₁) →
      wpAny (model prog w) A (assign (.Name x px) env (.int (a + (i : Nat)) t)) (fun _ s₃ => wpAny (model prog w) A (execs body env) (TPostS h₀ env.locals I it stored m₀ (J (i + 1)) { s with heap := h, toks := tk } Q) E s₃) E { s with heap := h, toks := tk })
    (done : ∀ (u : Str → Option Value) news₁ h tk, J n news₁ → Fr h₀ env.locals h (fun y => if stored.contains y = true then u y else m₀ y) → News h₀ env.locals h news₁ → Q .next { s with heap := h, toks := tk }) :
    wpAny (model prog w) A (pyIter (.ref r)) (fun it s₂ => TurnsAt prog w A h₀ env (.Name x px) body Q E it s₂) E s := by
  refine wpAny_pyIter_range hr hsmall ?_
  exact loop_coreS (tk0 := s.toks) stored (KTurns.ofWalks (LCg.range_walks hh a n) fun i v s Q E st q => by unfold letOwnedTupleGo; exact wpAny_pure q) (by show IsRangeIter _ _ _ _ _; rw [hn]; simpa using Heap.get?_push_size _ rfl)
    (fun i h st => ⟨_, st⟩) (next_is_new F) (fun b hb => .inl (List.mem_singleton.mp hb)) (fun e => absurd F.ns.lt (e ▸ Nat.lt_irrefl _)) (fun p hp e => absurd (Heap.lt_size (N p hp).1) (e ▸ Nat.lt_irrefl _)) (F.push _)
    (fun p hp => ⟨Heap.get?_push_of_some _ (N p hp).1, (N p hp).2⟩) J h0 (fun i v u news₁ h tk it hi hP => by obtain ⟨t, rfl⟩ := hP; exact turn i t u news₁ h tk _ it hi) done

theorem loop_rangeW {x : Str} {px : Pos} {r W : Addr} {a b : Int} {n : Nat} {t0 u0 v0 : Tok} {m₀ : Str → Option Value} {rest : List (Addr × Obj)} {vs₀ : List Value} {k₀ : Nat} (stored : List Str) (G : Nat → List Str) (hh : A.handled = none) (hr : IsRange s.heap r a b 1 t0 u0 v0)
    (hsmall : Builtin.Range.small a b 1 = true) (hn : Builtin.Range.rangeSize a b 1 = (n : Int)) (F : Fr h₀ env.locals s.heap m₀) (N : News h₀ env.locals s.heap ((W, listOf vs₀.toArray k₀) :: rest))
    (h0 : StrsAre vs₀ (G 0))
    (turn : ∀ i t (u : Str → Option Value) vs k h tk I it, i < n → StrsAre vs (G i) → @Ne Nat W I → AllNe I rest → Fr h₀ env.locals h (fun y => if stored.contains y = true then u y else m₀ y) → News h₀ env.locals h ((I, it) :: (W, listOf vs.toArray k) :: rest) →
      wpAny (model prog w) A (assign (.Name x px) env (.int (a + (i : Nat)) t)) (fun _ s₃ => wpAny (model prog w) A (execs body env) (TPostS h₀ env.locals I it stored m₀ (fun nw => ∃ vs' k', nw = (W, listOf vs'.toArray k') :: rest ∧ StrsAre vs' (G (i + 1))) { s with heap := h, toks := tk } Q) E s₃) E { s with heap := h, toks := tk })
    (done : ∀ (u : Str → Option Value) vs k h tk, StrsAre vs (G n) → Fr h₀ env.locals h (fun y => if stored.contains y = true then u y else m₀ y) → News h₀ env.locals h ((W, listOf vs.toArray k) :: rest) → Q .next { s with heap := h, toks := tk }) :
    wpAny (model prog w) A (pyIter (.ref r)) (fun it s₂ => TurnsAt prog w A h₀ env (.Name x px) body Q E it s₂) E s := by
  refine loop_rangeS stored (fun i nw => ∃ vs k, nw = (W, listOf vs.toArray k) :: rest ∧ StrsAre vs (G i)) hh hr hsmall hn F N ⟨vs₀, k₀, rfl, h0⟩ ?_ ?_
  · rintro i t u news₁ h tk I it hi ⟨vs, k, rfl, hvs⟩ hne F₁ N₁
    exact turn i t u vs k h tk I it hi hvs hne.1 hne.2 F₁ N₁
  · rintro u news₁ h tk ⟨vs, k, rfl, hvs⟩ F₁ N₁
    exact done u vs k h tk hvs F₁ N₁
end
end

section
noncomputable section
def cut (o : Str) (b e : Int) : Str := Txt.slice o none (some b) ++ Str.ofString "*" ++ Txt.slice o (some e) none
def rowOf (o : Str) (b j : Nat) : List Str := (List.range j).map fun (k : Nat) => cut o (0 + (b : Nat)) (0 + (b : Nat) + (k : Nat))
def waysOf (o : Str) (i : Nat) : List Str := (List.range i).flatMap fun (b : Nat) => rowOf o b (o.length + 1 - b)
end
theorem head_name {x y a : Str} {r : List Str} (_ : Txt.split x y = a :: r) : ∃ o, o = a := ⟨a, rfl⟩
theorem rowOf_len (o : Str) (b j : Nat) : (rowOf o b j).length = j := by simp [rowOf]
theorem rowOf_succ (o : Str) (b j : Nat) : rowOf o b (j + 1) = rowOf o b j ++ [cut o (0 + (b : Nat)) (0 + (b : Nat) + (j : Nat))] := by simp [rowOf, List.range_succ]
theorem waysOf_succ (o : Str) (i : Nat) : waysOf o (i + 1) = waysOf o i ++ rowOf o i (o.length + 1 - i) := by simp [waysOf, List.range_succ, List.flatMap_append]
theorem waysOf_len (o : Str) (ho : o.length ≤ 400) : ∀ i, (waysOf o i).length ≤ 500 * i
  | 0 => by simp [waysOf]
  | i + 1 => by
    have := waysOf_len o ho i
    rw [waysOf_succ, List.length_append, rowOf_len]; omega
section
variable {prog : Program} {w : World} {A : Around} {E : Value → Shared → Prop} {s : Shared} {h₀ : Heap} {L D : Addr} {m : PySem.Str → Option Value} {news news' : List (Addr × Obj)} {vs : List Value} {xs : List Str} {n : Nat} {x : Str} {t : Tok} {Q : Value → Shared → Prop}
theorem append_S (F : Fr h₀ L s.heap m) (N : News h₀ L s.heap news) (hv : StrsAre vs xs) (hb : xs.length ≤ 1000000) (U : Upd D (listOf vs.toArray n) (listOf (vs ++ [Value.str x t]).toArray (n + 1)) news news')
    (h : ∀ h', Fr h₀ L h' m → News h₀ L h' news' → StrsAre (vs ++ [Value.str x t]) (xs ++ [x]) → Q .none { s with heap := h' }) : wpAny (model prog w) A (call (.builtin "list.append") [.ref D, Value.str x t]) Q E s := by
  have e : listOf (vs.toArray.push (Value.str x t)) (n + 1) = listOf (vs ++ [Value.str x t]).toArray (n + 1) := by rw [List.push_toArray]
  exact append_K F N (e ▸ U) (fun h' F' N' => h h' F' N' (kct_snoc hv)) (by rw [List.size_toArray, hv.len_eq, sizeLine_eq]; omega)
end
end

section
noncomputable section
def fitv (name host : Str) : Str :=
  if (name == Str.ofString "") = true then Str.ofString "no"
  else if 1 < ((List.filter (fun a => a == Str.ofString "*") (signs ((Txt.split (Txt.lower name) (Str.ofString ".")).headD Str.empty))).length : Int) then Str.ofString "many"
  else if (((List.filter (fun a => a == Str.ofString "*") (signs ((Txt.split (Txt.lower name) (Str.ofString ".")).headD Str.empty))).length : Int) = 0 ∨ (Txt.slice name none (some 4) == Str.ofString "xn--") = true ∨ (Txt.slice host none (some 4) == Str.ofString "xn--") = true) ∧ ((Txt.split (Txt.lower name) (Str.ofString ".")).headD Str.empty != Str.ofString "*") = true then (if Txt.split (Txt.lower name) (Str.ofString ".") = Txt.split (Txt.lower host) (Str.ofString ".") then Str.ofString "yes" else Str.ofString "no")
  else if List.drop 1 (Txt.split (Txt.lower name) (Str.ofString ".")) = List.drop 1 (Txt.split (Txt.lower host) (Str.ofString ".")) then
    if ((Txt.split (Txt.lower name) (Str.ofString ".")).headD Str.empty == Str.ofString "*") = true then (if ((Txt.split (Txt.lower host) (Str.ofString ".")).headD Str.empty != Str.ofString "") = true then Str.ofString "yes" else Str.ofString "no")
    else if ((waysOf ((Txt.split (Txt.lower host) (Str.ofString ".")).headD Str.empty) (((Txt.split (Txt.lower host) (Str.ofString ".")).headD Str.empty).length + 1)).any fun x => x == (Txt.split (Txt.lower name) (Str.ofString ".")).headD Str.empty) = true then Str.ofString "yes" else Str.ofString "no"
  else Str.ofString "no"
end
section
variable {name host x o : Str} {r q : List Str}
theorem fit1 (h : (name == Str.ofString "") = true) : fitv name host = Str.ofString "no" := by
  unfold fitv; rw [if_pos h]
theorem fit2 (h : (name == Str.ofString "") = false) (e : Txt.split (Txt.lower name) (Str.ofString ".") = x :: r) (hs : 1 < ((List.filter (fun a => a == Str.ofString "*") (signs x)).length : Int)) : fitv name host = Str.ofString "many" := by
  unfold fitv; rw [if_neg (by rw [h]; decide), if_pos (by rw [e]; exact hs)]
theorem fit3 (h : (name == Str.ofString "") = false) (e : Txt.split (Txt.lower name) (Str.ofString ".") = x :: r) (hs : ¬ 1 < ((List.filter (fun a => a == Str.ofString "*") (signs x)).length : Int)) (hx : (x != Str.ofString "*") = true) (hr : (((List.filter (fun a => a == Str.ofString "*") (signs x)).length : Int) = 0 ∨ (Txt.slice name none (some 4) == Str.ofString "xn--") = true ∨ (Txt.slice host none (some 4) == Str.ofString "xn--") = true)) (hq : Txt.split (Txt.lower name) (Str.ofString ".") = Txt.split (Txt.lower host) (Str.ofString ".")) : fitv name host = Str.ofString "yes" := by
  unfold fitv; rw [if_neg (by rw [h]; decide), if_neg (by rw [e]; exact hs), if_pos (by rw [e]; exact ⟨hr, hx⟩), if_pos hq]
theorem fit4 (h : (name == Str.ofString "") = false) (e : Txt.split (Txt.lower name) (Str.ofString ".") = x :: r) (hs : ¬ 1 < ((List.filter (fun a => a == Str.ofString "*") (signs x)).length : Int)) (hx : (x != Str.ofString "*") = true) (hr : (((List.filter (fun a => a == Str.ofString "*") (signs x)).length : Int) = 0 ∨ (Txt.slice name none (some 4) == Str.ofString "xn--") = true ∨ (Txt.slice host none (some 4) == Str.ofString "xn--") = true)) (hq : ¬ Txt.split (Txt.lower name) (Str.ofString ".") = Txt.split (Txt.lower host) (Str.ofString ".")) : fitv name host = Str.ofString "no" := by
  unfold fitv; rw [if_neg (by rw [h]; decide), if_neg (by rw [e]; exact hs), if_pos (by rw [e]; exact ⟨hr, hx⟩), if_neg hq]
theorem fit5a (h : (name == Str.ofString "") = false) (e : Txt.split (Txt.lower name) (Str.ofString ".") = x :: r) (hs : ¬ 1 < ((List.filter (fun a => a == Str.ofString "*") (signs x)).length : Int)) (hx : (x != Str.ofString "*") = false) (hd : ¬ List.drop 1 (Txt.split (Txt.lower name) (Str.ofString ".")) = List.drop 1 (Txt.split (Txt.lower host) (Str.ofString "."))) : fitv name host = Str.ofString "no" := by
  unfold fitv; rw [if_neg (by rw [h]; decide), if_neg (by rw [e]; exact hs), if_neg (by rw [e]; rintro ⟨_, k⟩; simp only [List.headD_cons] at k; rw [hx] at k; cases k), if_neg hd]
theorem fit5b (h : (name == Str.ofString "") = false) (e : Txt.split (Txt.lower name) (Str.ofString ".") = x :: r) (hs : ¬ 1 < ((List.filter (fun a => a == Str.ofString "*") (signs x)).length : Int)) (h0 : ((List.filter (fun a => a == Str.ofString "*") (signs x)).length : Int) ≠ 0) (h1 : (Txt.slice name none (some 4) == Str.ofString "xn--") = false) (h2 : (Txt.slice host none (some 4) == Str.ofString "xn--") = false) (hd : ¬ List.drop 1 (Txt.split (Txt.lower name) (Str.ofString ".")) = List.drop 1 (Txt.split (Txt.lower host) (Str.ofString "."))) : fitv name host = Str.ofString "no" := by
  unfold fitv; rw [if_neg (by rw [h]; decide), if_neg (by rw [e]; exact hs), if_neg (by rw [e]; rintro ⟨k | k | k, _⟩; exact h0 k; (rw [h1] at k; cases k); (rw [h2] at k; cases k)), if_neg hd]
theorem fit6 (h : (name == Str.ofString "") = false) (e : Txt.split (Txt.lower name) (Str.ofString ".") = x :: r) (hs : ¬ 1 < ((List.filter (fun a => a == Str.ofString "*") (signs x)).length : Int)) (hx : (x == Str.ofString "*") = true) (hd : List.drop 1 (Txt.split (Txt.lower name) (Str.ofString ".")) = List.drop 1 (Txt.split (Txt.lower host) (Str.ofString "."))) (e2 : Txt.split (Txt.lower host) (Str.ofString ".") = o :: q) (ho : (o != Str.ofString "") = true) : fitv name host = Str.ofString "yes" := by
  unfold fitv; rw [if_neg (by rw [h]; decide), if_neg (by rw [e]; exact hs), if_neg (by rw [e]; rintro ⟨_, k⟩; simp only [List.headD_cons] at k; rw [bne, hx] at k; cases k), if_pos hd, if_pos (by rw [e]; exact hx), if_pos (by rw [e2]; exact ho)]
theorem fit7 (h : (name == Str.ofString "") = false) (e : Txt.split (Txt.lower name) (Str.ofString ".") = x :: r) (hs : ¬ 1 < ((List.filter (fun a => a == Str.ofString "*") (signs x)).length : Int)) (hx : (x == Str.ofString "*") = true) (hd : List.drop 1 (Txt.split (Txt.lower name) (Str.ofString ".")) = List.drop 1 (Txt.split (Txt.lower host) (Str.ofString "."))) (e2 : Txt.split (Txt.lower host) (Str.ofString ".") = o :: q) (ho : (o != Str.ofString "") = false) : fitv name host = Str.ofString "no" := by
  unfold fitv; rw [if_neg (by rw [h]; decide), if_neg (by rw [e]; exact hs), if_neg (by rw [e]; rintro ⟨_, k⟩; simp only [List.headD_cons] at k; rw [bne, hx] at k; cases k), if_pos hd, if_pos (by rw [e]; exact hx), if_neg (by rw [e2]; simp only [List.headD_cons]; rw [ho]; decide)]
theorem fit8 (h : (name == Str.ofString "") = false) (e : Txt.split (Txt.lower name) (Str.ofString ".") = x :: r) (hs : ¬ 1 < ((List.filter (fun a => a == Str.ofString "*") (signs x)).length : Int)) (hx : (x == Str.ofString "*") = false) (h0 : ((List.filter (fun a => a == Str.ofString "*") (signs x)).length : Int) ≠ 0) (h1 : (Txt.slice name none (some 4) == Str.ofString "xn--") = false) (h2 : (Txt.slice host none (some 4) == Str.ofString "xn--") = false) (hd : List.drop 1 (Txt.split (Txt.lower name) (Str.ofString ".")) = List.drop 1 (Txt.split (Txt.lower host) (Str.ofString "."))) (e2 : Txt.split (Txt.lower host) (Str.ofString ".") = o :: q)
    (hw : ((waysOf o (o.length + 1)).any fun z => z == x) = true) : fitv name host = Str.ofString "yes" := by
  unfold fitv; rw [if_neg (by rw [h]; decide), if_neg (by rw [e]; exact hs), if_neg (by rw [e]; rintro ⟨k | k | k, _⟩; exact h0 k; (rw [h1] at k; cases k); (rw [h2] at k; cases k)), if_pos hd, if_neg (by rw [e]; simp only [List.headD_cons]; rw [hx]; decide), if_pos (by rw [e, e2]; exact hw)]
theorem fit9 (h : (name == Str.ofString "") = false) (e : Txt.split (Txt.lower name) (Str.ofString ".") = x :: r) (hs : ¬ 1 < ((List.filter (fun a => a == Str.ofString "*") (signs x)).length : Int)) (hx : (x == Str.ofString "*") = false) (h0 : ((List.filter (fun a => a == Str.ofString "*") (signs x)).length : Int) ≠ 0) (h1 : (Txt.slice name none (some 4) == Str.ofString "xn--") = false) (h2 : (Txt.slice host none (some 4) == Str.ofString "xn--") = false) (hd : List.drop 1 (Txt.split (Txt.lower name) (Str.ofString ".")) = List.drop 1 (Txt.split (Txt.lower host) (Str.ofString "."))) (e2 : Txt.split (Txt.lower host) (Str.ofString ".") = o :: q)
    (hw : ((waysOf o (o.length + 1)).any fun z => z == x) = false) : fitv name host = Str.ofString "no" := by
  unfold fitv; rw [if_neg (by rw [h]; decide), if_neg (by rw [e]; exact hs), if_neg (by rw [e]; rintro ⟨k | k | k, _⟩; exact h0 k; (rw [h1] at k; cases k); (rw [h2] at k; cases k)), if_pos hd, if_neg (by rw [e]; simp only [List.headD_cons]; rw [hx]; decide), if_neg (by rw [e, e2]; simp only [List.headD_cons]; rw [hw]; decide)]
end
theorem strv {a b : Str} {t : Tok} (h : b = a) : ∃ t', Value.str a t = Value.str b t' := ⟨t, by rw [h]⟩
end

section
theorem getD_dig {ds : List Int} (h0 : 0 < ds.length) (hd0 : ∀ d ∈ ds, 0 ≤ d ∧ d < 4096) (i : Int) : 0 ≤ ds.getD (i.fmod ds.length).toNat 0 ∧ ds.getD (i.fmod ds.length).toNat 0 < 4096 := by
  have h1 : 0 ≤ i.fmod ds.length := fmod_lo _ (by omega)
  have h2 : i.fmod ds.length < ds.length := fmod_hi _ (by omega)
  have hlt : (i.fmod ds.length).toNat < ds.length := by omega
  rw [List.getD_eq_getElem?_getD, List.getElem?_eq_getElem hlt]
  exact hd0 _ (List.getElem_mem _)

theorem ct_at (w : World) (mean : ExcName → Option Value) (mg mb : Str → Option Value) (l : Addr) (vs : List Value) (i : Int) (t : Tok) (ds : List Int) (h0 : 0 < ds.length) (hf : ds.length < 1000) (hd0 : ∀ d ∈ ds, 0 ≤ d ∧ d < 4096) :
    Ct w mean mg mb 600 3000 53 [.ref l, .int i t] (fun h => h.IsList l vs.toArray ∧ IntsAre vs ds) (fun _ _ v => ∃ d t, 0 ≤ d ∧ d < 4096 ∧ v = .int d t) NoEx := by
  unfold Ct
  w_top off
  k_fill
  intro A base outer s Q E hh hd hu B X T hP hret hex
  obtain ⟨hl, hi⟩ := hP
  refine depth_le (d := 600) (u := 3000) ?_ hd hu
  obtain ⟨hA, dA, fA, gA, uA⟩ := A
  dsimp only at *
  subst hh
  have hfA : fA = some outer := B.stack
  subst hfA
  have B1 : Below { handled := none, depth := 600, frames := some outer, guards := gA, units := 3000 } base outer s.heap := ⟨rfl, B.stays, B.frames⟩
  clear B hd hu
  refine wpAny_call ?_
  k_dflt (refine' enter0 (binds := [(Str.ofString "digits", .ref l), (Str.ofString "at", .int i t)]) B1 X T ?k6 ?k7 ?k8 ?k9 ?kB ?_ ?c2 ?c3 ?c4 ?c5; (case k6 => k_is); (case k7 => k_is); (case k8 => k_room); (case k9 => exact BindsTo.of_eq rfl); (case c5 => decide); (case kB => exact locs rfl); (case c2 => exact rfl); (case c3 => exact rfl); (case c4 => exact rfl); k_whole; intro L' h' F' N')
  k_steps
  have hb := getD_dig h0 hd0 i
  exact hret _ _ _ F'.keep ⟨_, _, hb.1, hb.2, rfl⟩

theorem ct_pick (w : World) (mean : ExcName → Option Value) (mg mb : Str → Option Value) (l th : Addr) (vs us : List Value) (xs : List Str) (i : Int) (t : Tok) (hx : 0 < xs.length) (hxf : xs.length < 1000) (ds : List Int) (h0 : 0 < ds.length) (hf : ds.length < 1000) (hd0 : ∀ d ∈ ds, 0 ≤ d ∧ d < 4096) :
    Ct w mean mg mb 600 3000 60 [.ref l, .int i t, .ref th] (fun h => h.IsList l vs.toArray ∧ IntsAre vs ds ∧ h.IsList th us.toArray ∧ StrsAre us xs) (fun _ _ v => ∃ x t, x ∈ xs ∧ v = .str x t) NoEx := by
  unfold Ct
  w_top off
  k_fill
  intro A base outer s Q E hh hd hu B X T hP hret hex
  obtain ⟨hl, hi, hth, hxs⟩ := hP
  refine depth_le (d := 600) (u := 3000) ?_ hd hu
  obtain ⟨hA, dA, fA, gA, uA⟩ := A
  dsimp only at *
  subst hh
  have hfA : fA = some outer := B.stack
  subst hfA
  have B1 : Below { handled := none, depth := 600, frames := some outer, guards := gA, units := 3000 } base outer s.heap := ⟨rfl, B.stays, B.frames⟩
  clear B hd hu
  refine wpAny_call ?_
  k_dflt (refine' enter0 (binds := [(Str.ofString "digits", .ref l), (Str.ofString "at", .int i t), (Str.ofString "things", .ref th)]) B1 X T ?k6 ?k7 ?k8 ?k9 ?kB ?_ ?c2 ?c3 ?c4 ?c5; (case k6 => k_is); (case k7 => k_is); (case k8 => k_room); (case k9 => exact BindsTo.of_eq rfl); (case c5 => decide); (case kB => exact locs rfl); (case c2 => exact rfl); (case c3 => exact rfl); (case c4 => exact rfl); k_whole; intro L' h' F' N')
  k_steps
  have hb := getD_dig h0 hd0 i
  have h3 : 0 ≤ (ds.getD (i.fmod ds.length).toNat 0).fmod xs.length := fmod_lo _ (by omega)
  have h4 : (ds.getD (i.fmod ds.length).toNat 0).fmod xs.length < xs.length := fmod_hi _ (by omega)
  refine item_mem (by is_list) (by assumption) h3 h4 (by omega) fun x t' hx' => ?_
  exact hret _ _ _ F'.keep ⟨_, _, hx', rfl⟩
end

section
local macro_rules | `(tactic| walk_at "call builtin:repr") => `(tactic| (k_here; (refine Mine.repr_lay (by assumption) ?_); intro _ _ _))
local macro_rules | `(tactic| walk_at "call builtin:str.split") => `(tactic| (k_here; (with_reducible show wpAny _ _ (call (Value.builtin "str.split") _) _ _ _); (refine Mine.split_S (by k_asm) (by k_asm) (by decide) ?_ (by rw [sizeLine_eq]; omega)); intro D' vs' h' k' a' g1' g2' F' N' l1; (try k_lt l1); (try k_sweep)))
local macro_rules | `(tactic| walk_at "subscriptTail Name Slice ref ref") => `(tactic| (k_here; (with_reducible show wpAny _ _ (subscriptTail _ (PySem.Expr.Slice _ _ none _) (Value.ref _) (Value.ref _)) _ _ _); k_dflt (refine' kms_slice_lit ?F ?N ?l ?p ?q (Mine.pick1 _) ?_ ?s ?t ?z; (case F => k_asm); (case N => k_asm); (case l => kmk_list); (case p => kmk_part); (case q => kmk_part); (case s => with_unfolding_all rfl); (case t => kmk_pure); (case z => ((simp only [List.size_toArray, sizeLine_eq]); omega))); intro D' h' F' N' l1; (try k_lt l1); (try k_sweep)))
local macro_rules | `(tactic| walk_at "subscriptTail Name Constant ref int") => `(tactic| (k_here; (with_reducible show wpAny _ _ (subscriptTail _ _ (Value.ref _) (Value.int _ _)) _ _ _); first | (k_dflt (refine' Mine.item0_H ?k1 ?k2 ?k3 ?_; (case k1 => is_list); (case k2 => assumption); (case k3 => assumption)); intro t') | (k_dflt (refine' Mine.item0_S ?k1 ?k2 ?k3 ?_; (case k1 => is_list); (case k2 => assumption); (case k3 => assumption)); intro x' r' t' e'; (have b' := Mine.head_short e'))))
local macro_rules | `(tactic| walk_at "compareOp NotEq ref ref") => `(tactic| (k_here; (with_reducible show wpAny _ _ (compareOp CmpOp.NotEq (Value.ref _) (Value.ref _)) _ _ _); k_dflt (refine' Mine.ne_strsK ?k1 ?k2 ?k3 ?k4 ?k6 ?k7 ?k5 ?_; (case k1 => is_list); (case k2 => (first | assumption | exact StrsAre.drop' (by assumption) 1)); (case k3 => is_list); (case k4 => (first | assumption | exact StrsAre.drop' (by assumption) 1)); (case k6 => assumption); (case k7 => assumption); (case k5 => units_room))))
local macro_rules | `(tactic| walk_at "call builtin:len") => `(tactic| (k_here; k_dflt (first | refine Mine.len_part1 (by omega) ?_ | refine Mine.len_part3 (by omega) ?_); intro _ _ _))
local macro_rules | `(tactic| walk_at "leaving ref") => `(tactic| (k_here; k_dflt (refine' leave_raiseS ?k1 ?k0 ?k2 News.nil ?_; (case k0 => assumption); (case k1 => assumption); (case k2 => assumption)); intro h' t' R' R2' U'; (try dsimp only at R' U' ⊢)))
local macro_rules | `(tactic| walk_at "eval ListComp") => `(tactic| (k_here; k_dflt (refine LCg.ListComp_U (F₀ := by k_asm) (by rfl) (by decide) (by rfl) (by decide) (by rfl) ?_); k_dflt lcg_toSrc))
local macro_rules | `(tactic| walk_at "CompSrc") => `(tactic| (k_here; k_dflt (refine LCg.CompSrc.ledger (by rfl) (by k_asm) (by k_asm) (by k_mem) (by ((simp only [List.size_toArray, List.length_drop, sizeLine_eq]); omega)) ?_; intro g'; (refine' comp_strs Txt.lower (StrsAre.drop' (by assumption) 1) ?ct ?cs ?cf); (case cs => lcg_src); (case' ct => (intro x0 t0 I' oI' C' oC' D' m' ys' h' tk' E' hk' hC' hx' F' N' off' ne' hS'; (have hk2' := part_short (List.mem_of_mem_drop hk')))); (case' cf => (intro ys' hys'; (dsimp only [LCg.FinE]); intro D' h' tk' F' N' o'; (try simp only [LCg.Off1, and_true] at o'); (try k_sweep))))))
local macro_rules | `(tactic| walk_at "CompEnd") => `(tactic| (refine LCg.CompEnd.intro (by assumption) (by assumption) _ (fun _ hp => hp) (by assumption) (by assumption) ⟨rfl, _, rfl⟩))

set_option maxHeartbeats 8000000 in
theorem ct_match (w : World) (mean : ExcName → Option Value) (mg mb : Str → Option Value) (dn host : Str) (t u : Tok) (hl1 : dn.length ≤ 64) (hl2 : host.length ≤ 64) (hy1 : PyData.layable0 (.str dn) = true) (ho1 : (((Txt.split dn (Str.ofString ".")).drop 1).map Txt.lower).all PyData.strOk = true) (ho2 : ((Txt.split (Txt.lower host) (Str.ofString ".")).drop 1).all PyData.strOk = true) :
    Ct w mean mg mb 600 3000 33 [.str dn t, .str host u] (fun _ => True) (fun _ _ v => ∃ b, dnm dn host = some b ∧ v = .bool b) (fun base outer h h' e => dnm dn host = none ∧ ExC base outer h h' e) := by
  unfold Ct
  w_top off
  k_fill
  intro A base outer s Q E hh hd hu B X T hP hret hex
  refine depth_le (d := 600) (u := 3000) ?_ hd hu
  obtain ⟨hA, dA, fA, gA, uA⟩ := A
  dsimp only at *
  subst hh
  have hfA : fA = some outer := B.stack
  subst hfA
  have B1 : Below { handled := none, depth := 600, frames := some outer, guards := gA, units := 3000 } base outer s.heap := ⟨rfl, B.stays, B.frames⟩
  clear B hd hu
  refine wpAny_call ?_
  k_dflt (refine' enter0 B1 X T ?k6 ?k7 ?k8 ?k9 ?kB ?_ ?c2 ?c3 ?c4 ?c5; (case k6 => k_is); (case k7 => k_is); (case k8 => k_room); (case k9 => exact binds_K X rfl (by k_is) rfl rfl rfl); (case c5 => decide); (case kB => exact locs rfl); (case c2 => exact rfl); (case c3 => exact rfl); (case c4 => exact rfl); k_whole; intro L' h' F' N')
  k_steps
  all_goals (try dsimp only)
  all_goals (first
  | exact hex _ _ _ ⟨dnm2 (by assumption) (by assumption) (by assumption), _, _, _, rfl, by assumption, by assumption⟩
  | exact hret _ _ _ (Fr.keep (by assumption)) ⟨_, dnm1 (by assumption), rfl⟩
  | exact hret _ _ _ (Fr.keep (by assumption)) ⟨_, dnm3 (by assumption) (by assumption) (by assumption) (by assumption), rfl⟩
  | exact hret _ _ _ (Fr.keep (by assumption)) ⟨_, dnm4 (by assumption) (by assumption) (by assumption) (by assumption) (by assumption), rfl⟩
  | exact hret _ _ _ (Fr.keep (by assumption)) ⟨_, dnm5 (by assumption) (by assumption) (by assumption) (by assumption) (by assumption) (by assumption) (by assumption), rfl⟩
  | exact hret _ _ _ (Fr.keep (by assumption)) ⟨_, dnm6 (by assumption) (by assumption) (by assumption) (by assumption) (by assumption) (by assumption) (by assumption) (by assumption), rfl⟩
  | exact hret _ _ _ (Fr.keep (by assumption)) ⟨_, dnm7 (by assumption) (by assumption) (by assumption) (by assumption) (by assumption) (by assumption) (by assumption) (by assumption), rfl⟩
  | exact hret _ _ _ (Fr.keep (by assumption)) ⟨_, dnm8 (by assumption) (by assumption) (by assumption) (by assumption) (by assumption) (by assumption) (by assumption) (by assumption) (by assumption) (by assumption), rfl⟩
  | exact hret _ _ _ (Fr.keep (by assumption)) ⟨_, dnm9 (by assumption) (by assumption) (by assumption) (by assumption) (by assumption) (by assumption) (by assumption) (by assumption) (by assumption) (by assumption) (by assumption) (by assumption) (by assumption), rfl⟩
  | exact hret _ _ _ (Fr.keep (by assumption)) ⟨_, dnm10 (by assumption) (by assumption) (by assumption) (by assumption) (by assumption) (by assumption) (by assumption) (by assumption) (by assumption) (by assumption) (by assumption) (by assumption), rfl⟩
)
end

section
local macro_rules | `(tactic| walk_at "call builtin:str.split") => `(tactic| (k_here; (with_reducible show wpAny _ _ (call (Value.builtin "str.split") _) _ _ _); (refine Mine.split_S (by k_asm) (by k_asm) (by decide) ?_ (by rw [sizeLine_eq]; omega)); intro D' vs' h' k' a' g1' g2' F' N' l1; (try k_lt l1); (try k_sweep)))
local macro_rules | `(tactic| walk_at "subscriptTail Name Slice ref ref") => `(tactic| (k_here; (with_reducible show wpAny _ _ (subscriptTail _ (PySem.Expr.Slice _ _ none _) (Value.ref _) (Value.ref _)) _ _ _); k_dflt (refine' kms_slice_lit ?F ?N ?l ?p ?q (Mine.pick1 _) ?_ ?s ?t ?z; (case F => k_asm); (case N => k_asm); (case l => kmk_list); (case p => kmk_part); (case q => kmk_part); (case s => with_unfolding_all rfl); (case t => kmk_pure); (case z => ((simp only [List.size_toArray, sizeLine_eq]); omega))); intro D' h' F' N' l1; (try k_lt l1); (try k_sweep)))
local macro_rules | `(tactic| walk_at "subscriptTail Name Constant ref int") => `(tactic| (k_here; (with_reducible show wpAny _ _ (subscriptTail _ _ (Value.ref _) (Value.int _ _)) _ _ _); first | (k_dflt (refine' Mine.item0_H ?k1 ?k2 ?k3 ?_; (case k1 => is_list); (case k2 => assumption); (case k3 => assumption)); intro t') | (k_dflt (refine' Mine.item0_S ?k1 ?k2 ?k3 ?_; (case k1 => is_list); (case k2 => assumption); (case k3 => assumption)); intro x' r' t' e'; (have b' := Mine.head_short e'))))
local macro_rules | `(tactic| walk_at "compareOp NotEq ref ref") => `(tactic| (k_here; (with_reducible show wpAny _ _ (compareOp CmpOp.NotEq (Value.ref _) (Value.ref _)) _ _ _); k_dflt (refine' Mine.ne_strsK ?k1 ?k2 ?k3 ?k4 ?k6 ?k7 ?k5 ?_; (case k1 => is_list); (case k2 => (first | assumption | exact StrsAre.drop' (by assumption) 1)); (case k3 => is_list); (case k4 => (first | assumption | exact StrsAre.drop' (by assumption) 1)); (case k6 => assumption); (case k7 => assumption); (case k5 => units_room))))
local macro_rules | `(tactic| walk_at "compareOp Eq ref ref") => `(tactic| (k_here; (with_reducible show wpAny _ _ (compareOp CmpOp.Eq (Value.ref _) (Value.ref _)) _ _ _); k_dflt (refine' Mine.eq_strsK ?k1 ?k2 ?k3 ?k4 ?k6 ?k7 ?k5 ?_; (case k1 => is_list); (case k2 => (first | assumption | exact StrsAre.drop' (by assumption) 1)); (case k3 => is_list); (case k4 => (first | assumption | exact StrsAre.drop' (by assumption) 1)); (case k6 => assumption); (case k7 => assumption); (case k5 => units_room))))
local macro_rules | `(tactic| walk_at "call builtin:len") => `(tactic| (k_here; k_dflt (refine Mine.len_stars (by assumption) (by assumption) (by omega) ?_); intro _ _))
local macro_rules | `(tactic| walk_at "exec For Name Call cons nil") => `(tactic| (k_here; refine Mine.stop ?_))
local macro_rules | `(tactic| walk_at "pyIter ref") => `(tactic| (k_here; refine Mine.stop ?_))
local macro_rules | `(tactic| walk_at "call builtin:list.append") => `(tactic| (k_here; (with_reducible show wpAny _ _ (call (Value.builtin _) [Value.ref _, Value.str _ _]) _ _ _); k_dflt (refine' Mine.append_S ?k1 ?k2 ?kv ?kb ?k3 ?_; (case k1 => k_asm); (case k2 => k_asm); (case kv => assumption); (case kb => assumption); (case k3 => k_upd)); intro h' F' N' hv'; (try k_sweep)))

set_option maxHeartbeats 8000000 in
theorem ct_fits (w : World) (mean : ExcName → Option Value) (mg mb : Str → Option Value)(name host : Str) (t u : Tok) (hl1 : name.length ≤ 64) (hl2 : host.length ≤ 64) (ho1 : (Txt.split (Txt.lower name) (Str.ofString ".")).all PyData.strOk = true) (ho2 : (Txt.split (Txt.lower host) (Str.ofString ".")).all PyData.strOk = true) (ho3 : ((Txt.split (Txt.lower name) (Str.ofString ".")).drop 1).all PyData.strOk = true) (ho4 : ((Txt.split (Txt.lower host) (Str.ofString ".")).drop 1).all PyData.strOk = true) :
    Ct w mean mg mb 600 3000 65 [.str name t, .str host u] (fun _ => True) (fun _ _ v => ∃ t', v = .str (fitv name host) t') NoEx := by
  unfold Ct
  w_top off
  k_fill
  intro A base outer s Q E hh hd hu B X T hP hret hex
  refine depth_le (d := 600) (u := 3000) ?_ hd hu
  obtain ⟨hA, dA, fA, gA, uA⟩ := A
  dsimp only at *
  subst hh
  have hfA : fA = some outer := B.stack
  subst hfA
  have B1 : Below { handled := none, depth := 600, frames := some outer, guards := gA, units := 3000 } base outer s.heap := ⟨rfl, B.stays, B.frames⟩
  clear B hd hu
  refine wpAny_call ?_
  k_dflt (refine' enter0 (binds := [(Str.ofString "name", .str name t), (Str.ofString "host", .str host u)]) B1 X T ?k6 ?k7 ?k8 ?k9 ?kB ?_ ?c2 ?c3 ?c4 ?c5; (case k6 => k_is); (case k7 => k_is); (case k8 => k_room); (case k9 => exact BindsTo.of_eq rfl); (case c5 => decide); (case kB => exact locs rfl); (case c2 => exact rfl); (case c3 => exact rfl); (case c4 => exact rfl); k_whole; intro L' h' F' N')
  k_steps
  all_goals (try dsimp only)
  all_goals (try (exfalso; exact contra_ne (by assumption) (by assumption)))
  all_goals (first
  | exact hret _ _ _ (Fr.keep (by assumption)) (strv (fit1 (by with_reducible assumption)))
  | exact hret _ _ _ (Fr.keep (by assumption)) (strv (fit2 (by with_reducible assumption) (by with_reducible assumption) (by with_reducible assumption)))
  | exact hret _ _ _ (Fr.keep (by assumption)) (strv (fit3 (by with_reducible assumption) (by with_reducible assumption) (by with_reducible assumption) (by with_reducible assumption) (by first | exact .inl (by with_reducible assumption) | exact .inr (.inl (by with_reducible assumption)) | exact .inr (.inr (by with_reducible assumption))) (by with_reducible assumption)))
  | exact hret _ _ _ (Fr.keep (by assumption)) (strv (fit4 (by with_reducible assumption) (by with_reducible assumption) (by with_reducible assumption) (by with_reducible assumption) (by first | exact .inl (by with_reducible assumption) | exact .inr (.inl (by with_reducible assumption)) | exact .inr (.inr (by with_reducible assumption))) (by with_reducible assumption)))
  | exact hret _ _ _ (Fr.keep (by assumption)) (strv (fit5a (by with_reducible assumption) (by with_reducible assumption) (by with_reducible assumption) (by with_reducible assumption) (by with_reducible assumption)))
  | exact hret _ _ _ (Fr.keep (by assumption)) (strv (fit5b (by with_reducible assumption) (by with_reducible assumption) (by with_reducible assumption) (by with_reducible assumption) (by with_reducible assumption) (by with_reducible assumption) (by with_reducible assumption)))
  | exact hret _ _ _ (Fr.keep (by assumption)) (strv (fit6 (by with_reducible assumption) (by with_reducible assumption) (by with_reducible assumption) (by with_reducible assumption) (by with_reducible assumption) (by with_reducible assumption) (by with_reducible assumption)))
  | exact hret _ _ _ (Fr.keep (by assumption)) (strv (fit7 (by with_reducible assumption) (by with_reducible assumption) (by with_reducible assumption) (by with_reducible assumption) (by with_reducible assumption) (by with_reducible assumption) (by with_reducible assumption)))
  | exact hret _ _ _ (Fr.keep (by assumption)) (strv (fit8 (by with_reducible assumption) (by with_reducible assumption) (by with_reducible assumption) (by with_reducible assumption) (by with_reducible assumption) (by with_reducible assumption) (by with_reducible assumption) (by with_reducible assumption) (by with_reducible assumption) (by with_reducible assumption)))
  | exact hret _ _ _ (Fr.keep (by assumption)) (strv (fit9 (by with_reducible assumption) (by with_reducible assumption) (by with_reducible assumption) (by with_reducible assumption) (by with_reducible assumption) (by with_reducible assumption) (by with_reducible assumption) (by with_reducible assumption) (by with_reducible assumption) (by with_reducible assumption)))
  | skip)
  refine Mine.Stop.mk ?_
  refine For_turns (by assumption) ?_
  k_steps
  refine Mine.Stop.mk ?_
  obtain ⟨o, rfl⟩ := head_name ‹Txt.split (Txt.lower host) (Str.ofString ".") = _ :: _›
  refine loop_rangeW (n := o.length + 1) [Str.ofString "begin", Str.ofString "end"] (fun i => waysOf o i) rfl (by assumption) (small_one (by omega) (by omega) (by omega) (by omega)) (by rw [rangeSize_nat]; omega) (by assumption) (by assumption) .nil ?_ ?_
  · intro i ti u1 vs1 k1 h1 tk1 I1 it1 hi1 hvs1 hne1 hnr1 F1 N1
    simp only [AllNe, and_true] at hnr1
    have hb1 := waysOf_len o (by omega) i
    k_sweep
    (try dsimp only)
    k_steps
    refine Mine.Stop.mk ?_
    refine For_turns (by assumption) ?_
    k_steps
    refine Mine.Stop.mk ?_
    refine loop_rangeW (n := o.length + 1 - i) [Str.ofString "end"] (fun j => waysOf o i ++ rowOf o i j) rfl (by assumption) (small_one (by omega) (by omega) (by omega) (by omega)) (by rw [rangeSize_nat]; omega) (by assumption) (news_swap (by assumption)) (by rw [show rowOf o i 0 = [] from rfl, List.append_nil]; assumption) ?_ ?_
    · intro j tj u2 vs2 k2 h2 tk2 I2 it2 hi2 hvs2 hne2 hnr2 F2 N2
      simp only [AllNe, and_true] at hnr2
      have hb2 : (waysOf o i ++ rowOf o i j).length ≤ 1000000 := by rw [List.length_append, rowOf_len]; omega
      k_sweep
      (try dsimp only)
      k_steps
      refine TEndS.intro (by assumption) (by assumption) _ (fun _ hp => hp) (by simp only [AllNe, and_true]; exact ⟨hne2, hnr2⟩) ?_ ⟨_, _, rfl, by rw [rowOf_succ, ← List.append_assoc]; assumption⟩
      intro y hy
      have a := ne_of_contains (x := Str.ofString "end") (by simp) hy
      simp [a]
    · intro u3 vs3 k3 h3 tk3 hvs3 F3 N3
      k_sweep
      (try dsimp only)
      k_steps
      refine TEndS.intro (by assumption) (news_swap (by assumption)) _ (fun _ hp => hp) (by simp only [AllNe, and_true]; exact ⟨hne1, hnr1⟩) ?_ ⟨_, _, rfl, by rw [waysOf_succ]; assumption⟩
      intro y hy
      have a := ne_of_contains (x := Str.ofString "end") (by simp) hy
      have b := ne_of_contains (x := Str.ofString "begin") (by simp) hy
      simp [a, b]
  · intro u4 vs4 k4 h4 tk4 hvs4 F4 N4
    k_sweep
    (try dsimp only)
    k_steps
    all_goals (try dsimp only)
    all_goals (first
    | exact hret _ _ _ (Fr.keep (by assumption)) (strv (fit1 (by with_reducible assumption)))
    | exact hret _ _ _ (Fr.keep (by assumption)) (strv (fit2 (by with_reducible assumption) (by with_reducible assumption) (by with_reducible assumption)))
    | exact hret _ _ _ (Fr.keep (by assumption)) (strv (fit3 (by with_reducible assumption) (by with_reducible assumption) (by with_reducible assumption) (by with_reducible assumption) (by first | exact .inl (by with_reducible assumption) | exact .inr (.inl (by with_reducible assumption)) | exact .inr (.inr (by with_reducible assumption))) (by with_reducible assumption)))
    | exact hret _ _ _ (Fr.keep (by assumption)) (strv (fit4 (by with_reducible assumption) (by with_reducible assumption) (by with_reducible assumption) (by with_reducible assumption) (by first | exact .inl (by with_reducible assumption) | exact .inr (.inl (by with_reducible assumption)) | exact .inr (.inr (by with_reducible assumption))) (by with_reducible assumption)))
    | exact hret _ _ _ (Fr.keep (by assumption)) (strv (fit5a (by with_reducible assumption) (by with_reducible assumption) (by with_reducible assumption) (by with_reducible assumption) (by with_reducible assumption)))
    | exact hret _ _ _ (Fr.keep (by assumption)) (strv (fit5b (by with_reducible assumption) (by with_reducible assumption) (by with_reducible assumption) (by with_reducible assumption) (by with_reducible assumption) (by with_reducible assumption) (by with_reducible assumption)))
    | exact hret _ _ _ (Fr.keep (by assumption)) (strv (fit6 (by with_reducible assumption) (by with_reducible assumption) (by with_reducible assumption) (by with_reducible assumption) (by with_reducible assumption) (by with_reducible assumption) (by with_reducible assumption)))
    | exact hret _ _ _ (Fr.keep (by assumption)) (strv (fit7 (by with_reducible assumption) (by with_reducible assumption) (by with_reducible assumption) (by with_reducible assumption) (by with_reducible assumption) (by with_reducible assumption) (by with_reducible assumption)))
    | exact hret _ _ _ (Fr.keep (by assumption)) (strv (fit8 (by with_reducible assumption) (by with_reducible assumption) (by with_reducible assumption) (by with_reducible assumption) (by with_reducible assumption) (by with_reducible assumption) (by with_reducible assumption) (by with_reducible assumption) (by with_reducible assumption) (by with_reducible assumption)))
    | exact hret _ _ _ (Fr.keep (by assumption)) (strv (fit9 (by with_reducible assumption) (by with_reducible assumption) (by with_reducible assumption) (by with_reducible assumption) (by with_reducible assumption) (by with_reducible assumption) (by with_reducible assumption) (by with_reducible assumption) (by with_reducible assumption) (by with_reducible assumption)))
    | skip)
end

section
section
variable {prog : Program} {w : World} {A : Around} {E : Value → Shared → Prop} {s : Shared} {env : Env} {h₀ : Heap} {target : Expr} {body : List Stmt} {Q : Flow → Shared → Prop}

/-- as TEndS, and one name holds an int. -/
def TEndI (h₀ : Heap) (L I : Addr) (it : Obj) (z : Str) (stored : List Str) (m₀ : Str → Option Value) (J : Int → List (Addr × Obj) → Prop) (s s₂ : Shared) : Prop :=
  ∃ h' tk m' news' c t, s₂ = { s with heap := h', toks := tk } ∧ Fr h₀ L h' m' ∧ News h₀ L h' ((I, it) :: news') ∧ AllNe I news' ∧ m' z = some (.int c t) ∧ (∀ y, y ≠ z → stored.contains y = false → m' y = m₀ y) ∧ J c news'
def TPostI (h₀ : Heap) (L I : Addr) (it : Obj) (z : Str) (stored : List Str) (m₀ : Str → Option Value) (J : Int → List (Addr × Obj) → Prop) (s : Shared) (Q : Flow → Shared → Prop) (f : Flow) (s₂ : Shared) : Prop :=
  match f with
  | .ret v => Q (.ret v) s₂
  | .brk => Q .next s₂
  | _ => TEndI h₀ L I it z stored m₀ J s s₂
theorem TEndI.intro {L I : Addr} {it : Obj} {z : Str} {stored : List Str} {m₀ : Str → Option Value} {J : Int → List (Addr × Obj) → Prop} {s : Shared} {h' : Heap} {tk : Nat} {m' : Str → Option Value} {all : List (Addr × Obj)} {c : Int} {t : Tok} (F : Fr h₀ L h' m') (N : News h₀ L h' all) (news' : List (Addr × Obj))
    (sub : ∀ p ∈ (I, it) :: news', p ∈ all) (off : AllNe I news') (hz : m' z = some (.int c t)) (hm : ∀ y, y ≠ z → stored.contains y = false → m' y = m₀ y) (r : J c news') : TEndI h₀ L I it z stored m₀ J s { s with heap := h', toks := tk } :=
  ⟨h', tk, m', news', c, t, rfl, F, fun p hp => N p (sub p hp), off, hz, hm, r⟩

theorem loop_listI {ax : Addr} {items : Array Value} {m₀ : Str → Option Value} {news : List (Addr × Obj)} {c₀ : Int} {t₀ : Tok} (z : Str) (stored : List Str) (J : Nat → Int → List (Addr × Obj) → Prop) (hh : A.handled = none) (ht : h₀.IsList ax items) (F : Fr h₀ env.locals s.heap m₀) (N : News h₀ env.locals s.heap news)
    (hz : m₀ z = some (.int c₀ t₀)) (h0 : J 0 c₀ news)
    (turn : ∀ i v (u : Str → Option Value) c t news₁ h tk I it, i < items.size → items[i]? = some v → J i c news₁ → AllNe I news₁ → Fr h₀ env.locals h (fun y => if y = z then some (.int c t) else if stored.contains y = true then u y else m₀ y) → News h₀ env.locals h ((I, it) :: news₁) →
      wpAny (model prog w) A (assign target env v) (fun _ s₃ => wpAny (model prog w) A (execs body env) (TPostI h₀ env.locals I it z stored m₀ (J (i + 1)) { s with heap := h, toks := tk } Q) E s₃) E { s with heap := h, toks := tk })
    (done : ∀ (u : Str → Option Value) c t news₁ h tk, J items.size c news₁ → Fr h₀ env.locals h (fun y => if y = z then some (.int c t) else if stored.contains y = true then u y else m₀ y) → News h₀ env.locals h news₁ → Q .next { s with heap := h, toks := tk }) :
    wpAny (model prog w) A (pyIter (.ref ax)) (fun it s₂ => TurnsAt prog w A h₀ env target body Q E it s₂) E s := by
  have fn : ∀ (m : Str → Option Value) c t, m z = some (.int c t) → (∀ y, y ≠ z → stored.contains y = false → m y = m₀ y) → m = fun y => if y = z then some (.int c t) else if stored.contains y = true then m y else m₀ y := by
    intro m c t h1 h2
    funext y
    by_cases hy : y = z
    · subst hy; simp [h1]
    · simp only [if_neg hy]
      cases hc : stored.contains y with
      | true => simp
      | false => simp [h2 y hy hc]
  refine loop_list hh ht F N (fun i m nw => (∃ c t, m z = some (.int c t) ∧ J i c nw) ∧ ∀ y, y ≠ z → stored.contains y = false → m y = m₀ y) ⟨⟨c₀, t₀, hz, h0⟩, fun _ _ _ => rfl⟩ ?_ ?_
  · rintro i v m₁ news₁ h tk I it hi hv ⟨⟨c, t, hc, hJ⟩, hm⟩ hne F₁ N₁
    rw [fn m₁ c t hc hm] at F₁
    refine wpAny_mono (turn i v m₁ c t news₁ h tk I it hi hv hJ (AllNe.of hne) F₁ N₁) (fun _ s₂ h₂ => wpAny_mono h₂ (fun f s₃ q => ?_) fun _ _ e => e) fun _ _ e => e
    have fin : TEndI h₀ env.locals I it z stored m₀ (J (i + 1)) { s with heap := h, toks := tk } s₃ → TEnd h₀ env.locals I it (fun m nw => (∃ c t, m z = some (.int c t) ∧ J (i + 1) c nw) ∧ ∀ y, y ≠ z → stored.contains y = false → m y = m₀ y) { s with heap := h, toks := tk } s₃ := by
      rintro ⟨h', tk', m', news', c', t', e, F', N', ho, hz', hm', hj⟩
      exact ⟨h', tk', m', news', e, F', N', ho.mem, ⟨c', t', hz', hj⟩, hm'⟩
    cases f with
    | ret v => exact q
    | brk => exact q
    | next => exact fin q
    | cont => exact fin q
  · rintro m₁ news₁ h tk ⟨⟨c, t, hc, hJ⟩, hm⟩ F₁ N₁
    rw [fn m₁ c t hc hm] at F₁
    exact done m₁ c t news₁ h tk hJ F₁ N₁
end

section
variable {prog : Program} {w : World} {A : Around} {E : Value → Shared → Prop} {s : Shared} {env : Env} {h₀ : Heap} {target : Expr} {body : List Stmt} {Q : Flow → Shared → Prop}
theorem loop_tupW {ax W : Addr} {items : Array Value} {m₀ : Str → Option Value} {rest : List (Addr × Obj)} {vs₀ : List Value} {k₀ : Nat} (stored : List Str) (G : Nat → List Str) (Pz : Nat → Prop) (hh : A.handled = none) (ht : IsTup h₀ ax items) (F : Fr h₀ env.locals s.heap m₀) (N : News h₀ env.locals s.heap ((W, listOf vs₀.toArray k₀) :: rest))
    (h0 : StrsAre vs₀ (G 0)) (hp : Pz 0)
    (turn : ∀ i v (u : Str → Option Value) vs k h tk I it, i < items.size → items[i]? = some v → StrsAre vs (G i) → Pz i → @Ne Nat W I → AllNe I rest → Fr h₀ env.locals h (fun y => if stored.contains y = true then u y else m₀ y) → News h₀ env.locals h ((I, it) :: (W, listOf vs.toArray k) :: rest) →
      wpAny (model prog w) A (assign target env v) (fun _ s₃ => wpAny (model prog w) A (execs body env) (TPostS h₀ env.locals I it stored m₀ (fun nw => ∃ vs' k', nw = (W, listOf vs'.toArray k') :: rest ∧ StrsAre vs' (G (i + 1)) ∧ Pz (i + 1)) { s with heap := h, toks := tk } Q) E s₃) E { s with heap := h, toks := tk })
    (done : ∀ (u : Str → Option Value) vs k h tk, StrsAre vs (G items.size) → Pz items.size → Fr h₀ env.locals h (fun y => if stored.contains y = true then u y else m₀ y) → News h₀ env.locals h ((W, listOf vs.toArray k) :: rest) → Q .next { s with heap := h, toks := tk }) :
    wpAny (model prog w) A (pyIter (.ref ax)) (fun it s₂ => TurnsAt prog w A h₀ env target body Q E it s₂) E s := by
  refine loop_tupS stored (fun i nw => ∃ vs k, nw = (W, listOf vs.toArray k) :: rest ∧ StrsAre vs (G i) ∧ Pz i) hh ht F N ⟨vs₀, k₀, rfl, h0, hp⟩ ?_ ?_
  · rintro i v u news₁ h tk I it hi hv ⟨vs, k, rfl, hvs, hz⟩ hne F₁ N₁
    exact turn i v u vs k h tk I it hi hv hvs hz hne.1 hne.2 F₁ N₁
  · rintro u news₁ h tk ⟨vs, k, rfl, hvs, hz⟩ F₁ N₁
    exact done u vs k h tk hvs hz F₁ N₁
end
/-- pairs of texts, as values. -/
def PairsAre (h : Heap) (vs : List Value) (ps : List (Str × Str)) : Prop :=
  vs.length = ps.length ∧ ∀ (i : Nat) (v : Value), vs[i]? = some v → ∃ k n a t u, ps[i]? = some (k, n) ∧ v = .ref a ∧ IsTup h a #[.str k t, .str n u]
theorem PairsAre.stays {h h' : Heap} {vs : List Value} {ps : List (Str × Str)} (x : PairsAre h vs ps) (st : h.StaysIn h') : PairsAre h' vs ps :=
  ⟨x.1, fun i v e => by obtain ⟨k, n, a, t, u, h1, h2, h3⟩ := x.2 i v e; exact ⟨k, n, a, t, u, h1, h2, stays_tup st h3⟩⟩

noncomputable section
def dueScan (host : Str) : List (Str × Str) → Option Str
  | [] => none
  | p :: r => if (p.1 == Str.ofString "DNS") = true then (if (fitv p.2 host == Str.ofString "many") = true then some (Str.ofString "refused") else if (fitv p.2 host == Str.ofString "yes") = true then some (Str.ofString "fine") else dueScan host r) else dueScan host r
def seenIs (k : Str) : Bool := [Str.ofString "DNS", Str.ofString "IP Address"].any fun x => x == k
def seenOf (ps : List (Str × Str)) : Nat := (ps.filter fun p => seenIs p.1).length
def comScan (host : Str) : List Str → Option Str
  | [] => none
  | n :: r => if (fitv n host == Str.ofString "many") = true then some (Str.ofString "refused") else if (fitv n host == Str.ofString "yes") = true then some (Str.ofString "fine") else comScan host r
def due (ps : List (Str × Str)) (cs : List Str) (host : Str) (asks : Bool) : Str :=
  match dueScan host ps with
  | some r => r
  | none => if asks = true ∧ seenOf ps = 0 then (match comScan host cs with | some r => r | none => Str.ofString "refused") else Str.ofString "refused"
end

theorem dueScan_take {host : Str} : ∀ {ps : List (Str × Str)} {i : Nat} {p : Str × Str}, dueScan host (ps.take i) = none → ps[i]? = some p → dueScan host ps = dueScan host (p :: ps.drop (i + 1))
  | [], i, p, _, e => by simp at e
  | q :: r, 0, p, _, e => by simp at e; subst e; rfl
  | q :: r, i + 1, p, h, e => by
    have e' : r[i]? = some p := by simpa using e
    have hd : (q :: r).drop (i + 1 + 1) = r.drop (i + 1) := rfl
    have ht : (q :: r).take (i + 1) = q :: r.take i := rfl
    rw [ht] at h
    rw [hd]
    unfold dueScan at h
    have key : dueScan host (r.take i) = none → dueScan host r = dueScan host (p :: r.drop (i + 1)) := fun h => dueScan_take h e'
    show dueScan host (q :: r) = _
    rw [dueScan]
    split at h
    · rename_i c
      rw [if_pos c]
      split at h
      · cases h
      · rename_i c2
        rw [if_neg c2]
        split at h
        · cases h
        · rename_i c3
          rw [if_neg c3]; exact key h
    · rename_i c
      rw [if_neg c]; exact key h
theorem dueScan_snoc {host : Str} : ∀ {l : List (Str × Str)} {p : Str × Str}, dueScan host l = none → dueScan host (l ++ [p]) = dueScan host [p]
  | [], _, _ => rfl
  | q :: r, p, h => by
    show dueScan host (q :: (r ++ [p])) = _
    unfold dueScan at h
    rw [dueScan]
    split at h
    · rename_i c
      rw [if_pos c]
      split at h
      · cases h
      · rename_i c2
        rw [if_neg c2]
        split at h
        · cases h
        · rename_i c3
          rw [if_neg c3]; exact dueScan_snoc h
    · rename_i c
      rw [if_neg c]; exact dueScan_snoc h
theorem comScan_take {host : Str} : ∀ {ps : List Str} {i : Nat} {p : Str}, comScan host (ps.take i) = none → ps[i]? = some p → comScan host ps = comScan host (p :: ps.drop (i + 1))
  | [], i, p, _, e => by simp at e
  | q :: r, 0, p, _, e => by simp at e; subst e; rfl
  | q :: r, i + 1, p, h, e => by
    have e' : r[i]? = some p := by simpa using e
    have hd : (q :: r).drop (i + 1 + 1) = r.drop (i + 1) := rfl
    have ht : (q :: r).take (i + 1) = q :: r.take i := rfl
    rw [ht] at h
    rw [hd]
    unfold comScan at h
    have key : comScan host (r.take i) = none → comScan host r = comScan host (p :: r.drop (i + 1)) := fun h => comScan_take h e'
    show comScan host (q :: r) = _
    rw [comScan]
    split at h
    · cases h
    · rename_i c2
      rw [if_neg c2]
      split at h
      · cases h
      · rename_i c3
        rw [if_neg c3]; exact key h
theorem comScan_snoc {host : Str} : ∀ {l : List Str} {p : Str}, comScan host l = none → comScan host (l ++ [p]) = comScan host [p]
  | [], _, _ => rfl
  | q :: r, p, h => by
    show comScan host (q :: (r ++ [p])) = _
    unfold comScan at h
    rw [comScan]
    split at h
    · cases h
    · rename_i c2
      rw [if_neg c2]
      split at h
      · cases h
      · rename_i c3
        rw [if_neg c3]; exact comScan_snoc h
theorem take_snoc {α : Type} {l : List α} {i : Nat} {p : α} (e : l[i]? = some p) : l.take (i + 1) = l.take i ++ [p] := by
  rw [List.take_add_one, e]; rfl
theorem seenOf_snoc (l : List (Str × Str)) (p : Str × Str) : seenOf (l ++ [p]) = seenOf l + (if seenIs p.1 = true then 1 else 0) := by
  unfold seenOf
  rw [List.filter_append, List.length_append]
  cases h : seenIs p.1 <;> simp [h]

noncomputable section
/-- what a name must be for the two readings. -/
def gN (n : Str) : Bool := decide (n.length ≤ 64) && PyData.layable0 (.str n) && (((Txt.split n (Str.ofString ".")).drop 1).map Txt.lower).all PyData.strOk && (Txt.split (Txt.lower n) (Str.ofString ".")).all PyData.strOk
def gH (n : Str) : Bool := decide (n.length ≤ 64) && PyData.layable0 (.str n) && (Txt.split (Txt.lower n) (Str.ofString ".")).all PyData.strOk
end
theorem all_drop {α : Type} {l : List α} {f : α → Bool} (h : l.all f = true) : (l.drop 1).all f = true := by
  rw [List.all_eq_true] at h ⊢
  exact fun x hx => h x (List.mem_of_mem_drop hx)
theorem gN_out {n : Str} (h : gN n = true) : n.length ≤ 64 ∧ PyData.layable0 (.str n) = true ∧ (((Txt.split n (Str.ofString ".")).drop 1).map Txt.lower).all PyData.strOk = true ∧ (Txt.split (Txt.lower n) (Str.ofString ".")).all PyData.strOk = true := by
  unfold gN at h
  simp only [Bool.and_eq_true, decide_eq_true_eq] at h
  exact ⟨h.1.1.1, h.1.1.2, h.1.2, h.2⟩
theorem gH_out {n : Str} (h : gH n = true) : n.length ≤ 64 ∧ PyData.layable0 (.str n) = true ∧ (Txt.split (Txt.lower n) (Str.ofString ".")).all PyData.strOk = true := by
  unfold gH at h
  simp only [Bool.and_eq_true, decide_eq_true_eq] at h
  exact ⟨h.1.1, h.1.2, h.2⟩

section
variable {ps : List (Str × Str)} {cs : List Str} {host kd nm : Str} {asks : Bool} {i : Nat}
theorem due_many (hsc : dueScan host (ps.take i) = none) (hp : ps[i]? = some (kd, nm)) (h1 : (kd == Str.ofString "DNS") = true) (h2 : (fitv nm host == Str.ofString "many") = true) : due ps cs host asks = Str.ofString "refused" := by
  unfold due; rw [dueScan_take hsc hp, dueScan, if_pos h1, if_pos h2]
theorem due_fine (hsc : dueScan host (ps.take i) = none) (hp : ps[i]? = some (kd, nm)) (h1 : (kd == Str.ofString "DNS") = true) (h2 : (fitv nm host == Str.ofString "many") = false) (h3 : (fitv nm host == Str.ofString "yes") = true) : due ps cs host asks = Str.ofString "fine" := by
  unfold due; rw [dueScan_take hsc hp, dueScan, if_pos h1, if_neg (by rw [h2]; decide), if_pos h3]
theorem due_next1 (hsc : dueScan host (ps.take i) = none) (hp : ps[i]? = some (kd, nm)) (h2 : (fitv nm host == Str.ofString "many") = false) (h3 : (fitv nm host == Str.ofString "yes") = false) : dueScan host (ps.take (i + 1)) = none := by
  rw [take_snoc hp, dueScan_snoc hsc]; simp only [dueScan, h2, h3]; simp
theorem due_next2 (hsc : dueScan host (ps.take i) = none) (hp : ps[i]? = some (kd, nm)) (h1 : (kd == Str.ofString "DNS") = false) : dueScan host (ps.take (i + 1)) = none := by
  rw [take_snoc hp, dueScan_snoc hsc, dueScan, if_neg (by rw [h1]; decide)]; rfl
theorem seen_yes {c : Int} (hp : ps[i]? = some (kd, nm)) (hc : c = (seenOf (ps.take i) : Nat)) (h : ([Str.ofString "DNS", Str.ofString "IP Address"].any fun x => x == kd) = true) : c + 1 = (seenOf (ps.take (i + 1)) : Nat) := by
  rw [take_snoc hp, seenOf_snoc, if_pos (show seenIs kd = true from h), hc]; rfl
theorem seen_no {c : Int} (hp : ps[i]? = some (kd, nm)) (hc : c = (seenOf (ps.take i) : Nat)) (h : ([Str.ofString "DNS", Str.ofString "IP Address"].any fun x => x == kd) = false) : c = (seenOf (ps.take (i + 1)) : Nat) := by
  rw [take_snoc hp, seenOf_snoc, if_neg (show ¬ seenIs kd = true from by rw [show seenIs kd = false from h]; decide), hc]; rfl
theorem due_no1 (hsc : dueScan host ps = none) (ha : asks = false) : due ps cs host asks = Str.ofString "refused" := by
  unfold due; rw [hsc]; subst ha; rfl
theorem due_no2 {c : Int} (hsc : dueScan host ps = none) (hc : c = (seenOf ps : Nat)) (h : c ≠ 0) : due ps cs host asks = Str.ofString "refused" := by
  unfold due; rw [hsc]; dsimp only; rw [if_neg (by rintro ⟨_, k⟩; omega)]
theorem due_cmany {c : Int} (hsc : dueScan host ps = none) (hc : c = (seenOf ps : Nat)) (h : c = 0) (ha : asks = true) (hcs : comScan host (cs.take i) = none) (hp : cs[i]? = some nm) (h2 : (fitv nm host == Str.ofString "many") = true) : due ps cs host asks = Str.ofString "refused" := by
  unfold due; rw [hsc]; dsimp only; rw [if_pos ⟨ha, by omega⟩, comScan_take hcs hp, comScan, if_pos h2]
theorem due_cfine {c : Int} (hsc : dueScan host ps = none) (hc : c = (seenOf ps : Nat)) (h : c = 0) (ha : asks = true) (hcs : comScan host (cs.take i) = none) (hp : cs[i]? = some nm) (h2 : (fitv nm host == Str.ofString "many") = false) (h3 : (fitv nm host == Str.ofString "yes") = true) : due ps cs host asks = Str.ofString "fine" := by
  unfold due; rw [hsc]; dsimp only; rw [if_pos ⟨ha, by omega⟩, comScan_take hcs hp, comScan, if_neg (by rw [h2]; decide), if_pos h3]
theorem due_cnext (hcs : comScan host (cs.take i) = none) (hp : cs[i]? = some nm) (h2 : (fitv nm host == Str.ofString "many") = false) (h3 : (fitv nm host == Str.ofString "yes") = false) : comScan host (cs.take (i + 1)) = none := by
  rw [take_snoc hp, comScan_snoc hcs, comScan, if_neg (by rw [h2]; decide), if_neg (by rw [h3]; decide)]; rfl
theorem due_cend (hcs : comScan host cs = none) (hsc : dueScan host ps = none) : due ps cs host asks = Str.ofString "refused" := by
  unfold due; rw [hsc]; dsimp only; rw [hcs]; split <;> rfl
end
end

section
local macro_rules | `(tactic| walk_at "exec For Tuple Name cons nil") => `(tactic| (k_here; refine Mine.stop ?_))
local macro_rules | `(tactic| walk_at "exec For Name Name cons nil") => `(tactic| (k_here; refine Mine.stop ?_))
local macro_rules | `(tactic| walk_at "pyIter ref") => `(tactic| (k_here; refine Mine.stop ?_))
local macro_rules | `(tactic| walk_at "call ref") => `(tactic| (k_here; (with_reducible show wpAny _ _ (call (Value.ref 65) _) _ _ _); k_dflt (refine' Ct.use (ct_fits _ _ _ _ _ _ _ _ ?g1 ?g2 ?g3 ?g4 ?g5 ?g6) ?kB ?kF ?kX ?kN ?kT rfl rfl rfl rfl ?kd ?ku trivial ?_; (case g1 => assumption); (case g2 => assumption); (case g3 => assumption); (case g4 => assumption); (case g5 => assumption); (case g6 => assumption); (case kB => k_asm); (case kF => k_asm); (case kX => k_asm); (case kN => k_asm); (case kT => k_asm); (case kd => exact Nat.le_of_ble_eq_true rfl); (case ku => exact Nat.le_of_ble_eq_true rfl)); intro v' h' tk' F' N' st' r'; obtain ⟨t', r'⟩ := r'; subst r'; (try k_sweep); (try dsimp only)))

set_option maxHeartbeats 8000000 in
theorem ct_due (w : World) (mean : ExcName → Option Value) (mg mb : Str → Option Value) (ln lc : Addr) (vs us : List Value) (ps : List (Str × Str)) (cs : List Str) (host : Str) (u : Tok) (asks : Bool) (hps : ∀ p ∈ ps, gN p.2 = true) (hcs : ∀ n ∈ cs, gN n = true) (hgh : gH host = true) (hl1 : ps.length ≤ 100) (hl2 : cs.length ≤ 100) :
    Ct w mean mg mb 500 2000 72 [.ref ln, .ref lc, .str host u, .bool asks] (fun h => h.IsList ln vs.toArray ∧ PairsAre h vs ps ∧ h.IsList lc us.toArray ∧ StrsAre us cs) (fun _ _ v => ∃ t', v = .str (due ps cs host asks) t') NoEx := by
  unfold Ct
  w_top off
  k_fill
  intro A base outer s Q E hh hd hu B X T hP hret hex
  obtain ⟨hln, hpa, hlc, hsa⟩ := hP
  obtain ⟨gh1, gh2, gh3⟩ := gH_out hgh
  have gh4 := all_drop gh3
  refine depth_le (d := 500) (u := 2000) ?_ hd hu
  obtain ⟨hA, dA, fA, gA, uA⟩ := A
  dsimp only at *
  subst hh
  have hfA : fA = some outer := B.stack
  subst hfA
  have B1 : Below { handled := none, depth := 500, frames := some outer, guards := gA, units := 2000 } base outer s.heap := ⟨rfl, B.stays, B.frames⟩
  clear B hd hu
  refine wpAny_call ?_
  k_dflt (refine' enter0 (binds := [(Str.ofString "names", .ref ln), (Str.ofString "common", .ref lc), (Str.ofString "host", .str host u), (Str.ofString "asks", .bool asks)]) B1 X T ?k6 ?k7 ?k8 ?k9 ?kB ?_ ?c2 ?c3 ?c4 ?c5; (case k6 => k_is); (case k7 => k_is); (case k8 => k_room); (case k9 => exact BindsTo.of_eq rfl); (case c5 => decide); (case kB => exact locs rfl); (case c2 => exact rfl); (case c3 => exact rfl); (case c4 => exact rfl); k_whole; intro L' h' F' N')
  k_steps
  refine Mine.Stop.mk ?_
  refine For_turns (by assumption) ?_
  k_steps
  refine Mine.Stop.mk ?_
  refine loop_listI (Str.ofString "seen") [Str.ofString "kind", Str.ofString "name", Str.ofString "fits"] (fun i c nw => nw = [] ∧ dueScan host (ps.take i) = none ∧ c = (seenOf (ps.take i) : Nat)) rfl hln (by assumption) (by assumption) rfl ⟨rfl, rfl, rfl⟩ ?_ ?_
  · rintro i v u1 c t1 news1 h1 tk1 I1 it1 hi1 hv1 ⟨rfl, hsc, hc⟩ hne1 F1 N1
    obtain ⟨kd, nm, a1, t2, t3, hp1, rfl, htp⟩ := hpa.2 i v (by simpa using hv1)
    have hg := hps (kd, nm) (List.mem_of_getElem? hp1)
    obtain ⟨gn1, gn2, gn3, gn4⟩ := gN_out hg
    have gn5 := all_drop gn4
    dsimp only at gn1 gn2 gn3 gn4 gn5
    have hci : 0 ≤ c ∧ c ≤ 100 := by
      have : seenOf (ps.take i) ≤ (ps.take i).length := List.length_filter_le ..
      rw [List.length_take] at this
      omega
    k_sweep
    (try dsimp only)
    k_steps
    all_goals (try dsimp only)
    all_goals (first
      | exact hret _ _ _ (Fr.keep (by assumption)) (strv (due_many hsc hp1 (by assumption) (by assumption)))
      | exact hret _ _ _ (Fr.keep (by assumption)) (strv (due_fine hsc hp1 (by assumption) (by assumption) (by assumption)))
      | skip)
    all_goals (refine TEndI.intro (by assumption) (by assumption) [] (by simp) trivial rfl ?_ ?_)
    all_goals (first
      | exact ⟨rfl, due_next1 hsc hp1 (by assumption) (by assumption), seen_yes hp1 hc (by assumption)⟩
      | exact ⟨rfl, due_next1 hsc hp1 (by assumption) (by assumption), seen_no hp1 hc (by assumption)⟩
      | exact ⟨rfl, due_next2 hsc hp1 (by assumption), seen_yes hp1 hc (by assumption)⟩
      | exact ⟨rfl, due_next2 hsc hp1 (by assumption), seen_no hp1 hc (by assumption)⟩
      | (intro y hy1 hy2
         have a1 := ne_of_contains (x := Str.ofString "kind") (by simp) hy2
         have a2 := ne_of_contains (x := Str.ofString "name") (by simp) hy2
         have a3 := ne_of_contains (x := Str.ofString "fits") (by simp) hy2
         simp [hy1, a1, a2, a3]))
  · rintro u2 c2 t2 news2 h2 tk2 ⟨rfl, hsc, hc⟩ F2 N2
    rw [List.take_of_length_le (by rw [List.size_toArray, hpa.1]; exact Nat.le_refl _)] at hsc hc
    k_sweep
    (try dsimp only)
    k_steps
    all_goals (try dsimp only)
    all_goals (first
      | exact hret _ _ _ (Fr.keep (by assumption)) (strv (due_no1 hsc (by assumption)))
      | exact hret _ _ _ (Fr.keep (by assumption)) (strv (due_no2 hsc hc (by assumption)))
      | skip)
    refine Mine.Stop.mk ?_
    refine For_turns (by assumption) ?_
    k_steps
    refine Mine.Stop.mk ?_
    refine loop_listS [Str.ofString "name", Str.ofString "fits"] (fun i nw => nw = [] ∧ comScan host (cs.take i) = none) rfl hlc (by assumption) (by assumption) ⟨rfl, rfl⟩ ?_ ?_
    · rintro i v u3 news3 h3 tk3 I3 it3 hi3 hv3 ⟨rfl, hcs3⟩ hne3 F3 N3
      obtain ⟨nm, t3, rfl, hp3⟩ := hsa.item i v (by simpa using hv3)
      have hg := hcs nm (List.mem_of_getElem? hp3)
      obtain ⟨gn1, gn2, gn3, gn4⟩ := gN_out hg
      have gn5 := all_drop gn4
      k_sweep
      (try dsimp only)
      k_steps
      all_goals (try dsimp only)
      all_goals (first
        | exact hret _ _ _ (Fr.keep (by assumption)) (strv (due_cmany hsc hc (by assumption) (by assumption) hcs3 hp3 (by assumption)))
        | exact hret _ _ _ (Fr.keep (by assumption)) (strv (due_cfine hsc hc (by assumption) (by assumption) hcs3 hp3 (by assumption) (by assumption)))
        | skip)
      refine TEndS.intro (by assumption) (by assumption) [] (by simp) trivial ?_ ⟨rfl, due_cnext hcs3 hp3 (by assumption) (by assumption)⟩
      intro y hy2
      have a2 := ne_of_contains (x := Str.ofString "name") (by simp) hy2
      have a3 := ne_of_contains (x := Str.ofString "fits") (by simp) hy2
      simp [a2, a3]
    · rintro u4 news4 h4 tk4 ⟨rfl, hcs4⟩ F4 N4
      rw [List.take_of_length_le (by rw [List.size_toArray, hsa.len_eq]; exact Nat.le_refl _)] at hcs4
      k_sweep
      (try dsimp only)
      k_steps
      all_goals (try dsimp only)
      all_goals exact hret _ _ _ (Fr.keep (by assumption)) (strv (due_cend hcs4 hsc))
end

section
noncomputable section
def mScan (host : Str) : List (Str × Str) → Option Bool
  | [] => none
  | p :: r => if (p.1 == Str.ofString "DNS") = true then (match dnm p.2 host with | none => some false | some true => some true | some false => mScan host r) else mScan host r
def mcScan (host : Str) : List Str → Option Bool
  | [] => none
  | n :: r => match dnm n host with | none => some false | some true => some true | some false => mcScan host r
def isDns (k : Str) : Bool := k == Str.ofString "DNS" || k == Str.ofString "IP Address"
def dnsOf (ps : List (Str × Str)) : List Str := (ps.filter fun p => isDns p.1).map (·.2)
def mh (ps : List (Str × Str)) (cs : List Str) (host : Str) (asks : Bool) : Bool :=
  match mScan host ps with
  | some b => b
  | none => if asks = true ∧ dnsOf ps = [] then (match mcScan host cs with | some b => b | none => false) else false
end

theorem mScan_take {host : Str} : ∀ {ps : List (Str × Str)} {i : Nat} {p : Str × Str}, mScan host (ps.take i) = none → ps[i]? = some p → mScan host ps = mScan host (p :: ps.drop (i + 1))
  | [], i, p, _, e => by simp at e
  | q :: r, 0, p, _, e => by simp at e; subst e; rfl
  | q :: r, i + 1, p, h, e => by
    have e' : r[i]? = some p := by simpa using e
    have hd : (q :: r).drop (i + 1 + 1) = r.drop (i + 1) := rfl
    have ht : (q :: r).take (i + 1) = q :: r.take i := rfl
    rw [ht] at h
    rw [hd]
    have key : mScan host (r.take i) = none → mScan host r = mScan host (p :: r.drop (i + 1)) := fun h => mScan_take h e'
    rw [mScan] at h
    show mScan host (q :: r) = _
    rw [mScan]
    split at h
    · rename_i c
      rw [if_pos c]
      split at h
      · cases h
      · cases h
      · rename_i c2
        exact key h
    · rename_i c
      rw [if_neg c]; exact key h
theorem mScan_snoc {host : Str} : ∀ {l : List (Str × Str)} {p : Str × Str}, mScan host l = none → mScan host (l ++ [p]) = mScan host [p]
  | [], _, _ => rfl
  | q :: r, p, h => by
    rw [mScan] at h
    show mScan host (q :: (r ++ [p])) = _
    rw [mScan]
    split at h
    · rename_i c
      rw [if_pos c]
      split at h
      · cases h
      · cases h
      · exact mScan_snoc h
    · rename_i c
      rw [if_neg c]; exact mScan_snoc h
theorem mcScan_take {host : Str} : ∀ {ps : List Str} {i : Nat} {p : Str}, mcScan host (ps.take i) = none → ps[i]? = some p → mcScan host ps = mcScan host (p :: ps.drop (i + 1))
  | [], i, p, _, e => by simp at e
  | q :: r, 0, p, _, e => by simp at e; subst e; rfl
  | q :: r, i + 1, p, h, e => by
    have e' : r[i]? = some p := by simpa using e
    have hd : (q :: r).drop (i + 1 + 1) = r.drop (i + 1) := rfl
    have ht : (q :: r).take (i + 1) = q :: r.take i := rfl
    rw [ht] at h
    rw [hd]
    have key : mcScan host (r.take i) = none → mcScan host r = mcScan host (p :: r.drop (i + 1)) := fun h => mcScan_take h e'
    rw [mcScan] at h
    show mcScan host (q :: r) = _
    rw [mcScan]
    split at h
    · cases h
    · cases h
    · exact key h
theorem mcScan_snoc {host : Str} : ∀ {l : List Str} {p : Str}, mcScan host l = none → mcScan host (l ++ [p]) = mcScan host [p]
  | [], _, _ => rfl
  | q :: r, p, h => by
    rw [mcScan] at h
    show mcScan host (q :: (r ++ [p])) = _
    rw [mcScan]
    split at h
    · cases h
    · cases h
    · exact mcScan_snoc h
theorem dnsOf_snoc (l : List (Str × Str)) (p : Str × Str) : dnsOf (l ++ [p]) = dnsOf l ++ (if isDns p.1 = true then [p.2] else []) := by
  unfold dnsOf
  rw [List.filter_append, List.map_append]
  cases h : isDns p.1 <;> simp [h]
section
variable {ps : List (Str × Str)} {cs : List Str} {host kd nm : Str} {asks : Bool} {i : Nat}
theorem mh_yes (hsc : mScan host (ps.take i) = none) (hp : ps[i]? = some (kd, nm)) (h1 : (kd == Str.ofString "DNS") = true) (h2 : dnm nm host = some true) : mh ps cs host asks = true := by
  unfold mh; rw [mScan_take hsc hp, mScan, if_pos h1, h2]
theorem mh_yesb {b : Bool} (hsc : mScan host (ps.take i) = none) (hp : ps[i]? = some (kd, nm)) (h1 : (kd == Str.ofString "DNS") = true) (h2 : dnm nm host = some b) (e : b = true) : mh ps cs host asks = true := by
  subst e; exact mh_yes hsc hp h1 h2
theorem mh_many (hsc : mScan host (ps.take i) = none) (hp : ps[i]? = some (kd, nm)) (h1 : (kd == Str.ofString "DNS") = true) (h2 : dnm nm host = none) : mh ps cs host asks = false := by
  unfold mh; rw [mScan_take hsc hp, mScan, if_pos h1, h2]
theorem mh_next1 (hsc : mScan host (ps.take i) = none) (hp : ps[i]? = some (kd, nm)) (h1 : (kd == Str.ofString "DNS") = true) (h2 : dnm nm host = some false) : mScan host (ps.take (i + 1)) = none := by
  rw [take_snoc hp, mScan_snoc hsc, mScan, if_pos h1, h2]; rfl
theorem mh_next1b {b : Bool} (hsc : mScan host (ps.take i) = none) (hp : ps[i]? = some (kd, nm)) (h1 : (kd == Str.ofString "DNS") = true) (h2 : dnm nm host = some b) (e : b = false) : mScan host (ps.take (i + 1)) = none := by
  subst e; exact mh_next1 hsc hp h1 h2
theorem mh_next2 (hsc : mScan host (ps.take i) = none) (hp : ps[i]? = some (kd, nm)) (h1 : (kd == Str.ofString "DNS") = false) : mScan host (ps.take (i + 1)) = none := by
  rw [take_snoc hp, mScan_snoc hsc, mScan, if_neg (by rw [h1]; decide)]; rfl
theorem dns_yes1 (hp : ps[i]? = some (kd, nm)) (h : (kd == Str.ofString "DNS") = true) : dnsOf (ps.take (i + 1)) = dnsOf (ps.take i) ++ [nm] := by
  rw [take_snoc hp, dnsOf_snoc, if_pos (by show (_ || _) = true; rw [h]; rfl)]
theorem dns_yes2 (hp : ps[i]? = some (kd, nm)) (h : (kd == Str.ofString "IP Address") = true) : dnsOf (ps.take (i + 1)) = dnsOf (ps.take i) ++ [nm] := by
  rw [take_snoc hp, dnsOf_snoc, if_pos (by show (_ || _) = true; rw [h, Bool.or_true])]
theorem dns_no (hp : ps[i]? = some (kd, nm)) (h : (kd == Str.ofString "DNS") = false) (h2 : (kd == Str.ofString "IP Address") = false) : dnsOf (ps.take (i + 1)) = dnsOf (ps.take i) := by
  rw [take_snoc hp, dnsOf_snoc, if_neg (by show ¬ (_ || _) = true; rw [h, h2]; decide), List.append_nil]
theorem dnsOf_len (l : List (Str × Str)) : (dnsOf l).length ≤ l.length := by
  unfold dnsOf; rw [List.length_map]; exact List.length_filter_le ..
theorem dnsOf_mem {l : List (Str × Str)} {n : Str} (h : n ∈ dnsOf l) : ∃ p ∈ l, p.2 = n := by
  unfold dnsOf at h
  obtain ⟨p, hp, e⟩ := List.mem_map.mp h
  exact ⟨p, (List.mem_filter.mp hp).1, e⟩
theorem mh_no1 (hsc : mScan host ps = none) (ha : asks = false) : mh ps cs host asks = false := by
  unfold mh; rw [hsc]; subst ha; rfl
theorem mh_no2 (hsc : mScan host ps = none) (h : dnsOf ps ≠ []) : mh ps cs host asks = false := by
  unfold mh; rw [hsc]; dsimp only; rw [if_neg (fun k => h k.2)]
theorem mh_cyes (hsc : mScan host ps = none) (h : dnsOf ps = []) (ha : asks = true) (hcs : mcScan host (cs.take i) = none) (hp : cs[i]? = some nm) (h2 : dnm nm host = some true) : mh ps cs host asks = true := by
  unfold mh; rw [hsc]; dsimp only; rw [if_pos ⟨ha, h⟩, mcScan_take hcs hp, mcScan, h2]
theorem mh_cmany (hsc : mScan host ps = none) (h : dnsOf ps = []) (ha : asks = true) (hcs : mcScan host (cs.take i) = none) (hp : cs[i]? = some nm) (h2 : dnm nm host = none) : mh ps cs host asks = false := by
  unfold mh; rw [hsc]; dsimp only; rw [if_pos ⟨ha, h⟩, mcScan_take hcs hp, mcScan, h2]
theorem mh_cyesb {b : Bool} (hsc : mScan host ps = none) (h : dnsOf ps = []) (ha : asks = true) (hcs : mcScan host (cs.take i) = none) (hp : cs[i]? = some nm) (h2 : dnm nm host = some b) (e : b = true) : mh ps cs host asks = true := by
  subst e; exact mh_cyes hsc h ha hcs hp h2
theorem mh_cnext (hcs : mcScan host (cs.take i) = none) (hp : cs[i]? = some nm) (h2 : dnm nm host = some false) : mcScan host (cs.take (i + 1)) = none := by
  rw [take_snoc hp, mcScan_snoc hcs, mcScan, h2]; rfl
theorem mh_cend (hsc : mScan host ps = none) (hcs : mcScan host cs = none) : mh ps cs host asks = false := by
  unfold mh; rw [hsc]; dsimp only; rw [hcs]; split <;> rfl
end

/-- a contract that may raise, used within a function's frame. -/
theorem Ct.useE {w : World} {mean : ExcName → Option Value} {mg mb : Str → Option Value} {d u : Nat} {f : Addr} {args : List Value} {P : Heap → Prop} {Rt : Heap → Heap → Value → Prop} {Ex : Heap → List Env → Heap → Heap → Value → Prop}
    (C : Ct w mean mg mb d u f args P Rt Ex) {A A₀ : Around} {base h₀ : Heap} {outer : List Env} {env : Env} {s : Shared} {L : Addr} {m : Str → Option Value} {news : List (Addr × Obj)} {Q E : Value → Shared → Prop}
    (B : Below A₀ base outer h₀) (F : Fr h₀ L s.heap m) (X : (Mine.hd.heap_39 w.params).In h₀) (N : News h₀ L s.heap news) (T : Top Mine.hd.view_39 (looseW Mine.hd.view_39 [Str.ofString "_dnsname_match", Str.ofString "match_hostname"]) mean mg mb h₀)
    (hA : A.frames = some (env :: outer)) (hf : env.frame = some L) (hke : env.scope.kind = .function) (hh : A.handled = none) (hd : A.depth ≤ d) (hu : A.units ≤ u) (hP : P s.heap)
    (k : ∀ v h' tk', Fr h₀ L h' m → News h₀ L h' news → s.heap.StaysIn h' → Rt s.heap h' v → Q v { s with heap := h', toks := tk' })
    (ke : ∀ e h' tk', Ex base (env :: outer) s.heap h' e → E e { s with heap := h', toks := tk' }) :
    wpAny (model PySem.Challenge.rw_ew0040_01.row.prog w) A (call (.ref f) args) Q E s := by
  have hnew : base.get? L = none := by
    cases hq : base.get? L with
    | none => rfl
    | some o => exact absurd (Nat.lt_of_lt_of_le (Heap.lt_size (B.stays L o hq)) F.above) (Nat.lt_irrefl _)
  have B' : Below A base (env :: outer) s.heap := ⟨hA, fun b o e => F.keep b o (B.stays b o e), Heap.FunFrames.cons (by rw [hke]; decide) hf F.ns hnew (B.frames.of_keeps fun b o e _ => ⟨o, F.keep b o e, rfl⟩)⟩
  exact C A base (env :: outer) s Q E hh hd hu B' (X.keeps F.keep) (T.keeps F.keep) hP (fun v h' tk' st r => k v h' tk' (fr_stays F st) (news_stays N st) st r) ke

section
variable {prog : Program} {w : World} {A : Around} {E : Value → Shared → Prop} {s : Shared} {h₀ : Heap} {L d : Addr} {m : Str → Option Value} {kvs : List (Str × Value)}
theorem dict_up (F : Fr h₀ L s.heap m) (hD : h₀.DictOf (strKind prog w) d kvs) : s.heap.DictOf (strKind prog w) d kvs := hD.at fun o e => F.keep _ _ e
theorem truthy_D {Q : Bool → Shared → Prop} (F : Fr h₀ L s.heap m) (hD : h₀.DictOf (strKind prog w) d kvs) (lo : (d == sysModules) = false) (hfit : kvs.length ≤ 1000) {b : Bool} (hb : kvs.isEmpty = b)
    (h : ∀ k, Q (!b) { s with toks := k }) : wpAny (model prog w) A (truthy (.ref d)) Q E s :=
  wpAny_truthy_dict lo (dict_up F hD) (by omega) (by rw [hb]; exact h _)
theorem getMethod_D {pl : Sem Bool} {Q : Value × List Value → Shared → Prop} (F : Fr h₀ L s.heap m) (hD : h₀.DictOf (strKind prog w) d kvs) (h : Q (.builtin "dict.get", [.ref d]) s) : wpAny (model prog w) A (getMethod (.ref d) "get" pl) Q E s :=
  have hD' := dict_up F hD
  getMethod_builtin hD'.typeIs PySem.F.plainAttrs_dict PySem.F.slot_dict_get PySem.F.type_dict_get hD'.mapOf.noDict h
theorem get2_D {x : Str} {t : Tok} {dflt : Value} {Q : Value → Shared → Prop} (F : Fr h₀ L s.heap m) (hD : h₀.DictOf (strKind prog w) d kvs) (lo : (d == sysModules) = false) {o : Option Value} (hl : valueAt kvs x = o) (h : ∀ k, Q (o.getD dflt) { s with toks := k }) :
    wpAny (model prog w) A (call (.builtin "dict.get") [.ref d, .str x t, dflt]) Q E s :=
  have hD' := dict_up F hD
  call_meetsIn PySem.F.slot_dict_get hD'.typeIs PySem.F.entry_dict_get (PySem.F.args_dict_get_3 _ _ _) (meets_dict_get_default (strKind prog w) d (strKind_is prog w x t) lo dflt) ⟨_, hD'.mapOf, by rw [hl]; exact h _⟩
end
section
variable {prog : Program} {w : World} {A : Around} {E : Value → Shared → Prop} {s : Shared} {l : Addr} {vs : List Value} {ws : List PySem.Str}
theorem truthy_S {Q : Bool → Shared → Prop} (hl : s.heap.IsList l vs.toArray) (hw : StrsAre vs ws) (hb : ws.length ≤ 1000000) (h0 : ws = [] → ∀ k, Q false { s with toks := k }) (h1 : ws ≠ [] → ∀ k, Q true { s with toks := k }) : wpAny (model prog w) A (truthy (.ref l)) Q E s := by
  have e := hw.len_eq
  refine wpAny_truthy_list hl (by rw [List.size_toArray, e]; omega) ?_
  cases ws with
  | nil =>
    have : vs = [] := List.length_eq_zero_iff.mp e
    subst this
    exact h0 rfl _
  | cons a r =>
    cases vs with
    | nil => simp at e
    | cons v r' => exact h1 (by simp) _
end
/-- the subject's rows, as values. -/
def SubsAre (h : Heap) (vs : List Value) (cs : List Str) : Prop :=
  vs.length = cs.length ∧ ∀ (i : Nat) (v : Value), vs[i]? = some v → ∃ n a x y t1 t2 t3 t4, cs[i]? = some n ∧ v = .ref a ∧ IsTup h a #[.ref x, .ref y] ∧ IsTup h x #[.str (Str.ofString "organizationName") t1, .str (Str.ofString "ww.a.org") t2] ∧ IsTup h y #[.str (Str.ofString "commonName") t3, .str n t4]
end

section
section
variable {prog : Program} {w : World} {A : Around} {E : Value → Shared → Prop} {s : Shared}
theorem repr_len {x : Str} (hl : PyData.layable0 (.str x) = true) (hn : x.length ≤ 64) : (reprText x).length ≤ 1000 := by
  have := len_repr_of_layable hl; omega
theorem rconv {b : Nat} {x : Str} {t : Tok} {Q : Value → Shared → Prop} (hx : (reprText x).length ≤ 1000) (h : Q (.str (reprText x) s.toks) { s with toks := s.toks + 1 }) : wpAny (model prog w) A (pyReprObjUnder b (.str x t)) Q E s := by
  have hs : (reprText x).length ≤ sizeLine := by rw [sizeLine_eq]; omega
  unfold pyReprObjUnder pyReprObjBy
  have hv : [Value.str x t].any Value.onHeap = false := rfl
  simp only [cRoomFor, hv, Bool.false_eq_true, if_false, pure_bind]
  have hT := typeIs_str s x t
  refine wpAny_bind (wpAny_specialOf (name := Str.ofString "__repr__") hT F.slot_str_repr.lookup ?_)
  refine wpAny_bind (wpAny_callSpecialIfBoundBy?_slotG (name := Str.ofString "__repr__") hT F.slot_str_repr.toG ?_)
  show wpAny _ _ (call (.builtin "str.__repr__") [.str x t]) _ _ _
  refine call_gives F.slot_str_repr hT F.entry_str_repr (F.args_str_repr_1 _) (gives_str_repr x t) ⟨hs, ?_⟩
  exact wpAny_bind (wpAny_isInstance (T := "str") (b := true) rfl isSubtype_str_str (wpAny_pure h))
def Lay (xs : List Str) : Prop := ∀ x ∈ xs, PyData.layable0 (.str x) = true ∧ x.length ≤ 64
theorem Lay.of {xs : List Str} {x : Str} (hk : x ∈ xs) (h : Lay xs) : (reprText x).length ≤ 1000 := repr_len (h x hk).1 (h x hk).2
theorem repr_S {x : Str} {t : Tok} {Q : Value → Shared → Prop} (hx : (reprText x).length ≤ 1000) (h : ∀ t k, Q (.str (reprText x) t) { s with toks := k }) : wpAny (model prog w) A (call (.builtin "repr") [.str x t]) Q E s :=
  P.repr_of_str (h _ _) (by rw [sizeLine_eq]; omega)
theorem item0_L {value slice : PySem.Expr} {l : Addr} {vs : List Value} {ws : List Str} {u : Tok} {Q : Value → Shared → Prop} (hl : s.heap.IsList l vs.toArray) (hw : StrsAre vs ws) (hy : Lay ws) (h1 : (ws.length : Int) = 1) (h : ∀ x t', PyData.layable0 (.str x) = true → x.length ≤ 64 → Q (.str x t') s)
    (hs : subscripted slice false (.ref l) (.int 0 u) = operate [.ref l, .int 0 u] (getItem (.ref l) (.int 0 u)) := by with_unfolding_all rfl) :
    wpAny (model prog w) A (subscriptTail value slice (.ref l) (.int 0 u)) Q E s :=
  item_mem hl hw (by decide) (by omega) (by decide) (fun x t' hx => h x t' (hy x hx).1 (hy x hx).2) hs
theorem sum_repr {xs : List Str} (hx : ∀ x ∈ xs, (reprText x).length ≤ 1000) : ((xs.map reprText).map (·.length)).sum ≤ 1000 * xs.length := by
  induction xs with
  | nil => simp
  | cons a r ih =>
    have h1 := hx a List.mem_cons_self
    have h2 := ih fun x h => hx x (List.mem_cons_of_mem _ h)
    simp only [List.map_cons, List.sum_cons, List.length_cons]
    omega
theorem cps_len_join {x : Str} {ys : List Str} : (Txt.join x ys).length ≤ (ys.map (·.length)).sum + ys.length * x.length := by
  show (Builtin.Str.glued x ys).length ≤ _
  rw [StrLaws.glued_eq_join]
  exact StrLaws.join_length_le x ys
theorem join_S {D : Addr} {vs : List Value} {xs : List Str} {t : Tok} {Q : Value → Shared → Prop} (hl : s.heap.IsList D vs.toArray) (hi : StrsAre vs (xs.map reprText)) (hy : Lay xs) (hn : xs.length ≤ 200)
    (h : ∀ T t' k, T.length ≤ 1000000 → Q (.str T t') { s with toks := k }) : wpAny (model prog w) A (call (.builtin "str.join") [.str (Str.ofString ", ") t, .ref D]) Q E s := by
  have h1 := sum_repr fun x hk => Lay.of hk hy
  have hsum : ((xs.map reprText).map (·.length)).sum + (xs.map reprText).length * (Str.ofString ", ").length ≤ 1000000 := by
    have e : (Str.ofString ", ").length = 2 := by decide +kernel
    rw [e, List.length_map]; omega
  refine join_list hl hi (Nat.le_trans hsum (by decide)) fun t' k => h _ _ _ ?_
  exact Nat.le_trans cps_len_join hsum
end
section
variable {prog : Program} {w : World} {A : Around} {E : Value → Shared → Prop} {s : Shared} {env : Env} {h₀ : Heap} {target : Expr} {body : List Stmt} {Q : Flow → Shared → Prop}
theorem loop_none {ax : Addr} {m₀ : Str → Option Value} {news : List (Addr × Obj)} {n : Nat} (hh : A.handled = none) (hm : (ax, ({ cls := .type "tuple", data := .seq #[] n } : Obj)) ∈ news) (F : Fr h₀ env.locals s.heap m₀) (N : News h₀ env.locals s.heap news)
    (done : ∀ h tk, Fr h₀ env.locals h m₀ → News h₀ env.locals h news → Q .next { s with heap := h, toks := tk }) :
    wpAny (model prog w) A (pyIter (.ref ax)) (fun it s₂ => TurnsAt prog w A h₀ env target body Q E it s₂) E s := by
  have hax := (N _ hm).1
  have hl : s.heap.IsTuple ax #[] := ⟨_, hax, rfl, n, rfl⟩
  have hne : ax ≠ s.heap.objs.size := Nat.ne_of_lt (Heap.lt_size hax)
  refine wpAny_pyIter_tuple hl ?_
  refine ⟨s.heap.objs.size, _, [s.heap.objs.size], 0, _, _, _, m₀, news, (fun _ m nw => m = m₀ ∧ nw = news), rfl, (KTurns.ofWalks (Walks.tuple hh s.heap.objs.size ax hne #[]) fun i v s Q E st q => letGo_tupleiter st.1 q), ?_, ?_, ?_, ⟨⟨_, Heap.get?_push_size _ rfl, rfl, rfl⟩, hl.at fun o e => Heap.get?_push_of_some _ e⟩, (F.push _), (fun p hp => ⟨Heap.get?_push_of_some _ (N p hp).1, (N p hp).2⟩), ⟨rfl, rfl⟩, ?_, ?_⟩
  · intro hmem
    rcases List.mem_cons.mp hmem with e | hmem
    · exact absurd F.ns.lt (e ▸ Nat.lt_irrefl _)
    · exact (N _ hm).2.1 (List.mem_singleton.mp hmem).symm
  · intro b hb; rw [List.mem_singleton.mp hb]; exact next_is_new F
  · intro p hp hb
    have e := List.mem_singleton.mp hb
    exact absurd (Heap.lt_size (N p hp).1) (e ▸ Nat.lt_irrefl _)
  · intro i v m₁ news₁ h tk own hi
    exact absurd hi (Nat.not_lt_zero _)
  · rintro h' tk m' news' F' N' _ ⟨rfl, rfl⟩
    exact done h' tk F' N'
end
local macro_rules | `(tactic| kpt_conv) => `(tactic| (refine wpAny_bind ?_; (repeat kpc_if); refine rconv (by assumption) ?_; refine wpAny_bind (wpAny_of_eq (a := some _) rfl ?_)))
section
variable {prog : Program} {w : World} {A : Around} {E : Value → Shared → Prop} {s : Shared}
set_option maxHeartbeats 8000000 in
theorem mod_host {b L : Addr} {h₀ : Heap} {news : List (Addr × Obj)} {host T : Str} {t t1 t2 : Tok} {Q : Value → Shared → Prop} (N : News h₀ L s.heap news) (hb : (b, ({ cls := .type "tuple", data := .seq #[.str host t1, .str T t2] 2 } : Obj)) ∈ news)
    (hx : (reprText host).length ≤ 1000) (hT : T.length ≤ 1000000) (h : ∀ T' t' k, Q (.str T' t') { s with toks := k }) : wpAny (model prog w) A (binaryOp .Mod (.str (Str.ofString "hostname %r doesn't match either of %s") t) (.ref b)) Q E s := by
  k_dflt (refine' KPt.mod_tuple N hb ?kptF ?kptm ?_; (case kptF => kpt_eq); (case kptm => kpt_run); intro t' k; exact h _ _ _)
end
end

section
theorem use_match {w : World} {mean : ExcName → Option Value} {mg mb : Str → Option Value} {dn host : Str} {t u : Tok} (hl1 : dn.length ≤ 64) (hl2 : host.length ≤ 64) (hy1 : PyData.layable0 (.str dn) = true) (ho1 : (((Txt.split dn (Str.ofString ".")).drop 1).map Txt.lower).all PyData.strOk = true) (ho2 : ((Txt.split (Txt.lower host) (Str.ofString ".")).drop 1).all PyData.strOk = true)
    {A A₀ : Around} {base h₀ : Heap} {outer : List Env} {env : Env} {s : Shared} {L : Addr} {m : Str → Option Value} {news : List (Addr × Obj)} {Q E : Value → Shared → Prop}
    (B : Below A₀ base outer h₀) (F : Fr h₀ L s.heap m) (X : (Mine.hd.heap_39 w.params).In h₀) (N : News h₀ L s.heap news) (T : Top Mine.hd.view_39 (looseW Mine.hd.view_39 [Str.ofString "_dnsname_match", Str.ofString "match_hostname"]) mean mg mb h₀)
    (hA : A.frames = some (env :: outer)) (hf : env.frame = some L) (hke : env.scope.kind = .function) (hh : A.handled = none) (hd : A.depth ≤ 600) (hu : A.units ≤ 3000)
    (k : ∀ b h' tk', Fr h₀ L h' m → News h₀ L h' news → s.heap.StaysIn h' → dnm dn host = some b → Q (.bool b) { s with heap := h', toks := tk' })
    (ke : ∀ a h' tk' t vs, dnm dn host = none → RaisedS base s.heap (env :: outer) a (.ref 24) t vs [] h' → s.heap.UpToSlots h' → E (.ref a) { s with heap := h', toks := tk' }) :
    wpAny (model PySem.Challenge.rw_ew0040_01.row.prog w) A (call (.ref 33) [.str dn t, .str host u]) Q E s := by
  refine Ct.useE (ct_match w mean mg mb dn host t u hl1 hl2 hy1 ho1 ho2) B F X N T hA hf hke hh hd hu trivial ?_ ?_
  · rintro v h' tk' F' N' st ⟨b, hb, rfl⟩
    exact k b h' tk' F' N' st hb
  · rintro e h' tk' ⟨hd', a, t, vs, rfl, R, U⟩
    exact ke a h' tk' t vs hd' R U

local macro_rules | `(tactic| walk_at "exec For Tuple Name cons nil") => `(tactic| (k_here; refine Mine.stop ?_))
local macro_rules | `(tactic| walk_at "exec For Name Name cons nil") => `(tactic| (k_here; refine Mine.stop ?_))
local macro_rules | `(tactic| walk_at "exec For Name Call cons nil") => `(tactic| (k_here; refine Mine.stop ?_))
local macro_rules | `(tactic| walk_at "pyIter ref") => `(tactic| (k_here; refine Mine.stop ?_))
local macro_rules | `(tactic| walk_at "call builtin:repr") => `(tactic| (k_here; k_dflt (refine Mine.repr_S (by assumption) ?_); intro _ _))
local macro_rules | `(tactic| walk_at "subscriptTail Name Constant ref int") => `(tactic| (k_here; (with_reducible show wpAny _ _ (subscriptTail _ _ (Value.ref _) (Value.int _ _)) _ _ _); k_dflt (refine' Mine.item0_L (by is_list) (by assumption) (by assumption) (by assumption) (fun x' t' e1' e2' => ?_)); (have e3' := Mine.repr_len e1' e2')))
local macro_rules | `(tactic| walk_at "eval ListComp") => `(tactic| (k_here; refine Mine.stop ?_))
local macro_rules | `(tactic| walk_at "my my_lc") => `(tactic| (refine Mine.Stop.mk ?_; k_dflt (refine LCg.ListComp_U (F₀ := by k_asm) (by rfl) (by decide) (by rfl) (by decide) (by rfl) ?_); k_dflt walk1; k_here; k_dflt (refine LCg.CompSrc.ledger (by rfl) (by k_asm) (by k_asm) (by k_mem) (by ((simp only [List.size_toArray, sizeLine_eq]); omega)) ?_; intro g'; (refine comp_strs reprText (by assumption) (fun x0 t0 I' oI' C' oC' D' m' ys' h' tk' E' hk' hC' hx' F' N' off' ne' hS' => have hk2' := Mine.Lay.of hk' (by assumption); ?_) (by lcg_src) (fun ys' hys' => ?_))); (all_goals (try (dsimp only [LCg.FinE]; intro D' h' tk' F' N' o'; (try simp only [LCg.Off1, and_true] at o'); (try k_sweep)))); (all_goals k_steps); (all_goals (try dsimp only))))
local macro_rules | `(tactic| walk_at "CompEnd") => `(tactic| (refine LCg.CompEnd.intro (by assumption) (by assumption) _ (fun _ hp => hp) (by assumption) (by assumption) ⟨rfl, _, rfl⟩))
local macro_rules | `(tactic| walk_at "call builtin:str.join") => `(tactic| (k_here; (with_reducible show wpAny _ _ (call (Value.builtin _) [Value.str _ _, Value.ref _]) _ _ _); k_dflt (refine' Mine.join_S (by is_list) (by assumption) (by assumption) (by omega) (fun _ _ _ _ => ?_))))
local macro_rules | `(tactic| walk_at "truthy ref") => `(tactic| (k_here; k_dflt (refine' Mine.truthy_D (by k_asm) (by assumption) (by assumption) (by assumption) (by assumption) (fun _ => ?_))))
local macro_rules | `(tactic| walk_at "truthy ref") => `(tactic| (k_here; k_dflt (refine' Mine.truthy_S (by is_list) (by assumption) (by assumption) (fun hz' _ => ?_) (fun hz' _ => ?_))))
local macro_rules | `(tactic| walk_at "getMethod ref") => `(tactic| (k_here; k_dflt (refine' Mine.getMethod_D (by k_asm) (by assumption) ?_)))
local macro_rules | `(tactic| walk_at "call builtin:dict.get") => `(tactic| (k_here; k_dflt (refine' Mine.get2_D (by k_asm) (by assumption) (by assumption) (by assumption) (fun _ => ?_)); (try dsimp only [Option.getD])))
local macro_rules | `(tactic| walk_at "call ref") => `(tactic| (k_here; (with_reducible show wpAny _ _ (call (Value.ref 33) _) _ _ _); k_dflt ((refine' Mine.use_match (by assumption) (by assumption) (by assumption) (by assumption) (by assumption) (by k_asm) (by k_asm) (by k_asm) (by k_asm) (by k_asm) rfl rfl rfl rfl (Nat.le_of_ble_eq_true rfl) (Nat.le_of_ble_eq_true rfl) (fun b' h' tk' F' N' st' hb' => ?_) (fun a' h' tk' t' vs' hd' R' U' => ?_)) <;> (first | (with_reducible rename RaisedS _ _ _ _ _ _ _ _ _ => hR') | (try k_sweep)) <;> (try dsimp only))))
local macro_rules | `(tactic| walk_at "leaving ref") => `(tactic| (k_here; k_dflt (refine' leave_raiseS (by assumption) (by assumption) (by assumption) News.nil (fun h' t' R' R2' U' => ?_)); (try dsimp only)))
local macro_rules | `(tactic| walk_at "leaving ref") => `(tactic| (k_here; k_dflt (refine' leave_onS (by assumption) (by assumption) (by assumption) (by assumption) (fun h' R' R2' U' => ?_)); (try dsimp only)))
local macro_rules | `(tactic| walk_at "call builtin:list.append") => `(tactic| (k_here; (with_reducible show wpAny _ _ (call (Value.builtin _) [Value.ref _, Value.str _ _]) _ _ _); k_dflt (refine' Mine.append_S (by k_asm) (by k_asm) (by assumption) (by assumption) (by k_upd) (fun h' F' N' hv' => ?_)); (try k_sweep)))

set_option maxHeartbeats 8000000 in
theorem ct_mh1 (w : World) (mean : ExcName → Option Value) (mg mb : Str → Option Value) (c Ta : Addr) (kvs : List (Str × Value)) (vs : List Value) (ps : List (Str × Str)) (cs : List Str) (host : Str) (u : Tok) (asks : Bool) (hps : ∀ p ∈ ps, gN p.2 = true) (hcs : ∀ n ∈ cs, gN n = true) (hgh : gH host = true) (hl1 : ps.length ≤ 100) (hl2 : cs.length ≤ 100)
    (lo : (c == sysModules) = false) (hk1 : kvs.length ≤ 1000) (hk2 : kvs.isEmpty = false) (hk3 : valueAt kvs (Str.ofString "subjectAltName") = some (.ref Ta)) :
    Ct w mean mg mb 500 2000 39 [.ref c, .str host u, .bool asks] (fun h => h.DictOf (strKind PySem.Challenge.rw_ew0040_01.row.prog w) c kvs ∧ IsTup h Ta vs.toArray ∧ PairsAre h vs ps ∧ (mScan host ps = none → ∃ S ss, valueAt kvs (Str.ofString "subject") = some (.ref S) ∧ IsTup h S ss.toArray ∧ SubsAre h ss cs))
      (fun _ _ v => mh ps cs host asks = true ∧ v = .none) (fun base outer h h' e => mh ps cs host asks = false ∧ ExC base outer h h' e) := by
  unfold Ct
  w_top off
  k_fill
  intro A base outer s Q E hh hd hu B X T hP hret hex
  obtain ⟨hD, htu, hpa, hsb⟩ := hP
  obtain ⟨gh1, gh2, gh3⟩ := gH_out hgh
  have gh4 := all_drop gh3
  have gh5 := repr_len gh2 gh1
  have hy2 : Lay cs := fun x hx => ⟨(gN_out (hcs x hx)).2.1, (gN_out (hcs x hx)).1⟩
  have hy1 : Lay (dnsOf ps) := fun x hx => by
    obtain ⟨p, hp, rfl⟩ := dnsOf_mem hx
    exact ⟨(gN_out (hps p hp)).2.1, (gN_out (hps p hp)).1⟩
  refine depth_le (d := 500) (u := 2000) ?_ hd hu
  obtain ⟨hA, dA, fA, gA, uA⟩ := A
  dsimp only at *
  subst hh
  have hfA : fA = some outer := B.stack
  subst hfA
  have B1 : Below { handled := none, depth := 500, frames := some outer, guards := gA, units := 2000 } base outer s.heap := ⟨rfl, B.stays, B.frames⟩
  clear B hd hu
  refine wpAny_call ?_
  k_dflt (refine' enter0 (binds := [(Str.ofString "cert", .ref c), (Str.ofString "hostname", .str host u), (Str.ofString "hostname_checks_common_name", .bool asks)]) B1 X T ?k6 ?k7 ?k8 ?k9 ?kB ?_ ?c2 ?c3 ?c4 ?c5; (case k6 => k_is); (case k7 => k_is); (case k8 => k_room); (case k9 => first | exact BindsTo.of_eq rfl | exact binds_K X rfl (by k_is) rfl rfl rfl); (case c5 => decide); (case kB => exact locs rfl); (case c2 => exact rfl); (case c3 => exact rfl); (case c4 => exact rfl); k_whole; intro L' h' F' N')
  k_steps
  refine Mine.Stop.mk ?_
  refine For_turns (by assumption) ?_
  k_steps
  refine Mine.Stop.mk ?_
  refine loop_tupW [Str.ofString "key", Str.ofString "value"] (fun i => dnsOf (ps.take i)) (fun i => mScan host (ps.take i) = none) rfl htu (by assumption) (news_swap (by assumption)) .nil rfl ?_ ?_
  · intro i v u1 vs1 k1 h1 tk1 I1 it1 hi1 hv1 hvs1 hsc hne1 hnr1 F1 N1
    simp only [AllNe, and_true] at hnr1
    obtain ⟨kd, nm, a1, t2, t3, hp1, rfl, htp⟩ := hpa.2 i v (by simpa using hv1)
    have hg := hps (kd, nm) (List.mem_of_getElem? hp1)
    obtain ⟨gn1, gn2, gn3, gn4⟩ := gN_out hg
    dsimp only at gn1 gn2 gn3 gn4
    have hb1 : (dnsOf (ps.take i)).length ≤ 1000000 := by
      have h1 := dnsOf_len (ps.take i)
      rw [List.length_take] at h1; omega
    k_sweep
    (try dsimp only)
    k_steps
    all_goals (try dsimp only)
    all_goals (first
      | exact hex _ _ _ ⟨mh_many hsc hp1 (by assumption) (by assumption), _, _, _, rfl, by assumption, by assumption⟩
      | (show Q _ _
         exact hret _ _ _ (Fr.keep (by assumption)) ⟨mh_yesb hsc hp1 (by assumption) (by assumption) (by assumption), rfl⟩)
      | skip)
    all_goals (first
      | refine TEndS.intro (by assumption) (by assumption) _ (fun _ hp => hp) (by simp only [AllNe, and_true]; exact ⟨hne1, hnr1⟩) ?_ ⟨_, _, rfl, by rw [dns_yes1 hp1 (by assumption)]; assumption, mh_next1b hsc hp1 (by assumption) (by assumption) (by assumption)⟩
      | refine TEndS.intro (by assumption) (by assumption) _ (fun _ hp => hp) (by simp only [AllNe, and_true]; exact ⟨hne1, hnr1⟩) ?_ ⟨_, _, rfl, by rw [dns_yes2 hp1 (by assumption)]; assumption, mh_next2 hsc hp1 (by assumption)⟩
      | refine TEndS.intro (by assumption) (by assumption) _ (fun _ hp => hp) (by simp only [AllNe, and_true]; exact ⟨hne1, hnr1⟩) ?_ ⟨_, _, rfl, by rw [dns_no hp1 (by assumption) (by assumption)]; assumption, mh_next2 hsc hp1 (by assumption)⟩)
    all_goals (intro y hy2
               have a2 := ne_of_contains (x := Str.ofString "key") (by simp) hy2
               have a3 := ne_of_contains (x := Str.ofString "value") (by simp) hy2
               simp [a2, a3])
  · intro u2 vs2 k2 h2 tk2 hvs2 hsc2 F2 N2
    rw [List.take_of_length_le (by rw [List.size_toArray, hpa.1]; exact Nat.le_refl _)] at hvs2 hsc2
    obtain ⟨S, ss, hk4, htS, hsS⟩ := hsb hsc2
    have hb2 : (dnsOf ps).length ≤ 1000000 := by have h1 := dnsOf_len ps; omega
    have hb3 : (dnsOf ps).length ≤ 200 := by have h1 := dnsOf_len ps; omega
    have hb4 : vs2.length ≤ 1000000 := by rw [hvs2.length]; exact hb2
    k_sweep
    (try dsimp only)
    k_steps
    all_goals (try dsimp only)
    all_goals (try walk_at "my my_lc")
    all_goals (first
      | exact hex _ _ _ ⟨mh_no1 hsc2 (by assumption), _, _, _, rfl, by assumption, by assumption⟩
      | exact hex _ _ _ ⟨mh_no2 hsc2 (by assumption), _, _, _, rfl, by assumption, by assumption⟩
      | skip)
    refine Mine.Stop.mk ?_
    refine For_turns (by assumption) ?_
    k_steps
    all_goals (try dsimp only)
    refine Mine.Stop.mk ?_
    rename dnsOf ps = [] => hz2
    have ha2 : asks = true := by assumption
    refine loop_tupW [Str.ofString "sub", Str.ofString "key", Str.ofString "value"] (fun i => cs.take i) (fun i => mcScan host (cs.take i) = none) rfl htS (by assumption) (news_swap (by assumption)) (by rw [hz2] at hvs2; exact hvs2) rfl ?_ ?_
    · intro i v u3 vs3 k3 h3 tk3 I3 it3 hi3 hv3 hvs3 hsc3 hne3 hnr3 F3 N3
      simp only [AllNe, and_true] at hnr3
      obtain ⟨nm, a3, x3, y3, t31, t32, t33, t34, hp3, rfl, hta, htx, hty⟩ := hsS.2 i v (by simpa using hv3)
      have hg := hcs nm (List.mem_of_getElem? hp3)
      obtain ⟨gn1, gn2, gn3, gn4⟩ := gN_out hg
      have hb3 : (cs.take i).length ≤ 1000000 := by
        rw [List.length_take]; omega
      k_sweep
      (try dsimp only)
      k_steps
      all_goals (try dsimp only)
      refine Mine.Stop.mk ?_
      refine For_turns (by assumption) ?_
      k_steps
      all_goals (try dsimp only)
      refine Mine.Stop.mk ?_
      refine loop_tupW [Str.ofString "key", Str.ofString "value"] (fun j => if j < 2 then cs.take i else cs.take (i + 1)) (fun j => j = 2 → mcScan host (cs.take (i + 1)) = none) rfl hta (by assumption) (news_swap (by assumption)) hvs3 (fun h => nomatch h) ?_ ?_
      · intro j v u4 vs4 k4 h4 tk4 I4 it4 hi4 hv4 hvs4 hsc4 hne4 hnr4 F4 N4
        simp only [AllNe, and_true] at hnr4
        have hj : j = 0 ∨ j = 1 := by have : j < 2 := hi4; omega
        rcases hj with rfl | rfl
        · have hvs4' : StrsAre vs4 (cs.take i) := hvs4
          obtain rfl : .ref x3 = v := Option.some.inj hv4
          clear hvs4 hsc4
          k_sweep
          (try dsimp only)
          k_steps
          all_goals (try dsimp only)
          all_goals (refine TEndS.intro (by assumption) (by assumption) _ (fun _ hp => hp) (by simp only [AllNe, and_true]; exact ⟨hne4, hnr4⟩) ?_ ⟨_, _, rfl, by assumption, fun h => nomatch h⟩)
          all_goals (intro y hy2; have a0 := ne_of_contains (x := Str.ofString "key") (by simp) hy2; have a1 := ne_of_contains (x := Str.ofString "value") (by simp) hy2; simp [a0, a1])
        · have hvs4' : StrsAre vs4 (cs.take i) := hvs4
          obtain rfl : .ref y3 = v := Option.some.inj hv4
          clear hvs4 hsc4
          k_sweep
          (try dsimp only)
          k_steps
          all_goals (try dsimp only)
          all_goals (first
            | exact hex _ _ _ ⟨mh_cmany hsc2 hz2 ha2 hsc3 hp3 (by assumption), _, _, _, rfl, by assumption, by assumption⟩
            | (show Q _ _
               exact hret _ _ _ (Fr.keep (by assumption)) ⟨mh_cyesb hsc2 hz2 ha2 hsc3 hp3 (by assumption) (by assumption), rfl⟩)
            | skip)
          subst_vars
          refine TEndS.intro (by assumption) (by assumption) _ (fun _ hp => hp) (by simp only [AllNe, and_true]; exact ⟨hne4, hnr4⟩) ?_ ⟨_, _, rfl, by (show StrsAre _ (cs.take (i + 1))); rw [take_snoc hp3]; assumption, fun _ => mh_cnext hsc3 hp3 (by assumption)⟩
          (intro y hy2; have a0 := ne_of_contains (x := Str.ofString "key") (by simp) hy2; have a1 := ne_of_contains (x := Str.ofString "value") (by simp) hy2; simp [a0, a1])
      · intro u5 vs5 k5 h5 tk5 hvs5 hsc5 F5 N5
        have hvs5' : StrsAre vs5 (cs.take (i + 1)) := hvs5
        have hsc5' : mcScan host (cs.take (i + 1)) = none := hsc5 rfl
        clear hvs5 hsc5
        k_sweep
        (try dsimp only)
        k_steps
        all_goals (try dsimp only)
        refine TEndS.intro (by assumption) (news_swap (by assumption)) _ (fun _ hp => hp) (by simp only [AllNe, and_true]; exact ⟨hne3, hnr3⟩) ?_ ⟨_, _, rfl, hvs5', hsc5'⟩
        (intro y hy2; have a0 := ne_of_contains (x := Str.ofString "sub") (by simp) hy2; have a1 := ne_of_contains (x := Str.ofString "key") (by simp) hy2; have a2 := ne_of_contains (x := Str.ofString "value") (by simp) hy2; simp [a0, a1, a2])
    · intro u3 vs3 k3 h3 tk3 hvs3 hsc3 F3 N3
      rw [List.take_of_length_le (by rw [List.size_toArray, hsS.1]; exact Nat.le_refl _)] at hvs3 hsc3
      have hb5 : cs.length ≤ 200 := by omega
      have hb6 : vs3.length ≤ 1000000 := by rw [hvs3.length]; omega
      k_sweep
      (try dsimp only)
      k_steps
      all_goals (try dsimp only)
      all_goals (try walk_at "my my_lc")
      all_goals exact hex _ _ _ ⟨mh_cend hsc2 hsc3, _, _, _, rfl, by assumption, by assumption⟩
set_option maxHeartbeats 8000000 in
theorem ct_mh2 (w : World) (mean : ExcName → Option Value) (mg mb : Str → Option Value) (c : Addr) (kvs : List (Str × Value))  (cs : List Str) (host : Str) (u : Tok) (asks : Bool) (hcs : ∀ n ∈ cs, gN n = true) (hgh : gH host = true) (hl2 : cs.length ≤ 100)
    (lo : (c == sysModules) = false) (hk1 : kvs.length ≤ 1000) (hk2 : kvs.isEmpty = false) (hk3 : valueAt kvs (Str.ofString "subjectAltName") = none) :
    Ct w mean mg mb 500 2000 39 [.ref c, .str host u, .bool asks] (fun h => h.DictOf (strKind PySem.Challenge.rw_ew0040_01.row.prog w) c kvs ∧ (∃ S ss, valueAt kvs (Str.ofString "subject") = some (.ref S) ∧ IsTup h S ss.toArray ∧ SubsAre h ss cs))
      (fun _ _ v => mh [] cs host asks = true ∧ v = .none) (fun base outer h h' e => mh [] cs host asks = false ∧ ExC base outer h h' e) := by
  unfold Ct
  w_top off
  k_fill
  intro A base outer s Q E hh hd hu B X T hP hret hex
  obtain ⟨hD, S, ss, hk4, htS, hsS⟩ := hP
  obtain ⟨gh1, gh2, gh3⟩ := gH_out hgh
  have gh4 := all_drop gh3
  have gh5 := repr_len gh2 gh1
  have hy2 : Lay cs := fun x hx => ⟨(gN_out (hcs x hx)).2.1, (gN_out (hcs x hx)).1⟩
  refine depth_le (d := 500) (u := 2000) ?_ hd hu
  obtain ⟨hA, dA, fA, gA, uA⟩ := A
  dsimp only at *
  subst hh
  have hfA : fA = some outer := B.stack
  subst hfA
  have B1 : Below { handled := none, depth := 500, frames := some outer, guards := gA, units := 2000 } base outer s.heap := ⟨rfl, B.stays, B.frames⟩
  clear B hd hu
  refine wpAny_call ?_
  k_dflt (refine' enter0 (binds := [(Str.ofString "cert", .ref c), (Str.ofString "hostname", .str host u), (Str.ofString "hostname_checks_common_name", .bool asks)]) B1 X T ?k6 ?k7 ?k8 ?k9 ?kB ?_ ?c2 ?c3 ?c4 ?c5; (case k6 => k_is); (case k7 => k_is); (case k8 => k_room); (case k9 => first | exact BindsTo.of_eq rfl | exact binds_K X rfl (by k_is) rfl rfl rfl); (case c5 => decide); (case kB => exact locs rfl); (case c2 => exact rfl); (case c3 => exact rfl); (case c4 => exact rfl); k_whole; intro L' h' F' N')
  k_steps
  refine Mine.Stop.mk ?_
  refine For_turns (by assumption) ?_
  k_steps
  refine Mine.Stop.mk ?_
  refine' loop_none (n := ?nn) (rfl : _ = none) ?hm (by assumption) (by assumption) ?hdone
  case hm => k_mem
  intro h2 tk2 F2 N2'
  have N2 := news_swap N2'
  clear N2'
  k_sweep
  (try dsimp only)
  k_steps
  all_goals (try dsimp only)
  all_goals (first
    | exact hex _ _ _ ⟨mh_no1 rfl (by assumption), _, _, _, rfl, by assumption, by assumption⟩
    | skip)
  refine Mine.Stop.mk ?_
  refine For_turns (by assumption) ?_
  k_steps
  all_goals (try dsimp only)
  refine Mine.Stop.mk ?_
  have ha2 : asks = true := by assumption
  refine loop_tupW [Str.ofString "sub", Str.ofString "key", Str.ofString "value"] (fun i => cs.take i) (fun i => mcScan host (cs.take i) = none) rfl htS (by assumption) (news_swap (by assumption)) .nil rfl ?_ ?_
  · intro i v u3 vs3 k3 h3 tk3 I3 it3 hi3 hv3 hvs3 hsc3 hne3 hnr3 F3 N3
    simp only [AllNe, and_true] at hnr3
    obtain ⟨nm, a3, x3, y3, t31, t32, t33, t34, hp3, rfl, hta, htx, hty⟩ := hsS.2 i v (by simpa using hv3)
    have hg := hcs nm (List.mem_of_getElem? hp3)
    obtain ⟨gn1, gn2, gn3, gn4⟩ := gN_out hg
    have hb3 : (cs.take i).length ≤ 1000000 := by
      rw [List.length_take]; omega
    k_sweep
    (try dsimp only)
    k_steps
    all_goals (try dsimp only)
    refine Mine.Stop.mk ?_
    refine For_turns (by assumption) ?_
    k_steps
    all_goals (try dsimp only)
    refine Mine.Stop.mk ?_
    refine loop_tupW [Str.ofString "key", Str.ofString "value"] (fun j => if j < 2 then cs.take i else cs.take (i + 1)) (fun j => j = 2 → mcScan host (cs.take (i + 1)) = none) rfl hta (by assumption) (news_swap (by assumption)) hvs3 (fun h => nomatch h) ?_ ?_
    · intro j v u4 vs4 k4 h4 tk4 I4 it4 hi4 hv4 hvs4 hsc4 hne4 hnr4 F4 N4
      simp only [AllNe, and_true] at hnr4
      have hj : j = 0 ∨ j = 1 := by have : j < 2 := hi4; omega
      rcases hj with rfl | rfl
      · have hvs4' : StrsAre vs4 (cs.take i) := hvs4
        obtain rfl : .ref x3 = v := Option.some.inj hv4
        clear hvs4 hsc4
        k_sweep
        (try dsimp only)
        k_steps
        all_goals (try dsimp only)
        all_goals (refine TEndS.intro (by assumption) (by assumption) _ (fun _ hp => hp) (by simp only [AllNe, and_true]; exact ⟨hne4, hnr4⟩) ?_ ⟨_, _, rfl, by assumption, fun h => nomatch h⟩)
        all_goals (intro y hy2; have a0 := ne_of_contains (x := Str.ofString "key") (by simp) hy2; have a1 := ne_of_contains (x := Str.ofString "value") (by simp) hy2; simp [a0, a1])
      · have hvs4' : StrsAre vs4 (cs.take i) := hvs4
        obtain rfl : .ref y3 = v := Option.some.inj hv4
        clear hvs4 hsc4
        k_sweep
        (try dsimp only)
        k_steps
        all_goals (try dsimp only)
        all_goals (first
          | exact hex _ _ _ ⟨mh_cmany rfl rfl ha2 hsc3 hp3 (by assumption), _, _, _, rfl, by assumption, by assumption⟩
          | (show Q _ _
             exact hret _ _ _ (Fr.keep (by assumption)) ⟨mh_cyesb rfl rfl ha2 hsc3 hp3 (by assumption) (by assumption), rfl⟩)
          | skip)
        subst_vars
        refine TEndS.intro (by assumption) (by assumption) _ (fun _ hp => hp) (by simp only [AllNe, and_true]; exact ⟨hne4, hnr4⟩) ?_ ⟨_, _, rfl, by (show StrsAre _ (cs.take (i + 1))); rw [take_snoc hp3]; assumption, fun _ => mh_cnext hsc3 hp3 (by assumption)⟩
        (intro y hy2; have a0 := ne_of_contains (x := Str.ofString "key") (by simp) hy2; have a1 := ne_of_contains (x := Str.ofString "value") (by simp) hy2; simp [a0, a1])
    · intro u5 vs5 k5 h5 tk5 hvs5 hsc5 F5 N5
      have hvs5' : StrsAre vs5 (cs.take (i + 1)) := hvs5
      have hsc5' : mcScan host (cs.take (i + 1)) = none := hsc5 rfl
      clear hvs5 hsc5
      k_sweep
      (try dsimp only)
      k_steps
      all_goals (try dsimp only)
      refine TEndS.intro (by assumption) (news_swap (by assumption)) _ (fun _ hp => hp) (by simp only [AllNe, and_true]; exact ⟨hne3, hnr3⟩) ?_ ⟨_, _, rfl, hvs5', hsc5'⟩
      (intro y hy2; have a0 := ne_of_contains (x := Str.ofString "sub") (by simp) hy2; have a1 := ne_of_contains (x := Str.ofString "key") (by simp) hy2; have a2 := ne_of_contains (x := Str.ofString "value") (by simp) hy2; simp [a0, a1, a2])
  · intro u3 vs3 k3 h3 tk3 hvs3 hsc3 F3 N3
    rw [List.take_of_length_le (by rw [List.size_toArray, hsS.1]; exact Nat.le_refl _)] at hvs3 hsc3
    have hb5 : cs.length ≤ 200 := by omega
    have hb6 : vs3.length ≤ 1000000 := by rw [hvs3.length]; omega
    k_sweep
    (try dsimp only)
    k_steps
    all_goals (try dsimp only)
    all_goals (try walk_at "my my_lc")
    all_goals exact hex _ _ _ ⟨mh_cend rfl hsc3, _, _, _, rfl, by assumption, by assumption⟩
end

section
/-- the contract of `_law_told`: it catches, so the outer frames' slots may be other ones. -/
def CtT (w : World) (mean : ExcName → Option Value) (mg mb : Str → Option Value) (d u : Nat) (args : List Value) (P : Heap → Prop) (r : Str) : Prop :=
  ∀ (A : Around) (base : Heap) (outer : List Env) (s : Shared) (Q E : Value → Shared → Prop),
    A.handled = none → A.depth ≤ d → A.units ≤ u → Below A base outer s.heap → (Mine.hd.heap_39 w.params).In base → Top Mine.hd.view_39 (looseW Mine.hd.view_39 [Str.ofString "_dnsname_match", Str.ofString "match_hostname"]) mean mg mb base →
    KtsDicts (outer.filterMap (·.frame)) s.heap → P s.heap →
    (∀ t h' tk' g', KtsTurn (outer.filterMap (·.frame)) s.heap g' → g'.StaysIn h' → Q (.str r t) { s with heap := h', toks := tk' }) →
    wpAny (model PySem.Challenge.rw_ew0040_01.row.prog w) A (call (.ref 79) args) Q E s

theorem turn_fr {h₀ g g' h' : Heap} {L : Addr} {m : Str → Option Value} (F : Fr h₀ L g m) (T : KtsTurn [L] g g') (st : g'.StaysIn h') : Fr h₀ L h' m := by
  obtain ⟨oL, es, ep, hL, hLd, hLk, hLf⟩ := F.ns
  obtain ⟨sl, hs⟩ := T.frame L oL hL (List.mem_singleton.mpr rfl)
  refine ⟨⟨_, es, ep, st _ _ hs, hLd, hLk, hLf⟩, fun b o e => st _ _ (T.other b o (F.keep b o e) fun hm => ?_), F.above⟩
  rw [List.mem_singleton.mp hm, kts_self F] at e; cases e
theorem turn_news {h₀ g g' h' : Heap} {L : Addr} {news : List (Addr × Obj)} (N : News h₀ L g news) (T : KtsTurn [L] g g') (st : g'.StaysIn h') : News h₀ L h' news :=
  fun p hp => ⟨st _ _ (T.other _ _ (N p hp).1 fun hm => (N p hp).2.1 (List.mem_singleton.mp hm)), (N p hp).2⟩
theorem CtT.use {w : World} {mean : ExcName → Option Value} {mg mb : Str → Option Value} {d u : Nat} {args : List Value} {P : Heap → Prop} {r : Str}
    (C : CtT w mean mg mb d u args P r) {A A₀ : Around} {base h₀ : Heap} {env : Env} {s : Shared} {L : Addr} {m : Str → Option Value} {news : List (Addr × Obj)} {Q E : Value → Shared → Prop}
    (B : Below A₀ base [] h₀) (F : Fr h₀ L s.heap m) (XB : (Mine.hd.heap_39 w.params).In base) (N : News h₀ L s.heap news) (TB : Top Mine.hd.view_39 (looseW Mine.hd.view_39 [Str.ofString "_dnsname_match", Str.ofString "match_hostname"]) mean mg mb base)
    (hA : A.frames = some [env]) (hf : env.frame = some L) (hke : env.scope.kind = .function) (hh : A.handled = none) (hd : A.depth ≤ d) (hu : A.units ≤ u) (hP : P s.heap)
    (k : ∀ t h' tk', Fr h₀ L h' m → News h₀ L h' news → Q (.str r t) { s with heap := h', toks := tk' }) :
    wpAny (model PySem.Challenge.rw_ew0040_01.row.prog w) A (call (.ref 79) args) Q E s := by
  have hnew : base.get? L = none := by
    cases hq : base.get? L with
    | none => rfl
    | some o => exact absurd (Nat.lt_of_lt_of_le (Heap.lt_size (B.stays L o hq)) F.above) (Nat.lt_irrefl _)
  have B' : Below A base [env] s.heap := ⟨hA, fun b o e => F.keep b o (B.stays b o e), Heap.FunFrames.cons (by rw [hke]; decide) hf F.ns hnew (B.frames.of_keeps fun b o e _ => ⟨o, F.keep b o e, rfl⟩)⟩
  have hfm : [env].filterMap (·.frame) = [L] := by simp [hf]
  refine C A base [env] s Q E hh hd hu B' XB TB ?_ hP ?_
  · rw [hfm]
    intro b hb
    rw [List.mem_singleton.mp hb]
    obtain ⟨oL, es, ep, hL, hLd, _⟩ := F.ns
    exact ⟨oL, es, ep, hL, hLd⟩
  · rw [hfm]
    intro t h' tk' g' T st
    exact k t h' tk' (turn_fr F T st) (turn_news N T st)
end

section
theorem SubsAre.stays {h h' : Heap} {vs : List Value} {cs : List Str} (x : SubsAre h vs cs) (st : h.StaysIn h') : SubsAre h' vs cs :=
  ⟨x.1, fun i v e => by obtain ⟨n, a, p, q, t1, t2, t3, t4, h1, h2, h3, h4, h5⟩ := x.2 i v e; exact ⟨n, a, p, q, t1, t2, t3, t4, h1, h2, stays_tup st h3, stays_tup st h4, stays_tup st h5⟩⟩

def MhP1 (w : World) (c Ta : Addr) (kvs : List (Str × Value)) (vs : List Value) (ps : List (Str × Str)) (cs : List Str) (host : Str) (h : Heap) : Prop := (h.DictOf (strKind PySem.Challenge.rw_ew0040_01.row.prog w) c kvs ∧ IsTup h Ta vs.toArray ∧ PairsAre h vs ps ∧ (mScan host ps = none → ∃ S ss, valueAt kvs (Str.ofString "subject") = some (.ref S) ∧ IsTup h S ss.toArray ∧ SubsAre h ss cs))
theorem MhP1.up {w : World} {c Ta : Addr} {kvs : List (Str × Value)} {vs : List Value} {ps : List (Str × Str)} {cs : List Str} {host : Str} {h h' : Heap} (x : MhP1 w c Ta kvs vs ps cs host h) (st : h.StaysIn h') : MhP1 w c Ta kvs vs ps cs host h' := by
  obtain ⟨a, b, d, e⟩ := x
  refine ⟨a.at fun o e => st _ _ e, stays_tup st b, d.stays st, fun hz => ?_⟩
  obtain ⟨S, ss, h1, h2, h3⟩ := e hz
  exact ⟨S, ss, h1, stays_tup st h2, h3.stays st⟩
theorem use_mh1 {w : World} {mean : ExcName → Option Value} {mg mb : Str → Option Value} {c Ta : Addr} {kvs : List (Str × Value)} {vs : List Value} {ps : List (Str × Str)} {cs : List Str} {host : Str} {u : Tok} {asks : Bool} (hps : ∀ p ∈ ps, gN p.2 = true) (hcs : ∀ n ∈ cs, gN n = true) (hgh : gH host = true) (hl1 : ps.length ≤ 100) (hl2 : cs.length ≤ 100) (lo : (c == sysModules) = false) (hk1 : kvs.length ≤ 1000) (hk2 : kvs.isEmpty = false) (hk3 : valueAt kvs (Str.ofString "subjectAltName") = some (.ref Ta))
    {A A₀ : Around} {base h₀ : Heap} {outer : List Env} {env : Env} {s : Shared} {L : Addr} {m : Str → Option Value} {news : List (Addr × Obj)} {Q E : Value → Shared → Prop}
    (B : Below A₀ base outer h₀) (F : Fr h₀ L s.heap m) (X : (Mine.hd.heap_39 w.params).In h₀) (N : News h₀ L s.heap news) (T : Top Mine.hd.view_39 (looseW Mine.hd.view_39 [Str.ofString "_dnsname_match", Str.ofString "match_hostname"]) mean mg mb h₀) (hP : MhP1 w c Ta kvs vs ps cs host h₀)
    (hA : A.frames = some (env :: outer)) (hf : env.frame = some L) (hke : env.scope.kind = .function) (hh : A.handled = none) (hd : A.depth ≤ 500) (hu : A.units ≤ 2000)
    (k : ∀ h' tk', Fr h₀ L h' m → News h₀ L h' news → s.heap.StaysIn h' → mh ps cs host asks = true → Q .none { s with heap := h', toks := tk' })
    (ke : ∀ a h' tk' t vs, mh ps cs host asks = false → RaisedS base s.heap (env :: outer) a (.ref 24) t vs [] h' → s.heap.UpToSlots h' → E (.ref a) { s with heap := h', toks := tk' }) :
    wpAny (model PySem.Challenge.rw_ew0040_01.row.prog w) A (call (.ref 39) [.ref c, .str host u, .bool asks]) Q E s := by
  refine Ct.useE (ct_mh1 w mean mg mb c Ta kvs vs ps cs host u asks hps hcs hgh hl1 hl2 lo hk1 hk2 hk3) B F X N T hA hf hke hh hd hu (hP.up fun b o e => F.keep b o e) ?_ ?_
  · rintro v h' tk' F' N' st ⟨hb, rfl⟩
    exact k h' tk' F' N' st hb
  · rintro e h' tk' ⟨hd', a, t, vs, rfl, R, U⟩
    exact ke a h' tk' t vs hd' R U

def MhP2 (w : World) (c : Addr) (kvs : List (Str × Value)) (cs : List Str) (h : Heap) : Prop := (h.DictOf (strKind PySem.Challenge.rw_ew0040_01.row.prog w) c kvs ∧ (∃ S ss, valueAt kvs (Str.ofString "subject") = some (.ref S) ∧ IsTup h S ss.toArray ∧ SubsAre h ss cs))
theorem MhP2.up {w : World} {c : Addr} {kvs : List (Str × Value)} {cs : List Str} {h h' : Heap} (x : MhP2 w c kvs cs h) (st : h.StaysIn h') : MhP2 w c kvs cs h' := by
  obtain ⟨a, S, ss, h1, h2, h3⟩ := x
  exact ⟨a.at fun o e => st _ _ e, S, ss, h1, stays_tup st h2, h3.stays st⟩
  
  
theorem use_mh2 {w : World} {mean : ExcName → Option Value} {mg mb : Str → Option Value} {c : Addr} {kvs : List (Str × Value)} {cs : List Str} {host : Str} {u : Tok} {asks : Bool} (hcs : ∀ n ∈ cs, gN n = true) (hgh : gH host = true) (hl2 : cs.length ≤ 100) (lo : (c == sysModules) = false) (hk1 : kvs.length ≤ 1000) (hk2 : kvs.isEmpty = false) (hk3 : valueAt kvs (Str.ofString "subjectAltName") = none)
    {A A₀ : Around} {base h₀ : Heap} {outer : List Env} {env : Env} {s : Shared} {L : Addr} {m : Str → Option Value} {news : List (Addr × Obj)} {Q E : Value → Shared → Prop}
    (B : Below A₀ base outer h₀) (F : Fr h₀ L s.heap m) (X : (Mine.hd.heap_39 w.params).In h₀) (N : News h₀ L s.heap news) (T : Top Mine.hd.view_39 (looseW Mine.hd.view_39 [Str.ofString "_dnsname_match", Str.ofString "match_hostname"]) mean mg mb h₀) (hP : MhP2 w c kvs cs h₀)
    (hA : A.frames = some (env :: outer)) (hf : env.frame = some L) (hke : env.scope.kind = .function) (hh : A.handled = none) (hd : A.depth ≤ 500) (hu : A.units ≤ 2000)
    (k : ∀ h' tk', Fr h₀ L h' m → News h₀ L h' news → s.heap.StaysIn h' → mh [] cs host asks = true → Q .none { s with heap := h', toks := tk' })
    (ke : ∀ a h' tk' t vs, mh [] cs host asks = false → RaisedS base s.heap (env :: outer) a (.ref 24) t vs [] h' → s.heap.UpToSlots h' → E (.ref a) { s with heap := h', toks := tk' }) :
    wpAny (model PySem.Challenge.rw_ew0040_01.row.prog w) A (call (.ref 39) [.ref c, .str host u, .bool asks]) Q E s := by
  refine Ct.useE (ct_mh2 w mean mg mb c kvs  cs host u asks hcs hgh hl2 lo hk1 hk2 hk3) B F X N T hA hf hke hh hd hu (hP.up fun b o e => F.keep b o e) ?_ ?_
  · rintro v h' tk' F' N' st ⟨hb, rfl⟩
    exact k h' tk' F' N' st hb
  · rintro e h' tk' ⟨hd', a, t, vs, rfl, R, U⟩
    exact ke a h' tk' t vs hd' R U
section

local macro_rules | `(tactic| walk_at "call ref") => `(tactic| (k_here; (with_reducible show wpAny _ _ (call (Value.ref 39) _) _ _ _); k_dflt ((refine' Mine.use_mh1 (by assumption) (by assumption) (by assumption) (by assumption) (by assumption) (by assumption) (by assumption) (by assumption) (by assumption) (by k_asm) (by k_asm) (by k_asm) (by k_asm) (by k_asm) (by assumption) rfl rfl rfl rfl (Nat.le_of_ble_eq_true rfl) (Nat.le_of_ble_eq_true rfl) (fun h' tk' F' N' st' hb' => ?_) (fun a' h' tk' t' vs' hd' R' U' => ?_)) <;> (first | (with_reducible rename RaisedS _ _ _ _ _ _ _ _ _ => hR') | (try k_sweep)) <;> (try dsimp only))))

set_option maxHeartbeats 8000000 in
theorem ct_told1 (w : World) (mean : ExcName → Option Value) (mg mb : Str → Option Value) (c Ta : Addr) (kvs : List (Str × Value)) (vs : List Value) (ps : List (Str × Str)) (cs : List Str) (host : Str) (u : Tok) (asks : Bool) (r : Str) (hps : ∀ p ∈ ps, gN p.2 = true) (hcs : ∀ n ∈ cs, gN n = true) (hgh : gH host = true) (hl1 : ps.length ≤ 100) (hl2 : cs.length ≤ 100) (lo : (c == sysModules) = false) (hk1 : kvs.length ≤ 1000) (hk2 : kvs.isEmpty = false) (hk3 : valueAt kvs (Str.ofString "subjectAltName") = some (.ref Ta)) (hr1 : mh ps cs host asks = true → r = Str.ofString "fine") (hr2 : mh ps cs host asks = false → r = Str.ofString "refused") :
    CtT w mean mg mb 400 1000 [.ref c, .str host u, .bool asks] (MhP1 w c Ta kvs vs ps cs host) r := by
  unfold CtT
  w_top off
  k_fill
  intro A base outer s Q E hh hd hu B XB TB D hP hret
  have X := XB.keeps B.stays
  have T := TB.keeps B.stays
  refine depth_le (d := 400) (u := 1000) ?_ hd hu
  obtain ⟨hA, dA, fA, gA, uA⟩ := A
  dsimp only at *
  subst hh
  have hfA : fA = some outer := B.stack
  subst hfA
  have B1 : Below { handled := none, depth := 400, frames := some outer, guards := gA, units := 1000 } base outer s.heap := ⟨rfl, B.stays, B.frames⟩
  clear B hd hu
  refine wpAny_call ?_
  k_dflt (refine' enter0 (binds := [(Str.ofString "cert", .ref c), (Str.ofString "host", .str host u), (Str.ofString "asks", .bool asks)]) B1 X T ?k6 ?k7 ?k8 ?k9 ?kB ?_ ?c2 ?c3 ?c4 ?c5; (case k6 => k_is); (case k7 => k_is); (case k8 => k_room); (case k9 => exact BindsTo.of_eq rfl); (case c5 => decide); (case kB => exact locs rfl); (case c2 => exact rfl); (case c3 => exact rfl); (case c4 => exact rfl); k_whole; intro L' h' F' N')
  k_steps
  all_goals (try dsimp only)
  all_goals (first
    | (obtain rfl := hr1 (by assumption)
       exact hret _ _ _ _ KtsTurn.refl (Fr.keep (by assumption)))
    | (obtain rfl := hr2 (by assumption)
       exact hret _ _ _ _ (by assumption) (Fr.keep (by assumption)))
    | skip)
  set_option pp.maxSteps 4000 in
  set_option pp.deepTerms.threshold 6 in
  all_goals trace_state
end
section

local macro_rules | `(tactic| walk_at "call ref") => `(tactic| (k_here; (with_reducible show wpAny _ _ (call (Value.ref 39) _) _ _ _); k_dflt ((refine' Mine.use_mh2 (by assumption) (by assumption) (by assumption) (by assumption) (by assumption) (by assumption) (by assumption) (by k_asm) (by k_asm) (by k_asm) (by k_asm) (by k_asm) (by assumption) rfl rfl rfl rfl (Nat.le_of_ble_eq_true rfl) (Nat.le_of_ble_eq_true rfl) (fun h' tk' F' N' st' hb' => ?_) (fun a' h' tk' t' vs' hd' R' U' => ?_)) <;> (first | (with_reducible rename RaisedS _ _ _ _ _ _ _ _ _ => hR') | (try k_sweep)) <;> (try dsimp only))))
local macro_rules | `(tactic| walk_at "no such step") => `(tactic| skip)

set_option maxHeartbeats 8000000 in
theorem ct_told2 (w : World) (mean : ExcName → Option Value) (mg mb : Str → Option Value) (c : Addr) (kvs : List (Str × Value)) (cs : List Str) (host : Str) (u : Tok) (asks : Bool) (r : Str) (hcs : ∀ n ∈ cs, gN n = true) (hgh : gH host = true) (hl2 : cs.length ≤ 100) (lo : (c == sysModules) = false) (hk1 : kvs.length ≤ 1000) (hk2 : kvs.isEmpty = false) (hk3 : valueAt kvs (Str.ofString "subjectAltName") = none) (hr1 : mh [] cs host asks = true → r = Str.ofString "fine") (hr2 : mh [] cs host asks = false → r = Str.ofString "refused") :
    CtT w mean mg mb 400 1000 [.ref c, .str host u, .bool asks] (MhP2 w c kvs cs ) r := by
  unfold CtT
  w_top off
  k_fill
  intro A base outer s Q E hh hd hu B XB TB D hP hret
  have X := XB.keeps B.stays
  have T := TB.keeps B.stays
  refine depth_le (d := 400) (u := 1000) ?_ hd hu
  obtain ⟨hA, dA, fA, gA, uA⟩ := A
  dsimp only at *
  subst hh
  have hfA : fA = some outer := B.stack
  subst hfA
  have B1 : Below { handled := none, depth := 400, frames := some outer, guards := gA, units := 1000 } base outer s.heap := ⟨rfl, B.stays, B.frames⟩
  clear B hd hu
  refine wpAny_call ?_
  k_dflt (refine' enter0 (binds := [(Str.ofString "cert", .ref c), (Str.ofString "host", .str host u), (Str.ofString "asks", .bool asks)]) B1 X T ?k6 ?k7 ?k8 ?k9 ?kB ?_ ?c2 ?c3 ?c4 ?c5; (case k6 => k_is); (case k7 => k_is); (case k8 => k_room); (case k9 => exact BindsTo.of_eq rfl); (case c5 => decide); (case kB => exact locs rfl); (case c2 => exact rfl); (case c3 => exact rfl); (case c4 => exact rfl); k_whole; intro L' h' F' N')
  k_steps
  all_goals (try dsimp only)
  all_goals (first
    | (obtain rfl := hr1 (by assumption)
       exact hret _ _ _ _ KtsTurn.refl (Fr.keep (by assumption)))
    | (obtain rfl := hr2 (by assumption)
       exact hret _ _ _ _ (by assumption) (Fr.keep (by assumption)))
    | skip)
  set_option pp.maxSteps 4000 in
  set_option pp.deepTerms.threshold 6 in
  all_goals trace_state
end
end

section
def ExV : Heap → List Env → Heap → Heap → Value → Prop := fun base outer h h' e => ∃ a, e = .ref a ∧ RaisedSN base h outer a (.type "ValueError") [] h' ∧ h.UpToSlots h'
section
local macro_rules | `(tactic| walk_at "no such step") => `(tactic| fail)
local macro_rules | `(tactic| walk_at "truthy ref") => `(tactic| (k_here; k_dflt (refine' Mine.truthy_D (by k_asm) (by assumption) (by assumption) (Nat.zero_le _) rfl (fun _ => ?_))))
local macro_rules | `(tactic| walk_at "leaving ref") => `(tactic| (k_here; k_dflt (refine' leave_newS (by assumption) (by assumption) (by assumption) News.nil (fun h' R' R2' U' => ?_)); (try dsimp only)))
set_option maxHeartbeats 8000000 in
theorem ct_mh3 (w : World) (mean : ExcName → Option Value) (mg mb : Str → Option Value) (c : Addr) (host : Str) (u : Tok) (asks : Bool) (lo : (c == sysModules) = false) :
    Ct w mean mg mb 500 2000 39 [.ref c, .str host u, .bool asks] (fun h => h.DictOf (strKind PySem.Challenge.rw_ew0040_01.row.prog w) c [])
      (fun _ _ v => False) (fun base outer h h' e => ExV base outer h h' e) := by
  unfold Ct
  w_top off
  k_fill
  intro A base outer s Q E hh hd hu B X T hP hret hex
  refine depth_le (d := 500) (u := 2000) ?_ hd hu
  obtain ⟨hA, dA, fA, gA, uA⟩ := A
  dsimp only at *
  subst hh
  have hfA : fA = some outer := B.stack
  subst hfA
  have B1 : Below { handled := none, depth := 500, frames := some outer, guards := gA, units := 2000 } base outer s.heap := ⟨rfl, B.stays, B.frames⟩
  clear B hd hu
  refine wpAny_call ?_
  k_dflt (refine' enter0 (binds := [(Str.ofString "cert", .ref c), (Str.ofString "hostname", .str host u), (Str.ofString "hostname_checks_common_name", .bool asks)]) B1 X T ?k6 ?k7 ?k8 ?k9 ?kB ?_ ?c2 ?c3 ?c4 ?c5; (case k6 => k_is); (case k7 => k_is); (case k8 => k_room); (case k9 => first | exact BindsTo.of_eq rfl | exact binds_K X rfl (by k_is) rfl rfl rfl); (case c5 => decide); (case kB => exact locs rfl); (case c2 => exact rfl); (case c3 => exact rfl); (case c4 => exact rfl); k_whole; intro L' h' F' N')
  k_steps
  all_goals (try dsimp only)
  all_goals exact hex _ _ _ ⟨_, rfl, by assumption, by assumption⟩
end
section
local macro_rules | `(tactic| walk_at "no such step") => `(tactic| fail)
local macro_rules | `(tactic| walk_at "no such step") => `(tactic| fail)
local macro_rules | `(tactic| walk_at "no such step") => `(tactic| fail)
local macro_rules | `(tactic| walk_at "no such step") => `(tactic| fail)
local macro_rules | `(tactic| walk_at "leaving ref") => `(tactic| (k_here; k_dflt (refine' leave_newS (by assumption) (by assumption) (by assumption) News.nil (fun h' R' R2' U' => ?_)); (try dsimp only)))
set_option maxHeartbeats 8000000 in
theorem ct_mh4 (w : World) (mean : ExcName → Option Value) (mg mb : Str → Option Value) (host : Str) (u : Tok) (asks : Bool) :
    Ct w mean mg mb 500 2000 39 [.none, .str host u, .bool asks] (fun h => True)
      (fun _ _ v => False) (fun base outer h h' e => ExV base outer h h' e) := by
  unfold Ct
  w_top off
  k_fill
  intro A base outer s Q E hh hd hu B X T hP hret hex
  refine depth_le (d := 500) (u := 2000) ?_ hd hu
  obtain ⟨hA, dA, fA, gA, uA⟩ := A
  dsimp only at *
  subst hh
  have hfA : fA = some outer := B.stack
  subst hfA
  have B1 : Below { handled := none, depth := 500, frames := some outer, guards := gA, units := 2000 } base outer s.heap := ⟨rfl, B.stays, B.frames⟩
  clear B hd hu
  refine wpAny_call ?_
  k_dflt (refine' enter0 (binds := [(Str.ofString "cert", .none), (Str.ofString "hostname", .str host u), (Str.ofString "hostname_checks_common_name", .bool asks)]) B1 X T ?k6 ?k7 ?k8 ?k9 ?kB ?_ ?c2 ?c3 ?c4 ?c5; (case k6 => k_is); (case k7 => k_is); (case k8 => k_room); (case k9 => first | exact BindsTo.of_eq rfl | exact binds_K X rfl (by k_is) rfl rfl rfl); (case c5 => decide); (case kB => exact locs rfl); (case c2 => exact rfl); (case c3 => exact rfl); (case c4 => exact rfl); k_whole; intro L' h' F' N')
  k_steps
  all_goals (try dsimp only)
  all_goals exact hex _ _ _ ⟨_, rfl, by assumption, by assumption⟩
end

theorem use_mh3 {w : World} {mean : ExcName → Option Value} {mg mb : Str → Option Value} {c : Addr} {host : Str} {u : Tok} {asks : Bool} (lo : (c == sysModules) = false)
    {A A₀ : Around} {base h₀ : Heap} {outer : List Env} {env : Env} {s : Shared} {L : Addr} {m : Str → Option Value} {news : List (Addr × Obj)} {Q E : Value → Shared → Prop}
    (B : Below A₀ base outer h₀) (F : Fr h₀ L s.heap m) (X : (Mine.hd.heap_39 w.params).In h₀) (N : News h₀ L s.heap news) (T : Top Mine.hd.view_39 (looseW Mine.hd.view_39 [Str.ofString "_dnsname_match", Str.ofString "match_hostname"]) mean mg mb h₀) (hP : h₀.DictOf (strKind PySem.Challenge.rw_ew0040_01.row.prog w) c [])
    (hA : A.frames = some (env :: outer)) (hf : env.frame = some L) (hke : env.scope.kind = .function) (hh : A.handled = none) (hd : A.depth ≤ 500) (hu : A.units ≤ 2000)
    (ke : ∀ a h' tk', RaisedSN base s.heap (env :: outer) a (.type "ValueError") [] h' → s.heap.UpToSlots h' → E (.ref a) { s with heap := h', toks := tk' }) :
    wpAny (model PySem.Challenge.rw_ew0040_01.row.prog w) A (call (.ref 39) [.ref c, .str host u, .bool asks]) Q E s := by
  refine Ct.useE (ct_mh3 w mean mg mb c host u asks lo) B F X N T hA hf hke hh hd hu (dict_up F hP) ?_ ?_
  · rintro v h' tk' F' N' st hb
    exact hb.elim
  · rintro e h' tk' ⟨a, rfl, R, U⟩
    exact ke a h' tk' R U

theorem use_mh4 {w : World} {mean : ExcName → Option Value} {mg mb : Str → Option Value} {host : Str} {u : Tok} {asks : Bool} 
    {A A₀ : Around} {base h₀ : Heap} {outer : List Env} {env : Env} {s : Shared} {L : Addr} {m : Str → Option Value} {news : List (Addr × Obj)} {Q E : Value → Shared → Prop}
    (B : Below A₀ base outer h₀) (F : Fr h₀ L s.heap m) (X : (Mine.hd.heap_39 w.params).In h₀) (N : News h₀ L s.heap news) (T : Top Mine.hd.view_39 (looseW Mine.hd.view_39 [Str.ofString "_dnsname_match", Str.ofString "match_hostname"]) mean mg mb h₀) 
    (hA : A.frames = some (env :: outer)) (hf : env.frame = some L) (hke : env.scope.kind = .function) (hh : A.handled = none) (hd : A.depth ≤ 500) (hu : A.units ≤ 2000)
    (ke : ∀ a h' tk', RaisedSN base s.heap (env :: outer) a (.type "ValueError") [] h' → s.heap.UpToSlots h' → E (.ref a) { s with heap := h', toks := tk' }) :
    wpAny (model PySem.Challenge.rw_ew0040_01.row.prog w) A (call (.ref 39) [.none, .str host u, .bool asks]) Q E s := by
  refine Ct.useE (ct_mh4 w mean mg mb host u asks) B F X N T hA hf hke hh hd hu trivial ?_ ?_
  · rintro v h' tk' F' N' st hb
    exact hb.elim
  · rintro e h' tk' ⟨a, rfl, R, U⟩
    exact ke a h' tk' R U
section

local macro_rules | `(tactic| walk_at "no such step") => `(tactic| fail)
local macro_rules | `(tactic| walk_at "no such step") => `(tactic| fail)
local macro_rules | `(tactic| walk_at "no such step") => `(tactic| fail)
local macro_rules | `(tactic| walk_at "no such step") => `(tactic| fail)
local macro_rules | `(tactic| walk_at "call ref") => `(tactic| (k_here; (with_reducible show wpAny _ _ (call (Value.ref 39) _) _ _ _); k_dflt ((refine' Mine.use_mh3 (by assumption) (by k_asm) (by k_asm) (by k_asm) (by k_asm) (by k_asm) (by assumption) rfl rfl rfl rfl (Nat.le_of_ble_eq_true rfl) (Nat.le_of_ble_eq_true rfl) (fun a' h' tk' R' U' => ?_)) <;> (try dsimp only))))
local macro_rules | `(tactic| walk_at "no such step") => `(tactic| skip)

set_option maxHeartbeats 8000000 in
theorem ct_told3 (w : World) (mean : ExcName → Option Value) (mg mb : Str → Option Value) (c : Addr) (host : Str) (u : Tok) (asks : Bool) (lo : (c == sysModules) = false) :
    CtT w mean mg mb 400 1000 [.ref c, .str host u, .bool asks] (fun h => h.DictOf (strKind PySem.Challenge.rw_ew0040_01.row.prog w) c []) (Str.ofString "none") := by
  unfold CtT
  w_top off
  k_fill
  intro A base outer s Q E hh hd hu B XB TB D hP hret
  have X := XB.keeps B.stays
  have T := TB.keeps B.stays
  refine depth_le (d := 400) (u := 1000) ?_ hd hu
  obtain ⟨hA, dA, fA, gA, uA⟩ := A
  dsimp only at *
  subst hh
  have hfA : fA = some outer := B.stack
  subst hfA
  have B1 : Below { handled := none, depth := 400, frames := some outer, guards := gA, units := 1000 } base outer s.heap := ⟨rfl, B.stays, B.frames⟩
  clear B hd hu
  refine wpAny_call ?_
  k_dflt (refine' enter0 (binds := [(Str.ofString "cert", .ref c), (Str.ofString "host", .str host u), (Str.ofString "asks", .bool asks)]) B1 X T ?k6 ?k7 ?k8 ?k9 ?kB ?_ ?c2 ?c3 ?c4 ?c5; (case k6 => k_is); (case k7 => k_is); (case k8 => k_room); (case k9 => exact BindsTo.of_eq rfl); (case c5 => decide); (case kB => exact locs rfl); (case c2 => exact rfl); (case c3 => exact rfl); (case c4 => exact rfl); k_whole; intro L' h' F' N')
  k_steps
  all_goals (try dsimp only)
  all_goals exact hret _ _ _ _ (by assumption) (Fr.keep (by assumption))
end
section

local macro_rules | `(tactic| walk_at "no such step") => `(tactic| fail)
local macro_rules | `(tactic| walk_at "no such step") => `(tactic| fail)
local macro_rules | `(tactic| walk_at "no such step") => `(tactic| fail)
local macro_rules | `(tactic| walk_at "no such step") => `(tactic| fail)
local macro_rules | `(tactic| walk_at "no such step") => `(tactic| fail)
local macro_rules | `(tactic| walk_at "no such step") => `(tactic| fail)
local macro_rules | `(tactic| walk_at "call ref") => `(tactic| (k_here; (with_reducible show wpAny _ _ (call (Value.ref 39) _) _ _ _); k_dflt ((refine' Mine.use_mh4 (by k_asm) (by k_asm) (by k_asm) (by k_asm) (by k_asm) rfl rfl rfl rfl (Nat.le_of_ble_eq_true rfl) (Nat.le_of_ble_eq_true rfl) (fun a' h' tk' R' U' => ?_)) <;> (try dsimp only))))

set_option maxHeartbeats 8000000 in
theorem ct_told4 (w : World) (mean : ExcName → Option Value) (mg mb : Str → Option Value) (host : Str) (u : Tok) (asks : Bool)  :
    CtT w mean mg mb 400 1000 [.none, .str host u, .bool asks] (fun _ => True) (Str.ofString "none") := by
  unfold CtT
  w_top off
  k_fill
  intro A base outer s Q E hh hd hu B XB TB D hP hret
  have X := XB.keeps B.stays
  have T := TB.keeps B.stays
  refine depth_le (d := 400) (u := 1000) ?_ hd hu
  obtain ⟨hA, dA, fA, gA, uA⟩ := A
  dsimp only at *
  subst hh
  have hfA : fA = some outer := B.stack
  subst hfA
  have B1 : Below { handled := none, depth := 400, frames := some outer, guards := gA, units := 1000 } base outer s.heap := ⟨rfl, B.stays, B.frames⟩
  clear B hd hu
  refine wpAny_call ?_
  k_dflt (refine' enter0 (binds := [(Str.ofString "cert", .none), (Str.ofString "host", .str host u), (Str.ofString "asks", .bool asks)]) B1 X T ?k6 ?k7 ?k8 ?k9 ?kB ?_ ?c2 ?c3 ?c4 ?c5; (case k6 => k_is); (case k7 => k_is); (case k8 => k_room); (case k9 => exact BindsTo.of_eq rfl); (case c5 => decide); (case kB => exact locs rfl); (case c2 => exact rfl); (case c3 => exact rfl); (case c4 => exact rfl); k_whole; intro L' h' F' N')
  k_steps
  all_goals (try dsimp only)
  all_goals exact hret _ _ _ _ (by assumption) (Fr.keep (by assumption))
end
end

section
noncomputable section
def okp (n h : Str) : Bool := match dnm n h with | none => fitv n h == Str.ofString "many" | some true => fitv n h == Str.ofString "yes" | some false => fitv n h == Str.ofString "no"
def firsts : List Str := [Str.ofString "*", Str.ofString "w*", Str.ofString "*w", Str.ofString "w*w", Str.ofString "ww", Str.ofString "W*", Str.ofString "xn--a*", Str.ofString "xn--ab", Str.ofString "**", Str.ofString "w*x*", Str.ofString "", Str.ofString "abw"]
def rests : List Str := [Str.ofString ".a.org", Str.ofString ".A.Org", Str.ofString ".b.org", Str.ofString "", Str.ofString ".*.org", Str.ofString ".a.org.", Str.ofString ".org"]
def hosts1 : List Str := [Str.ofString "w", Str.ofString "ww", Str.ofString "www", Str.ofString "xn--ab", Str.ofString "abw", Str.ofString "x", Str.ofString "wAw", Str.ofString ""]
def hosts2 : List Str := [Str.ofString ".a.org", Str.ofString ".b.org", Str.ofString ".a.ORG", Str.ofString "", Str.ofString ".org", Str.ofString ".c.a.org"]
def namesL : List Str := firsts.flatMap fun a => rests.map fun b => a ++ b
def hostsL : List Str := hosts1.flatMap fun a => hosts2.map fun b => a ++ b
structure NF where
  (e : Bool) (c : Int) (l : Str) (ar : List Str) (s : Bool) (sx : Bool) (la : Str) (p1 : Str) (p3 : Str) (e2 : Bool) (sc : Nat) (nx : Bool) (q : List Str)
structure HF where
  (l : Str) (sx : Bool) (nx : Bool) (q : List Str) (ways : List Str)
def nf (n : Str) : NF where
  e := decide (n.length = 0)
  c := Txt.count ((Txt.split n (Str.ofString ".")).headD Str.empty) (Str.ofString "*")
  l := Txt.lower n
  ar := List.map Txt.lower (List.drop 1 (Txt.split n (Str.ofString ".")))
  s := (Txt.split n (Str.ofString ".")).headD Str.empty == Str.ofString "*"
  sx := Txt.startswith ((Txt.split n (Str.ofString ".")).headD Str.empty) (Str.ofString "xn--")
  la := Txt.lower ((Txt.split n (Str.ofString ".")).headD Str.empty)
  p1 := (Txt.partition (Txt.lower ((Txt.split n (Str.ofString ".")).headD Str.empty)) (Str.ofString "*")).1
  p3 := (Txt.partition (Txt.lower ((Txt.split n (Str.ofString ".")).headD Str.empty)) (Str.ofString "*")).2.2
  e2 := n == Str.ofString ""
  sc := (List.filter (fun a => a == Str.ofString "*") (signs ((Txt.split (Txt.lower n) (Str.ofString ".")).headD Str.empty))).length
  nx := Txt.slice n none (some 4) == Str.ofString "xn--"
  q := Txt.split (Txt.lower n) (Str.ofString ".")
def hf (h : Str) : HF where
  l := Txt.lower h
  sx := Txt.startswith h (Str.ofString "xn--")
  nx := Txt.slice h none (some 4) == Str.ofString "xn--"
  q := Txt.split (Txt.lower h) (Str.ofString ".")
  ways := waysOf ((Txt.split (Txt.lower h) (Str.ofString ".")).headD Str.empty) (((Txt.split (Txt.lower h) (Str.ofString ".")).headD Str.empty).length + 1)
def dnF (a : NF) (h : HF) : Option Bool :=
  if a.e = true then some false
  else if 1 < a.c then none
  else if a.c = 0 then some (a.l == h.l)
  else if a.ar = List.drop 1 h.q then
    if a.s = true then some (decide (0 < ((h.q.headD Str.empty).length : Int)))
    else if (a.sx || h.sx) = true then some (a.la == h.q.headD Str.empty)
    else if ((h.q.headD Str.empty).length : Int) < (a.p1.length : Int) + (a.p3.length : Int) then some false
    else if Txt.startswith (h.q.headD Str.empty) a.p1 = true then some (Txt.endswith (h.q.headD Str.empty) a.p3) else some false
  else some false
def ftF (a : NF) (h : HF) : Nat :=
  if a.e2 = true then 0
  else if 1 < (a.sc : Int) then 2
  else if ((a.sc : Int) = 0 ∨ a.nx = true ∨ h.nx = true) ∧ (a.q.headD Str.empty != Str.ofString "*") = true then (if a.q = h.q then 1 else 0)
  else if List.drop 1 a.q = List.drop 1 h.q then
    if (a.q.headD Str.empty == Str.ofString "*") = true then (if (h.q.headD Str.empty != Str.ofString "") = true then 1 else 0)
    else if (h.ways.any fun x => x == a.q.headD Str.empty) = true then 1 else 0
  else 0
def okF (a : NF) (h : HF) : Bool := match dnF a h with | none => ftF a h == 2 | some true => ftF a h == 1 | some false => ftF a h == 0
def word : Nat → Str
  | 0 => Str.ofString "no"
  | 1 => Str.ofString "yes"
  | _ => Str.ofString "many"
end
theorem dnm_F (n h : Str) : dnm n h = dnF (nf n) (hf h) := by
  unfold dnm dnF nf hf
  simp only [decide_eq_true_eq]
theorem fitv_F (n h : Str) : fitv n h = word (ftF (nf n) (hf h)) := by
  unfold fitv ftF nf hf
  dsimp only
  repeat' split
  all_goals rfl
theorem okp_F (n h : Str) (e : okF (nf n) (hf h) = true) : okp n h = true := by
  unfold okp; rw [dnm_F, fitv_F]
  unfold okF at e
  revert e
  cases dnF (nf n) (hf h) with
  | none => intro e; have e' : (ftF (nf n) (hf h) == 2) = true := e; rw [eq_of_beq e']; decide +kernel
  | some b =>
    cases b with
    | false => intro e; have e' : (ftF (nf n) (hf h) == 0) = true := e; rw [eq_of_beq e']; decide +kernel
    | true => intro e; have e' : (ftF (nf n) (hf h) == 1) = true := e; rw [eq_of_beq e']; decide +kernel
def litN0 : List NF := [⟨false, 1, ⟨#[42, 46, 97, 46, 111, 114, 103]⟩, [⟨#[97]⟩, ⟨#[111, 114, 103]⟩], true, false, ⟨#[42]⟩, ⟨#[]⟩, ⟨#[]⟩, false, 1, false, [⟨#[42]⟩, ⟨#[97]⟩, ⟨#[111, 114, 103]⟩]⟩,
 ⟨false, 1, ⟨#[42, 46, 97, 46, 111, 114, 103]⟩, [⟨#[97]⟩, ⟨#[111, 114, 103]⟩], true, false, ⟨#[42]⟩, ⟨#[]⟩, ⟨#[]⟩, false, 1, false, [⟨#[42]⟩, ⟨#[97]⟩, ⟨#[111, 114, 103]⟩]⟩,
 ⟨false, 1, ⟨#[42, 46, 98, 46, 111, 114, 103]⟩, [⟨#[98]⟩, ⟨#[111, 114, 103]⟩], true, false, ⟨#[42]⟩, ⟨#[]⟩, ⟨#[]⟩, false, 1, false, [⟨#[42]⟩, ⟨#[98]⟩, ⟨#[111, 114, 103]⟩]⟩,
 ⟨false, 1, ⟨#[42]⟩, [], true, false, ⟨#[42]⟩, ⟨#[]⟩, ⟨#[]⟩, false, 1, false, [⟨#[42]⟩]⟩,
 ⟨false, 1, ⟨#[42, 46, 42, 46, 111, 114, 103]⟩, [⟨#[42]⟩, ⟨#[111, 114, 103]⟩], true, false, ⟨#[42]⟩, ⟨#[]⟩, ⟨#[]⟩, false, 1, false, [⟨#[42]⟩, ⟨#[42]⟩, ⟨#[111, 114, 103]⟩]⟩,
 ⟨false, 1, ⟨#[42, 46, 97, 46, 111, 114, 103, 46]⟩, [⟨#[97]⟩, ⟨#[111, 114, 103]⟩, ⟨#[]⟩], true, false, ⟨#[42]⟩, ⟨#[]⟩, ⟨#[]⟩, false, 1, false, [⟨#[42]⟩, ⟨#[97]⟩, ⟨#[111, 114, 103]⟩, ⟨#[]⟩]⟩,
 ⟨false, 1, ⟨#[42, 46, 111, 114, 103]⟩, [⟨#[111, 114, 103]⟩], true, false, ⟨#[42]⟩, ⟨#[]⟩, ⟨#[]⟩, false, 1, false, [⟨#[42]⟩, ⟨#[111, 114, 103]⟩]⟩]
def litN1 : List NF := [⟨false, 1, ⟨#[119, 42, 46, 97, 46, 111, 114, 103]⟩, [⟨#[97]⟩, ⟨#[111, 114, 103]⟩], false, false, ⟨#[119, 42]⟩, ⟨#[119]⟩, ⟨#[]⟩, false, 1, false, [⟨#[119, 42]⟩, ⟨#[97]⟩, ⟨#[111, 114, 103]⟩]⟩,
 ⟨false, 1, ⟨#[119, 42, 46, 97, 46, 111, 114, 103]⟩, [⟨#[97]⟩, ⟨#[111, 114, 103]⟩], false, false, ⟨#[119, 42]⟩, ⟨#[119]⟩, ⟨#[]⟩, false, 1, false, [⟨#[119, 42]⟩, ⟨#[97]⟩, ⟨#[111, 114, 103]⟩]⟩,
 ⟨false, 1, ⟨#[119, 42, 46, 98, 46, 111, 114, 103]⟩, [⟨#[98]⟩, ⟨#[111, 114, 103]⟩], false, false, ⟨#[119, 42]⟩, ⟨#[119]⟩, ⟨#[]⟩, false, 1, false, [⟨#[119, 42]⟩, ⟨#[98]⟩, ⟨#[111, 114, 103]⟩]⟩,
 ⟨false, 1, ⟨#[119, 42]⟩, [], false, false, ⟨#[119, 42]⟩, ⟨#[119]⟩, ⟨#[]⟩, false, 1, false, [⟨#[119, 42]⟩]⟩,
 ⟨false, 1, ⟨#[119, 42, 46, 42, 46, 111, 114, 103]⟩, [⟨#[42]⟩, ⟨#[111, 114, 103]⟩], false, false, ⟨#[119, 42]⟩, ⟨#[119]⟩, ⟨#[]⟩, false, 1, false, [⟨#[119, 42]⟩, ⟨#[42]⟩, ⟨#[111, 114, 103]⟩]⟩,
 ⟨false, 1, ⟨#[119, 42, 46, 97, 46, 111, 114, 103, 46]⟩, [⟨#[97]⟩, ⟨#[111, 114, 103]⟩, ⟨#[]⟩], false, false, ⟨#[119, 42]⟩, ⟨#[119]⟩, ⟨#[]⟩, false, 1, false, [⟨#[119, 42]⟩, ⟨#[97]⟩, ⟨#[111, 114, 103]⟩, ⟨#[]⟩]⟩,
 ⟨false, 1, ⟨#[119, 42, 46, 111, 114, 103]⟩, [⟨#[111, 114, 103]⟩], false, false, ⟨#[119, 42]⟩, ⟨#[119]⟩, ⟨#[]⟩, false, 1, false, [⟨#[119, 42]⟩, ⟨#[111, 114, 103]⟩]⟩]
def litN2 : List NF := [⟨false, 1, ⟨#[42, 119, 46, 97, 46, 111, 114, 103]⟩, [⟨#[97]⟩, ⟨#[111, 114, 103]⟩], false, false, ⟨#[42, 119]⟩, ⟨#[]⟩, ⟨#[119]⟩, false, 1, false, [⟨#[42, 119]⟩, ⟨#[97]⟩, ⟨#[111, 114, 103]⟩]⟩,
 ⟨false, 1, ⟨#[42, 119, 46, 97, 46, 111, 114, 103]⟩, [⟨#[97]⟩, ⟨#[111, 114, 103]⟩], false, false, ⟨#[42, 119]⟩, ⟨#[]⟩, ⟨#[119]⟩, false, 1, false, [⟨#[42, 119]⟩, ⟨#[97]⟩, ⟨#[111, 114, 103]⟩]⟩,
 ⟨false, 1, ⟨#[42, 119, 46, 98, 46, 111, 114, 103]⟩, [⟨#[98]⟩, ⟨#[111, 114, 103]⟩], false, false, ⟨#[42, 119]⟩, ⟨#[]⟩, ⟨#[119]⟩, false, 1, false, [⟨#[42, 119]⟩, ⟨#[98]⟩, ⟨#[111, 114, 103]⟩]⟩,
 ⟨false, 1, ⟨#[42, 119]⟩, [], false, false, ⟨#[42, 119]⟩, ⟨#[]⟩, ⟨#[119]⟩, false, 1, false, [⟨#[42, 119]⟩]⟩,
 ⟨false, 1, ⟨#[42, 119, 46, 42, 46, 111, 114, 103]⟩, [⟨#[42]⟩, ⟨#[111, 114, 103]⟩], false, false, ⟨#[42, 119]⟩, ⟨#[]⟩, ⟨#[119]⟩, false, 1, false, [⟨#[42, 119]⟩, ⟨#[42]⟩, ⟨#[111, 114, 103]⟩]⟩,
 ⟨false, 1, ⟨#[42, 119, 46, 97, 46, 111, 114, 103, 46]⟩, [⟨#[97]⟩, ⟨#[111, 114, 103]⟩, ⟨#[]⟩], false, false, ⟨#[42, 119]⟩, ⟨#[]⟩, ⟨#[119]⟩, false, 1, false, [⟨#[42, 119]⟩, ⟨#[97]⟩, ⟨#[111, 114, 103]⟩, ⟨#[]⟩]⟩,
 ⟨false, 1, ⟨#[42, 119, 46, 111, 114, 103]⟩, [⟨#[111, 114, 103]⟩], false, false, ⟨#[42, 119]⟩, ⟨#[]⟩, ⟨#[119]⟩, false, 1, false, [⟨#[42, 119]⟩, ⟨#[111, 114, 103]⟩]⟩]
def litN3 : List NF := [⟨false, 1, ⟨#[119, 42, 119, 46, 97, 46, 111, 114, 103]⟩, [⟨#[97]⟩, ⟨#[111, 114, 103]⟩], false, false, ⟨#[119, 42, 119]⟩, ⟨#[119]⟩, ⟨#[119]⟩, false, 1, false, [⟨#[119, 42, 119]⟩, ⟨#[97]⟩, ⟨#[111, 114, 103]⟩]⟩,
 ⟨false, 1, ⟨#[119, 42, 119, 46, 97, 46, 111, 114, 103]⟩, [⟨#[97]⟩, ⟨#[111, 114, 103]⟩], false, false, ⟨#[119, 42, 119]⟩, ⟨#[119]⟩, ⟨#[119]⟩, false, 1, false, [⟨#[119, 42, 119]⟩, ⟨#[97]⟩, ⟨#[111, 114, 103]⟩]⟩,
 ⟨false, 1, ⟨#[119, 42, 119, 46, 98, 46, 111, 114, 103]⟩, [⟨#[98]⟩, ⟨#[111, 114, 103]⟩], false, false, ⟨#[119, 42, 119]⟩, ⟨#[119]⟩, ⟨#[119]⟩, false, 1, false, [⟨#[119, 42, 119]⟩, ⟨#[98]⟩, ⟨#[111, 114, 103]⟩]⟩,
 ⟨false, 1, ⟨#[119, 42, 119]⟩, [], false, false, ⟨#[119, 42, 119]⟩, ⟨#[119]⟩, ⟨#[119]⟩, false, 1, false, [⟨#[119, 42, 119]⟩]⟩,
 ⟨false, 1, ⟨#[119, 42, 119, 46, 42, 46, 111, 114, 103]⟩, [⟨#[42]⟩, ⟨#[111, 114, 103]⟩], false, false, ⟨#[119, 42, 119]⟩, ⟨#[119]⟩, ⟨#[119]⟩, false, 1, false, [⟨#[119, 42, 119]⟩, ⟨#[42]⟩, ⟨#[111, 114, 103]⟩]⟩,
 ⟨false, 1, ⟨#[119, 42, 119, 46, 97, 46, 111, 114, 103, 46]⟩, [⟨#[97]⟩, ⟨#[111, 114, 103]⟩, ⟨#[]⟩], false, false, ⟨#[119, 42, 119]⟩, ⟨#[119]⟩, ⟨#[119]⟩, false, 1, false, [⟨#[119, 42, 119]⟩, ⟨#[97]⟩, ⟨#[111, 114, 103]⟩, ⟨#[]⟩]⟩,
 ⟨false, 1, ⟨#[119, 42, 119, 46, 111, 114, 103]⟩, [⟨#[111, 114, 103]⟩], false, false, ⟨#[119, 42, 119]⟩, ⟨#[119]⟩, ⟨#[119]⟩, false, 1, false, [⟨#[119, 42, 119]⟩, ⟨#[111, 114, 103]⟩]⟩]
def litN4 : List NF := [⟨false, 0, ⟨#[119, 119, 46, 97, 46, 111, 114, 103]⟩, [⟨#[97]⟩, ⟨#[111, 114, 103]⟩], false, false, ⟨#[119, 119]⟩, ⟨#[119, 119]⟩, ⟨#[]⟩, false, 0, false, [⟨#[119, 119]⟩, ⟨#[97]⟩, ⟨#[111, 114, 103]⟩]⟩,
 ⟨false, 0, ⟨#[119, 119, 46, 97, 46, 111, 114, 103]⟩, [⟨#[97]⟩, ⟨#[111, 114, 103]⟩], false, false, ⟨#[119, 119]⟩, ⟨#[119, 119]⟩, ⟨#[]⟩, false, 0, false, [⟨#[119, 119]⟩, ⟨#[97]⟩, ⟨#[111, 114, 103]⟩]⟩,
 ⟨false, 0, ⟨#[119, 119, 46, 98, 46, 111, 114, 103]⟩, [⟨#[98]⟩, ⟨#[111, 114, 103]⟩], false, false, ⟨#[119, 119]⟩, ⟨#[119, 119]⟩, ⟨#[]⟩, false, 0, false, [⟨#[119, 119]⟩, ⟨#[98]⟩, ⟨#[111, 114, 103]⟩]⟩,
 ⟨false, 0, ⟨#[119, 119]⟩, [], false, false, ⟨#[119, 119]⟩, ⟨#[119, 119]⟩, ⟨#[]⟩, false, 0, false, [⟨#[119, 119]⟩]⟩,
 ⟨false, 0, ⟨#[119, 119, 46, 42, 46, 111, 114, 103]⟩, [⟨#[42]⟩, ⟨#[111, 114, 103]⟩], false, false, ⟨#[119, 119]⟩, ⟨#[119, 119]⟩, ⟨#[]⟩, false, 0, false, [⟨#[119, 119]⟩, ⟨#[42]⟩, ⟨#[111, 114, 103]⟩]⟩,
 ⟨false, 0, ⟨#[119, 119, 46, 97, 46, 111, 114, 103, 46]⟩, [⟨#[97]⟩, ⟨#[111, 114, 103]⟩, ⟨#[]⟩], false, false, ⟨#[119, 119]⟩, ⟨#[119, 119]⟩, ⟨#[]⟩, false, 0, false, [⟨#[119, 119]⟩, ⟨#[97]⟩, ⟨#[111, 114, 103]⟩, ⟨#[]⟩]⟩,
 ⟨false, 0, ⟨#[119, 119, 46, 111, 114, 103]⟩, [⟨#[111, 114, 103]⟩], false, false, ⟨#[119, 119]⟩, ⟨#[119, 119]⟩, ⟨#[]⟩, false, 0, false, [⟨#[119, 119]⟩, ⟨#[111, 114, 103]⟩]⟩]
def litN5 : List NF := [⟨false, 1, ⟨#[119, 42, 46, 97, 46, 111, 114, 103]⟩, [⟨#[97]⟩, ⟨#[111, 114, 103]⟩], false, false, ⟨#[119, 42]⟩, ⟨#[119]⟩, ⟨#[]⟩, false, 1, false, [⟨#[119, 42]⟩, ⟨#[97]⟩, ⟨#[111, 114, 103]⟩]⟩,
 ⟨false, 1, ⟨#[119, 42, 46, 97, 46, 111, 114, 103]⟩, [⟨#[97]⟩, ⟨#[111, 114, 103]⟩], false, false, ⟨#[119, 42]⟩, ⟨#[119]⟩, ⟨#[]⟩, false, 1, false, [⟨#[119, 42]⟩, ⟨#[97]⟩, ⟨#[111, 114, 103]⟩]⟩,
 ⟨false, 1, ⟨#[119, 42, 46, 98, 46, 111, 114, 103]⟩, [⟨#[98]⟩, ⟨#[111, 114, 103]⟩], false, false, ⟨#[119, 42]⟩, ⟨#[119]⟩, ⟨#[]⟩, false, 1, false, [⟨#[119, 42]⟩, ⟨#[98]⟩, ⟨#[111, 114, 103]⟩]⟩,
 ⟨false, 1, ⟨#[119, 42]⟩, [], false, false, ⟨#[119, 42]⟩, ⟨#[119]⟩, ⟨#[]⟩, false, 1, false, [⟨#[119, 42]⟩]⟩,
 ⟨false, 1, ⟨#[119, 42, 46, 42, 46, 111, 114, 103]⟩, [⟨#[42]⟩, ⟨#[111, 114, 103]⟩], false, false, ⟨#[119, 42]⟩, ⟨#[119]⟩, ⟨#[]⟩, false, 1, false, [⟨#[119, 42]⟩, ⟨#[42]⟩, ⟨#[111, 114, 103]⟩]⟩,
 ⟨false, 1, ⟨#[119, 42, 46, 97, 46, 111, 114, 103, 46]⟩, [⟨#[97]⟩, ⟨#[111, 114, 103]⟩, ⟨#[]⟩], false, false, ⟨#[119, 42]⟩, ⟨#[119]⟩, ⟨#[]⟩, false, 1, false, [⟨#[119, 42]⟩, ⟨#[97]⟩, ⟨#[111, 114, 103]⟩, ⟨#[]⟩]⟩,
 ⟨false, 1, ⟨#[119, 42, 46, 111, 114, 103]⟩, [⟨#[111, 114, 103]⟩], false, false, ⟨#[119, 42]⟩, ⟨#[119]⟩, ⟨#[]⟩, false, 1, false, [⟨#[119, 42]⟩, ⟨#[111, 114, 103]⟩]⟩]
def litN6 : List NF := [⟨false, 1, ⟨#[120, 110, 45, 45, 97, 42, 46, 97, 46, 111, 114, 103]⟩, [⟨#[97]⟩, ⟨#[111, 114, 103]⟩], false, true, ⟨#[120, 110, 45, 45, 97, 42]⟩, ⟨#[120, 110, 45, 45, 97]⟩, ⟨#[]⟩, false, 1, true, [⟨#[120, 110, 45, 45, 97, 42]⟩, ⟨#[97]⟩, ⟨#[111, 114, 103]⟩]⟩,
 ⟨false, 1, ⟨#[120, 110, 45, 45, 97, 42, 46, 97, 46, 111, 114, 103]⟩, [⟨#[97]⟩, ⟨#[111, 114, 103]⟩], false, true, ⟨#[120, 110, 45, 45, 97, 42]⟩, ⟨#[120, 110, 45, 45, 97]⟩, ⟨#[]⟩, false, 1, true, [⟨#[120, 110, 45, 45, 97, 42]⟩, ⟨#[97]⟩, ⟨#[111, 114, 103]⟩]⟩,
 ⟨false, 1, ⟨#[120, 110, 45, 45, 97, 42, 46, 98, 46, 111, 114, 103]⟩, [⟨#[98]⟩, ⟨#[111, 114, 103]⟩], false, true, ⟨#[120, 110, 45, 45, 97, 42]⟩, ⟨#[120, 110, 45, 45, 97]⟩, ⟨#[]⟩, false, 1, true, [⟨#[120, 110, 45, 45, 97, 42]⟩, ⟨#[98]⟩, ⟨#[111, 114, 103]⟩]⟩,
 ⟨false, 1, ⟨#[120, 110, 45, 45, 97, 42]⟩, [], false, true, ⟨#[120, 110, 45, 45, 97, 42]⟩, ⟨#[120, 110, 45, 45, 97]⟩, ⟨#[]⟩, false, 1, true, [⟨#[120, 110, 45, 45, 97, 42]⟩]⟩,
 ⟨false, 1, ⟨#[120, 110, 45, 45, 97, 42, 46, 42, 46, 111, 114, 103]⟩, [⟨#[42]⟩, ⟨#[111, 114, 103]⟩], false, true, ⟨#[120, 110, 45, 45, 97, 42]⟩, ⟨#[120, 110, 45, 45, 97]⟩, ⟨#[]⟩, false, 1, true, [⟨#[120, 110, 45, 45, 97, 42]⟩, ⟨#[42]⟩, ⟨#[111, 114, 103]⟩]⟩,
 ⟨false, 1, ⟨#[120, 110, 45, 45, 97, 42, 46, 97, 46, 111, 114, 103, 46]⟩, [⟨#[97]⟩, ⟨#[111, 114, 103]⟩, ⟨#[]⟩], false, true, ⟨#[120, 110, 45, 45, 97, 42]⟩, ⟨#[120, 110, 45, 45, 97]⟩, ⟨#[]⟩, false, 1, true, [⟨#[120, 110, 45, 45, 97, 42]⟩, ⟨#[97]⟩, ⟨#[111, 114, 103]⟩, ⟨#[]⟩]⟩,
 ⟨false, 1, ⟨#[120, 110, 45, 45, 97, 42, 46, 111, 114, 103]⟩, [⟨#[111, 114, 103]⟩], false, true, ⟨#[120, 110, 45, 45, 97, 42]⟩, ⟨#[120, 110, 45, 45, 97]⟩, ⟨#[]⟩, false, 1, true, [⟨#[120, 110, 45, 45, 97, 42]⟩, ⟨#[111, 114, 103]⟩]⟩]
def litN7 : List NF := [⟨false, 0, ⟨#[120, 110, 45, 45, 97, 98, 46, 97, 46, 111, 114, 103]⟩, [⟨#[97]⟩, ⟨#[111, 114, 103]⟩], false, true, ⟨#[120, 110, 45, 45, 97, 98]⟩, ⟨#[120, 110, 45, 45, 97, 98]⟩, ⟨#[]⟩, false, 0, true, [⟨#[120, 110, 45, 45, 97, 98]⟩, ⟨#[97]⟩, ⟨#[111, 114, 103]⟩]⟩,
 ⟨false, 0, ⟨#[120, 110, 45, 45, 97, 98, 46, 97, 46, 111, 114, 103]⟩, [⟨#[97]⟩, ⟨#[111, 114, 103]⟩], false, true, ⟨#[120, 110, 45, 45, 97, 98]⟩, ⟨#[120, 110, 45, 45, 97, 98]⟩, ⟨#[]⟩, false, 0, true, [⟨#[120, 110, 45, 45, 97, 98]⟩, ⟨#[97]⟩, ⟨#[111, 114, 103]⟩]⟩,
 ⟨false, 0, ⟨#[120, 110, 45, 45, 97, 98, 46, 98, 46, 111, 114, 103]⟩, [⟨#[98]⟩, ⟨#[111, 114, 103]⟩], false, true, ⟨#[120, 110, 45, 45, 97, 98]⟩, ⟨#[120, 110, 45, 45, 97, 98]⟩, ⟨#[]⟩, false, 0, true, [⟨#[120, 110, 45, 45, 97, 98]⟩, ⟨#[98]⟩, ⟨#[111, 114, 103]⟩]⟩,
 ⟨false, 0, ⟨#[120, 110, 45, 45, 97, 98]⟩, [], false, true, ⟨#[120, 110, 45, 45, 97, 98]⟩, ⟨#[120, 110, 45, 45, 97, 98]⟩, ⟨#[]⟩, false, 0, true, [⟨#[120, 110, 45, 45, 97, 98]⟩]⟩,
 ⟨false, 0, ⟨#[120, 110, 45, 45, 97, 98, 46, 42, 46, 111, 114, 103]⟩, [⟨#[42]⟩, ⟨#[111, 114, 103]⟩], false, true, ⟨#[120, 110, 45, 45, 97, 98]⟩, ⟨#[120, 110, 45, 45, 97, 98]⟩, ⟨#[]⟩, false, 0, true, [⟨#[120, 110, 45, 45, 97, 98]⟩, ⟨#[42]⟩, ⟨#[111, 114, 103]⟩]⟩,
 ⟨false, 0, ⟨#[120, 110, 45, 45, 97, 98, 46, 97, 46, 111, 114, 103, 46]⟩, [⟨#[97]⟩, ⟨#[111, 114, 103]⟩, ⟨#[]⟩], false, true, ⟨#[120, 110, 45, 45, 97, 98]⟩, ⟨#[120, 110, 45, 45, 97, 98]⟩, ⟨#[]⟩, false, 0, true, [⟨#[120, 110, 45, 45, 97, 98]⟩, ⟨#[97]⟩, ⟨#[111, 114, 103]⟩, ⟨#[]⟩]⟩,
 ⟨false, 0, ⟨#[120, 110, 45, 45, 97, 98, 46, 111, 114, 103]⟩, [⟨#[111, 114, 103]⟩], false, true, ⟨#[120, 110, 45, 45, 97, 98]⟩, ⟨#[120, 110, 45, 45, 97, 98]⟩, ⟨#[]⟩, false, 0, true, [⟨#[120, 110, 45, 45, 97, 98]⟩, ⟨#[111, 114, 103]⟩]⟩]
def litN8 : List NF := [⟨false, 2, ⟨#[42, 42, 46, 97, 46, 111, 114, 103]⟩, [⟨#[97]⟩, ⟨#[111, 114, 103]⟩], false, false, ⟨#[42, 42]⟩, ⟨#[]⟩, ⟨#[42]⟩, false, 2, false, [⟨#[42, 42]⟩, ⟨#[97]⟩, ⟨#[111, 114, 103]⟩]⟩,
 ⟨false, 2, ⟨#[42, 42, 46, 97, 46, 111, 114, 103]⟩, [⟨#[97]⟩, ⟨#[111, 114, 103]⟩], false, false, ⟨#[42, 42]⟩, ⟨#[]⟩, ⟨#[42]⟩, false, 2, false, [⟨#[42, 42]⟩, ⟨#[97]⟩, ⟨#[111, 114, 103]⟩]⟩,
 ⟨false, 2, ⟨#[42, 42, 46, 98, 46, 111, 114, 103]⟩, [⟨#[98]⟩, ⟨#[111, 114, 103]⟩], false, false, ⟨#[42, 42]⟩, ⟨#[]⟩, ⟨#[42]⟩, false, 2, false, [⟨#[42, 42]⟩, ⟨#[98]⟩, ⟨#[111, 114, 103]⟩]⟩,
 ⟨false, 2, ⟨#[42, 42]⟩, [], false, false, ⟨#[42, 42]⟩, ⟨#[]⟩, ⟨#[42]⟩, false, 2, false, [⟨#[42, 42]⟩]⟩,
 ⟨false, 2, ⟨#[42, 42, 46, 42, 46, 111, 114, 103]⟩, [⟨#[42]⟩, ⟨#[111, 114, 103]⟩], false, false, ⟨#[42, 42]⟩, ⟨#[]⟩, ⟨#[42]⟩, false, 2, false, [⟨#[42, 42]⟩, ⟨#[42]⟩, ⟨#[111, 114, 103]⟩]⟩,
 ⟨false, 2, ⟨#[42, 42, 46, 97, 46, 111, 114, 103, 46]⟩, [⟨#[97]⟩, ⟨#[111, 114, 103]⟩, ⟨#[]⟩], false, false, ⟨#[42, 42]⟩, ⟨#[]⟩, ⟨#[42]⟩, false, 2, false, [⟨#[42, 42]⟩, ⟨#[97]⟩, ⟨#[111, 114, 103]⟩, ⟨#[]⟩]⟩,
 ⟨false, 2, ⟨#[42, 42, 46, 111, 114, 103]⟩, [⟨#[111, 114, 103]⟩], false, false, ⟨#[42, 42]⟩, ⟨#[]⟩, ⟨#[42]⟩, false, 2, false, [⟨#[42, 42]⟩, ⟨#[111, 114, 103]⟩]⟩]
def litN9 : List NF := [⟨false, 2, ⟨#[119, 42, 120, 42, 46, 97, 46, 111, 114, 103]⟩, [⟨#[97]⟩, ⟨#[111, 114, 103]⟩], false, false, ⟨#[119, 42, 120, 42]⟩, ⟨#[119]⟩, ⟨#[120, 42]⟩, false, 2, false, [⟨#[119, 42, 120, 42]⟩, ⟨#[97]⟩, ⟨#[111, 114, 103]⟩]⟩,
 ⟨false, 2, ⟨#[119, 42, 120, 42, 46, 97, 46, 111, 114, 103]⟩, [⟨#[97]⟩, ⟨#[111, 114, 103]⟩], false, false, ⟨#[119, 42, 120, 42]⟩, ⟨#[119]⟩, ⟨#[120, 42]⟩, false, 2, false, [⟨#[119, 42, 120, 42]⟩, ⟨#[97]⟩, ⟨#[111, 114, 103]⟩]⟩,
 ⟨false, 2, ⟨#[119, 42, 120, 42, 46, 98, 46, 111, 114, 103]⟩, [⟨#[98]⟩, ⟨#[111, 114, 103]⟩], false, false, ⟨#[119, 42, 120, 42]⟩, ⟨#[119]⟩, ⟨#[120, 42]⟩, false, 2, false, [⟨#[119, 42, 120, 42]⟩, ⟨#[98]⟩, ⟨#[111, 114, 103]⟩]⟩,
 ⟨false, 2, ⟨#[119, 42, 120, 42]⟩, [], false, false, ⟨#[119, 42, 120, 42]⟩, ⟨#[119]⟩, ⟨#[120, 42]⟩, false, 2, false, [⟨#[119, 42, 120, 42]⟩]⟩,
 ⟨false, 2, ⟨#[119, 42, 120, 42, 46, 42, 46, 111, 114, 103]⟩, [⟨#[42]⟩, ⟨#[111, 114, 103]⟩], false, false, ⟨#[119, 42, 120, 42]⟩, ⟨#[119]⟩, ⟨#[120, 42]⟩, false, 2, false, [⟨#[119, 42, 120, 42]⟩, ⟨#[42]⟩, ⟨#[111, 114, 103]⟩]⟩,
 ⟨false, 2, ⟨#[119, 42, 120, 42, 46, 97, 46, 111, 114, 103, 46]⟩, [⟨#[97]⟩, ⟨#[111, 114, 103]⟩, ⟨#[]⟩], false, false, ⟨#[119, 42, 120, 42]⟩, ⟨#[119]⟩, ⟨#[120, 42]⟩, false, 2, false, [⟨#[119, 42, 120, 42]⟩, ⟨#[97]⟩, ⟨#[111, 114, 103]⟩, ⟨#[]⟩]⟩,
 ⟨false, 2, ⟨#[119, 42, 120, 42, 46, 111, 114, 103]⟩, [⟨#[111, 114, 103]⟩], false, false, ⟨#[119, 42, 120, 42]⟩, ⟨#[119]⟩, ⟨#[120, 42]⟩, false, 2, false, [⟨#[119, 42, 120, 42]⟩, ⟨#[111, 114, 103]⟩]⟩]
def litN10 : List NF := [⟨false, 0, ⟨#[46, 97, 46, 111, 114, 103]⟩, [⟨#[97]⟩, ⟨#[111, 114, 103]⟩], false, false, ⟨#[]⟩, ⟨#[]⟩, ⟨#[]⟩, false, 0, false, [⟨#[]⟩, ⟨#[97]⟩, ⟨#[111, 114, 103]⟩]⟩,
 ⟨false, 0, ⟨#[46, 97, 46, 111, 114, 103]⟩, [⟨#[97]⟩, ⟨#[111, 114, 103]⟩], false, false, ⟨#[]⟩, ⟨#[]⟩, ⟨#[]⟩, false, 0, false, [⟨#[]⟩, ⟨#[97]⟩, ⟨#[111, 114, 103]⟩]⟩,
 ⟨false, 0, ⟨#[46, 98, 46, 111, 114, 103]⟩, [⟨#[98]⟩, ⟨#[111, 114, 103]⟩], false, false, ⟨#[]⟩, ⟨#[]⟩, ⟨#[]⟩, false, 0, false, [⟨#[]⟩, ⟨#[98]⟩, ⟨#[111, 114, 103]⟩]⟩,
 ⟨true, 0, ⟨#[]⟩, [], false, false, ⟨#[]⟩, ⟨#[]⟩, ⟨#[]⟩, true, 0, false, [⟨#[]⟩]⟩,
 ⟨false, 0, ⟨#[46, 42, 46, 111, 114, 103]⟩, [⟨#[42]⟩, ⟨#[111, 114, 103]⟩], false, false, ⟨#[]⟩, ⟨#[]⟩, ⟨#[]⟩, false, 0, false, [⟨#[]⟩, ⟨#[42]⟩, ⟨#[111, 114, 103]⟩]⟩,
 ⟨false, 0, ⟨#[46, 97, 46, 111, 114, 103, 46]⟩, [⟨#[97]⟩, ⟨#[111, 114, 103]⟩, ⟨#[]⟩], false, false, ⟨#[]⟩, ⟨#[]⟩, ⟨#[]⟩, false, 0, false, [⟨#[]⟩, ⟨#[97]⟩, ⟨#[111, 114, 103]⟩, ⟨#[]⟩]⟩,
 ⟨false, 0, ⟨#[46, 111, 114, 103]⟩, [⟨#[111, 114, 103]⟩], false, false, ⟨#[]⟩, ⟨#[]⟩, ⟨#[]⟩, false, 0, false, [⟨#[]⟩, ⟨#[111, 114, 103]⟩]⟩]
def litN11 : List NF := [⟨false, 0, ⟨#[97, 98, 119, 46, 97, 46, 111, 114, 103]⟩, [⟨#[97]⟩, ⟨#[111, 114, 103]⟩], false, false, ⟨#[97, 98, 119]⟩, ⟨#[97, 98, 119]⟩, ⟨#[]⟩, false, 0, false, [⟨#[97, 98, 119]⟩, ⟨#[97]⟩, ⟨#[111, 114, 103]⟩]⟩,
 ⟨false, 0, ⟨#[97, 98, 119, 46, 97, 46, 111, 114, 103]⟩, [⟨#[97]⟩, ⟨#[111, 114, 103]⟩], false, false, ⟨#[97, 98, 119]⟩, ⟨#[97, 98, 119]⟩, ⟨#[]⟩, false, 0, false, [⟨#[97, 98, 119]⟩, ⟨#[97]⟩, ⟨#[111, 114, 103]⟩]⟩,
 ⟨false, 0, ⟨#[97, 98, 119, 46, 98, 46, 111, 114, 103]⟩, [⟨#[98]⟩, ⟨#[111, 114, 103]⟩], false, false, ⟨#[97, 98, 119]⟩, ⟨#[97, 98, 119]⟩, ⟨#[]⟩, false, 0, false, [⟨#[97, 98, 119]⟩, ⟨#[98]⟩, ⟨#[111, 114, 103]⟩]⟩,
 ⟨false, 0, ⟨#[97, 98, 119]⟩, [], false, false, ⟨#[97, 98, 119]⟩, ⟨#[97, 98, 119]⟩, ⟨#[]⟩, false, 0, false, [⟨#[97, 98, 119]⟩]⟩,
 ⟨false, 0, ⟨#[97, 98, 119, 46, 42, 46, 111, 114, 103]⟩, [⟨#[42]⟩, ⟨#[111, 114, 103]⟩], false, false, ⟨#[97, 98, 119]⟩, ⟨#[97, 98, 119]⟩, ⟨#[]⟩, false, 0, false, [⟨#[97, 98, 119]⟩, ⟨#[42]⟩, ⟨#[111, 114, 103]⟩]⟩,
 ⟨false, 0, ⟨#[97, 98, 119, 46, 97, 46, 111, 114, 103, 46]⟩, [⟨#[97]⟩, ⟨#[111, 114, 103]⟩, ⟨#[]⟩], false, false, ⟨#[97, 98, 119]⟩, ⟨#[97, 98, 119]⟩, ⟨#[]⟩, false, 0, false, [⟨#[97, 98, 119]⟩, ⟨#[97]⟩, ⟨#[111, 114, 103]⟩, ⟨#[]⟩]⟩,
 ⟨false, 0, ⟨#[97, 98, 119, 46, 111, 114, 103]⟩, [⟨#[111, 114, 103]⟩], false, false, ⟨#[97, 98, 119]⟩, ⟨#[97, 98, 119]⟩, ⟨#[]⟩, false, 0, false, [⟨#[97, 98, 119]⟩, ⟨#[111, 114, 103]⟩]⟩]
def litH0 : List HF := [⟨⟨#[119, 46, 97, 46, 111, 114, 103]⟩, false, false, [⟨#[119]⟩, ⟨#[97]⟩, ⟨#[111, 114, 103]⟩], [⟨#[42, 119]⟩, ⟨#[42]⟩, ⟨#[119, 42]⟩]⟩,
 ⟨⟨#[119, 46, 98, 46, 111, 114, 103]⟩, false, false, [⟨#[119]⟩, ⟨#[98]⟩, ⟨#[111, 114, 103]⟩], [⟨#[42, 119]⟩, ⟨#[42]⟩, ⟨#[119, 42]⟩]⟩,
 ⟨⟨#[119, 46, 97, 46, 111, 114, 103]⟩, false, false, [⟨#[119]⟩, ⟨#[97]⟩, ⟨#[111, 114, 103]⟩], [⟨#[42, 119]⟩, ⟨#[42]⟩, ⟨#[119, 42]⟩]⟩,
 ⟨⟨#[119]⟩, false, false, [⟨#[119]⟩], [⟨#[42, 119]⟩, ⟨#[42]⟩, ⟨#[119, 42]⟩]⟩,
 ⟨⟨#[119, 46, 111, 114, 103]⟩, false, false, [⟨#[119]⟩, ⟨#[111, 114, 103]⟩], [⟨#[42, 119]⟩, ⟨#[42]⟩, ⟨#[119, 42]⟩]⟩,
 ⟨⟨#[119, 46, 99, 46, 97, 46, 111, 114, 103]⟩, false, false, [⟨#[119]⟩, ⟨#[99]⟩, ⟨#[97]⟩, ⟨#[111, 114, 103]⟩], [⟨#[42, 119]⟩, ⟨#[42]⟩, ⟨#[119, 42]⟩]⟩]
def litH1 : List HF := [⟨⟨#[119, 119, 46, 97, 46, 111, 114, 103]⟩, false, false, [⟨#[119, 119]⟩, ⟨#[97]⟩, ⟨#[111, 114, 103]⟩], [⟨#[42, 119, 119]⟩, ⟨#[42, 119]⟩, ⟨#[42]⟩, ⟨#[119, 42, 119]⟩, ⟨#[119, 42]⟩, ⟨#[119, 119, 42]⟩]⟩,
 ⟨⟨#[119, 119, 46, 98, 46, 111, 114, 103]⟩, false, false, [⟨#[119, 119]⟩, ⟨#[98]⟩, ⟨#[111, 114, 103]⟩], [⟨#[42, 119, 119]⟩, ⟨#[42, 119]⟩, ⟨#[42]⟩, ⟨#[119, 42, 119]⟩, ⟨#[119, 42]⟩, ⟨#[119, 119, 42]⟩]⟩,
 ⟨⟨#[119, 119, 46, 97, 46, 111, 114, 103]⟩, false, false, [⟨#[119, 119]⟩, ⟨#[97]⟩, ⟨#[111, 114, 103]⟩], [⟨#[42, 119, 119]⟩, ⟨#[42, 119]⟩, ⟨#[42]⟩, ⟨#[119, 42, 119]⟩, ⟨#[119, 42]⟩, ⟨#[119, 119, 42]⟩]⟩,
 ⟨⟨#[119, 119]⟩, false, false, [⟨#[119, 119]⟩], [⟨#[42, 119, 119]⟩, ⟨#[42, 119]⟩, ⟨#[42]⟩, ⟨#[119, 42, 119]⟩, ⟨#[119, 42]⟩, ⟨#[119, 119, 42]⟩]⟩,
 ⟨⟨#[119, 119, 46, 111, 114, 103]⟩, false, false, [⟨#[119, 119]⟩, ⟨#[111, 114, 103]⟩], [⟨#[42, 119, 119]⟩, ⟨#[42, 119]⟩, ⟨#[42]⟩, ⟨#[119, 42, 119]⟩, ⟨#[119, 42]⟩, ⟨#[119, 119, 42]⟩]⟩,
 ⟨⟨#[119, 119, 46, 99, 46, 97, 46, 111, 114, 103]⟩, false, false, [⟨#[119, 119]⟩, ⟨#[99]⟩, ⟨#[97]⟩, ⟨#[111, 114, 103]⟩], [⟨#[42, 119, 119]⟩, ⟨#[42, 119]⟩, ⟨#[42]⟩, ⟨#[119, 42, 119]⟩, ⟨#[119, 42]⟩, ⟨#[119, 119, 42]⟩]⟩]
def litH2 : List HF := [⟨⟨#[119, 119, 119, 46, 97, 46, 111, 114, 103]⟩, false, false, [⟨#[119, 119, 119]⟩, ⟨#[97]⟩, ⟨#[111, 114, 103]⟩], [⟨#[42, 119, 119, 119]⟩, ⟨#[42, 119, 119]⟩, ⟨#[42, 119]⟩, ⟨#[42]⟩, ⟨#[119, 42, 119, 119]⟩, ⟨#[119, 42, 119]⟩, ⟨#[119, 42]⟩, ⟨#[119, 119, 42, 119]⟩, ⟨#[119, 119, 42]⟩, ⟨#[119, 119, 119, 42]⟩]⟩,
 ⟨⟨#[119, 119, 119, 46, 98, 46, 111, 114, 103]⟩, false, false, [⟨#[119, 119, 119]⟩, ⟨#[98]⟩, ⟨#[111, 114, 103]⟩], [⟨#[42, 119, 119, 119]⟩, ⟨#[42, 119, 119]⟩, ⟨#[42, 119]⟩, ⟨#[42]⟩, ⟨#[119, 42, 119, 119]⟩, ⟨#[119, 42, 119]⟩, ⟨#[119, 42]⟩, ⟨#[119, 119, 42, 119]⟩, ⟨#[119, 119, 42]⟩, ⟨#[119, 119, 119, 42]⟩]⟩,
 ⟨⟨#[119, 119, 119, 46, 97, 46, 111, 114, 103]⟩, false, false, [⟨#[119, 119, 119]⟩, ⟨#[97]⟩, ⟨#[111, 114, 103]⟩], [⟨#[42, 119, 119, 119]⟩, ⟨#[42, 119, 119]⟩, ⟨#[42, 119]⟩, ⟨#[42]⟩, ⟨#[119, 42, 119, 119]⟩, ⟨#[119, 42, 119]⟩, ⟨#[119, 42]⟩, ⟨#[119, 119, 42, 119]⟩, ⟨#[119, 119, 42]⟩, ⟨#[119, 119, 119, 42]⟩]⟩,
 ⟨⟨#[119, 119, 119]⟩, false, false, [⟨#[119, 119, 119]⟩], [⟨#[42, 119, 119, 119]⟩, ⟨#[42, 119, 119]⟩, ⟨#[42, 119]⟩, ⟨#[42]⟩, ⟨#[119, 42, 119, 119]⟩, ⟨#[119, 42, 119]⟩, ⟨#[119, 42]⟩, ⟨#[119, 119, 42, 119]⟩, ⟨#[119, 119, 42]⟩, ⟨#[119, 119, 119, 42]⟩]⟩,
 ⟨⟨#[119, 119, 119, 46, 111, 114, 103]⟩, false, false, [⟨#[119, 119, 119]⟩, ⟨#[111, 114, 103]⟩], [⟨#[42, 119, 119, 119]⟩, ⟨#[42, 119, 119]⟩, ⟨#[42, 119]⟩, ⟨#[42]⟩, ⟨#[119, 42, 119, 119]⟩, ⟨#[119, 42, 119]⟩, ⟨#[119, 42]⟩, ⟨#[119, 119, 42, 119]⟩, ⟨#[119, 119, 42]⟩, ⟨#[119, 119, 119, 42]⟩]⟩,
 ⟨⟨#[119, 119, 119, 46, 99, 46, 97, 46, 111, 114, 103]⟩, false, false, [⟨#[119, 119, 119]⟩, ⟨#[99]⟩, ⟨#[97]⟩, ⟨#[111, 114, 103]⟩], [⟨#[42, 119, 119, 119]⟩, ⟨#[42, 119, 119]⟩, ⟨#[42, 119]⟩, ⟨#[42]⟩, ⟨#[119, 42, 119, 119]⟩, ⟨#[119, 42, 119]⟩, ⟨#[119, 42]⟩, ⟨#[119, 119, 42, 119]⟩, ⟨#[119, 119, 42]⟩, ⟨#[119, 119, 119, 42]⟩]⟩]
def litH3 : List HF := [⟨⟨#[120, 110, 45, 45, 97, 98, 46, 97, 46, 111, 114, 103]⟩, true, true, [⟨#[120, 110, 45, 45, 97, 98]⟩, ⟨#[97]⟩, ⟨#[111, 114, 103]⟩], [⟨#[42, 120, 110, 45, 45, 97, 98]⟩, ⟨#[42, 110, 45, 45, 97, 98]⟩, ⟨#[42, 45, 45, 97, 98]⟩, ⟨#[42, 45, 97, 98]⟩, ⟨#[42, 97, 98]⟩, ⟨#[42, 98]⟩, ⟨#[42]⟩, ⟨#[120, 42, 110, 45, 45, 97, 98]⟩, ⟨#[120, 42, 45, 45, 97, 98]⟩, ⟨#[120, 42, 45, 97, 98]⟩, ⟨#[120, 42, 97, 98]⟩, ⟨#[120, 42, 98]⟩, ⟨#[120, 42]⟩, ⟨#[120, 110, 42, 45, 45, 97, 98]⟩, ⟨#[120, 110, 42, 45, 97, 98]⟩, ⟨#[120, 110, 42, 97, 98]⟩, ⟨#[120, 110, 42, 98]⟩, ⟨#[120, 110, 42]⟩, ⟨#[120, 110, 45, 42, 45, 97, 98]⟩, ⟨#[120, 110, 45, 42, 97, 98]⟩, ⟨#[120, 110, 45, 42, 98]⟩, ⟨#[120, 110, 45, 42]⟩, ⟨#[120, 110, 45, 45, 42, 97, 98]⟩, ⟨#[120, 110, 45, 45, 42, 98]⟩, ⟨#[120, 110, 45, 45, 42]⟩, ⟨#[120, 110, 45, 45, 97, 42, 98]⟩, ⟨#[120, 110, 45, 45, 97, 42]⟩, ⟨#[120, 110, 45, 45, 97, 98, 42]⟩]⟩,
 ⟨⟨#[120, 110, 45, 45, 97, 98, 46, 98, 46, 111, 114, 103]⟩, true, true, [⟨#[120, 110, 45, 45, 97, 98]⟩, ⟨#[98]⟩, ⟨#[111, 114, 103]⟩], [⟨#[42, 120, 110, 45, 45, 97, 98]⟩, ⟨#[42, 110, 45, 45, 97, 98]⟩, ⟨#[42, 45, 45, 97, 98]⟩, ⟨#[42, 45, 97, 98]⟩, ⟨#[42, 97, 98]⟩, ⟨#[42, 98]⟩, ⟨#[42]⟩, ⟨#[120, 42, 110, 45, 45, 97, 98]⟩, ⟨#[120, 42, 45, 45, 97, 98]⟩, ⟨#[120, 42, 45, 97, 98]⟩, ⟨#[120, 42, 97, 98]⟩, ⟨#[120, 42, 98]⟩, ⟨#[120, 42]⟩, ⟨#[120, 110, 42, 45, 45, 97, 98]⟩, ⟨#[120, 110, 42, 45, 97, 98]⟩, ⟨#[120, 110, 42, 97, 98]⟩, ⟨#[120, 110, 42, 98]⟩, ⟨#[120, 110, 42]⟩, ⟨#[120, 110, 45, 42, 45, 97, 98]⟩, ⟨#[120, 110, 45, 42, 97, 98]⟩, ⟨#[120, 110, 45, 42, 98]⟩, ⟨#[120, 110, 45, 42]⟩, ⟨#[120, 110, 45, 45, 42, 97, 98]⟩, ⟨#[120, 110, 45, 45, 42, 98]⟩, ⟨#[120, 110, 45, 45, 42]⟩, ⟨#[120, 110, 45, 45, 97, 42, 98]⟩, ⟨#[120, 110, 45, 45, 97, 42]⟩, ⟨#[120, 110, 45, 45, 97, 98, 42]⟩]⟩,
 ⟨⟨#[120, 110, 45, 45, 97, 98, 46, 97, 46, 111, 114, 103]⟩, true, true, [⟨#[120, 110, 45, 45, 97, 98]⟩, ⟨#[97]⟩, ⟨#[111, 114, 103]⟩], [⟨#[42, 120, 110, 45, 45, 97, 98]⟩, ⟨#[42, 110, 45, 45, 97, 98]⟩, ⟨#[42, 45, 45, 97, 98]⟩, ⟨#[42, 45, 97, 98]⟩, ⟨#[42, 97, 98]⟩, ⟨#[42, 98]⟩, ⟨#[42]⟩, ⟨#[120, 42, 110, 45, 45, 97, 98]⟩, ⟨#[120, 42, 45, 45, 97, 98]⟩, ⟨#[120, 42, 45, 97, 98]⟩, ⟨#[120, 42, 97, 98]⟩, ⟨#[120, 42, 98]⟩, ⟨#[120, 42]⟩, ⟨#[120, 110, 42, 45, 45, 97, 98]⟩, ⟨#[120, 110, 42, 45, 97, 98]⟩, ⟨#[120, 110, 42, 97, 98]⟩, ⟨#[120, 110, 42, 98]⟩, ⟨#[120, 110, 42]⟩, ⟨#[120, 110, 45, 42, 45, 97, 98]⟩, ⟨#[120, 110, 45, 42, 97, 98]⟩, ⟨#[120, 110, 45, 42, 98]⟩, ⟨#[120, 110, 45, 42]⟩, ⟨#[120, 110, 45, 45, 42, 97, 98]⟩, ⟨#[120, 110, 45, 45, 42, 98]⟩, ⟨#[120, 110, 45, 45, 42]⟩, ⟨#[120, 110, 45, 45, 97, 42, 98]⟩, ⟨#[120, 110, 45, 45, 97, 42]⟩, ⟨#[120, 110, 45, 45, 97, 98, 42]⟩]⟩,
 ⟨⟨#[120, 110, 45, 45, 97, 98]⟩, true, true, [⟨#[120, 110, 45, 45, 97, 98]⟩], [⟨#[42, 120, 110, 45, 45, 97, 98]⟩, ⟨#[42, 110, 45, 45, 97, 98]⟩, ⟨#[42, 45, 45, 97, 98]⟩, ⟨#[42, 45, 97, 98]⟩, ⟨#[42, 97, 98]⟩, ⟨#[42, 98]⟩, ⟨#[42]⟩, ⟨#[120, 42, 110, 45, 45, 97, 98]⟩, ⟨#[120, 42, 45, 45, 97, 98]⟩, ⟨#[120, 42, 45, 97, 98]⟩, ⟨#[120, 42, 97, 98]⟩, ⟨#[120, 42, 98]⟩, ⟨#[120, 42]⟩, ⟨#[120, 110, 42, 45, 45, 97, 98]⟩, ⟨#[120, 110, 42, 45, 97, 98]⟩, ⟨#[120, 110, 42, 97, 98]⟩, ⟨#[120, 110, 42, 98]⟩, ⟨#[120, 110, 42]⟩, ⟨#[120, 110, 45, 42, 45, 97, 98]⟩, ⟨#[120, 110, 45, 42, 97, 98]⟩, ⟨#[120, 110, 45, 42, 98]⟩, ⟨#[120, 110, 45, 42]⟩, ⟨#[120, 110, 45, 45, 42, 97, 98]⟩, ⟨#[120, 110, 45, 45, 42, 98]⟩, ⟨#[120, 110, 45, 45, 42]⟩, ⟨#[120, 110, 45, 45, 97, 42, 98]⟩, ⟨#[120, 110, 45, 45, 97, 42]⟩, ⟨#[120, 110, 45, 45, 97, 98, 42]⟩]⟩,
 ⟨⟨#[120, 110, 45, 45, 97, 98, 46, 111, 114, 103]⟩, true, true, [⟨#[120, 110, 45, 45, 97, 98]⟩, ⟨#[111, 114, 103]⟩], [⟨#[42, 120, 110, 45, 45, 97, 98]⟩, ⟨#[42, 110, 45, 45, 97, 98]⟩, ⟨#[42, 45, 45, 97, 98]⟩, ⟨#[42, 45, 97, 98]⟩, ⟨#[42, 97, 98]⟩, ⟨#[42, 98]⟩, ⟨#[42]⟩, ⟨#[120, 42, 110, 45, 45, 97, 98]⟩, ⟨#[120, 42, 45, 45, 97, 98]⟩, ⟨#[120, 42, 45, 97, 98]⟩, ⟨#[120, 42, 97, 98]⟩, ⟨#[120, 42, 98]⟩, ⟨#[120, 42]⟩, ⟨#[120, 110, 42, 45, 45, 97, 98]⟩, ⟨#[120, 110, 42, 45, 97, 98]⟩, ⟨#[120, 110, 42, 97, 98]⟩, ⟨#[120, 110, 42, 98]⟩, ⟨#[120, 110, 42]⟩, ⟨#[120, 110, 45, 42, 45, 97, 98]⟩, ⟨#[120, 110, 45, 42, 97, 98]⟩, ⟨#[120, 110, 45, 42, 98]⟩, ⟨#[120, 110, 45, 42]⟩, ⟨#[120, 110, 45, 45, 42, 97, 98]⟩, ⟨#[120, 110, 45, 45, 42, 98]⟩, ⟨#[120, 110, 45, 45, 42]⟩, ⟨#[120, 110, 45, 45, 97, 42, 98]⟩, ⟨#[120, 110, 45, 45, 97, 42]⟩, ⟨#[120, 110, 45, 45, 97, 98, 42]⟩]⟩,
 ⟨⟨#[120, 110, 45, 45, 97, 98, 46, 99, 46, 97, 46, 111, 114, 103]⟩, true, true, [⟨#[120, 110, 45, 45, 97, 98]⟩, ⟨#[99]⟩, ⟨#[97]⟩, ⟨#[111, 114, 103]⟩], [⟨#[42, 120, 110, 45, 45, 97, 98]⟩, ⟨#[42, 110, 45, 45, 97, 98]⟩, ⟨#[42, 45, 45, 97, 98]⟩, ⟨#[42, 45, 97, 98]⟩, ⟨#[42, 97, 98]⟩, ⟨#[42, 98]⟩, ⟨#[42]⟩, ⟨#[120, 42, 110, 45, 45, 97, 98]⟩, ⟨#[120, 42, 45, 45, 97, 98]⟩, ⟨#[120, 42, 45, 97, 98]⟩, ⟨#[120, 42, 97, 98]⟩, ⟨#[120, 42, 98]⟩, ⟨#[120, 42]⟩, ⟨#[120, 110, 42, 45, 45, 97, 98]⟩, ⟨#[120, 110, 42, 45, 97, 98]⟩, ⟨#[120, 110, 42, 97, 98]⟩, ⟨#[120, 110, 42, 98]⟩, ⟨#[120, 110, 42]⟩, ⟨#[120, 110, 45, 42, 45, 97, 98]⟩, ⟨#[120, 110, 45, 42, 97, 98]⟩, ⟨#[120, 110, 45, 42, 98]⟩, ⟨#[120, 110, 45, 42]⟩, ⟨#[120, 110, 45, 45, 42, 97, 98]⟩, ⟨#[120, 110, 45, 45, 42, 98]⟩, ⟨#[120, 110, 45, 45, 42]⟩, ⟨#[120, 110, 45, 45, 97, 42, 98]⟩, ⟨#[120, 110, 45, 45, 97, 42]⟩, ⟨#[120, 110, 45, 45, 97, 98, 42]⟩]⟩]
def litH4 : List HF := [⟨⟨#[97, 98, 119, 46, 97, 46, 111, 114, 103]⟩, false, false, [⟨#[97, 98, 119]⟩, ⟨#[97]⟩, ⟨#[111, 114, 103]⟩], [⟨#[42, 97, 98, 119]⟩, ⟨#[42, 98, 119]⟩, ⟨#[42, 119]⟩, ⟨#[42]⟩, ⟨#[97, 42, 98, 119]⟩, ⟨#[97, 42, 119]⟩, ⟨#[97, 42]⟩, ⟨#[97, 98, 42, 119]⟩, ⟨#[97, 98, 42]⟩, ⟨#[97, 98, 119, 42]⟩]⟩,
 ⟨⟨#[97, 98, 119, 46, 98, 46, 111, 114, 103]⟩, false, false, [⟨#[97, 98, 119]⟩, ⟨#[98]⟩, ⟨#[111, 114, 103]⟩], [⟨#[42, 97, 98, 119]⟩, ⟨#[42, 98, 119]⟩, ⟨#[42, 119]⟩, ⟨#[42]⟩, ⟨#[97, 42, 98, 119]⟩, ⟨#[97, 42, 119]⟩, ⟨#[97, 42]⟩, ⟨#[97, 98, 42, 119]⟩, ⟨#[97, 98, 42]⟩, ⟨#[97, 98, 119, 42]⟩]⟩,
 ⟨⟨#[97, 98, 119, 46, 97, 46, 111, 114, 103]⟩, false, false, [⟨#[97, 98, 119]⟩, ⟨#[97]⟩, ⟨#[111, 114, 103]⟩], [⟨#[42, 97, 98, 119]⟩, ⟨#[42, 98, 119]⟩, ⟨#[42, 119]⟩, ⟨#[42]⟩, ⟨#[97, 42, 98, 119]⟩, ⟨#[97, 42, 119]⟩, ⟨#[97, 42]⟩, ⟨#[97, 98, 42, 119]⟩, ⟨#[97, 98, 42]⟩, ⟨#[97, 98, 119, 42]⟩]⟩,
 ⟨⟨#[97, 98, 119]⟩, false, false, [⟨#[97, 98, 119]⟩], [⟨#[42, 97, 98, 119]⟩, ⟨#[42, 98, 119]⟩, ⟨#[42, 119]⟩, ⟨#[42]⟩, ⟨#[97, 42, 98, 119]⟩, ⟨#[97, 42, 119]⟩, ⟨#[97, 42]⟩, ⟨#[97, 98, 42, 119]⟩, ⟨#[97, 98, 42]⟩, ⟨#[97, 98, 119, 42]⟩]⟩,
 ⟨⟨#[97, 98, 119, 46, 111, 114, 103]⟩, false, false, [⟨#[97, 98, 119]⟩, ⟨#[111, 114, 103]⟩], [⟨#[42, 97, 98, 119]⟩, ⟨#[42, 98, 119]⟩, ⟨#[42, 119]⟩, ⟨#[42]⟩, ⟨#[97, 42, 98, 119]⟩, ⟨#[97, 42, 119]⟩, ⟨#[97, 42]⟩, ⟨#[97, 98, 42, 119]⟩, ⟨#[97, 98, 42]⟩, ⟨#[97, 98, 119, 42]⟩]⟩,
 ⟨⟨#[97, 98, 119, 46, 99, 46, 97, 46, 111, 114, 103]⟩, false, false, [⟨#[97, 98, 119]⟩, ⟨#[99]⟩, ⟨#[97]⟩, ⟨#[111, 114, 103]⟩], [⟨#[42, 97, 98, 119]⟩, ⟨#[42, 98, 119]⟩, ⟨#[42, 119]⟩, ⟨#[42]⟩, ⟨#[97, 42, 98, 119]⟩, ⟨#[97, 42, 119]⟩, ⟨#[97, 42]⟩, ⟨#[97, 98, 42, 119]⟩, ⟨#[97, 98, 42]⟩, ⟨#[97, 98, 119, 42]⟩]⟩]
def litH5 : List HF := [⟨⟨#[120, 46, 97, 46, 111, 114, 103]⟩, false, false, [⟨#[120]⟩, ⟨#[97]⟩, ⟨#[111, 114, 103]⟩], [⟨#[42, 120]⟩, ⟨#[42]⟩, ⟨#[120, 42]⟩]⟩,
 ⟨⟨#[120, 46, 98, 46, 111, 114, 103]⟩, false, false, [⟨#[120]⟩, ⟨#[98]⟩, ⟨#[111, 114, 103]⟩], [⟨#[42, 120]⟩, ⟨#[42]⟩, ⟨#[120, 42]⟩]⟩,
 ⟨⟨#[120, 46, 97, 46, 111, 114, 103]⟩, false, false, [⟨#[120]⟩, ⟨#[97]⟩, ⟨#[111, 114, 103]⟩], [⟨#[42, 120]⟩, ⟨#[42]⟩, ⟨#[120, 42]⟩]⟩,
 ⟨⟨#[120]⟩, false, false, [⟨#[120]⟩], [⟨#[42, 120]⟩, ⟨#[42]⟩, ⟨#[120, 42]⟩]⟩,
 ⟨⟨#[120, 46, 111, 114, 103]⟩, false, false, [⟨#[120]⟩, ⟨#[111, 114, 103]⟩], [⟨#[42, 120]⟩, ⟨#[42]⟩, ⟨#[120, 42]⟩]⟩,
 ⟨⟨#[120, 46, 99, 46, 97, 46, 111, 114, 103]⟩, false, false, [⟨#[120]⟩, ⟨#[99]⟩, ⟨#[97]⟩, ⟨#[111, 114, 103]⟩], [⟨#[42, 120]⟩, ⟨#[42]⟩, ⟨#[120, 42]⟩]⟩]
def litH6 : List HF := [⟨⟨#[119, 97, 119, 46, 97, 46, 111, 114, 103]⟩, false, false, [⟨#[119, 97, 119]⟩, ⟨#[97]⟩, ⟨#[111, 114, 103]⟩], [⟨#[42, 119, 97, 119]⟩, ⟨#[42, 97, 119]⟩, ⟨#[42, 119]⟩, ⟨#[42]⟩, ⟨#[119, 42, 97, 119]⟩, ⟨#[119, 42, 119]⟩, ⟨#[119, 42]⟩, ⟨#[119, 97, 42, 119]⟩, ⟨#[119, 97, 42]⟩, ⟨#[119, 97, 119, 42]⟩]⟩,
 ⟨⟨#[119, 97, 119, 46, 98, 46, 111, 114, 103]⟩, false, false, [⟨#[119, 97, 119]⟩, ⟨#[98]⟩, ⟨#[111, 114, 103]⟩], [⟨#[42, 119, 97, 119]⟩, ⟨#[42, 97, 119]⟩, ⟨#[42, 119]⟩, ⟨#[42]⟩, ⟨#[119, 42, 97, 119]⟩, ⟨#[119, 42, 119]⟩, ⟨#[119, 42]⟩, ⟨#[119, 97, 42, 119]⟩, ⟨#[119, 97, 42]⟩, ⟨#[119, 97, 119, 42]⟩]⟩,
 ⟨⟨#[119, 97, 119, 46, 97, 46, 111, 114, 103]⟩, false, false, [⟨#[119, 97, 119]⟩, ⟨#[97]⟩, ⟨#[111, 114, 103]⟩], [⟨#[42, 119, 97, 119]⟩, ⟨#[42, 97, 119]⟩, ⟨#[42, 119]⟩, ⟨#[42]⟩, ⟨#[119, 42, 97, 119]⟩, ⟨#[119, 42, 119]⟩, ⟨#[119, 42]⟩, ⟨#[119, 97, 42, 119]⟩, ⟨#[119, 97, 42]⟩, ⟨#[119, 97, 119, 42]⟩]⟩,
 ⟨⟨#[119, 97, 119]⟩, false, false, [⟨#[119, 97, 119]⟩], [⟨#[42, 119, 97, 119]⟩, ⟨#[42, 97, 119]⟩, ⟨#[42, 119]⟩, ⟨#[42]⟩, ⟨#[119, 42, 97, 119]⟩, ⟨#[119, 42, 119]⟩, ⟨#[119, 42]⟩, ⟨#[119, 97, 42, 119]⟩, ⟨#[119, 97, 42]⟩, ⟨#[119, 97, 119, 42]⟩]⟩,
 ⟨⟨#[119, 97, 119, 46, 111, 114, 103]⟩, false, false, [⟨#[119, 97, 119]⟩, ⟨#[111, 114, 103]⟩], [⟨#[42, 119, 97, 119]⟩, ⟨#[42, 97, 119]⟩, ⟨#[42, 119]⟩, ⟨#[42]⟩, ⟨#[119, 42, 97, 119]⟩, ⟨#[119, 42, 119]⟩, ⟨#[119, 42]⟩, ⟨#[119, 97, 42, 119]⟩, ⟨#[119, 97, 42]⟩, ⟨#[119, 97, 119, 42]⟩]⟩,
 ⟨⟨#[119, 97, 119, 46, 99, 46, 97, 46, 111, 114, 103]⟩, false, false, [⟨#[119, 97, 119]⟩, ⟨#[99]⟩, ⟨#[97]⟩, ⟨#[111, 114, 103]⟩], [⟨#[42, 119, 97, 119]⟩, ⟨#[42, 97, 119]⟩, ⟨#[42, 119]⟩, ⟨#[42]⟩, ⟨#[119, 42, 97, 119]⟩, ⟨#[119, 42, 119]⟩, ⟨#[119, 42]⟩, ⟨#[119, 97, 42, 119]⟩, ⟨#[119, 97, 42]⟩, ⟨#[119, 97, 119, 42]⟩]⟩]
def litH7 : List HF := [⟨⟨#[46, 97, 46, 111, 114, 103]⟩, false, false, [⟨#[]⟩, ⟨#[97]⟩, ⟨#[111, 114, 103]⟩], [⟨#[42]⟩]⟩,
 ⟨⟨#[46, 98, 46, 111, 114, 103]⟩, false, false, [⟨#[]⟩, ⟨#[98]⟩, ⟨#[111, 114, 103]⟩], [⟨#[42]⟩]⟩,
 ⟨⟨#[46, 97, 46, 111, 114, 103]⟩, false, false, [⟨#[]⟩, ⟨#[97]⟩, ⟨#[111, 114, 103]⟩], [⟨#[42]⟩]⟩,
 ⟨⟨#[]⟩, false, false, [⟨#[]⟩], [⟨#[42]⟩]⟩,
 ⟨⟨#[46, 111, 114, 103]⟩, false, false, [⟨#[]⟩, ⟨#[111, 114, 103]⟩], [⟨#[42]⟩]⟩,
 ⟨⟨#[46, 99, 46, 97, 46, 111, 114, 103]⟩, false, false, [⟨#[]⟩, ⟨#[99]⟩, ⟨#[97]⟩, ⟨#[111, 114, 103]⟩], [⟨#[42]⟩]⟩]
def litN : List NF := litN0 ++ (litN1 ++ (litN2 ++ (litN3 ++ (litN4 ++ (litN5 ++ (litN6 ++ (litN7 ++ (litN8 ++ (litN9 ++ (litN10 ++ (litN11 ++ ([]))))))))))))
def litH : List HF := litH0 ++ (litH1 ++ (litH2 ++ (litH3 ++ (litH4 ++ (litH5 ++ (litH6 ++ (litH7 ++ ([]))))))))
set_option maxHeartbeats 4000000
theorem nl0 : (rests.map fun b => Str.ofString "*" ++ b).map nf = litN0 := by kernel_rfl
theorem ng0 : ((rests.map fun b => Str.ofString "*" ++ b).all gN) = true := by decide +kernel
theorem al0 : (litN0.all fun a => litH.all fun h => okF a h) = true := by decide +kernel
theorem nl1 : (rests.map fun b => Str.ofString "w*" ++ b).map nf = litN1 := by kernel_rfl
theorem ng1 : ((rests.map fun b => Str.ofString "w*" ++ b).all gN) = true := by decide +kernel
theorem al1 : (litN1.all fun a => litH.all fun h => okF a h) = true := by decide +kernel
theorem nl2 : (rests.map fun b => Str.ofString "*w" ++ b).map nf = litN2 := by kernel_rfl
theorem ng2 : ((rests.map fun b => Str.ofString "*w" ++ b).all gN) = true := by decide +kernel
theorem al2 : (litN2.all fun a => litH.all fun h => okF a h) = true := by decide +kernel
theorem nl3 : (rests.map fun b => Str.ofString "w*w" ++ b).map nf = litN3 := by kernel_rfl
theorem ng3 : ((rests.map fun b => Str.ofString "w*w" ++ b).all gN) = true := by decide +kernel
theorem al3 : (litN3.all fun a => litH.all fun h => okF a h) = true := by decide +kernel
theorem nl4 : (rests.map fun b => Str.ofString "ww" ++ b).map nf = litN4 := by kernel_rfl
theorem ng4 : ((rests.map fun b => Str.ofString "ww" ++ b).all gN) = true := by decide +kernel
theorem al4 : (litN4.all fun a => litH.all fun h => okF a h) = true := by decide +kernel
theorem nl5 : (rests.map fun b => Str.ofString "W*" ++ b).map nf = litN5 := by kernel_rfl
theorem ng5 : ((rests.map fun b => Str.ofString "W*" ++ b).all gN) = true := by decide +kernel
theorem al5 : (litN5.all fun a => litH.all fun h => okF a h) = true := by decide +kernel
theorem nl6 : (rests.map fun b => Str.ofString "xn--a*" ++ b).map nf = litN6 := by kernel_rfl
theorem ng6 : ((rests.map fun b => Str.ofString "xn--a*" ++ b).all gN) = true := by decide +kernel
theorem al6 : (litN6.all fun a => litH.all fun h => okF a h) = true := by decide +kernel
theorem nl7 : (rests.map fun b => Str.ofString "xn--ab" ++ b).map nf = litN7 := by kernel_rfl
theorem ng7 : ((rests.map fun b => Str.ofString "xn--ab" ++ b).all gN) = true := by decide +kernel
theorem al7 : (litN7.all fun a => litH.all fun h => okF a h) = true := by decide +kernel
theorem nl8 : (rests.map fun b => Str.ofString "**" ++ b).map nf = litN8 := by kernel_rfl
theorem ng8 : ((rests.map fun b => Str.ofString "**" ++ b).all gN) = true := by decide +kernel
theorem al8 : (litN8.all fun a => litH.all fun h => okF a h) = true := by decide +kernel
theorem nl9 : (rests.map fun b => Str.ofString "w*x*" ++ b).map nf = litN9 := by kernel_rfl
theorem ng9 : ((rests.map fun b => Str.ofString "w*x*" ++ b).all gN) = true := by decide +kernel
theorem al9 : (litN9.all fun a => litH.all fun h => okF a h) = true := by decide +kernel
theorem nl10 : (rests.map fun b => Str.ofString "" ++ b).map nf = litN10 := by kernel_rfl
theorem ng10 : ((rests.map fun b => Str.ofString "" ++ b).all gN) = true := by decide +kernel
theorem al10 : (litN10.all fun a => litH.all fun h => okF a h) = true := by decide +kernel
theorem nl11 : (rests.map fun b => Str.ofString "abw" ++ b).map nf = litN11 := by kernel_rfl
theorem ng11 : ((rests.map fun b => Str.ofString "abw" ++ b).all gN) = true := by decide +kernel
theorem al11 : (litN11.all fun a => litH.all fun h => okF a h) = true := by decide +kernel
theorem hl0 : (hosts2.map fun b => Str.ofString "w" ++ b).map hf = litH0 := by kernel_rfl
theorem hg0 : ((hosts2.map fun b => Str.ofString "w" ++ b).all gH) = true := by decide +kernel
theorem hl1 : (hosts2.map fun b => Str.ofString "ww" ++ b).map hf = litH1 := by kernel_rfl
theorem hg1 : ((hosts2.map fun b => Str.ofString "ww" ++ b).all gH) = true := by decide +kernel
theorem hl2 : (hosts2.map fun b => Str.ofString "www" ++ b).map hf = litH2 := by kernel_rfl
theorem hg2 : ((hosts2.map fun b => Str.ofString "www" ++ b).all gH) = true := by decide +kernel
theorem hl3 : (hosts2.map fun b => Str.ofString "xn--ab" ++ b).map hf = litH3 := by kernel_rfl
theorem hg3 : ((hosts2.map fun b => Str.ofString "xn--ab" ++ b).all gH) = true := by decide +kernel
theorem hl4 : (hosts2.map fun b => Str.ofString "abw" ++ b).map hf = litH4 := by kernel_rfl
theorem hg4 : ((hosts2.map fun b => Str.ofString "abw" ++ b).all gH) = true := by decide +kernel
theorem hl5 : (hosts2.map fun b => Str.ofString "x" ++ b).map hf = litH5 := by kernel_rfl
theorem hg5 : ((hosts2.map fun b => Str.ofString "x" ++ b).all gH) = true := by decide +kernel
theorem hl6 : (hosts2.map fun b => Str.ofString "wAw" ++ b).map hf = litH6 := by kernel_rfl
theorem hg6 : ((hosts2.map fun b => Str.ofString "wAw" ++ b).all gH) = true := by decide +kernel
theorem hl7 : (hosts2.map fun b => Str.ofString "" ++ b).map hf = litH7 := by kernel_rfl
theorem hg7 : ((hosts2.map fun b => Str.ofString "" ++ b).all gH) = true := by decide +kernel
theorem namesLit : namesL.map nf = litN := by
  simp only [namesL, firsts, List.flatMap_cons, List.flatMap_nil, List.map_append, List.map_nil, nl0, nl1, nl2, nl3, nl4, nl5, nl6, nl7, nl8, nl9, nl10, nl11, litN]
theorem hostsLit : hostsL.map hf = litH := by
  simp only [hostsL, hosts1, List.flatMap_cons, List.flatMap_nil, List.map_append, List.map_nil, hl0, hl1, hl2, hl3, hl4, hl5, hl6, hl7, litH]
theorem namesG : (namesL.all gN) = true := by
  simp only [namesL, firsts, List.flatMap_cons, List.flatMap_nil, List.all_append, List.all_nil, ng0, ng1, ng2, ng3, ng4, ng5, ng6, ng7, ng8, ng9, ng10, ng11, Bool.and_self]
theorem hostsG : (hostsL.all gH) = true := by
  simp only [hostsL, hosts1, List.flatMap_cons, List.flatMap_nil, List.all_append, List.all_nil, hg0, hg1, hg2, hg3, hg4, hg5, hg6, hg7, Bool.and_self]
theorem allF : (litN.all fun a => litH.all fun h => okF a h) = true := by
  simp only [litN, List.all_append, List.all_nil, al0, al1, al2, al3, al4, al5, al6, al7, al8, al9, al10, al11, Bool.and_self]
theorem plain {n h : Str} (hn : n ∈ namesL) (hh : h ∈ hostsL) : okp n h = true := by
  refine okp_F n h ?_
  have e1 : nf n ∈ litN := namesLit ▸ List.mem_map_of_mem hn
  have e2 : hf h ∈ litH := hostsLit ▸ List.mem_map_of_mem hh
  exact List.all_eq_true.mp (List.all_eq_true.mp allF _ e1) _ e2

theorem okp_out {n h : Str} (e : okp n h = true) : (dnm n h = none ∧ fitv n h = Str.ofString "many") ∨ (dnm n h = some true ∧ fitv n h = Str.ofString "yes") ∨ (dnm n h = some false ∧ fitv n h = Str.ofString "no") := by
  unfold okp at e
  revert e
  cases dnm n h with
  | none => intro e; exact .inl ⟨rfl, eq_of_beq e⟩
  | some b =>
    cases b with
    | true => intro e; exact .inr (.inl ⟨rfl, eq_of_beq e⟩)
    | false => intro e; exact .inr (.inr ⟨rfl, eq_of_beq e⟩)
theorem w1 : (Str.ofString "yes" == Str.ofString "many") = false := by decide +kernel
theorem w2 : (Str.ofString "no" == Str.ofString "many") = false := by decide +kernel
theorem w3 : (Str.ofString "no" == Str.ofString "yes") = false := by decide +kernel
def yn (o : Option Bool) : Option Str := o.map fun b => if b = true then Str.ofString "fine" else Str.ofString "refused"
theorem due_scan {h : Str} (hh : h ∈ hostsL) : ∀ {ps : List (Str × Str)}, (∀ p ∈ ps, p.2 ∈ namesL) → dueScan h ps = yn (mScan h ps)
  | [], _ => rfl
  | p :: r, hp => by
    have ih := due_scan hh (ps := r) fun q hq => hp q (List.mem_cons_of_mem _ hq)
    rw [dueScan, mScan]
    by_cases c : (p.1 == Str.ofString "DNS") = true
    · rw [if_pos c, if_pos c]
      rcases okp_out (plain (hp p List.mem_cons_self) hh) with ⟨e1, e2⟩ | ⟨e1, e2⟩ | ⟨e1, e2⟩
      · rw [e1, e2]; simp [yn]
      · rw [e1, e2, w1]; simp [yn]
      · rw [e1, e2, w2, w3]; simpa using ih
    · rw [if_neg c, if_neg c]; exact ih
theorem com_scan {h : Str} (hh : h ∈ hostsL) : ∀ {cs : List Str}, (∀ n ∈ cs, n ∈ namesL) → comScan h cs = yn (mcScan h cs)
  | [], _ => rfl
  | p :: r, hp => by
    have ih := com_scan hh (cs := r) fun q hq => hp q (List.mem_cons_of_mem _ hq)
    rw [comScan, mcScan]
    rcases okp_out (plain (hp p List.mem_cons_self) hh) with ⟨e1, e2⟩ | ⟨e1, e2⟩ | ⟨e1, e2⟩
    · rw [e1, e2]; simp [yn]
    · rw [e1, e2, w1]; simp [yn]
    · rw [e1, e2, w2, w3]; simpa using ih
theorem seen_dns (ps : List (Str × Str)) : seenOf ps = 0 ↔ dnsOf ps = [] := by
  unfold seenOf dnsOf
  have e : (fun p : Str × Str => seenIs p.1) = fun p => isDns p.1 := by
    funext p
    unfold seenIs isDns
    simp only [List.any_cons, List.any_nil, Bool.or_false]
    rw [Bool.beq_comm (a := p.1), Bool.beq_comm (a := p.1)]
  rw [e]
  simp
theorem due_mh {ps : List (Str × Str)} {cs : List Str} {h : Str} {asks : Bool} (hh : h ∈ hostsL) (hp : ∀ p ∈ ps, p.2 ∈ namesL) (hc : ∀ n ∈ cs, n ∈ namesL) :
    due ps cs h asks = if mh ps cs h asks = true then Str.ofString "fine" else Str.ofString "refused" := by
  unfold due mh
  rw [due_scan hh hp]
  cases mScan h ps with
  | some b => cases b <;> simp [yn]
  | none =>
    simp only [yn, Option.map_none]
    by_cases k : asks = true ∧ seenOf ps = 0
    · have k2 : asks = true ∧ dnsOf ps = [] := ⟨k.1, (seen_dns ps).mp k.2⟩
      rw [if_pos k, if_pos k2, com_scan hh hc]
      cases mcScan h cs with
      | some b => cases b <;> simp [yn]
      | none => simp [yn]
    · have k2 : ¬ (asks = true ∧ dnsOf ps = []) := fun q => k ⟨q.1, (seen_dns ps).mpr q.2⟩
      rw [if_neg k, if_neg k2]; simp
end

section
section
variable {prog : Program} {w : World} {A : Around} {E : Value → Shared → Prop} {s : Shared} {env : Env} {h₀ : Heap} {target : Expr} {body : List Stmt} {Q : Flow → Shared → Prop}
def TEndG (h₀ : Heap) (L I ax W : Addr) (it o₀ : Obj) (stored : List Str) (m₀ : Str → Option Value) (G : List Value → Prop) (s s₂ : Shared) : Prop :=
  ∃ h' tk m' vs k, s₂ = { s with heap := h', toks := tk } ∧ Fr h₀ L h' m' ∧ News h₀ L h' [(I, it), (ax, o₀), (W, listOf (List.toArray vs) k)] ∧ (∀ y, stored.contains y = false → m' y = m₀ y) ∧ G vs
def TPostG (h₀ : Heap) (L I ax W : Addr) (it o₀ : Obj) (stored : List Str) (m₀ : Str → Option Value) (G : List Value → Prop) (s : Shared) (Q : Flow → Shared → Prop) (f : Flow) (s₂ : Shared) : Prop :=
  match f with
  | .ret v => Q (.ret v) s₂
  | .brk => Q .next s₂
  | _ => TEndG h₀ L I ax W it o₀ stored m₀ G s s₂
theorem TEndG.intro {L I ax W : Addr} {it o₀ : Obj} {stored : List Str} {m₀ : Str → Option Value} {G : List Value → Prop} {s : Shared} {h' : Heap} {tk : Nat} {m' : Str → Option Value} {vs : List Value} {k : Nat} (F : Fr h₀ L h' m') (N : News h₀ L h' [(I, it), (ax, o₀), (W, listOf vs.toArray k)])
    (hm : ∀ y, stored.contains y = false → m' y = m₀ y) (r : G vs) : TEndG h₀ L I ax W it o₀ stored m₀ G s { s with heap := h', toks := tk } :=
  ⟨h', tk, m', vs, k, rfl, F, N, hm, r⟩
theorem loop_listG {ax W : Addr} {items : Array Value} {k₀ kk : Nat} {m₀ : Str → Option Value} {vs₀ : List Value} (stored : List Str) (G : Nat → List Value → Prop) (hh : A.handled = none) (F : Fr h₀ env.locals s.heap m₀)
    (N : News h₀ env.locals s.heap [(ax, listOf items kk), (W, listOf vs₀.toArray k₀)]) (h0 : G 0 vs₀)
    (turn : ∀ i v (u : Str → Option Value) vs k h tk I it, i < items.size → items[i]? = some v → G i vs → @Ne Nat W I → @Ne Nat ax I → Fr h₀ env.locals h (fun y => if stored.contains y = true then u y else m₀ y) → News h₀ env.locals h [(I, it), (ax, listOf items kk), (W, listOf vs.toArray k)] →
      wpAny (model prog w) A (assign target env v) (fun _ s₃ => wpAny (model prog w) A (execs body env) (TPostG h₀ env.locals I ax W it (listOf items kk) stored m₀ (G (i + 1)) { s with heap := h, toks := tk } Q) E s₃) E { s with heap := h, toks := tk })
    (done : ∀ (u : Str → Option Value) vs k h tk, G items.size vs → Fr h₀ env.locals h (fun y => if stored.contains y = true then u y else m₀ y) → News h₀ env.locals h [(W, listOf vs.toArray k)] → Q .next { s with heap := h, toks := tk }) :
    wpAny (model prog w) A (pyIter (.ref ax)) (fun it s₂ => TurnsAt prog w A h₀ env target body Q E it s₂) E s := by
  have hax := (N _ List.mem_cons_self).1
  have haxL := (N _ List.mem_cons_self).2.1
  have hl : s.heap.IsList ax items := ⟨_, hax, rfl, _, rfl⟩
  have hne : ax ≠ s.heap.objs.size := Nat.ne_of_lt (Heap.lt_size hax)
  have hWne : W ≠ s.heap.objs.size := Nat.ne_of_lt (Heap.lt_size (N (W, listOf vs₀.toArray k₀) (by simp)).1)
  have hI0 : h₀.get? s.heap.objs.size = none := next_is_new F
  refine wpAny_pyIter_list hl ?_
  refine ⟨s.heap.objs.size, [s.heap.objs.size, ax], [s.heap.objs.size], items.size, _, _, _, m₀, _, (fun i m nw => (∀ y, stored.contains y = false → m y = m₀ y) ∧ ∃ vs k, nw = [(ax, listOf items kk), (W, listOf (List.toArray vs) k)] ∧ G i vs), rfl, (KTurns.ofWalks (Walks.list hh s.heap.objs.size ax hne items) fun i v s Q E st q => letGo_listiter st.1 q), ?_, ?_, ?_, ⟨⟨_, Heap.get?_push_size _ rfl, rfl, rfl⟩, hl.at fun o e => Heap.get?_push_of_some _ e⟩, (F.push _), (fun p hp => ⟨Heap.get?_push_of_some _ (N p hp).1, (N p hp).2⟩), ⟨fun _ _ => rfl, vs₀, k₀, rfl, h0⟩, ?_, ?_⟩
  · intro hmem
    rcases List.mem_cons.mp hmem with e | hmem
    · exact absurd F.ns.lt (e ▸ Nat.lt_irrefl _)
    · exact haxL (List.mem_singleton.mp hmem).symm
  · intro b hb; rw [List.mem_singleton.mp hb]; exact hI0
  · intro p hp hb
    have e := List.mem_singleton.mp hb
    exact absurd (Heap.lt_size (N p hp).1) (e ▸ Nat.lt_irrefl _)
  · rintro i v m₁ news₁ h tk own hi hP ⟨hm₁, vs, k, rfl, hG⟩ hoff hown hget hall hst₁ F₁ N₁
    obtain ⟨it, hit', _⟩ := hst₁.1
    have hmem := hall s.heap.objs.size List.mem_cons_self hI0 it hit'
    have N₂ : News h₀ env.locals h [(s.heap.objs.size, it), (ax, listOf items kk), (W, listOf vs.toArray k)] := fun p hp => by
      rcases List.mem_cons.mp hp with rfl | hp
      · exact N₁ _ (List.mem_append_left _ hmem)
      · exact N₁ _ (List.mem_append_right _ hp)
    rw [upto_fun hm₁] at F₁
    have fin : ∀ s₃, TEndG h₀ env.locals s.heap.objs.size ax W it (listOf items kk) stored m₀ (G (i + 1)) { s with heap := h, toks := tk } s₃ → LoopStepU h₀ env.locals [s.heap.objs.size] own (fun m nw => (∀ y, stored.contains y = false → m y = m₀ y) ∧ ∃ vs k, nw = [(ax, listOf items kk), (W, listOf (List.toArray vs) k)] ∧ G (i + 1) vs) { s with heap := h, toks := tk } .next s₃ := by
      rintro s₃ ⟨h', tk', m', vs', k', e, F', N', hm', hg⟩
      refine ⟨rfl, h', tk', m', [(ax, listOf items kk), (W, listOf vs'.toArray k')], e, F', fun p hp => ?_, fun p hp hb => ?_, hm', vs', k', rfl, hg⟩
      · rcases List.mem_append.mp hp with hp | hp
        · have h2 : h.get? p.1 = some p.2 := hget p hp
          rcases List.mem_cons.mp (hown p hp) with e | e
          · rw [e, hit'] at h2
            have : p = (s.heap.objs.size, it) := Prod.ext e (Option.some.inj h2).symm
            rw [this]; exact N' _ (by simp)
          · have e := List.mem_singleton.mp e
            rw [e, (N₁ (ax, listOf items kk) (List.mem_append_right _ (by simp))).1] at h2
            have : p = (ax, listOf items kk) := Prod.ext e (Option.some.inj h2).symm
            rw [this]; exact N' _ (by simp)
        · exact N' _ (List.mem_cons_of_mem _ hp)
      · have e := List.mem_singleton.mp hb
        simp only [List.mem_cons, List.mem_nil_iff, or_false] at hp
        rcases hp with rfl | rfl
        · exact hne e
        · exact hWne e
    refine wpAny_mono (turn i v m₁ vs k h tk s.heap.objs.size it hi hP hG hWne hne F₁ N₂) (fun _ s₂ h₂ => wpAny_mono h₂ (fun f s₃ q => ?_) fun _ _ e => e) fun _ _ e => e
    cases f with
    | ret v => exact .ret q
    | brk => exact .brk q
    | next => exact .next (fin _ q)
    | cont => exact .cont (fin _ q)
  · rintro h' tk m' news' F' N' _ ⟨hm', vs, k, rfl, hG⟩
    rw [upto_fun hm'] at F'
    exact done m' vs k h' tk hG F' fun p hp => N' p (List.mem_cons_of_mem _ hp)
end
theorem news5 {h₀ h : Heap} {L : Addr} {a b c d e : Addr × Obj} (N : News h₀ L h [a, b, c, d, e]) : News h₀ L h [a, e] := fun p hp => N p (by
  simp only [List.mem_cons, List.mem_nil_iff, or_false] at hp ⊢
  rcases hp with h | h <;> simp [h])
def Small (ds : List Int) : Prop := ∀ d ∈ ds, 0 ≤ d ∧ d < 4096
theorem small_nil : Small [] := fun _ h => nomatch h
theorem Small.snoc {ds : List Int} {c : Int} (h : Small ds) (h1 : 0 ≤ c) (h2 : c < 4096) : Small (ds ++ [c]) := fun d hd => by
  rcases List.mem_append.mp hd with k | k
  · exact h d k
  · rw [List.mem_singleton.mp k]; exact ⟨h1, h2⟩
theorem ints_snoc {vs : List Value} {xs : List Int} {c : Int} {t : Tok} (h : IntsAre vs xs) : IntsAre (vs ++ [.int c t]) (xs ++ [c]) := by
  induction h with
  | nil => exact .cons _ _ .nil
  | cons n t h ih => exact .cons _ _ ih
section
variable {prog : Program} {w : World} {A : Around} {E : Value → Shared → Prop} {s : Shared} {h₀ : Heap} {L D : Addr} {m : PySem.Str → Option Value} {news news' : List (Addr × Obj)} {vs : List Value} {xs : List Int} {n : Nat} {c : Int} {t : Tok} {Q : Value → Shared → Prop}
theorem append_I (F : Fr h₀ L s.heap m) (N : News h₀ L s.heap news) (hv : IntsAre vs xs) (hb : xs.length ≤ 1000000) (U : Upd D (listOf vs.toArray n) (listOf (vs ++ [Value.int c t]).toArray (n + 1)) news news')
    (h : ∀ h', Fr h₀ L h' m → News h₀ L h' news' → IntsAre (vs ++ [Value.int c t]) (xs ++ [c]) → Q .none { s with heap := h' }) : wpAny (model prog w) A (call (.builtin "list.append") [.ref D, Value.int c t]) Q E s := by
  have e : listOf (vs.toArray.push (Value.int c t)) (n + 1) = listOf (vs ++ [Value.int c t]).toArray (n + 1) := by rw [List.push_toArray]
  exact append_K F N (e ▸ U) (fun h' F' N' => h h' F' N' (ints_snoc hv)) (by rw [List.size_toArray, hv.length, sizeLine_eq]; omega)
end
end

section
local macro_rules | `(tactic| walk_at "no such step") => `(tactic| fail)
local macro_rules | `(tactic| walk_at "no such step") => `(tactic| fail)
local macro_rules | `(tactic| walk_at "no such step") => `(tactic| fail)
local macro_rules | `(tactic| walk_at "no such step") => `(tactic| fail)
local macro_rules | `(tactic| walk_at "no such step") => `(tactic| fail)
local macro_rules | `(tactic| walk_at "exec For Name BinOp cons nil") => `(tactic| (k_here; refine Mine.stop ?_))
local macro_rules | `(tactic| walk_at "pyIter ref") => `(tactic| (k_here; (with_reducible show wpAny _ _ (pyIter (Value.ref _)) (fun it s₂ => TurnsAt _ _ _ _ _ (PySem.Expr.Name ("number" : PySem.Str) _) _ _ _ it s₂) _ _); refine Mine.stop ?_))
local macro_rules | `(tactic| walk_at "call builtin:list.append") => `(tactic| (k_here; (with_reducible show wpAny _ _ (call (Value.builtin _) [Value.ref _, Value.int _ _]) _ _ _); k_dflt (refine' Mine.append_I (by k_asm) (by k_asm) (by assumption) (by first | omega | (simp only [List.length_append, List.length_cons, List.length_nil]; omega)) (by k_upd) (fun h' F' N' hv' => ?_)); (try k_sweep)))

def DigP (ax : Addr) (vs : List Value) (xs : List Int) (h : Heap) : Prop := h.IsList ax vs.toArray ∧ IntsAre vs xs
def DigR (h h' : Heap) (v : Value) : Prop := ∃ D ys ds k, v = .ref D ∧ h.get? D = none ∧ h'.get? D = some (listOf (List.toArray ys) k) ∧ IntsAre ys ds ∧ Small ds ∧ 4 ≤ ds.length ∧ ds.length ≤ 52
set_option maxHeartbeats 8000000 in
theorem ct_digits (w : World) (mean : ExcName → Option Value) (mg mb : Str → Option Value) (ax : Addr) (vs : List Value) (xs : List Int) (hl : xs.length ≤ 63) (hly : ∀ x ∈ xs, PyData.layable0 (.int x) = true) :
    Ct w mean mg mb 500 2000 46 [.ref ax] (DigP ax vs xs) DigR NoEx := by
  unfold Ct
  w_top off
  k_fill
  intro A base outer s Q E hh hd hu B X T hP hret hex
  obtain ⟨hL, hI⟩ := hP
  refine depth_le (d := 500) (u := 2000) ?_ hd hu
  obtain ⟨hA, dA, fA, gA, uA⟩ := A
  dsimp only at *
  subst hh
  have hfA : fA = some outer := B.stack
  subst hfA
  have B1 : Below { handled := none, depth := 500, frames := some outer, guards := gA, units := 2000 } base outer s.heap := ⟨rfl, B.stays, B.frames⟩
  clear B hd hu
  refine wpAny_call ?_
  k_dflt (refine' enter0 (binds := [(Str.ofString "script", .ref ax)]) B1 X T ?k6 ?k7 ?k8 ?k9 ?kB ?_ ?c2 ?c3 ?c4 ?c5; (case k6 => k_is); (case k7 => k_is); (case k8 => k_room); (case k9 => exact BindsTo.of_eq rfl); (case c5 => decide); (case kB => exact locs rfl); (case c2 => exact rfl); (case c3 => exact rfl); (case c4 => exact rfl); k_whole; intro L' h' F' N')
  k_steps
  refine Mine.Stop.mk ?_
  refine For_turns (by assumption) ?_
  k_steps
  refine Mine.Stop.mk ?_
  rename IntsAre _ (List.take 12 xs ++ [5]) => hZ
  rename News _ _ _ _ => hN
  refine loop_listG [Str.ofString "number", Str.ofString "rest", Str.ofString "k"] (fun i vs => ∃ ds, IntsAre vs ds ∧ Small ds ∧ ds.length = 4 * i) rfl (by assumption) (vs₀ := []) (news5 hN) ⟨[], .nil, small_nil, rfl⟩ ?_ ?_
  · intro i v u vs1 k1 h1 tk1 I1 it1 hi1 hv1 hG hne1 hne2 F1 N1
    obtain ⟨ds, hds, hsm, hlen⟩ := hG
    have hz := hZ.length
    have hii : i < 13 := by
      have : i < _ := hi1
      simp only [List.size_toArray, hz, List.length_append, List.length_take, List.length_cons, List.length_nil] at this
      omega
    obtain ⟨n, t, rfl, hn⟩ := hZ.at i v (by simpa using hv1)
    have hly1 : PyData.layable0 (.int n) = true := by
      rcases List.mem_append.mp (List.mem_of_getElem? hn) with h | h
      · exact hly n (List.mem_of_mem_take h)
      · rw [List.mem_singleton.mp h]; decide +kernel
    have hb1 : ds.length ≤ 52 := by omega
    clear hly hI hL hZ hN
    k_sweep
    (try dsimp only)
    k_steps
    all_goals (try dsimp only)
    refine TEndG.intro (by assumption) (by rename News _ _ _ _ => hN; exact hN) ?_ ⟨_, by assumption, (((hsm.snoc (fmod_lo _ (by decide)) (fmod_hi _ (by decide))).snoc (fmod_lo _ (by decide)) (fmod_hi _ (by decide))).snoc (fmod_lo _ (by decide)) (fmod_hi _ (by decide))).snoc (fmod_lo _ (by decide)) (fmod_hi _ (by decide)), by simp only [List.length_append, List.length_cons, List.length_nil]; omega⟩
    (intro y hy2; have a0 := ne_of_contains (x := Str.ofString "number") (by simp) hy2; have a1 := ne_of_contains (x := Str.ofString "rest") (by simp) hy2; have a2 := ne_of_contains (x := Str.ofString "k") (by simp) hy2; simp [a0, a1, a2])
  · intro u vs2 k2 h2 tk2 hG F2 N2
    obtain ⟨ds, hds, hsm, hlen⟩ := hG
    k_sweep
    (try dsimp only)
    k_steps
    all_goals (try dsimp only)
    have hz := hZ.length
    have hl5 : ds.length = 4 * min 12 xs.length + 4 := by
      rw [hlen, List.size_toArray, hz, List.length_append, List.length_take]
      simp only [List.length_cons, List.length_nil]; omega
    exact hret _ _ _ (Fr.keep (by assumption)) ⟨_, _, ds, _, rfl, (N2 _ List.mem_cons_self).2.2, (N2 _ List.mem_cons_self).1, hds, hsm, by omega, by omega⟩
end

section
theorem allNe_new {h₀ h : Heap} {L : Addr} {D : Addr} {news : List (Addr × Obj)} (N : News h₀ L h news) (e : h.get? D = none) : AllNe D news :=
  AllNe.of fun p hp q => by
    have := (N p hp).1
    rw [q, e] at this; cases this
theorem use_dig {w : World} {mean : ExcName → Option Value} {mg mb : Str → Option Value} {ax : Addr} {vs : List Value} {xs : List Int} (hl : xs.length ≤ 63) (hly : ∀ x ∈ xs, PyData.layable0 (.int x) = true)
    {A A₀ : Around} {base h₀ : Heap} {outer : List Env} {env : Env} {s : Shared} {L : Addr} {m : Str → Option Value} {news : List (Addr × Obj)} {Q E : Value → Shared → Prop}
    (B : Below A₀ base outer h₀) (F : Fr h₀ L s.heap m) (X : (Mine.hd.heap_39 w.params).In h₀) (N : News h₀ L s.heap news) (T : Top Mine.hd.view_39 (looseW Mine.hd.view_39 [Str.ofString "_dnsname_match", Str.ofString "match_hostname"]) mean mg mb h₀) (hP : h₀.IsList ax vs.toArray) (hI : IntsAre vs xs)
    (hA : A.frames = some (env :: outer)) (hf : env.frame = some L) (hke : env.scope.kind = .function) (hh : A.handled = none) (hd : A.depth ≤ 400) (hu : A.units ≤ 1000)
    (k : ∀ D ys ds kk h' tk', Fr h₀ L h' m → News h₀ L h' ((D, listOf (List.toArray ys) kk) :: news) → AllNe D news → IntsAre ys ds → Small ds → 4 ≤ ds.length → ds.length ≤ 52 → Q (.ref D) { s with heap := h', toks := tk' }) :
    wpAny (model PySem.Challenge.rw_ew0040_01.row.prog w) A (call (.ref 46) [.ref ax]) Q E s := by
  refine Ct.use (ct_digits w mean mg mb ax vs xs hl hly) B F X N T hA hf hke hh (Nat.le_trans hd (by decide)) (Nat.le_trans hu (by decide)) ⟨hP.at fun o e => F.keep _ _ e, hI⟩ ?_
  rintro v h' tk' F' N' st ⟨D, ys, ds, kk, rfl, e1, e2, i1, i2, i3, i4⟩
  exact k D ys ds kk h' tk' F' (news_fresh F N st e1 e2) (allNe_new N e1) i1 i2 i3 i4
theorem led_list {h₀ h : Heap} {L D : Addr} {news : List (Addr × Obj)} {vs : List Value} {k : Nat} (N : News h₀ L h news) (hb : (D, listOf vs.toArray k) ∈ news) : h.IsList D vs.toArray := ⟨_, (N _ hb).1, rfl, _, rfl⟩
theorem use_at {w : World} {mean : ExcName → Option Value} {mg mb : Str → Option Value} {l : Addr} {vs : List Value} {ds : List Int} {i : Int} {t : Tok} {kk : Nat}
    {A A₀ : Around} {base h₀ : Heap} {outer : List Env} {env : Env} {s : Shared} {L : Addr} {m : Str → Option Value} {news : List (Addr × Obj)} {Q E : Value → Shared → Prop}
    (B : Below A₀ base outer h₀) (F : Fr h₀ L s.heap m) (X : (Mine.hd.heap_39 w.params).In h₀) (N : News h₀ L s.heap news) (T : Top Mine.hd.view_39 (looseW Mine.hd.view_39 [Str.ofString "_dnsname_match", Str.ofString "match_hostname"]) mean mg mb h₀) (hb : (l, listOf vs.toArray kk) ∈ news) (hI : IntsAre vs ds) (hS : Small ds) (h4 : 4 ≤ ds.length) (h5 : ds.length ≤ 52)
    (hA : A.frames = some (env :: outer)) (hf : env.frame = some L) (hke : env.scope.kind = .function) (hh : A.handled = none) (hd : A.depth ≤ 400) (hu : A.units ≤ 1000)
    (k : ∀ d t' h' tk', Fr h₀ L h' m → News h₀ L h' news → 0 ≤ d → d < 4096 → Q (.int d t') { s with heap := h', toks := tk' }) :
    wpAny (model PySem.Challenge.rw_ew0040_01.row.prog w) A (call (.ref 53) [.ref l, .int i t]) Q E s := by
  refine Ct.use (ct_at w mean mg mb l vs i t ds (by omega) (by omega) hS) B F X N T hA hf hke hh (Nat.le_trans hd (by decide)) (Nat.le_trans hu (by decide)) ⟨led_list N hb, hI⟩ ?_
  rintro v h' tk' F' N' st ⟨d, t', h1, h2, rfl⟩
  exact k d t' h' tk' F' N' h1 h2
theorem use_pick {w : World} {mean : ExcName → Option Value} {mg mb : Str → Option Value} {l th : Addr} {vs us : List Value} {ds : List Int} {xs : List Str} {i : Int} {t : Tok} {kk k2 : Nat}
    {A A₀ : Around} {base h₀ : Heap} {outer : List Env} {env : Env} {s : Shared} {L : Addr} {m : Str → Option Value} {news : List (Addr × Obj)} {Q E : Value → Shared → Prop}
    (B : Below A₀ base outer h₀) (F : Fr h₀ L s.heap m) (X : (Mine.hd.heap_39 w.params).In h₀) (N : News h₀ L s.heap news) (T : Top Mine.hd.view_39 (looseW Mine.hd.view_39 [Str.ofString "_dnsname_match", Str.ofString "match_hostname"]) mean mg mb h₀) (hb : (l, listOf vs.toArray kk) ∈ news) (hI : IntsAre vs ds) (hS : Small ds) (h4 : 4 ≤ ds.length) (h5 : ds.length ≤ 52) (hb2 : (th, listOf us.toArray k2) ∈ news) (hs : StrsAre us xs) (hx : 0 < xs.length) (hxf : xs.length < 1000)
    (hA : A.frames = some (env :: outer)) (hf : env.frame = some L) (hke : env.scope.kind = .function) (hh : A.handled = none) (hd : A.depth ≤ 400) (hu : A.units ≤ 1000)
    (k : ∀ x t' h' tk', Fr h₀ L h' m → News h₀ L h' news → x ∈ xs → Q (.str x t') { s with heap := h', toks := tk' }) :
    wpAny (model PySem.Challenge.rw_ew0040_01.row.prog w) A (call (.ref 60) [.ref l, .int i t, .ref th]) Q E s := by
  refine Ct.use (ct_pick w mean mg mb l th vs us xs i t hx hxf ds (by omega) (by omega) hS) B F X N T hA hf hke hh (Nat.le_trans hd (by decide)) (Nat.le_trans hu (by decide)) ⟨led_list N hb, hI, led_list N hb2, hs⟩ ?_
  rintro v h' tk' F' N' st ⟨x, t', h1, rfl⟩
  exact k x t' h' tk' F' N' h1
end

section
section
variable {prog : Program} {w : World} {A : Around} {E : Value → Shared → Prop} {s : Shared} {env : Env} {h₀ : Heap} {target : Expr} {body : List Stmt} {Q : Flow → Shared → Prop}
def TEndP (h₀ : Heap) (L I W : Addr) (it : Obj) (R tups : List (Addr × Obj)) (stored : List Str) (m₀ : Str → Option Value) (K : List Value → List (Addr × Obj) → Prop) (s s₂ : Shared) : Prop :=
  ∃ h' tk m' a o vs k, s₂ = { s with heap := h', toks := tk } ∧ Fr h₀ L h' m' ∧ News h₀ L h' ((a, o) :: (I, it) :: (W, listOf (List.toArray vs) k) :: (R ++ tups)) ∧ @Ne Nat a I ∧ @Ne Nat a W ∧ (∀ y, stored.contains y = false → m' y = m₀ y) ∧ K vs ((a, o) :: tups)
def TPostP (h₀ : Heap) (L I W : Addr) (it : Obj) (R tups : List (Addr × Obj)) (stored : List Str) (m₀ : Str → Option Value) (K : List Value → List (Addr × Obj) → Prop) (s : Shared) (Q : Flow → Shared → Prop) (f : Flow) (s₂ : Shared) : Prop :=
  match f with
  | .ret v => Q (.ret v) s₂
  | .brk => Q .next s₂
  | _ => TEndP h₀ L I W it R tups stored m₀ K s s₂
theorem TEndP.intro {L I W : Addr} {it : Obj} {R tups : List (Addr × Obj)} {stored : List Str} {m₀ : Str → Option Value} {K : List Value → List (Addr × Obj) → Prop} {s : Shared} {h' : Heap} {tk : Nat} {m' : Str → Option Value} {a : Addr} {o : Obj} {vs : List Value} {k : Nat} (F : Fr h₀ L h' m') (N : News h₀ L h' ((a, o) :: (I, it) :: (W, listOf (List.toArray vs) k) :: (R ++ tups)))
    (h1 : @Ne Nat a I) (h2 : @Ne Nat a W) (hm : ∀ y, stored.contains y = false → m' y = m₀ y) (r : K vs ((a, o) :: tups)) : TEndP h₀ L I W it R tups stored m₀ K s { s with heap := h', toks := tk } :=
  ⟨h', tk, m', a, o, vs, k, rfl, F, N, h1, h2, hm, r⟩
theorem news_drop2 {L : Addr} {a b : Addr × Obj} {r : List (Addr × Obj)} {h : Heap} (N : News h₀ L h (a :: b :: r)) : News h₀ L h (a :: r) := fun p hp => N p (by
  rcases List.mem_cons.mp hp with e | hp
  · exact List.mem_cons.mpr (.inl e)
  · exact List.mem_cons_of_mem _ (List.mem_cons_of_mem _ hp))
theorem loop_rangeP {x : Str} {px : Pos} {r W : Addr} {R : List (Addr × Obj)} {a b : Int} {n : Nat} {t0 u0 v0 : Tok} {m₀ : Str → Option Value} {vs₀ : List Value} {k₀ : Nat} (stored : List Str) (K : Nat → List Value → List (Addr × Obj) → Prop) (hh : A.handled = none) (hr : IsRange s.heap r a b 1 t0 u0 v0)
    (hsmall : Builtin.Range.small a b 1 = true) (hn : Builtin.Range.rangeSize a b 1 = (n : Int)) (F : Fr h₀ env.locals s.heap m₀) (N : News h₀ env.locals s.heap ((W, listOf vs₀.toArray k₀) :: R))
    (h0 : K 0 vs₀ [])
    (turn : ∀ i t (u : Str → Option Value) vs k tups h tk I it, i < n → K i vs tups → @Ne Nat W I → AllNe I R → (∀ p ∈ tups, p.1 ≠ I) → (∀ p ∈ tups, p.1 ≠ W) → Fr h₀ env.locals h (fun y => if stored.contains y = true then u y else m₀ y) → News h₀ env.locals h ((I, it) :: (W, listOf (List.toArray vs) k) :: (R ++ tups)) →
      wpAny (model prog w) A (assign (.Name x px) env (.int (a + (i : Nat)) t)) (fun _ s₃ => wpAny (model prog w) A (execs body env) (TPostP h₀ env.locals I W it R tups stored m₀ (K (i + 1)) { s with heap := h, toks := tk } Q) E s₃) E { s with heap := h, toks := tk })
    (done : ∀ (u : Str → Option Value) vs k tups h tk, K n vs tups → (∀ p ∈ tups, p.1 ≠ W) → Fr h₀ env.locals h (fun y => if stored.contains y = true then u y else m₀ y) → News h₀ env.locals h ((W, listOf (List.toArray vs) k) :: (R ++ tups)) → Q .next { s with heap := h, toks := tk }) :
    wpAny (model prog w) A (pyIter (.ref r)) (fun it s₂ => TurnsAt prog w A h₀ env (.Name x px) body Q E it s₂) E s := by
  refine loop_rangeS stored (fun i nw => ∃ vs k tups, (∀ q ∈ (W, listOf (List.toArray vs) k) :: (R ++ tups), q ∈ nw) ∧ (∀ p ∈ tups, p.1 ≠ W) ∧ K i vs tups) hh hr hsmall hn F N ⟨vs₀, k₀, [], fun q hq => by simpa using hq, (fun _ h => nomatch h), h0⟩ ?_ ?_
  · rintro i t u news₁ h tk I it hi ⟨vs, k, tups, hsub, hW, hK⟩ hne F₁ N₁
    have hne' := fun q hq => AllNe.mem hne q (hsub q hq)
    refine wpAny_mono (turn i t u vs k tups h tk I it hi hK (hne' _ List.mem_cons_self) (AllNe.of fun p hp => hne' p (List.mem_cons_of_mem _ (List.mem_append_left _ hp))) (fun p hp => hne' p (List.mem_cons_of_mem _ (List.mem_append_right _ hp))) hW F₁ (fun p hp => by
      rcases List.mem_cons.mp hp with rfl | hp
      · exact N₁ _ List.mem_cons_self
      · exact N₁ _ (List.mem_cons_of_mem _ (hsub p hp)))) (fun _ s₂ h₂ => wpAny_mono h₂ (fun f s₃ q => ?_) fun _ _ e => e) fun _ _ e => e
    have fin : TEndP h₀ env.locals I W it R tups stored m₀ (K (i + 1)) { s with heap := h, toks := tk } s₃ → TEndS h₀ env.locals I it stored m₀ (fun nw => ∃ vs k tups, (∀ q ∈ (W, listOf (List.toArray vs) k) :: (R ++ tups), q ∈ nw) ∧ (∀ p ∈ tups, p.1 ≠ W) ∧ K (i + 1) vs tups) { s with heap := h, toks := tk } s₃ := by
      rintro ⟨h', tk', m', a, o, vs', k', rfl, F', N', h1, h2, hm', hK'⟩
      refine ⟨h', tk', m', (a, o) :: (W, listOf vs'.toArray k') :: (R ++ tups), rfl, F', news_swap N', AllNe.of fun p hp => ?_, hm', vs', k', (a, o) :: tups, fun q hq => ?_, fun p hp => ?_, hK'⟩
      · rcases List.mem_cons.mp hp with rfl | hp
        · exact h1
        · rcases List.mem_cons.mp hp with rfl | hp
          · exact hne' (W, listOf vs.toArray k) List.mem_cons_self
          · exact hne' p (List.mem_cons_of_mem _ hp)
      · rcases List.mem_cons.mp hq with rfl | hq
        · simp
        · rcases List.mem_append.mp hq with hq | hq
          · exact List.mem_cons_of_mem _ (List.mem_cons_of_mem _ (List.mem_append_left _ hq))
          · rcases List.mem_cons.mp hq with rfl | hq
            · exact List.mem_cons_self
            · exact List.mem_cons_of_mem _ (List.mem_cons_of_mem _ (List.mem_append_right _ hq))
      · rcases List.mem_cons.mp hp with rfl | hp
        · exact h2
        · exact hW p hp
    cases f with
    | ret v => exact q
    | brk => exact q
    | next => exact fin q
    | cont => exact fin q
  · rintro u news₁ h tk ⟨vs, k, tups, hsub, hW, hK⟩ F₁ N₁
    exact done u vs k tups h tk hK hW F₁ (fun p hp => N₁ p (hsub p hp))
end
def pairObj (k n : Str) (t u : Tok) : Obj := { cls := .type "tuple", data := .seq #[.str k t, .str n u] 2 }
/-- pairs of texts that stand in the ledger's tail. -/
def PairsIn (tups : List (Addr × Obj)) (vs : List Value) (ps : List (Str × Str)) : Prop :=
  vs.length = ps.length ∧ ∀ (i : Nat) (v : Value), vs[i]? = some v → ∃ k n a t u c, ps[i]? = some (k, n) ∧ v = .ref a ∧ (a, ({ cls := .type "tuple", data := .seq #[.str k t, .str n u] c } : Obj)) ∈ tups
theorem PairsIn.nil {tups : List (Addr × Obj)} : PairsIn tups [] [] := ⟨rfl, fun i v h => by simp at h⟩
theorem PairsIn.snoc {tups : List (Addr × Obj)} {vs : List Value} {ps : List (Str × Str)} (x : PairsIn tups vs ps) {a : Addr} {k n : Str} {t u : Tok} {c : Nat} :
    PairsIn ((a, ({ cls := .type "tuple", data := .seq #[.str k t, .str n u] c } : Obj)) :: tups) (vs ++ [.ref a]) (ps ++ [(k, n)]) := by
  refine ⟨by simp [x.1], fun i v h => ?_⟩
  by_cases hi : i < vs.length
  · rw [List.getElem?_append_left hi] at h
    obtain ⟨k', n', a', t', u', c', h1, h2, h3⟩ := x.2 i v h
    exact ⟨k', n', a', t', u', c', by rw [List.getElem?_append_left (by rw [← x.1]; exact hi)]; exact h1, h2, List.mem_cons_of_mem _ h3⟩
  · rw [List.getElem?_append_right (by omega)] at h
    have e : i - vs.length = 0 := by
      cases q : i - vs.length with
      | zero => rfl
      | succ j => rw [q] at h; simp at h
    rw [e] at h
    have e2 : i = ps.length := by have := x.1; omega
    refine ⟨k, n, a, t, u, c, by rw [e2]; simp, by simpa using h.symm, List.mem_cons_self⟩
theorem PairsIn.are {h₀ h : Heap} {L : Addr} {tups news : List (Addr × Obj)} {vs : List Value} {ps : List (Str × Str)} (x : PairsIn tups vs ps) (N : News h₀ L h news) (sub : ∀ q ∈ tups, q ∈ news) : PairsAre h vs ps :=
  ⟨x.1, fun i v e => by
    obtain ⟨k, n, a, t, u, c, h1, h2, h3⟩ := x.2 i v e
    exact ⟨k, n, a, t, u, h1, h2, _, (N _ (sub _ h3)).1, rfl, c, rfl⟩⟩

section
variable {prog : Program} {w : World} {A : Around} {E : Value → Shared → Prop} {s : Shared} {env : Env} {h₀ : Heap} {target : Expr} {body : List Stmt} {Q : Flow → Shared → Prop}
theorem loop_rangeQ {x : Str} {px : Pos} {r W : Addr} {R : List (Addr × Obj)} {d q : Int} {t0 u0 v0 : Tok} {m₀ : Str → Option Value} {vs₀ : List Value} {k₀ : Nat} (stored : List Str) (K : Nat → List Value → List (Addr × Obj) → Prop) (hq0 : 0 < q) (hq : q ≤ 1000) (hh : A.handled = none) (hr : IsRange s.heap r 0 (d.fmod q) 1 t0 u0 v0)
    (F : Fr h₀ env.locals s.heap m₀) (N : News h₀ env.locals s.heap ((W, listOf vs₀.toArray k₀) :: R))
    (h0 : K 0 vs₀ [])
    (turn : ∀ (i : Nat) t (u : Str → Option Value) vs k tups h tk I it, (i : Int) < q → K i vs tups → @Ne Nat W I → AllNe I R → (∀ p ∈ tups, p.1 ≠ I) → (∀ p ∈ tups, p.1 ≠ W) → Fr h₀ env.locals h (fun y => if stored.contains y = true then u y else m₀ y) → News h₀ env.locals h ((I, it) :: (W, listOf (List.toArray vs) k) :: (R ++ tups)) →
      wpAny (model prog w) A (assign (.Name x px) env (.int (0 + (i : Nat)) t)) (fun _ s₃ => wpAny (model prog w) A (execs body env) (TPostP h₀ env.locals I W it R tups stored m₀ (K (i + 1)) { s with heap := h, toks := tk } Q) E s₃) E { s with heap := h, toks := tk })
    (done : ∀ (n : Nat) (u : Str → Option Value) vs k tups h tk, (n : Int) < q → K n vs tups → (∀ p ∈ tups, p.1 ≠ W) → Fr h₀ env.locals h (fun y => if stored.contains y = true then u y else m₀ y) → News h₀ env.locals h ((W, listOf (List.toArray vs) k) :: (R ++ tups)) → Q .next { s with heap := h, toks := tk }) :
    wpAny (model prog w) A (pyIter (.ref r)) (fun it s₂ => TurnsAt prog w A h₀ env (.Name x px) body Q E it s₂) E s := by
  have h1 := fmod_lo d hq0
  have h2 := fmod_hi d hq0
  have hn : ((d.fmod q).toNat : Int) = d.fmod q := Int.toNat_of_nonneg h1
  refine loop_rangeP (n := (d.fmod q).toNat) stored K hh hr (small_one (by omega) (by omega) (by omega) (by omega)) (by rw [← hn, show (0 : Int) = ((0 : Nat) : Int) from rfl, rangeSize_nat]; omega) F N h0 (fun i t u vs k tups h tk I it hi => turn i t u vs k tups h tk I it (by omega)) (fun u vs k tups h tk => done _ u vs k tups h tk (by omega))
theorem append_A {L D : Addr} {m : PySem.Str → Option Value} {news news' : List (Addr × Obj)} {vs : List Value} {n : Nat} {x : Value} {Q : Value → Shared → Prop} (F : Fr h₀ L s.heap m) (N : News h₀ L s.heap news) (U : Upd D (listOf vs.toArray n) (listOf (vs ++ [x]).toArray (n + 1)) news news') (hb : vs.length ≤ 1000000)
    (h : ∀ h', Fr h₀ L h' m → News h₀ L h' news' → Q .none { s with heap := h' }) : wpAny (model prog w) A (call (.builtin "list.append") [.ref D, x]) Q E s := by
  have e : listOf (vs.toArray.push x) (n + 1) = listOf (vs ++ [x]).toArray (n + 1) := by rw [List.push_toArray]
  exact append_K F N (e ▸ U) (fun h' F' N' => h h' F' N') (by rw [List.size_toArray, sizeLine_eq]; omega)
end
theorem mem_names {x y : Str} (hx : x ∈ firsts) (hy : y ∈ rests) : x ++ y ∈ namesL := List.mem_flatMap.mpr ⟨x, hx, List.mem_map.mpr ⟨y, hy, rfl⟩⟩
theorem mem_hosts {x y : Str} (hx : x ∈ hosts1) (hy : y ∈ hosts2) : x ++ y ∈ hostsL := List.mem_flatMap.mpr ⟨x, hx, List.mem_map.mpr ⟨y, hy, rfl⟩⟩
theorem PairsIn.length {tups : List (Addr × Obj)} {vs : List Value} {ps : List (Str × Str)} (x : PairsIn tups vs ps) : vs.length = ps.length := x.1
def Named (ps : List (Str × Str)) : Prop := ∀ p ∈ ps, p.2 ∈ namesL
theorem Named.nil : Named [] := fun _ h => nomatch h
theorem Named.snoc {ps : List (Str × Str)} {k n : Str} (h : Named ps) (hn : n ∈ namesL) : Named (ps ++ [(k, n)]) := fun p hp => by
  rcases List.mem_append.mp hp with e | e
  · exact h p e
  · rw [List.mem_singleton.mp e]; exact hn
theorem short_pick {x : Str} {xs : List Str} (h : x ∈ xs) (hb : (xs.all fun y => decide (y.length ≤ 64)) = true) : x.length ≤ 64 := by
  simpa using List.all_eq_true.mp hb x h

section
variable {prog : Program} {w : World} {A : Around} {s : Shared} {h₀ : Heap} {L : Addr} {m : Str → Option Value} {env : Env} {elt : Expr} {x : Str} {scope : Scope} {cl : List (Str × Addr)} {Fin : List Value → List (Addr × Obj) → Prop} {news : List (Addr × Obj)} {a : Int}
theorem strs_snoc {vs : List Value} {xs : List Str} {c : Str} {t : Tok} (h : StrsAre vs xs) : StrsAre (vs ++ [.str c t]) (xs ++ [c]) := kct_snoc h
def AllIn (Pn : Str → Prop) (xs : List Str) : Prop := ∀ z ∈ xs, Pn z
theorem comp_pick (Pn : Str → Prop) (n : Nat)
    (turn : ∀ (i : Nat) t I oI C oC D m₂ ys h tk (E' : Value → Shared → Prop), i < n → LCg.NsObj oC m₂ → m₂ x = some (.int (a + (i : Int)) t) → Fr h₀ L h m → News h₀ L h ((I, oI) :: (C, oC) :: (D, LCg.lst ys) :: news) → LCg.Off3 I C D news → ((@Ne Nat I C) ∧ (@Ne Nat I D) ∧ (@Ne Nat C D)) →
      wpAny (model prog w) A (eval elt (compEnvC scope cl C env)) (LCg.CompEnd h₀ L m { s with heap := h, toks := tk } I oI C oC D (LCg.lst ys) (fun _ => True) (fun y news' => news' = news ∧ ∃ z t, Pn z ∧ y = .str z t)) E' { s with heap := h, toks := tk })
    (fin : ∀ ys xs, StrsAre ys xs → AllIn Pn xs → xs.length = n → Fin ys news) : LCg.CompRest prog w A h₀ L m env elt x scope cl s (fun _ => True) (fun i v => ∃ t, v = .int (a + (i : Int)) t) Fin n 0 [] news := by
  have key : ∀ (j i : Nat) (ys : List Value) (xs : List Str), i + j = n → StrsAre ys xs → AllIn Pn xs → xs.length = i → LCg.CompRest prog w A h₀ L m env elt x scope cl s (fun _ => True) (fun i v => ∃ t, v = .int (a + (i : Int)) t) Fin j i ys news := by
    intro j
    induction j with
    | zero =>
      intro i ys xs hij hy hp hl
      exact LCg.CompRest.zero (fin ys xs hy hp (by omega))
    | succ j ih =>
      intro i ys xs hij hy hp hl
      refine LCg.CompRest.succ ?_
      rintro v I oI C oC D m₂ h tk E' ⟨t, rfl⟩ hC hx F N off ne
      refine wpAny_mono (turn i t I oI C oC D m₂ ys h tk E' (by omega) hC hx F N off ne) (fun y s₂ hq => ?_) fun _ _ e => e
      obtain ⟨h', tk', nw, e, F', N', off', hS', hn, z, t', hz, hy'⟩ := hq
      rw [hn] at N' off'
      refine ⟨h', tk', news, e, F', N', off', trivial, ?_⟩
      rw [hy']
      refine ih (i + 1) _ (xs ++ [z]) (by omega) (strs_snoc hy) (fun q hq => ?_) (by simp [hl])
      rcases List.mem_append.mp hq with k | k
      · exact hp q k
      · rw [List.mem_singleton.mp k]; exact hz
  exact key n 0 [] [] (by omega) .nil (fun _ h => nomatch h) rfl
theorem src_range {Fin : Shared → List Value → List (Addr × Obj) → Prop} {r : Addr} {d q : Int} {t u v : Tok} {s₁ : Shared} (hq0 : 0 < q) (hq : q ≤ 1000)
    (hh : A.handled = none) (F : Fr h₀ L s₁.heap m) (N : News h₀ L s₁.heap news) (hr : IsRange s₁.heap r 0 (d.fmod q) 1 t u v)
    (h : ∀ g (n : Nat), (n : Int) < q → LCg.CompRest prog w A h₀ L m env elt x scope cl { s₁ with heap := g } (fun _ => True) (fun i v => ∃ t, v = .int (0 + (i : Int)) t) (Fin { s₁ with heap := g }) n 0 [] news) :
    LCg.CompSrc prog w A h₀ L m env elt x scope cl Fin (.ref r) s₁ := by
  have h1 := fmod_lo d hq0
  have h2 := fmod_hi d hq0
  have hn : ((d.fmod q).toNat : Int) = d.fmod q := Int.toNat_of_nonneg h1
  exact LCg.CompSrc.range (n := (d.fmod q).toNat) hh F N hr (small_one (by omega) (by omega) (by omega) (by omega)) (by rw [← hn, show (0 : Int) = ((0 : Nat) : Int) from rfl, rangeSize_nat]; omega) (by rw [sizeLine_eq]; omega) fun g => h g _ (by omega)
end
end

section
open LCg in
theorem off3_app {I C D : Addr} : ∀ {a b : List (Addr × Obj)}, Off3 I C D a → Off3 I C D b → Off3 I C D (a ++ b)
  | [], _, _, h => h
  | _ :: _, _, h, k => ⟨h.1, off3_app h.2 k⟩
open LCg in
theorem off3_right {I C D : Addr} : ∀ {a b : List (Addr × Obj)}, Off3 I C D (a ++ b) → Off3 I C D b
  | [], _, h => h
  | _ :: _, _, h => off3_right h.2
open LCg in
theorem off3_left {I C D : Addr} : ∀ {a b : List (Addr × Obj)}, Off3 I C D (a ++ b) → Off3 I C D a
  | [], _, _ => trivial
  | _ :: _, _, h => ⟨h.1, off3_left h.2⟩
section
variable {prog : Program} {w : World} {A : Around} {s : Shared} {h₀ : Heap} {L : Addr} {m : Str → Option Value} {env : Env} {elt : Expr} {x : Str} {scope : Scope} {cl : List (Str × Addr)} {Fin : List Value → List (Addr × Obj) → Prop}
def GrowEnd (h₀ : Heap) (L : Addr) (m : Str → Option Value) (s₁ : Shared) (I : Addr) (oI : Obj) (C : Addr) (oC : Obj) (D : Addr) (oD : Obj) (R tail : List (Addr × Obj)) (El : List (Addr × Obj) → Value → Prop) (y : Value) (s₂ : Shared) : Prop :=
  ∃ h' tk new, s₂ = { s₁ with heap := h', toks := tk } ∧ Fr h₀ L h' m ∧ News h₀ L h' (new ++ ((I, oI) :: (C, oC) :: (D, oD) :: (R ++ tail))) ∧ LCg.Off3 I C D new ∧ El new y
theorem GrowEnd.intro {I C D : Addr} {s₁ : Shared} {oI oC oD : Obj} {R tail : List (Addr × Obj)} {El : List (Addr × Obj) → Value → Prop} {y : Value} {h' : Heap} {tk : Nat} (new : List (Addr × Obj))
    (F : Fr h₀ L h' m) (N : News h₀ L h' (new ++ ((I, oI) :: (C, oC) :: (D, oD) :: (R ++ tail)))) (off : LCg.Off3 I C D new) (r : El new y) :
    GrowEnd h₀ L m s₁ I oI C oC D oD R tail El y { s₁ with heap := h', toks := tk } := ⟨h', tk, new, rfl, F, N, off, r⟩
theorem src_mono {ax : Addr} {its : Array Value} {R t : List (Addr × Obj)} (h : LCg.SrcAt h₀ ax its R) : LCg.SrcAt h₀ ax its (R ++ t) := by
  rcases h with h | ⟨o, hm, r⟩
  · exact .inl h
  · exact .inr ⟨o, List.mem_append_left _ hm, r⟩
theorem comp_grow {ax : Addr} {vs : List Value} {xs : List Str} {R tail₀ : List (Addr × Obj)} (K : List (Addr × Obj) → List Value → List Str → Prop) (El : Str → List (Addr × Obj) → Value → Prop) (hi : StrsAre vs xs) (hS : LCg.SrcAt h₀ ax vs.toArray R) (h0 : K tail₀ [] [])
    (step : ∀ tail ys zs new y z, K tail ys zs → El z new y → K (new ++ tail) (ys ++ [y]) (zs ++ [z]))
    (turn : ∀ x0 t I oI C oC D m₂ ys tail h tk (E' : Value → Shared → Prop), x0 ∈ xs → LCg.NsObj oC m₂ → m₂ x = some (.str x0 t) → Fr h₀ L h m → News h₀ L h ((I, oI) :: (C, oC) :: (D, LCg.lst ys) :: (R ++ tail)) → LCg.Off3 I C D R → LCg.Off3 I C D tail → ((@Ne Nat I C) ∧ (@Ne Nat I D) ∧ (@Ne Nat C D)) →
      wpAny (model prog w) A (eval elt (compEnvC scope cl C env)) (GrowEnd h₀ L m { s with heap := h, toks := tk } I oI C oC D (LCg.lst ys) R tail (El x0)) E' { s with heap := h, toks := tk })
    (fin : ∀ ys tail, K tail ys xs → Fin ys (R ++ tail)) : LCg.CompRest prog w A h₀ L m env elt x scope cl s (LCg.SrcAt h₀ ax vs.toArray) (fun i v => vs.toArray[i]? = some v) Fin vs.toArray.size 0 [] (R ++ tail₀) := by
  have key : ∀ (j i : Nat) (ys : List Value) (tail : List (Addr × Obj)), i + j = vs.length → K tail ys (xs.take i) → LCg.CompRest prog w A h₀ L m env elt x scope cl s (LCg.SrcAt h₀ ax vs.toArray) (fun i v => vs.toArray[i]? = some v) Fin j i ys (R ++ tail) := by
    intro j
    induction j with
    | zero =>
      intro i ys tail hij hK
      have e : i = xs.length := by have := hi.length; omega
      subst e
      rw [List.take_length] at hK
      exact LCg.CompRest.zero (fin ys tail hK)
    | succ j ih =>
      intro i ys tail hij hK
      refine LCg.CompRest.succ ?_
      intro v I oI C oC D m₂ h tk E' hv hC hx F N off ne
      obtain ⟨x0, t, hv', hk⟩ := hi.item i v (by simpa using hv)
      rw [hv'] at hx
      refine wpAny_mono (turn x0 t I oI C oC D m₂ ys tail h tk E' (List.mem_of_getElem? hk) hC hx F N (off3_left off) (off3_right off) ne) (fun y s₂ hq => ?_) fun _ _ e => e
      obtain ⟨h', tk', new, e, F', N', off', hE⟩ := hq
      refine ⟨h', tk', R ++ (new ++ tail), e, F', fun p hp => N' p ?_, off3_app (off3_left off) (off3_app off' (off3_right off)), src_mono hS, ?_⟩
      · simp only [List.mem_cons, List.mem_append] at hp ⊢
        rcases hp with h | h | h | h | h | h
        · exact .inr (.inl h)
        · exact .inr (.inr (.inl h))
        · exact .inr (.inr (.inr (.inl h)))
        · exact .inr (.inr (.inr (.inr (.inl h))))
        · exact .inl h
        · exact .inr (.inr (.inr (.inr (.inr h))))
      · refine ih (i + 1) _ _ (by omega) ?_
        rw [List.take_add_one, hk]
        exact step _ _ _ _ _ _ hK hE
  rw [List.size_toArray]
  exact key vs.length 0 [] tail₀ (by omega) (by simpa using h0)
end
def tupO (its : Array Value) (c : Nat) : Obj := { cls := .type "tuple", data := .seq its c }
/-- the subject's rows, in the ledger's tail. -/
def SubsIn (tail : List (Addr × Obj)) (vs : List Value) (cs : List Str) : Prop :=
  vs.length = cs.length ∧ ∀ (i : Nat) (v : Value), vs[i]? = some v → ∃ n a x y t1 t2 t3 t4 c1 c2 c3, cs[i]? = some n ∧ v = .ref a ∧ (a, tupO #[.ref x, .ref y] c1) ∈ tail ∧ (x, tupO #[.str (Str.ofString "organizationName") t1, .str (Str.ofString "ww.a.org") t2] c2) ∈ tail ∧ (y, tupO #[.str (Str.ofString "commonName") t3, .str n t4] c3) ∈ tail
def SubEl (z : Str) (new : List (Addr × Obj)) (v : Value) : Prop := ∃ a x y t1 t2 t3 t4 c1 c2 c3, v = .ref a ∧ (a, tupO #[.ref x, .ref y] c1) ∈ new ∧ (x, tupO #[.str (Str.ofString "organizationName") t1, .str (Str.ofString "ww.a.org") t2] c2) ∈ new ∧ (y, tupO #[.str (Str.ofString "commonName") t3, .str z t4] c3) ∈ new
def SubK (tups : List (Addr × Obj)) (tail : List (Addr × Obj)) (vs : List Value) (cs : List Str) : Prop := (∀ e ∈ tups, e ∈ tail) ∧ SubsIn tail vs cs
theorem SubK.zero {tups : List (Addr × Obj)} : SubK tups tups [] [] := ⟨fun _ h => h, rfl, fun i v h => by simp at h⟩
theorem SubK.step {tups : List (Addr × Obj)} : ∀ tail ys zs new y z, SubK tups tail ys zs → SubEl z new y → SubK tups (new ++ tail) (ys ++ [y]) (zs ++ [z]) := by
  rintro tail vs cs new v z ⟨hm, hl, hx⟩ ⟨a, x, y, t1, t2, t3, t4, c1, c2, c3, rfl, h1, h2, h3⟩
  refine ⟨fun e he => List.mem_append_right _ (hm e he), by simp [hl], fun i v h => ?_⟩
  by_cases hi : i < vs.length
  · rw [List.getElem?_append_left hi] at h
    obtain ⟨n, a', x', y', u1, u2, u3, u4, d1, d2, d3, e1, e2, e3, e4, e5⟩ := hx i v h
    exact ⟨n, a', x', y', u1, u2, u3, u4, d1, d2, d3, by rw [List.getElem?_append_left (by omega)]; exact e1, e2, List.mem_append_right _ e3, List.mem_append_right _ e4, List.mem_append_right _ e5⟩
  · rw [List.getElem?_append_right (by omega)] at h
    have e : i - vs.length = 0 := by
      cases q : i - vs.length with
      | zero => rfl
      | succ j => rw [q] at h; simp at h
    rw [e] at h
    have e2 : i = cs.length := by omega
    exact ⟨z, a, x, y, t1, t2, t3, t4, c1, c2, c3, by rw [e2]; simp, by simpa using h.symm, List.mem_append_left _ h1, List.mem_append_left _ h2, List.mem_append_left _ h3⟩
theorem SubsIn.are {h₀ h : Heap} {L : Addr} {tail news : List (Addr × Obj)} {vs : List Value} {cs : List Str} (x : SubsIn tail vs cs) (N : News h₀ L h news) (sub : ∀ q ∈ tail, q ∈ news) : SubsAre h vs cs :=
  ⟨x.1, fun i v e => by
    obtain ⟨n, a, p, q, t1, t2, t3, t4, c1, c2, c3, h1, h2, h3, h4, h5⟩ := x.2 i v e
    exact ⟨n, a, p, q, t1, t2, t3, t4, h1, h2, ⟨_, (N _ (sub _ h3)).1, rfl, c1, rfl⟩, ⟨_, (N _ (sub _ h4)).1, rfl, c2, rfl⟩, ⟨_, (N _ (sub _ h5)).1, rfl, c3, rfl⟩⟩⟩

section
variable {prog : Program} {w : World} {A : Around} {E : Value → Shared → Prop} {s : Shared} {h₀ : Heap} {L l : Addr} {m : PySem.Str → Option Value} {news : List (Addr × Obj)} {vs : List Value} {Q : Value → Shared → Prop}
theorem tuple_S (F : Fr h₀ L s.heap m) (N : News h₀ L s.heap news) (hl : s.heap.IsList l vs.toArray) (hz : vs.length ≤ 16384)
    (h : ∀ D h', Fr h₀ L h' m → News h₀ L h' ((D, ({ cls := .type "tuple", data := .seq vs.toArray } : Obj)) :: news) → (∀ p ∈ news, p.1 < D) → Q (.ref D) { s with heap := h' }) : wpAny (model prog w) A (call (.type "tuple") [.ref l]) Q E s :=
  kde_tupleOf F N hl (by rw [List.size_toArray]; exact hz) List.toList_toArray h
end
end

section
theorem gN_all {n : Str} (h : n ∈ namesL) : gN n = true := List.all_eq_true.mp namesG n h
theorem gH_all {n : Str} (h : n ∈ hostsL) : gH n = true := List.all_eq_true.mp hostsG n h
theorem led_dict {w : World} {h₀ h : Heap} {L c : Addr} {news : List (Addr × Obj)} {o : Obj} {kvs : List (Str × Value)} (N : News h₀ L h news) (hb : (c, o) ∈ news) (hd : Obj.IsDictOf (strKind PySem.Challenge.rw_ew0040_01.row.prog w) o kvs) : h.DictOf (strKind PySem.Challenge.rw_ew0040_01.row.prog w) c kvs := let ⟨es, ep, r⟩ := hd; ⟨o, es, ep, (N _ hb).1, r⟩
theorem led_tup {h₀ h : Heap} {L c : Addr} {news : List (Addr × Obj)} {its : Array Value} {n : Nat} (N : News h₀ L h news) (hb : (c, ({ cls := .type "tuple", data := .seq its n } : Obj)) ∈ news) : IsTup h c its := ⟨_, (N _ hb).1, rfl, n, rfl⟩
theorem use_told1 {c Ta S : Addr} {o : Obj} {kvs : List (Str × Value)} {vs ss : List Value} {ps : List (Str × Str)} {cs : List Str} {host : Str} {u : Tok} {asks : Bool} {tups tail : List (Addr × Obj)} {n1 n2 : Nat}
    {w : World} {mean : ExcName → Option Value} {mg mb : Str → Option Value} {A A₀ : Around} {h₀ : Heap} {env : Env} {s : Shared} {L : Addr} {m : Str → Option Value} {news : List (Addr × Obj)} {Q E : Value → Shared → Prop}
    (B : Below A₀ h₀ [] h₀) (F : Fr h₀ L s.heap m) (X : (Mine.hd.heap_39 w.params).In h₀) (N : News h₀ L s.heap news) (T : Top Mine.hd.view_39 (looseW Mine.hd.view_39 [Str.ofString "_dnsname_match", Str.ofString "match_hostname"]) mean mg mb h₀)
    (hbc : (c, o) ∈ news) (hdo : Obj.IsDictOf (strKind PySem.Challenge.rw_ew0040_01.row.prog w) o kvs) (lo : (c == sysModules) = false) (hk1 : kvs.length ≤ 1000) (hk2 : kvs.isEmpty = false) (hk3 : valueAt kvs (Str.ofString "subjectAltName") = some (.ref Ta)) (hk4 : valueAt kvs (Str.ofString "subject") = some (.ref S))
    (hTa : (Ta, ({ cls := .type "tuple", data := .seq vs.toArray n1 } : Obj)) ∈ news) (hS : (S, ({ cls := .type "tuple", data := .seq ss.toArray n2 } : Obj)) ∈ news) (hpi : PairsIn tups vs ps) (hsi : SubsIn tail ss cs) (ht : ∀ e ∈ tups, e ∈ tail) (htl : ∀ e ∈ tail, e ∈ news)
    (hpn : Named ps) (hcs : AllIn (· ∈ namesL) cs) (hho : host ∈ hostsL) (hl1 : ps.length ≤ 100) (hl2 : cs.length ≤ 100)
    (hA : A.frames = some [env]) (hf : env.frame = some L) (hke : env.scope.kind = .function) (hh : A.handled = none) (hd : A.depth ≤ 400) (hu : A.units ≤ 1000)
    (k : ∀ t h' tk', Fr h₀ L h' m → News h₀ L h' news → Q (.str (due ps cs host asks) t) { s with heap := h', toks := tk' }) :
    wpAny (model PySem.Challenge.rw_ew0040_01.row.prog w) A (call (.ref 79) [.ref c, .str host u, .bool asks]) Q E s := by
  refine CtT.use (ct_told1 w mean mg mb c Ta kvs vs ps cs host u asks (due ps cs host asks) (fun p hp => gN_all (hpn p hp)) (fun n hn => gN_all (hcs n hn)) (gH_all hho) hl1 hl2 lo hk1 hk2 hk3 (fun e => ?_) (fun e => ?_)) B F X N T hA hf hke hh hd hu ⟨led_dict N hbc hdo, led_tup N hTa, hpi.are N (fun e he => htl e (ht e he)), fun _ => ⟨S, ss, hk4, led_tup N hS, hsi.are N htl⟩⟩ k
  · rw [due_mh hho hpn hcs, if_pos e]
  · rw [due_mh hho hpn hcs, if_neg (by rw [e]; decide)]
theorem use_told2 {c S : Addr} {o : Obj} {kvs : List (Str × Value)} {ss : List Value} {cs : List Str} {host : Str} {u : Tok} {asks : Bool} {tail : List (Addr × Obj)} {n2 : Nat}
    {w : World} {mean : ExcName → Option Value} {mg mb : Str → Option Value} {A A₀ : Around} {h₀ : Heap} {env : Env} {s : Shared} {L : Addr} {m : Str → Option Value} {news : List (Addr × Obj)} {Q E : Value → Shared → Prop}
    (B : Below A₀ h₀ [] h₀) (F : Fr h₀ L s.heap m) (X : (Mine.hd.heap_39 w.params).In h₀) (N : News h₀ L s.heap news) (T : Top Mine.hd.view_39 (looseW Mine.hd.view_39 [Str.ofString "_dnsname_match", Str.ofString "match_hostname"]) mean mg mb h₀)
    (hbc : (c, o) ∈ news) (hdo : Obj.IsDictOf (strKind PySem.Challenge.rw_ew0040_01.row.prog w) o kvs) (lo : (c == sysModules) = false) (hk1 : kvs.length ≤ 1000) (hk2 : kvs.isEmpty = false) (hk3 : valueAt kvs (Str.ofString "subjectAltName") = none) (hk4 : valueAt kvs (Str.ofString "subject") = some (.ref S))
    (hS : (S, ({ cls := .type "tuple", data := .seq ss.toArray n2 } : Obj)) ∈ news) (hsi : SubsIn tail ss cs) (htl : ∀ e ∈ tail, e ∈ news)
    (hcs : AllIn (· ∈ namesL) cs) (hho : host ∈ hostsL) (hl2 : cs.length ≤ 100)
    (hA : A.frames = some [env]) (hf : env.frame = some L) (hke : env.scope.kind = .function) (hh : A.handled = none) (hd : A.depth ≤ 400) (hu : A.units ≤ 1000)
    (k : ∀ t h' tk', Fr h₀ L h' m → News h₀ L h' news → Q (.str (due [] cs host asks) t) { s with heap := h', toks := tk' }) :
    wpAny (model PySem.Challenge.rw_ew0040_01.row.prog w) A (call (.ref 79) [.ref c, .str host u, .bool asks]) Q E s := by
  have hpn : ∀ p ∈ ([] : List (Str × Str)), p.2 ∈ namesL := fun _ h => nomatch h
  refine CtT.use (ct_told2 w mean mg mb c kvs cs host u asks (due [] cs host asks) (fun n hn => gN_all (hcs n hn)) (gH_all hho) hl2 lo hk1 hk2 hk3 (fun e => ?_) (fun e => ?_)) B F X N T hA hf hke hh hd hu ⟨led_dict N hbc hdo, S, ss, hk4, led_tup N hS, hsi.are N htl⟩ k
  · rw [due_mh hho hpn hcs, if_pos e]
  · rw [due_mh hho hpn hcs, if_neg (by rw [e]; decide)]
theorem use_told3 {c : Addr} {o : Obj} {host : Str} {u : Tok} {asks : Bool}
    {w : World} {mean : ExcName → Option Value} {mg mb : Str → Option Value} {A A₀ : Around} {h₀ : Heap} {env : Env} {s : Shared} {L : Addr} {m : Str → Option Value} {news : List (Addr × Obj)} {Q E : Value → Shared → Prop}
    (B : Below A₀ h₀ [] h₀) (F : Fr h₀ L s.heap m) (X : (Mine.hd.heap_39 w.params).In h₀) (N : News h₀ L s.heap news) (T : Top Mine.hd.view_39 (looseW Mine.hd.view_39 [Str.ofString "_dnsname_match", Str.ofString "match_hostname"]) mean mg mb h₀)
    (hbc : (c, o) ∈ news) (hdo : Obj.IsDictOf (strKind PySem.Challenge.rw_ew0040_01.row.prog w) o []) (lo : (c == sysModules) = false)
    (hA : A.frames = some [env]) (hf : env.frame = some L) (hke : env.scope.kind = .function) (hh : A.handled = none) (hd : A.depth ≤ 400) (hu : A.units ≤ 1000)
    (k : ∀ t h' tk', Fr h₀ L h' m → News h₀ L h' news → Q (.str (Str.ofString "none") t) { s with heap := h', toks := tk' }) :
    wpAny (model PySem.Challenge.rw_ew0040_01.row.prog w) A (call (.ref 79) [.ref c, .str host u, .bool asks]) Q E s :=
  CtT.use (ct_told3 w mean mg mb c host u asks lo) B F X N T hA hf hke hh hd hu (led_dict N hbc hdo) k
theorem use_told4 {host : Str} {u : Tok} {asks : Bool}
    {w : World} {mean : ExcName → Option Value} {mg mb : Str → Option Value} {A A₀ : Around} {h₀ : Heap} {env : Env} {s : Shared} {L : Addr} {m : Str → Option Value} {news : List (Addr × Obj)} {Q E : Value → Shared → Prop}
    (B : Below A₀ h₀ [] h₀) (F : Fr h₀ L s.heap m) (X : (Mine.hd.heap_39 w.params).In h₀) (N : News h₀ L s.heap news) (T : Top Mine.hd.view_39 (looseW Mine.hd.view_39 [Str.ofString "_dnsname_match", Str.ofString "match_hostname"]) mean mg mb h₀)
    (hA : A.frames = some [env]) (hf : env.frame = some L) (hke : env.scope.kind = .function) (hh : A.handled = none) (hd : A.depth ≤ 400) (hu : A.units ≤ 1000)
    (k : ∀ t h' tk', Fr h₀ L h' m → News h₀ L h' news → Q (.str (Str.ofString "none") t) { s with heap := h', toks := tk' }) :
    wpAny (model PySem.Challenge.rw_ew0040_01.row.prog w) A (call (.ref 79) [.none, .str host u, .bool asks]) Q E s :=
  CtT.use (ct_told4 w mean mg mb host u asks) B F X N T hA hf hke hh hd hu trivial k
theorem dnm_star : dnm (Str.ofString "*.a.org") (Str.ofString "W.a.org") = some true := by decide +kernel
theorem gN_star : gN (Str.ofString "*.a.org") = true := by decide +kernel
theorem gH_star : gH (Str.ofString "W.a.org") = true := by decide +kernel
theorem scan_star : mScan (Str.ofString "W.a.org") [(Str.ofString "DNS", Str.ofString "*.a.org")] = some true := by
  rw [mScan, if_pos (by decide +kernel), dnm_star]
theorem use_told5 {c Ta a : Addr} {o : Obj} {kvs : List (Str × Value)} {t1 t2 : Tok} {u : Tok} {asks : Bool} {n1 n2 : Nat}
    {w : World} {mean : ExcName → Option Value} {mg mb : Str → Option Value} {A A₀ : Around} {h₀ : Heap} {env : Env} {s : Shared} {L : Addr} {m : Str → Option Value} {news : List (Addr × Obj)} {Q E : Value → Shared → Prop}
    (B : Below A₀ h₀ [] h₀) (F : Fr h₀ L s.heap m) (X : (Mine.hd.heap_39 w.params).In h₀) (N : News h₀ L s.heap news) (T : Top Mine.hd.view_39 (looseW Mine.hd.view_39 [Str.ofString "_dnsname_match", Str.ofString "match_hostname"]) mean mg mb h₀)
    (hbc : (c, o) ∈ news) (hdo : Obj.IsDictOf (strKind PySem.Challenge.rw_ew0040_01.row.prog w) o kvs) (lo : (c == sysModules) = false) (hk1 : kvs.length ≤ 1000) (hk2 : kvs.isEmpty = false) (hk3 : valueAt kvs (Str.ofString "subjectAltName") = some (.ref Ta))
    (hTa : (Ta, ({ cls := .type "tuple", data := .seq #[.ref a] n1 } : Obj)) ∈ news) (ha : (a, ({ cls := .type "tuple", data := .seq #[.str (Str.ofString "DNS") t1, .str (Str.ofString "*.a.org") t2] n2 } : Obj)) ∈ news)
    (hA : A.frames = some [env]) (hf : env.frame = some L) (hke : env.scope.kind = .function) (hh : A.handled = none) (hd : A.depth ≤ 400) (hu : A.units ≤ 1000)
    (k : ∀ t h' tk', Fr h₀ L h' m → News h₀ L h' news → Q (.str (Str.ofString "fine") t) { s with heap := h', toks := tk' }) :
    wpAny (model PySem.Challenge.rw_ew0040_01.row.prog w) A (call (.ref 79) [.ref c, .str (Str.ofString "W.a.org") u, .bool asks]) Q E s := by
  refine CtT.use (ct_told1 w mean mg mb c Ta kvs [.ref a] [(Str.ofString "DNS", Str.ofString "*.a.org")] [] (Str.ofString "W.a.org") u asks (Str.ofString "fine") (fun p hp => by rw [List.mem_singleton.mp hp]; exact gN_star) (fun n hn => nomatch hn) gH_star (by decide) (by decide) lo hk1 hk2 hk3 (fun _ => rfl) (fun e => ?_)) B F X N T hA hf hke hh hd hu ⟨led_dict N hbc hdo, led_tup N hTa, ⟨rfl, fun i v e => ?_⟩, fun e => ?_⟩ k
  · exfalso; unfold mh at e; rw [scan_star] at e; cases e
  · cases i with
    | zero => exact ⟨_, _, a, t1, t2, rfl, (Option.some.inj e).symm, led_tup N ha⟩
    | succ j => simp at e
  · rw [scan_star] at e; cases e
theorem use_due {ln lc : Addr} {vs us : List Value} {ps : List (Str × Str)} {cs : List Str} {host : Str} {u : Tok} {asks : Bool} {tups : List (Addr × Obj)} {n1 n2 : Nat}
    {w : World} {mean : ExcName → Option Value} {mg mb : Str → Option Value} {A A₀ : Around} {h₀ : Heap} {env : Env} {s : Shared} {L : Addr} {m : Str → Option Value} {news : List (Addr × Obj)} {Q E : Value → Shared → Prop}
    (B : Below A₀ h₀ [] h₀) (F : Fr h₀ L s.heap m) (X : (Mine.hd.heap_39 w.params).In h₀) (N : News h₀ L s.heap news) (T : Top Mine.hd.view_39 (looseW Mine.hd.view_39 [Str.ofString "_dnsname_match", Str.ofString "match_hostname"]) mean mg mb h₀)
    (hln : (ln, listOf vs.toArray n1) ∈ news) (hlc : (lc, listOf us.toArray n2) ∈ news) (hpi : PairsIn tups vs ps) (ht : ∀ e ∈ tups, e ∈ news) (hsa : StrsAre us cs)
    (hpn : Named ps) (hcs : AllIn (· ∈ namesL) cs) (hho : host ∈ hostsL) (hl1 : ps.length ≤ 100) (hl2 : cs.length ≤ 100)
    (hA : A.frames = some [env]) (hf : env.frame = some L) (hke : env.scope.kind = .function) (hh : A.handled = none) (hd : A.depth ≤ 400) (hu : A.units ≤ 1000)
    (k : ∀ t h' tk', Fr h₀ L h' m → News h₀ L h' news → Q (.str (due ps cs host asks) t) { s with heap := h', toks := tk' }) :
    wpAny (model PySem.Challenge.rw_ew0040_01.row.prog w) A (call (.ref 72) [.ref ln, .ref lc, .str host u, .bool asks]) Q E s := by
  refine Ct.use (ct_due w mean mg mb ln lc vs us ps cs host u asks (fun p hp => gN_all (hpn p hp)) (fun n hn => gN_all (hcs n hn)) (gH_all hho) hl1 hl2) B F X N T hA hf hke hh (Nat.le_trans hd (by decide)) (Nat.le_trans hu (by decide)) ⟨led_list N hln, hpi.are N ht, led_list N hlc, hsa⟩ ?_
  rintro v h' tk' F' N' st ⟨t', rfl⟩
  exact k t' h' tk' F' N'

section
variable {prog : Program} {w : World} {A : Around} {E : Value → Shared → Prop} {s : Shared} {env : Env} {h₀ : Heap} {target : Expr} {body : List Stmt} {Q : Flow → Shared → Prop}
theorem loop_rangeC {x : Str} {px : Pos} {r : Addr} {a b : Int} {n : Nat} {t0 u0 v0 : Tok} {m₀ : Str → Option Value} {news : List (Addr × Obj)} (stored : List Str) (hh : A.handled = none) (hr : IsRange s.heap r a b 1 t0 u0 v0)
    (hsmall : Builtin.Range.small a b 1 = true) (hn : Builtin.Range.rangeSize a b 1 = (n : Int)) (F : Fr h₀ env.locals s.heap m₀) (N : News h₀ env.locals s.heap news)
    (turn : ∀ (i : Nat) t (u : Str → Option Value) h tk I it, i < n → AllNe I news → Fr h₀ env.locals h (fun y => if stored.contains y = true then u y else m₀ y) → News h₀ env.locals h ((I, it) :: news) →
      wpAny (model prog w) A (assign (.Name x px) env (.int (a + (i : Nat)) t)) (fun _ s₃ => wpAny (model prog w) A (execs body env) (TPostS h₀ env.locals I it stored m₀ (fun nw => nw = news) { s with heap := h, toks := tk } Q) E s₃) E { s with heap := h, toks := tk })
    (done : ∀ (u : Str → Option Value) h tk, Fr h₀ env.locals h (fun y => if stored.contains y = true then u y else m₀ y) → News h₀ env.locals h news → Q .next { s with heap := h, toks := tk }) :
    wpAny (model prog w) A (pyIter (.ref r)) (fun it s₂ => TurnsAt prog w A h₀ env (.Name x px) body Q E it s₂) E s :=
  loop_rangeS stored (fun _ nw => nw = news) hh hr hsmall hn F N rfl (fun i t u nw h tk I it hi e hne F₁ N₁ => by subst e; exact turn i t u h tk I it hi hne F₁ N₁) (fun u nw h tk e F₁ N₁ => by subst e; exact done u h tk F₁ N₁)
end
end

section
theorem ne_same (x : Str) : ¬ (x != x) = true := by simp

local macro_rules | `(tactic| walk_at "my strs_lit") => `(tactic| repeat (first | exact StrsAre.nil | apply StrsAre.cons))
local macro_rules | `(tactic| walk_at "my val_at") => `(tactic| first | rfl | decide | simp [valueAt, strPairs])

local macro_rules | `(tactic| walk_at "call ref") => `(tactic| (k_here; (with_reducible show wpAny _ _ (call (Value.ref 46) _) _ _ _); k_dflt (refine' Mine.use_dig (by assumption) (by assumption) (by k_asm) (by k_asm) (by k_asm) (by k_asm) (by k_asm) (by assumption) (by assumption) rfl rfl rfl rfl (Nat.le_of_ble_eq_true rfl) (Nat.le_of_ble_eq_true rfl) (fun D' ys' ds' kk' h' tk' F' N' ne' I' S' l4' l5' => ?_)); (try simp only [AllNe, and_true] at ne'); (try k_sweep)))
local macro_rules | `(tactic| walk_at "call ref") => `(tactic| (k_here; (with_reducible show wpAny _ _ (call (Value.ref 53) _) _ _ _); k_dflt (refine' Mine.use_at (by k_asm) (by k_asm) (by k_asm) (by k_asm) (by k_asm) (by k_mem) (by assumption) (by assumption) (by assumption) (by assumption) rfl rfl rfl rfl (Nat.le_of_ble_eq_true rfl) (Nat.le_of_ble_eq_true rfl) (fun d' t' h' tk' F' N' lo' hi' => ?_)); (try k_sweep)))
local macro_rules | `(tactic| walk_at "call ref") => `(tactic| (k_here; (with_reducible show wpAny _ _ (call (Value.ref 60) _) _ _ _); k_dflt (refine' Mine.use_pick (by k_asm) (by k_asm) (by k_asm) (by k_asm) (by k_asm) (by k_mem) (by assumption) (by assumption) (by assumption) (by assumption) (by k_mem) (by walk_at "my strs_lit") (by decide) (by decide) rfl rfl rfl rfl (Nat.le_of_ble_eq_true rfl) (Nat.le_of_ble_eq_true rfl) (fun x' t' h' tk' F' N' mem' => ?_)); (have len' := Mine.short_pick mem' (by decide +kernel)); (try k_sweep)))
local macro_rules | `(tactic| walk_at "exec For Name Call cons nil") => `(tactic| (k_here; refine Mine.stop ?_))
local macro_rules | `(tactic| walk_at "pyIter ref") => `(tactic| (k_here; refine Mine.stop ?_))
local macro_rules | `(tactic| k_all) => `(tactic| assumption)
local macro_rules | `(tactic| walk_at "call builtin:list.append") => `(tactic| (k_here; (with_reducible show wpAny _ _ (call (Value.builtin _) [Value.ref _, Value.ref _]) _ _ _); k_dflt (refine' Mine.append_A (by k_asm) (by k_asm) (by k_upd) (by omega) (fun h' F' N' => ?_)); (try k_sweep)))
local macro_rules | `(tactic| walk_at "exec Assign cons ListComp") => `(tactic| (k_here; refine Mine.stop ?_))
local macro_rules | `(tactic| walk_at "eval ListComp") => `(tactic| (k_here; refine Mine.stop ?_))
local macro_rules | `(tactic| walk_at "CompSrc") => `(tactic| (k_here; refine Mine.stop ?_))
local macro_rules | `(tactic| walk_at "CompEnd") => `(tactic| (refine LCg.CompEnd.intro (by assumption) (by assumption) _ (fun _ hp => hp) (by assumption) trivial ⟨rfl, _, _, mem_names (by assumption) (by assumption), rfl⟩))
local macro_rules | `(tactic| walk_at "call type:tuple") => `(tactic| (k_here; (with_reducible show wpAny _ _ (call (Value.type _) [Value.ref _]) _ _ _); k_dflt (refine' Mine.tuple_S (by k_asm) (by k_asm) (News.isList (by k_asm) (by k_mem)) (by omega) (fun D' h' F' N' l1 => ?_)); (try k_lt l1); (try k_sweep)))
local macro_rules | `(tactic| walk_at "my mem_tail") => `(tactic| (intro e he; (repeat (first | exact he | apply List.mem_cons_of_mem))))
local macro_rules | `(tactic| walk_at "call ref") => `(tactic| (k_here; (with_reducible show wpAny _ _ (call (Value.ref 79) _) _ _ _); refine Mine.stop ?_))
local macro_rules | `(tactic| walk_at "call ref") => `(tactic| (k_here; (with_reducible show wpAny _ _ (call (Value.ref 72) _) _ _ _); refine Mine.stop ?_))
local macro_rules | `(tactic| walk_at "eval Dict") => `(tactic| (k_here; k_dflt (refine' kdn_str (by rfl) (by k_asm) (by k_asm) (Top.nolimit (by k_asm)) (by rfl) (by rfl) (List.cons_ne_nil _ _) (Nat.le_of_ble_eq_true rfl) (fun d' h' o' F' N' l1 lo' hd' => ?_)); (try k_lt l1)))

theorem int_lay {xs : List Int} (h : PyData.layable0 (.list (xs.map PyData.int)) = true) : ∀ x ∈ xs, PyData.layable0 (.int x) = true := by
  intro x hx
  have hw := PyData.weight_item_of_list h (x := .int x) (List.mem_map.mpr ⟨x, hx, rfl⟩)
  show (PyData.canLay0 (.int x) && decide (PyData.depth (.int x) ≤ 64) && decide (PyData.weight (.int x) ≤ 2 ^ 20)) = true
  rw [Bool.and_eq_true, Bool.and_eq_true]
  exact ⟨⟨by simp [PyData.canLay0], by simp [PyData.depth]⟩, decide_eq_true hw⟩
set_option maxHeartbeats 8000000 in
theorem lawA : PySem.Challenge.rw_ew0040_01.Holds := by
  refine Mine.hd ?_
  k_go0
  rename PyData.layable0 (PyData.list (List.map PyData.int _)) = true => hlay
  have hlen : _ ≤ 63 := Int.ofNat_le.mp (Int.not_lt.mp ‹¬ _›)
  have hly := int_lay hlay
  k_steps
  refine Mine.Stop.mk ?_
  refine For_turns (by assumption) ?_
  k_steps
  refine Mine.Stop.mk ?_
  refine loop_rangeQ (q := 5) [Str.ofString "k", Str.ofString "kind"] (fun i vs tups => ∃ ps, PairsIn tups vs ps ∧ Named ps ∧ ps.length = i) (by decide) (by decide) rfl (by assumption) (by assumption) (vs₀ := []) (by assumption) ⟨[], .nil, .nil, rfl⟩ ?_ ?_
  · intro i t u vs1 k1 tups h1 tk1 I1 it1 hi1 hK hW1 hR1 hT1 hT2 F1 N1
    obtain ⟨ps, hpi, hpn, hpl⟩ := hK
    have hpe := hpi.length
    simp only [AllNe, and_true] at hR1
    simp only [List.cons_append, List.nil_append] at N1
    k_sweep
    (try dsimp only)
    k_steps
    all_goals (try dsimp only)
    unfold TPostP
    dsimp only
    refine TEndP.intro (by assumption) (news_drop2 (by assumption)) (by omega) (by omega) ?_ ⟨_, hpi.snoc, hpn.snoc (mem_names (by assumption) (by assumption)), by simp [hpl]⟩
    (intro y hy2; have a0 := ne_of_contains (x := Str.ofString "k") (by simp) hy2; have a1 := ne_of_contains (x := Str.ofString "kind") (by simp) hy2; simp [a0, a1])
  · intro n u vs1 k1 tups h1 tk1 hn hK hT2 F1 N1
    obtain ⟨ps, hpi, hpn, hpl⟩ := hK
    have hpe := hpi.length
    simp only [List.cons_append, List.nil_append] at N1
    k_sweep
    (try dsimp only)
    k_steps
    all_goals (try dsimp only)
    refine Mine.Stop.mk ?_
    k_dflt (refine LCg.Assign_ListComp_U (F₀ := by k_asm) (by rfl) (by with_unfolding_all rfl) (by with_unfolding_all rfl) (by decide) (by rfl) (by decide) (by rfl) (by rfl) (by rfl) ?_)
    k_steps
    refine Mine.Stop.mk ?_
    refine src_range (q := 3) (by decide) (by decide) rfl (by assumption) (by assumption) (by assumption) (fun g' n' hn' => comp_pick (· ∈ namesL) n' ?_ ?_)
    · intro i0 t0 I' oI' C' oC' D' m' ys' h' tk' E' hi' hC' hx' F' N' off' ne'
      (try simp only [LCg.Off3, and_true] at off')
      k_steps
    · intro ys' xs' hys' hxs' hlen'
      dsimp only [LCg.FinA]
      intro D' h' tk' F' N' o'
      (try simp only [LCg.Off1, and_true] at o')
      k_sweep
      have hc' : xs'.length < 3 := by omega
      have hv' : ys'.length < 3 := by rw [hys'.length]; exact hc'
      k_steps
      refine Mine.Stop.mk ?_
      k_dflt (refine LCg.ListComp_U (F₀ := by k_asm) (by rfl) (by decide) (by rfl) (by decide) (by rfl) ?_)
      k_steps
      refine Mine.Stop.mk ?_
      refine LCg.CompSrc.ledger (by rfl) (by assumption) (by assumption) (by k_mem) (by rw [List.size_toArray, sizeLine_eq]; omega) (fun g2 => ?_)
      refine comp_grow (R := [_, _, _, _, _, _, _, _, _]) (tail₀ := tups) (SubK tups) SubEl hys' (.inr ⟨_, List.mem_cons_self, rfl, _, rfl⟩) SubK.zero SubK.step ?_ ?_
      · intro x0 t0 I2 oI2 C2 oC2 D2 m2 ys2 tail2 h2 tk2 E2 hx0 hC2 hx2 F2 N2 off1 off2 ne2
        simp only [LCg.Off3, and_true] at off1
        simp only [List.cons_append, List.nil_append] at N2
        k_steps
        refine GrowEnd.intro [_, _, _] (by assumption) (by assumption) (by simp only [LCg.Off3, and_true]; omega) ⟨_, _, _, _, _, _, _, _, _, _, rfl, List.mem_cons_self, List.mem_cons_of_mem _ (List.mem_cons_of_mem _ List.mem_cons_self), List.mem_cons_of_mem _ List.mem_cons_self⟩
      · intro ys3 tail3 hK
        obtain ⟨hK1, hK2⟩ := hK
        have hy3 := hK2.1
        dsimp only [LCg.FinE]
        intro D3 h3 tk3 F3 N3 o3
        simp only [LCg.Off1, List.cons_append, List.nil_append] at o3
        simp only [List.cons_append, List.nil_append] at N3
        k_sweep
        k_steps
        all_goals (refine Mine.Stop.mk ?_)
        all_goals (refine For_turns (by assumption) ?_)
        all_goals k_steps
        all_goals (refine Mine.Stop.mk ?_)
        all_goals (refine loop_rangeC (n := 4) [Str.ofString "k", Str.ofString "host"] rfl (by assumption) (by decide) (by decide) (by assumption) (by assumption) ?_ ?_)
        · intro i9 t9 u9 h9 tk9 I9 it9 hi9 hn9 F9 N9
          k_sweep
          (try dsimp only)
          k_steps
          refine Mine.Stop.mk ?_
          refine' Mine.use_told2 (by k_asm) (by k_asm) (by k_asm) (by k_asm) (by k_asm) (by k_mem) (by assumption) (by assumption) (by exact Nat.le_of_ble_eq_true rfl) (by rfl) (by walk_at "my val_at") (by walk_at "my val_at") (by k_mem) (by assumption) (by walk_at "my mem_tail") (by assumption) (by exact mem_hosts (by assumption) (by assumption)) (by omega) rfl rfl rfl rfl (Nat.le_of_ble_eq_true rfl) (Nat.le_of_ble_eq_true rfl) (fun t' h' tk' F' N' => ?_)
          (try k_sweep)
          k_steps
          all_goals (try dsimp only)
          refine Mine.Stop.mk ?_
          refine' Mine.use_due (vs := []) (ps := []) (tups := []) (by k_asm) (by k_asm) (by k_asm) (by k_asm) (by k_asm) (by k_mem) (by k_mem) PairsIn.nil (fun _ h => nomatch h) (by assumption) Named.nil (by assumption) (by exact mem_hosts (by assumption) (by assumption)) (by decide) (by omega) rfl rfl rfl rfl (Nat.le_of_ble_eq_true rfl) (Nat.le_of_ble_eq_true rfl) (fun t' h' tk' F' N' => ?_)
          (try k_sweep)
          k_steps
          all_goals (try dsimp only)
          all_goals (first
            | exact absurd (by assumption) (ne_same _)
            | (refine TEndS.intro (by assumption) (by assumption) _ (fun _ hp => List.mem_cons_of_mem _ hp) hn9 ?_ rfl
               intro y hy2
               have a0 := ne_of_contains (x := Str.ofString "k") (by simp) hy2
               have a1 := ne_of_contains (x := Str.ofString "host") (by simp) hy2
               simp [a0, a1]))
        · intro u9 h9 tk9 F9 N9
          k_sweep
          (try dsimp only)
          k_steps
          all_goals (try dsimp only)
          refine Mine.Stop.mk ?_
          refine' Mine.use_told3 (by k_asm) (by k_asm) (by k_asm) (by k_asm) (by k_asm) (by k_mem) (by assumption) (by assumption) rfl rfl rfl rfl (Nat.le_of_ble_eq_true rfl) (Nat.le_of_ble_eq_true rfl) (fun t' h' tk' F' N' => ?_)
          (try k_sweep)
          k_steps
          all_goals (try dsimp only)
          refine Mine.Stop.mk ?_
          refine' Mine.use_told4 (by k_asm) (by k_asm) (by k_asm) (by k_asm) (by k_asm) rfl rfl rfl rfl (Nat.le_of_ble_eq_true rfl) (Nat.le_of_ble_eq_true rfl) (fun t' h' tk' F' N' => ?_)
          (try k_sweep)
          k_steps
          all_goals (try dsimp only)
          refine Mine.Stop.mk ?_
          refine' Mine.use_told5 (by k_asm) (by k_asm) (by k_asm) (by k_asm) (by k_asm) (by k_mem) (by assumption) (by assumption) (by exact Nat.le_of_ble_eq_true rfl) (by rfl) (by walk_at "my val_at") (by k_mem) (by k_mem) rfl rfl rfl rfl (Nat.le_of_ble_eq_true rfl) (Nat.le_of_ble_eq_true rfl) (fun t' h' tk' F' N' => ?_)
          (try k_sweep)
          k_steps
          all_goals (try dsimp only)
        · intro i9 t9 u9 h9 tk9 I9 it9 hi9 hn9 F9 N9
          k_sweep
          (try dsimp only)
          k_steps
          refine Mine.Stop.mk ?_
          refine' Mine.use_told1 (by k_asm) (by k_asm) (by k_asm) (by k_asm) (by k_asm) (by k_mem) (by assumption) (by assumption) (by exact Nat.le_of_ble_eq_true rfl) (by rfl) (by walk_at "my val_at") (by walk_at "my val_at") (by k_mem) (by k_mem) (by assumption) (by assumption) (by assumption) (by walk_at "my mem_tail") (by assumption) (by assumption) (by exact mem_hosts (by assumption) (by assumption)) (by omega) (by omega) rfl rfl rfl rfl (Nat.le_of_ble_eq_true rfl) (Nat.le_of_ble_eq_true rfl) (fun t' h' tk' F' N' => ?_)
          (try k_sweep)
          k_steps
          all_goals (try dsimp only)
          refine Mine.Stop.mk ?_
          refine' Mine.use_due (by k_asm) (by k_asm) (by k_asm) (by k_asm) (by k_asm) (by k_mem) (by k_mem) hpi (fun e he => by have he := hK1 e he; (repeat (first | exact he | apply List.mem_cons_of_mem))) (by assumption) hpn (by assumption) (by exact mem_hosts (by assumption) (by assumption)) (by omega) (by omega) rfl rfl rfl rfl (Nat.le_of_ble_eq_true rfl) (Nat.le_of_ble_eq_true rfl) (fun t' h' tk' F' N' => ?_)
          (try k_sweep)
          k_steps
          all_goals (try dsimp only)
          all_goals (first
            | exact absurd (by assumption) (ne_same _)
            | (refine TEndS.intro (by assumption) (by assumption) _ (fun _ hp => List.mem_cons_of_mem _ hp) hn9 ?_ rfl
               intro y hy2
               have a0 := ne_of_contains (x := Str.ofString "k") (by simp) hy2
               have a1 := ne_of_contains (x := Str.ofString "host") (by simp) hy2
               simp [a0, a1]))
        · intro u9 h9 tk9 F9 N9
          k_sweep
          (try dsimp only)
          k_steps
          all_goals (try dsimp only)
          refine Mine.Stop.mk ?_
          refine' Mine.use_told3 (by k_asm) (by k_asm) (by k_asm) (by k_asm) (by k_asm) (by k_mem) (by assumption) (by assumption) rfl rfl rfl rfl (Nat.le_of_ble_eq_true rfl) (Nat.le_of_ble_eq_true rfl) (fun t' h' tk' F' N' => ?_)
          (try k_sweep)
          k_steps
          all_goals (try dsimp only)
          refine Mine.Stop.mk ?_
          refine' Mine.use_told4 (by k_asm) (by k_asm) (by k_asm) (by k_asm) (by k_asm) rfl rfl rfl rfl (Nat.le_of_ble_eq_true rfl) (Nat.le_of_ble_eq_true rfl) (fun t' h' tk' F' N' => ?_)
          (try k_sweep)
          k_steps
          all_goals (try dsimp only)
          refine Mine.Stop.mk ?_
          refine' Mine.use_told5 (by k_asm) (by k_asm) (by k_asm) (by k_asm) (by k_asm) (by k_mem) (by assumption) (by assumption) (by exact Nat.le_of_ble_eq_true rfl) (by rfl) (by walk_at "my val_at") (by k_mem) (by k_mem) rfl rfl rfl rfl (Nat.le_of_ble_eq_true rfl) (Nat.le_of_ble_eq_true rfl) (fun t' h' tk' F' N' => ?_)
          (try k_sweep)
          k_steps
          all_goals (try dsimp only)
end

end Mine

theorem PySem.Challenge.cw_ew0040_01_holds : PySem.Challenge.rw_ew0040_01.Holds :=
  Mine.lawA
