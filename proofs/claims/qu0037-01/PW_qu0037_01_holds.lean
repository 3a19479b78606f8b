import PyProof.Rows.All
import Wide.All
import OpenK.AllK
import Wide.FinOn
import Lean
import PySem.Challenge.RW_qu0037_01
set_option linter.all false
-- part Hd
open PySem PySem.W PyProof.Rows
set_option Elab.async false
set_option maxRecDepth 100000
set_option maxHeartbeats 8000000
open_top hd for PySem.Challenge.rw_qu0037_01
theorem Mine.topOff : True := by
  w_top off
  trivial

-- part Base
open PySem PySem.W PyProof.Rows PySem.Calls PySem.Spec PyProof.Rows.LCg PyProof.Rows.LCt
set_option Elab.async false
set_option maxRecDepth 100000
set_option maxHeartbeats 4000000
namespace Mine

/-- the written part of this program's top -/
theorem fill : PySem.Challenge.rw_qu0037_01.prog = PySem.Challenge.rw_qu0037_01.prog ∧ hd.heap_39 = hd.heap_39 := by
  k_fill
  exact ⟨rfl, rfl⟩

/-- where the walk is to stop -/
def Stop (P : Prop) : Prop := P
theorem five_cases : ∀ k : Nat, k < 5 → k = 0 ∨ k = 1 ∨ k = 2 ∨ k = 3 ∨ k = 4 := by decide
theorem Stop.out {P : Prop} (h : Stop P) : P := h
theorem Stop.mk {P : Prop} (h : P) : Stop P := h

def Kp (h h' : Heap) : Prop := ∀ b o, h.get? b = some o → h'.get? b = some o
theorem Kp.refl (h : Heap) : Kp h h := fun _ _ e => e
theorem Kp.trans {a b c : Heap} (x : Kp a b) (y : Kp b c) : Kp a c := fun q o e => y q o (x q o e)
theorem Kp.fr {h₀ h h' : Heap} {L : Addr} {m : Str → Option Value} (x : Kp h h') (F : Fr h₀ L h m) : Fr h₀ L h' m :=
  ⟨F.ns.keeps x, fun b o e => x b o (F.keep b o e), F.above⟩
theorem Kp.news {h₀ h h' : Heap} {L : Addr} {news : List (Addr × Obj)} (x : Kp h h') (N : News h₀ L h news) : News h₀ L h' news :=
  fun p hp => ⟨x _ _ (N p hp).1, (N p hp).2⟩

theorem mset {m : Str → Option Value} {x : Str} {v : Value} (h : m x = some v) : m = fun y => if y = x then some v else m y := by
  funext y; by_cases e : y = x
  · simp [e, h]
  · simp [e]
theorem frKnow {h₀ h : Heap} {L : Addr} {m : Str → Option Value} {x : Str} {v : Value} (F : Fr h₀ L h m) (e : m x = some v) : Fr h₀ L h (fun y => if y = x then some v else m y) := mset e ▸ F
theorem frKnow2 {h₀ h : Heap} {L : Addr} {m : Str → Option Value} {x y : Str} {v u : Value} (F : Fr h₀ L h m) (e : m x = some v) (e2 : m y = some u) : Fr h₀ L h (fun z => if z = x then some v else if z = y then some u else m z) := by
  have q : m = fun z => if z = x then some v else if z = y then some u else m z := by
    funext z; (repeat' split) <;> simp_all
  exact q ▸ F
theorem frKnow3 {h₀ h : Heap} {L : Addr} {m : Str → Option Value} {x y z : Str} {v u t : Value} (F : Fr h₀ L h m) (e : m x = some v) (e2 : m y = some u) (e3 : m z = some t) : Fr h₀ L h (fun q => if q = x then some v else if q = y then some u else if q = z then some t else m q) := by
  have qq : m = fun q => if q = x then some v else if q = y then some u else if q = z then some t else m q := by
    funext q; (repeat' split) <;> simp_all
  exact qq ▸ F
theorem frKnow4 {h₀ h : Heap} {L : Addr} {m : Str → Option Value} {x y z k : Str} {v u t r : Value} (F : Fr h₀ L h m) (e : m x = some v) (e2 : m y = some u) (e3 : m z = some t) (e4 : m k = some r) : Fr h₀ L h (fun q => if q = x then some v else if q = y then some u else if q = z then some t else if q = k then some r else m q) := by
  have qq : m = fun q => if q = x then some v else if q = y then some u else if q = z then some t else if q = k then some r else m q := by
    funext q; (repeat' split) <;> simp_all
  exact qq ▸ F

theorem frKnow5 {h₀ h : Heap} {L : Addr} {m : Str → Option Value} {x y z k g : Str} {v u t r e : Value} (F : Fr h₀ L h m) (e1 : m x = some v) (e2 : m y = some u) (e3 : m z = some t) (e4 : m k = some r) (e5 : m g = some e) : Fr h₀ L h (fun q => if q = x then some v else if q = y then some u else if q = z then some t else if q = k then some r else if q = g then some e else m q) := by
  have qq : m = fun q => if q = x then some v else if q = y then some u else if q = z then some t else if q = k then some r else if q = g then some e else m q := by
    funext q; (repeat' split) <;> simp_all
  exact qq ▸ F

section
variable {prog : Program} {w : World} {A : Around} {s : Shared} {Q : Value → Shared → Prop} {E : Value → Shared → Prop} {K : Frag}

theorem enter {p : Program} {loose : List Str} {mean : ExcName → Option Value} {mg mb : Str → Option Value} {name qual : Str} {params : Arguments} {body : List Stmt} {scope : Scope} {dV kV doc pm cdv ct oc : Value} {an od : Option Addr} {osl : Array (Option Value)} {f : Addr} {pos : List Value} {kw : List (Str × Value)} {binds : List (Str × Value)}
    (X : K.In s.heap) (T : Top p loose mean mg mb s.heap)
    (ho : K.lookup f = some ⟨oc, od, .func (fnOf name qual params body scope dV kV doc pm an cdv ct), osl⟩) (hcd : codeIn K cdv qual = true) (hroom : A.depth < recursionLimit)
    (hbind : BindsTo s (fnOf name qual params body scope dV kV doc pm an cdv ct) ⟨pos, kw⟩ binds) (hloc : ∀ y ∈ binds, scope.names.lookup y.1 = some .local)
    (h : ∀ L h₁ tk, Fr s.heap L h₁ (fun y => binds.reverse.lookup y) → News s.heap L h₁ [] →
      wpAny (model prog w) (A.deeper (envOf qual scope L f cdv)) (execs body (envOf qual scope L f cdv))
        (fun fl s' => Q (match fl with | .ret v => v | _ => .none) s') (fun _ _ => False) { s with heap := h₁, toks := tk })
    (hco : scope.isCoroutine = false) (hgen : scope.isGenerator = false) (hk : scope.kind = .function)
    (hcell : ∀ x ∈ scope.names, x.2 ≠ .cell) : wpAny (model prog w) A (call (.ref f) pos kw) Q E s :=
  wpAny_call (codeAny_call_def (fd := fnOf name qual params body scope dV kV doc pm an cdv ct) (body := body) (binds := binds) hroom (X _ _ ho) rfl T.nolimit (codeRec_of X hcd) rfl hbind hcell hloc
    (fun h₁ hns hk₁ => wpAny_mono (h s.heap.objs.size h₁ _ ⟨hns, hk₁, Nat.le_refl _⟩ News.nil) (fun _ _ x => x) fun _ _ x => x.elim) hco hgen hk)

theorem toksUp {α : Type} {M : Model} {t : Sem α} {Q : α → Shared → Prop} (h : wpAny M A t (fun a s' => s.toks ≤ s'.toks → Q a s') E s) : wpAny M A t Q E s :=
  wpAny_mono (wpAny_toks_of (Nat.le_refl _) h) (fun _ _ x => x.2 x.1) fun _ _ x => x.2

/-- what a turn of a loop leaves -/
def TurnEnd (h₀ : Heap) (L I : Addr) (oI : Obj) (J : (Str → Option Value) → List (Addr × Obj) → Prop) (s : Shared) (R : Result → Shared → Prop) (f : Flow) (s₃ : Shared) : Prop :=
  match f with
  | .next | .cont => ∃ h' tk' m₂ news₂, s₃ = { s with heap := h', toks := tk' } ∧ Fr h₀ L h' m₂ ∧ News h₀ L h' ((I, oI) :: news₂) ∧ (∀ p ∈ news₂, p.1 ≠ I) ∧ J m₂ news₂
  | .brk => R (.ok .next) s₃
  | .ret v => R (.ok (.ret v)) s₃
theorem TurnEnd.next {h₀ : Heap} {L I : Addr} {oI : Obj} {J : (Str → Option Value) → List (Addr × Obj) → Prop} {s : Shared} {R : Result → Shared → Prop} {h' : Heap} {tk : Nat} {m₂ : Str → Option Value} {all news₂ : List (Addr × Obj)}
    (F : Fr h₀ L h' m₂) (N : News h₀ L h' all) (sub : ∀ p ∈ (I, oI) :: news₂, p ∈ all) (ne : ∀ p ∈ news₂, p.1 ≠ I) (j : J m₂ news₂) : TurnEnd h₀ L I oI J s R .next { s with heap := h', toks := tk } :=
  ⟨h', tk, m₂, news₂, rfl, F, fun p hp => N p (sub p hp), ne, j⟩

theorem TurnEnd.next1 {h₀ : Heap} {L I : Addr} {oI : Obj} {J : (Str → Option Value) → List (Addr × Obj) → Prop} {s : Shared} {R : Result → Shared → Prop} {h' : Heap} {tk : Nat} {m₂ : Str → Option Value} {q : Addr × Obj} {news₂ : List (Addr × Obj)}
    (F : Fr h₀ L h' m₂) (N : News h₀ L h' (q :: (I, oI) :: news₂)) (ne : ∀ p ∈ news₂, p.1 ≠ I) (j : J m₂ news₂) : TurnEnd h₀ L I oI J s R .next { s with heap := h', toks := tk } :=
  ⟨h', tk, m₂, news₂, rfl, F, fun p hp => N p (.tail _ hp), ne, j⟩
theorem TurnEnd.next2 {h₀ : Heap} {L I : Addr} {oI : Obj} {J : (Str → Option Value) → List (Addr × Obj) → Prop} {s : Shared} {R : Result → Shared → Prop} {h' : Heap} {tk : Nat} {m₂ : Str → Option Value} {q q2 : Addr × Obj} {news₂ : List (Addr × Obj)}
    (F : Fr h₀ L h' m₂) (N : News h₀ L h' (q :: q2 :: (I, oI) :: news₂)) (ne : ∀ p ∈ news₂, p.1 ≠ I) (j : J m₂ news₂) : TurnEnd h₀ L I oI J s R .next { s with heap := h', toks := tk } :=
  ⟨h', tk, m₂, news₂, rfl, F, fun p hp => N p (.tail _ (.tail _ hp)), ne, j⟩

theorem for_gen {env : Env} {h₀ : Heap} {target : Expr} {body orelse : List Stmt} {R : Result → Shared → Prop} {I : Addr} {fp : List Addr} {n : Nat} {P : Nat → Value → Prop} {St : Nat → Heap → Prop} {m : Str → Option Value} {news : List (Addr × Obj)} {S : List (Addr × Obj) → Prop}
    (W : Walks prog w A I fp [I] n P St) (hIo : ∀ i h, St i h → ∃ o, h.get? I = some o)
    (hSt : ∀ i h h' o nw, St i h → h.get? I = some o → h'.get? I = some o → (∀ b o, h₀.get? b = some o → h'.get? b = some o) → News h₀ env.locals h' nw → S nw → St i h')
    (hIL : env.locals ≠ I) (hI₀ : h₀.get? I = none) (hnw : ∀ p ∈ news, p.1 ≠ I)
    (hst : St 0 s.heap) (F : Fr h₀ env.locals s.heap m) (N : News h₀ env.locals s.heap news)
    (J : Nat → (Str → Option Value) → List (Addr × Obj) → Prop) (h0 : J 0 m news) (hJS : ∀ i m nw, J i m nw → S nw)
    (step : ∀ i v m₁ news₁ h tk oI, i < n → P i v → J i m₁ news₁ → (∀ p ∈ news₁, p.1 ≠ I) → Fr h₀ env.locals h m₁ → News h₀ env.locals h ((I, oI) :: news₁) →
      wpAny (model prog w) A (assign target env v) (fun _ s₂ => wpAny (model prog w) A (execs body env) (TurnEnd h₀ env.locals I oI (J (i + 1)) s R) (fun _ _ => False) s₂) (fun _ _ => False) { s with heap := h, toks := tk })
    (done : ∀ h tk m₁ news₁, J n m₁ news₁ → Fr h₀ env.locals h m₁ → News h₀ env.locals h news₁ → wpAny (model prog w) A (execs orelse env) (fun f s₃ => R (.ok f) s₃) (fun _ _ => False) { s with heap := h, toks := tk })
    (ht : ∀ v, letOwnedTupleGo target (.ref I) v = pure () := by intro _; rfl) :
    codeAny (model prog w) A (.forLoop target (.ref I) body orelse env) R s := by
  refine codeAny_forLoop
    (fun k s' => ∃ h' tk m' news' i, s' = { s with heap := h', toks := tk } ∧ St i h' ∧ Fr h₀ env.locals h' m' ∧ News h₀ env.locals h' news' ∧ (∀ p ∈ news', p.1 ≠ I) ∧ J i m' news' ∧ i ≤ n ∧ k = n + 1 - i) ?_ (n + 1)
    ⟨s.heap, s.toks, m, news, 0, rfl, hst, F, N, hnw, h0, Nat.zero_le _, rfl⟩ ht
  rintro k s' ⟨h', tk, m', news', i, rfl, hst', F', N', hnw', hJ, hi, rfl⟩
  by_cases hlt : i < n
  · refine W.item i _ _ _ hlt hst' fun v h₁ tk₁ hP hst₁ hk₁ => ?_
    obtain ⟨oI, hoI⟩ := hIo _ _ hst₁
    have F₁ := fr_but F' hk₁ hIL hI₀
    have N₁ := news_but N' hk₁ hnw'
    have N₂ : News h₀ env.locals h₁ ((I, oI) :: news') := fun p hp => by
      rcases List.mem_cons.mp hp with rfl | hp
      · exact ⟨hoI, Ne.symm hIL, hI₀⟩
      · exact N₁ p hp
    refine wpAny_mono (step i v m' news' h₁ tk₁ oI hlt hP hJ hnw' F₁ N₂) (fun _ s₂ h₂ => wpAny_mono h₂ (fun f s₃ h₃ => ?_) fun _ _ e => e.elim) fun _ _ e => e.elim
    cases f with
    | ret v => exact h₃
    | brk => exact h₃
    | cont =>
      obtain ⟨h₃', tk₃, m₂, news₂, rfl, F₃, N₃, ha₃, hJ₃⟩ := h₃
      exact ⟨n + 1 - (i + 1), by omega, h₃', tk₃, m₂, news₂, i + 1, rfl, hSt _ _ _ _ _ hst₁ hoI (N₃ _ (.head _)).1 F₃.keep (fun p hp => N₃ p (.tail _ hp)) (hJS _ _ _ hJ₃), F₃, (fun p hp => N₃ p (.tail _ hp)), ha₃, hJ₃, hlt, rfl⟩
    | next =>
      obtain ⟨h₃', tk₃, m₂, news₂, rfl, F₃, N₃, ha₃, hJ₃⟩ := h₃
      exact ⟨n + 1 - (i + 1), by omega, h₃', tk₃, m₂, news₂, i + 1, rfl, hSt _ _ _ _ _ hst₁ hoI (N₃ _ (.head _)).1 F₃.keep (fun p hp => N₃ p (.tail _ hp)) (hJS _ _ _ hJ₃), F₃, (fun p hp => N₃ p (.tail _ hp)), ha₃, hJ₃, hlt, rfl⟩
  · have hin : i = n := by omega
    subst hin
    refine W.done _ _ _ hst' fun h₁ tk₁ hk₁ => ?_
    exact wpAny_mono (done h₁ tk₁ m' news' hJ (fr_but F' hk₁ hIL hI₀) (news_but N' hk₁ hnw')) (fun _ _ x => x) fun _ _ x => x.elim

def ListSrc (prog : Program) (w : World) (A : Around) (env : Env) (h₀ : Heap) (target : Expr) (body orelse : List Stmt) (Q : Flow → Shared → Prop) (xv : Value) (s₁ : Shared) : Prop :=
  ∃ ax its m news, ∃ J : Nat → (Str → Option Value) → List (Addr × Obj) → Prop, xv = .ref ax ∧ A.handled = none ∧ Fr h₀ env.locals s₁.heap m ∧ News h₀ env.locals s₁.heap news ∧ SrcAt h₀ ax its news ∧ J 0 m news ∧ (∀ i m nw, J i m nw → SrcAt h₀ ax its nw) ∧
      (∀ I i v m₁ news₁ h tk oI, (∀ p ∈ news, p.1 < I) → i < its.size → its[i]? = some v → J i m₁ news₁ → (∀ p ∈ news₁, p.1 ≠ I) → Fr h₀ env.locals h m₁ → News h₀ env.locals h ((I, oI) :: news₁) →
        wpAny (model prog w) A (assign target env v) (fun _ s₂ => wpAny (model prog w) A (execs body env) (TurnEnd h₀ env.locals I oI (J (i + 1)) s₁ (fun r s' => match r with | .ok f => Q f s' | .error _ => False)) (fun _ _ => False) s₂) (fun _ _ => False) { s₁ with heap := h, toks := tk }) ∧
      (∀ h tk m₁ news₁, J its.size m₁ news₁ → Fr h₀ env.locals h m₁ → News h₀ env.locals h news₁ → wpAny (model prog w) A (execs orelse env) Q (fun _ _ => False) { s₁ with heap := h, toks := tk })

/-- for over a list, in the base or in the ledger -/
theorem for_list {env : Env} {h₀ : Heap} {m₀ : Str → Option Value} {target iter : Expr} {body orelse : List Stmt} {pos : Pos} {Q : Flow → Shared → Prop}
    (_F : Fr h₀ env.locals s.heap m₀) (h : wpAny (model prog w) A (eval iter env) (ListSrc prog w A env h₀ target body orelse Q) (fun _ _ => False) s)
    (hs : ∀ x, foldedSetIterable iter env x = pure x := by intro _; rfl)
    (ht : ∀ I v, letOwnedTupleGo target (.ref I) v = pure () := by intro _ _; rfl) :
    wpAny (model prog w) A (exec (.For target iter body orelse pos) env) Q (fun _ _ => False) s := by
  refine wpAny_For (wpAny_mono h (fun xv s₁ h₁ => ?_) fun _ _ e => e) hs
  obtain ⟨ax, its, m, news, J, rfl, hh, F, N, S, h0, hJS, step, done⟩ := h₁
  have hl := S.list F.keep N
  have hlt : ax < s₁.heap.objs.size := by obtain ⟨_, e, _⟩ := hl; exact Heap.lt_size e
  refine wpAny_pyIter_list hl ?_
  have up : ∀ b o, s₁.heap.get? b = some o → (s₁.heap.push { cls := .type "list_iterator", data := .fields #[.ref ax, .int 0 0] }).get? b = some o := fun b o e => Heap.get?_push_of_some _ e
  refine codeAny_mono (R := fun r s' => match r with | .ok f => Q f s' | .error _ => False) ?_ (fun r s' x => by cases r with | ok f => exact x | error e => exact x.elim)
  refine for_gen (S := SrcAt h₀ ax its) (news := news) (m := m) (Walks.list hh s₁.heap.objs.size ax (Nat.ne_of_lt hlt) its) (fun i h st => by obtain ⟨o, e, _⟩ := st.1; exact ⟨o, e⟩) list_st (Nat.ne_of_lt F.ns.lt) (next_is_new F) (fun p hp => Nat.ne_of_lt (Heap.lt_size (N p hp).1))
    ⟨⟨_, Heap.get?_push_size _ rfl, rfl, rfl⟩, hl.push _⟩ (F.keeps up) (N.grown up) J h0 hJS ?_ ?_ (ht _)
  · intro i v m₁ news₁ h tk oI hi hv hJ hne F₁ N₁
    exact step _ i v m₁ news₁ h tk oI (fun p hp => Heap.lt_size (N p hp).1) hi hv hJ hne F₁ N₁
  · intro h tk m₁ news₁ hJ F₁ N₁
    exact done h tk m₁ news₁ hJ F₁ N₁

def RangeSrc (prog : Program) (w : World) (A : Around) (env : Env) (h₀ : Heap) (target : Expr) (body orelse : List Stmt) (Q : Flow → Shared → Prop) (xv : Value) (s₁ : Shared) : Prop :=
  ∃ r a b t u v n m news, ∃ J : Nat → (Str → Option Value) → List (Addr × Obj) → Prop, xv = .ref r ∧ A.handled = none ∧ Fr h₀ env.locals s₁.heap m ∧ News h₀ env.locals s₁.heap news ∧ IsRange s₁.heap r a b 1 t u v ∧ Builtin.Range.small a b 1 = true ∧ Builtin.Range.rangeSize a b 1 = ((n : Nat) : Int) ∧ J 0 m news ∧
      (∀ I (i : Nat) tv m₁ news₁ h tk oI, (∀ p ∈ news, p.1 < I) → i < n → J i m₁ news₁ → (∀ p ∈ news₁, p.1 ≠ I) → Fr h₀ env.locals h m₁ → News h₀ env.locals h ((I, oI) :: news₁) →
        wpAny (model prog w) A (assign target env (.int (a + (i : Int)) tv)) (fun _ s₂ => wpAny (model prog w) A (execs body env) (TurnEnd h₀ env.locals I oI (J (i + 1)) s₁ (fun r s' => match r with | .ok f => Q f s' | .error _ => False)) (fun _ _ => False) s₂) (fun _ _ => False) { s₁ with heap := h, toks := tk }) ∧
      (∀ h tk m₁ news₁, J n m₁ news₁ → Fr h₀ env.locals h m₁ → News h₀ env.locals h news₁ → wpAny (model prog w) A (execs orelse env) Q (fun _ _ => False) { s₁ with heap := h, toks := tk })

/-- for over a range by ones -/
theorem for_range {env : Env} {h₀ : Heap} {m₀ : Str → Option Value} {target iter : Expr} {body orelse : List Stmt} {pos : Pos} {Q : Flow → Shared → Prop}
    (_F : Fr h₀ env.locals s.heap m₀) (h : wpAny (model prog w) A (eval iter env) (RangeSrc prog w A env h₀ target body orelse Q) (fun _ _ => False) s)
    (hs : ∀ x, foldedSetIterable iter env x = pure x := by intro _; rfl)
    (ht : ∀ I v, letOwnedTupleGo target (.ref I) v = pure () := by intro _ _; rfl) :
    wpAny (model prog w) A (exec (.For target iter body orelse pos) env) Q (fun _ _ => False) s := by
  refine wpAny_For (wpAny_mono h (fun xv s₁ h₁ => ?_) fun _ _ e => e) hs
  obtain ⟨r, a, b, t, u, v, n, m, news, J, rfl, hh, F, N, hr, hsm, hn, h0, step, done⟩ := h₁
  refine wpAny_pyIter_range hr hsm ?_
  refine codeAny_mono (R := fun r s' => match r with | .ok f => Q f s' | .error _ => False) ?_ (fun r s' x => by cases r with | ok f => exact x | error e => exact x.elim)
  refine for_gen (S := fun _ => True) (news := news) (m := m) (range_walks hh a n) (fun i h st => ⟨_, st⟩) range_st (Nat.ne_of_lt F.ns.lt) (next_is_new F) (fun p hp => Nat.ne_of_lt (Heap.lt_size (N p hp).1))
    (by show IsRangeIter _ _ _ _ _; rw [hn]; simpa using Heap.get?_push_size _ rfl) (F.keeps fun _ _ e => Heap.get?_push_of_some _ e) (N.grown fun _ _ e => Heap.get?_push_of_some _ e) J h0 (fun _ _ _ _ => trivial) ?_ ?_ (ht _)
  · rintro i v m₁ news₁ h tk oI hi ⟨tv, rfl⟩ hJ hne F₁ N₁
    exact step _ i tv m₁ news₁ h tk oI (fun p hp => Heap.lt_size (N p hp).1) hi hJ hne F₁ N₁
  · intro h tk m₁ news₁ hJ F₁ N₁
    exact done h tk m₁ news₁ hJ F₁ N₁
/-- a def with cells -/
theorem enterC {p : Program} {loose : List Str} {mean : ExcName → Option Value} {mg mb : Str → Option Value} {name qual : Str} {params : Arguments} {body : List Stmt} {scope : Scope} {dV kV doc pm cdv ct oc : Value} {an od : Option Addr} {osl : Array (Option Value)} {f : Addr} {pos : List Value} {kw : List (Str × Value)} {binds : List (Str × Value)}
    (X : K.In s.heap) (T : Top p loose mean mg mb s.heap)
    (ho : K.lookup f = some ⟨oc, od, .func (fnOf name qual params body scope dV kV doc pm an cdv ct), osl⟩) (hcd : codeIn K cdv qual = true) (hroom : A.depth < recursionLimit)
    (hbind : BindsTo s (fnOf name qual params body scope dV kV doc pm an cdv ct) ⟨pos, kw⟩ binds)
    (hkind : (binds.all fun y => scope.names.lookup y.1 == some .local || scope.names.lookup y.1 == some .cell) = true)
    (hnd : ((cellsFrom 0 scope.names []).map (·.1)).Nodup)
    (h : ∀ L h₁ tk cells, Fr s.heap L h₁ (bindL (envOfC qual scope L f cdv).kindOf binds fun _ => none) → News s.heap L h₁ cells →
      CellsAre (bindC (envOfC qual scope L f cdv).kindOf binds fun _ => none) (cellsFrom (L + 1) scope.names []) cells →
      wpAny (model prog w) (A.deeper (envOfC qual scope L f cdv)) (execs body (envOfC qual scope L f cdv))
        (fun fl s' => Q (match fl with | .ret v => v | _ => .none) s') (fun _ _ => False) { s with heap := h₁, toks := tk })
    (hco : scope.isCoroutine = false) (hgen : scope.isGenerator = false) (hk : scope.kind = .function) : wpAny (model prog w) A (call (.ref f) pos kw) Q E s := by
  refine wpAny_call (codeAny_call_function hroom (X _ _ ho) rfl hco hgen rfl (codeRec_of X hcd) (hbind _ _ _ _ ?_))
  refine wpAny_newFunctionEnv_cells hk (kindsX hkind _) fun env' he s' x => ?_
  subst he
  refine ⟨T.nolimit.keeps x.toInCall.keep, codeAny_func ?_⟩
  obtain ⟨h₁, tk, rfl, _⟩ := x.done
  have hk₁ := x.toInCall.keep
  obtain ⟨cells, NC, Y⟩ := Cl.news (h₀ := s.heap) (Nat.le_refl _) fun n c hm => ⟨x.cell n c (lookup_of_mem_nodup (cellsFrom_names scope.names 0 (s.heap.objs.size + 1) [] [] rfl ▸ hnd) hm), x.above n c hm⟩
  exact wpAny_mono (h s.heap.objs.size h₁ tk cells ⟨x.toInCall.ns, hk₁, Nat.le_refl _⟩ NC Y) (fun fl s' hl => hl) fun _ _ y => y.elim

/-- a comprehension whose element keeps everything -/
theorem compU {h₀ : Heap} {L : Addr} {m : Str → Option Value} {env : Env} {elt : Expr} {x : Str} {scope : Scope} {cl : List (Str × Addr)} {S : List (Addr × Obj) → Prop} {P : Nat → Value → Prop} {Fin : List Value → List (Addr × Obj) → Prop} {news : List (Addr × Obj)} {n : Nat}
    (R : Nat → List Value → Prop) (hS : S news)
    (hstep : ∀ i ys v I oI C oC D m₂ h tk, i < n → R i ys → P i v → NsObj oC m₂ → m₂ x = some v → Fr h₀ L h m → News h₀ L h ((I, oI) :: (C, oC) :: (D, lst ys) :: news) →
      wpAny (model prog w) A (eval elt (compEnvC scope cl C env)) (fun y s' => (∃ h' tk', s' = { s with heap := h', toks := tk' } ∧ Kp h h') ∧ R (i + 1) (ys ++ [y])) (fun _ _ => False) { s with heap := h, toks := tk })
    (hfin : ∀ ys, R n ys → Fin ys news) : ∀ (k i : Nat) (ys : List Value), i + k = n → R i ys → CompRest prog w A h₀ L m env elt x scope cl s S P Fin k i ys news
  | 0, i, ys, e, r => CompRest.zero (hfin ys (by rw [← e, Nat.add_zero]; exact r))
  | k + 1, i, ys, e, r => CompRest.succ fun v I oI C oC D m₂ h tk E' hP hN hx F N off ne => by
    refine wpAny_mono (hstep i ys v I oI C oC D m₂ h tk (by omega) r hP hN hx F N) (fun y s' q => ?_) fun _ _ q => q.elim
    obtain ⟨⟨h', tk', rfl, kp⟩, r'⟩ := q
    exact ⟨h', tk', news, rfl, kp.fr F, kp.news N, off, hS, compU R hS hstep hfin k (i + 1) (ys ++ [y]) (by omega) r'⟩

/-- the same with a test -/
theorem compT {h₀ : Heap} {L : Addr} {m : Str → Option Value} {env : Env} {ct elt : Expr} {x : Str} {scope : Scope} {cl : List (Str × Addr)} {S : List (Addr × Obj) → Prop} {P : Nat → Value → Prop} {Fin : List Value → List (Addr × Obj) → Prop} {news : List (Addr × Obj)} {n : Nat}
    (R : Nat → List Value → Prop) (hS : S news)
    (hstep : ∀ i ys v I oI C oC D m₂ h tk, i < n → R i ys → P i v → NsObj oC m₂ → m₂ x = some v → Fr h₀ L h m → News h₀ L h ((I, oI) :: (C, oC) :: (D, lst ys) :: news) →
      wpAny (model prog w) A (isTrue ct (compEnvC scope cl C env) (eval ct (compEnvC scope cl C env))) (fun ok s' => if ok = true then
        wpAny (model prog w) A (eval elt (compEnvC scope cl C env)) (fun y s'' => (∃ h' tk', s'' = { s with heap := h', toks := tk' } ∧ Kp h h') ∧ R (i + 1) (ys ++ [y])) (fun _ _ => False) s'
        else (∃ h' tk', s' = { s with heap := h', toks := tk' } ∧ Kp h h') ∧ R (i + 1) ys) (fun _ _ => False) { s with heap := h, toks := tk })
    (hfin : ∀ ys, R n ys → Fin ys news) : ∀ (k i : Nat) (ys : List Value), i + k = n → R i ys → CompRestT prog w A h₀ L m env ct elt x scope cl s S P Fin k i ys news
  | 0, i, ys, e, r => CompRestT.zero (hfin ys (by rw [← e, Nat.add_zero]; exact r))
  | k + 1, i, ys, e, r => CompRestT.succ fun v I oI C oC D m₂ h tk E' hP hN hx F N off ne => by
    refine wpAny_mono (hstep i ys v I oI C oC D m₂ h tk (by omega) r hP hN hx F N) (fun ok s' q => ?_) fun _ _ q => q.elim
    cases ok with
    | true =>
      simp only [if_true] at q ⊢
      refine wpAny_mono q (fun y s'' q => ?_) fun _ _ q => q.elim
      obtain ⟨⟨h', tk', rfl, kp⟩, r'⟩ := q
      exact ⟨h', tk', news, rfl, kp.fr F, kp.news N, off, hS, compT R hS hstep hfin k (i + 1) (ys ++ [y]) (by omega) r'⟩
    | false =>
      simp only [Bool.false_eq_true, if_false] at q ⊢
      obtain ⟨⟨h', tk', rfl, kp⟩, r'⟩ := q
      exact ⟨h', tk', news, rfl, kp.fr F, kp.news N, off, hS, compT R hS hstep hfin k (i + 1) ys (by omega) r'⟩
end
end Mine

-- part Pf
open PySem PySem.W PyProof.Rows PySem.Calls PySem.Spec PyProof.Rows.LCg PyProof.Rows.LCt
set_option Elab.async false
set_option maxRecDepth 100000
set_option maxHeartbeats 8000000
namespace Mine
section
variable {prog : Program} {w : World} {A : Around} {s : Shared} {Q : Value → Shared → Prop} {E : Value → Shared → Prop}
variable {p : Program} {loose : List Str} {mean : ExcName → Option Value} {mg mb : Str → Option Value}
def flagName : Nat → Str
  | 0 => "OPTIMIZED" | 1 => "NEWLOCALS" | 2 => "VARARGS" | 3 => "VARKEYWORDS" | _ => "NESTED"
def nmBelow (f : Nat) : Nat → List Str
  | 0 => []
  | i + 1 => nmBelow f i ++ (if f.testBit i then [flagName i] else [])
/-- what pretty_flags says of a number of five bits -/
def flagText (f : Nat) : Str := Txt.join (Str.ofString ", ") (nmBelow f 5)
theorem pf_bits : ∀ (f : Fin 32) (i : Fin 5), Builtin.bitAnd ((f.val / 2 ^ i.val * 2 ^ i.val : Nat) : Int) (1 * 2 ^ i.val) = (if f.val.testBit i.val then 2 ^ i.val else 0) ∧
    (f.val.testBit i.val = true → Builtin.bitXor ((f.val / 2 ^ i.val * 2 ^ i.val : Nat) : Int) (1 * 2 ^ i.val) = ((f.val / 2 ^ (i.val + 1) * 2 ^ (i.val + 1) : Nat) : Int)) ∧
    (f.val.testBit i.val = false → f.val / 2 ^ i.val * 2 ^ i.val = f.val / 2 ^ (i.val + 1) * 2 ^ (i.val + 1)) ∧
    (f.val / 2 ^ (i.val + 1) * 2 ^ (i.val + 1) = 0 → nmBelow f.val (i.val + 1) = nmBelow f.val 5) ∧
    ((nmBelow f.val 5).map (·.length)).sum + (nmBelow f.val 5).length * 64 ≤ 16777216 := by decide +kernel
theorem pf_small {f i : Nat} (hf : f < 32) (h : ((f / 2 ^ i * 2 ^ i : Nat) : Int) ≠ 0) : i < 5 := by
  rcases Nat.lt_or_ge i 5 with h5 | h5
  · exact h5
  · have h6 : 2 ^ 5 ≤ 2 ^ i := Nat.pow_le_pow_right (by decide) h5
    have h7 : f / 2 ^ i = 0 := Nat.div_eq_of_lt (by omega)
    rw [h7] at h; simp at h
theorem pf_yes {f i : Nat} {x : Int} (hf : f < 32) (hi : i < 5) (hx : x = ((f / 2 ^ i * 2 ^ i : Nat) : Int)) (h : Builtin.bitAnd x (1 * 2 ^ i) ≠ 0) :
    f.testBit i = true ∧ Builtin.bitXor x (1 * 2 ^ i) = ((f / 2 ^ (i + 1) * 2 ^ (i + 1) : Nat) : Int) := by
  have b := pf_bits ⟨f, hf⟩ ⟨i, hi⟩
  subst hx
  have ht : f.testBit i = true := by
    cases e : f.testBit i with
    | true => rfl
    | false =>
      have b1 := b.1
      dsimp only at b1
      rw [e] at b1
      exact absurd b1 h
  exact ⟨ht, b.2.1 ht⟩
theorem pf_no {f i : Nat} {x : Int} (hf : f < 32) (hi : i < 5) (hx : x = ((f / 2 ^ i * 2 ^ i : Nat) : Int)) (h : Builtin.bitAnd x (1 * 2 ^ i) = 0) :
    f.testBit i = false ∧ x = ((f / 2 ^ (i + 1) * 2 ^ (i + 1) : Nat) : Int) := by
  have b := pf_bits ⟨f, hf⟩ ⟨i, hi⟩
  subst hx
  have ht : f.testBit i = false := by
    cases e : f.testBit i with
    | false => rfl
    | true =>
      have b1 := b.1
      dsimp only at b1
      rw [e, h] at b1
      have : (0 : Int) < 2 ^ i := Int.pow_pos (by decide)
      simp only [if_true] at b1
      omega
  exact ⟨ht, by rw [← b.2.2.1 ht]⟩

theorem hexlen : ∀ i, i < 5 → (baseText "0x" 16 (1 * 2 ^ i)).length ≤ 10 := by decide +kernel
theorem pfget {h₀ : Heap} {L : Addr} {m : Str → Option Value} {news : List (Addr × Obj)} (X : Frag.In (hd.heap_39 w.params) h₀) (T : Top p loose mean mg mb h₀) (F : Fr h₀ L s.heap m) (N : News h₀ L s.heap news) {i : Nat} (hi : i < 5) {x : Str} {t u : Tok}
    (h : ∀ t' tk', Q (.str (flagName i) t') { s with toks := tk' }) : wpAny (model prog w) A (call (.builtin "dict.get") [.ref 51, .int (1 * 2 ^ i) t, .str x u]) Q E s := by
  have hc := five_cases i (by assumption)
  rcases hc with rfl | rfl | rfl | rfl | rfl
  all_goals
    k_steps
    exact h _ _
local macro_rules | `(tactic| walk_at "call builtin:hex") => `(tactic| refine Stop.out ?_)
local macro_rules | `(tactic| walk_at "call builtin:dict.get") => `(tactic| refine Stop.out ?_)
theorem pf (X : Frag.In (hd.heap_39 w.params) s.heap) (T : Top p loose mean mg mb s.heap) (hA : A.depth + 1 < recursionLimit) (hh : A.handled = none) (flags : Nat) (tf : Tok) (h1 : 1 ≤ flags) (h2 : flags < 32)
   (ret : ∀ (t : Tok) (h' : Heap) (tk' : Nat), Kp s.heap h' → Q (.str (flagText flags) t) { s with heap := h', toks := tk' }) :
   wpAny (model prog w) A (call (.ref 58) [.int (flags : Int) tf]) Q E s := by
  refine' enter X T ?k6 ?k7 ?k8 ?k9 ?kB ?_ ?c2 ?c3 ?c4 ?c5
  (case k6 => k_is); (case k7 => k_is); (case k8 => omega); (case k9 => exact BindsTo.of_eq rfl); (case c5 => decide); (case kB => exact locs rfl); (case c2 => exact rfl); (case c3 => exact rfl); (case c4 => exact rfl)
  intro L h₁ tk F N
  k_steps
  refine' for_range (by k_asm) ?_
  k_steps
  rename_i _ nmA _ _ _ _ _ _ _ _ _ _ hr F1 N1 _
  refine ⟨_, _, _, _, _, _, 32, _, _, fun i m news => ∃ fl t vs nn, m (Str.ofString "flags") = some (.int fl t) ∧ m (Str.ofString "names") = some (.ref nmA) ∧ news = [(nmA, W.listOf vs nn)] ∧ fl = ((flags / 2 ^ i * 2 ^ i : Nat) : Int) ∧ fl ≠ 0 ∧ StrsAre vs.toList (nmBelow flags i) ∧ vs.size ≤ i, rfl, hh, F1, N1, hr, rfl, rfl, ?_, ?_, ?_⟩
  · exact ⟨_, _, _, _, rfl, rfl, rfl, by simp, by omega, .nil, by decide⟩
  · rintro I i tv m₁ news₁ h tk oI hlt hi ⟨fl, t, vs, nn, e1, e2, rfl, e4, e5, e6, e7⟩ hne F2 N2
    have F3 := frKnow2 F2 e1 e2
    clear F2 F1 N1 hr
    have hi5 : i < 5 := pf_small h2 (e4 ▸ e5)
    have hne' : @Ne Nat nmA I := hne _ (.head _)
    rw [Int.zero_add]
    have hp2 : ∀ i, i < 5 → (0 : Int) ≤ 1 * 2 ^ i ∧ (1 : Int) * 2 ^ i ≤ 16 := by decide
    have hpi := hp2 i hi5
    k_steps
    · rw [Int.toNat_natCast] at *
      refine Stop.mk (P.hex_of_int ?_ (Nat.le_trans (hexlen i hi5) (by rw [sizeLine_eq]; decide)))
      k_steps
      rename Fr _ _ _ _ => Fy
      rename News _ _ _ _ => Ny
      refine Stop.mk (pfget (X.keeps (Kp.refl _)) (T.keeps (Kp.refl _)) Fy Ny hi5 fun t' tk' => ?_)
      k_steps
      · rename Fr _ _ _ _ => Fz
        rename News _ _ _ _ => Nz
        rename (Builtin.bitXor _ _ ≠ 0) => hx
        rename (Builtin.bitAnd _ _ ≠ 0) => ha
        obtain ⟨q1, q2⟩ := pf_yes h2 hi5 e4 ha
        refine TurnEnd.next Fz Nz (fun _ x => x) (by simpa using hne') ⟨_, _, _, _, rfl, rfl, rfl, q2, ?_, ?_, ?_⟩
        · exact hx
        · rw [nmBelow, if_pos q1, Array.toList_push]
          exact StrsAre.append' e6 (.cons _ _ .nil)
        · rw [Array.size_push]; omega
      · rename Fr _ _ _ _ => Fz
        rename News _ _ _ _ => Nz
        rename (Builtin.bitXor _ _ = 0) => hx
        rename (Builtin.bitAnd _ _ ≠ 0) => ha
        obtain ⟨q1, q2⟩ := pf_yes h2 hi5 e4 ha
        show wpAny _ _ _ _ _ _
        k_steps
        refine join_listC (ys := nmBelow flags 5) (News.isList Nz (.tail _ (.head _))) ?_ (by decide) (pf_bits ⟨flags, h2⟩ ⟨_, hi5⟩).2.2.2.2 fun t' k => ?_
        · rw [← (pf_bits ⟨flags, h2⟩ ⟨_, hi5⟩).2.2.2.1 (by have := q2.symm.trans hx; dsimp only; omega), nmBelow, if_pos q1, Array.toList_push]
          exact StrsAre.append' e6 (.cons _ _ .nil)
        exact ret t' _ _ Fz.keep
    · rename Fr _ _ _ _ => Fz
      rename News _ _ _ _ => Nz
      rename (Builtin.bitAnd _ _ = 0) => ha
      obtain ⟨q1, q2⟩ := pf_no h2 hi5 e4 ha
      refine TurnEnd.next Fz Nz (fun _ x => x) (by simpa using hne') ⟨_, _, _, _, rfl, rfl, rfl, q2, e5, ?_, by omega⟩
      rw [nmBelow, if_neg (by rw [q1]; decide), List.append_nil]
      exact e6
  · rintro h tk m₁ news₁ ⟨fl, t, vs, nn, e1, e2, rfl, e4, e5, e6, e7⟩ F1 N1
    exact absurd (pf_small h2 (e4 ▸ e5)) (by decide)
end
end Mine

-- part Scan
open PySem PySem.W PyProof.Rows PySem.Calls PySem.Spec
set_option maxRecDepth 100000
set_option maxHeartbeats 8000000
namespace Mine
def find4 (x y : Str) (i j : Int) : Int := match Builtin.Str.occurrences x y (fromIndex x.length i) (min (fromIndex x.length j) x.length) 1 with | k :: _ => (k : Int) | [] => -1
def scan (got : Str) : List Str → Int → Bool
  | [], _ => true
  | w :: r, p => let q := find4 got w p (got.length : Int); if q < 0 then false else scan got r (q + (w.length : Int))
theorem occ_loop (P : Nat → Bool) (k lo : Nat) : ∀ (l : List Nat) (fr : Nat), (∀ i ∈ l, fr ≤ i) →
    (forIn (m := Id) l ((#[], fr) : Array Nat × Nat) fun i st => if (decide (st.1.size < 1) && decide (st.2 ≤ i) && P i) = true then pure (ForInStep.yield (st.1.push i, i + k)) else pure (ForInStep.yield (st.1, st.2))).run.1.toList = (l.find? P).toList
  | [], fr, _ => rfl
  | i :: l, fr, h => by
    have key : ∀ (l : List Nat) (x fr : Nat), (forIn (m := Id) l ((#[x], fr) : Array Nat × Nat) fun i st => if (decide (st.1.size < 1) && decide (st.2 ≤ i) && P i) = true then pure (ForInStep.yield (st.1.push i, i + k)) else pure (ForInStep.yield (st.1, st.2))).run.1.toList = [x] := by
      intro l x
      induction l with
      | nil => intro fr; rfl
      | cons j l ih => intro fr; rw [List.forIn_cons]; exact ih fr
    rw [List.forIn_cons, List.find?_cons]
    have hf : decide (fr ≤ i) = true := decide_eq_true (h i List.mem_cons_self)
    cases c : P i with
    | true =>
      rw [show (decide ((#[] : Array Nat).size < 1) && decide (fr ≤ i) && true) = true by rw [hf]; rfl]
      exact key l i (i + k)
    | false =>
      rw [Bool.and_false]
      exact occ_loop P k lo l fr fun j hj => h j (List.mem_cons_of_mem _ hj)
theorem occ_find (s sub : Str) (lo hi : Nat) : Builtin.Str.occurrences s sub lo hi 1 = ((List.range' lo (hi + 1 - lo)).find? fun i => decide (i + sub.length ≤ hi) && Builtin.Str.subAt s sub i).toList := by
  unfold Builtin.Str.occurrences
  simp only [Std.Legacy.Range.forIn_eq_forIn_range', Std.Legacy.Range.size, Bool.and_assoc, Nat.add_sub_cancel, Nat.div_one]
  refine Eq.trans ?_ (occ_loop (fun i => decide (i + sub.length ≤ hi) && Builtin.Str.subAt s sub i) sub.length lo (List.range' lo (hi + 1 - lo)) lo fun i hi => (List.mem_range'_1.mp hi).1)
  simp only [Bool.and_assoc]
  rfl
def preL : List Nat → List Nat → Option (List Nat)
  | [], t => some t
  | a :: w, b :: t => if a == b then preL w t else none
  | _ :: _, [] => none
theorem preL_is : ∀ (w t : List Nat), preL w t = if t.take w.length = w then some (t.drop w.length) else none
  | [], t => by rw [preL]; rfl
  | a :: w, [] => by rw [preL]; rfl
  | a :: w, b :: t => by
    rw [preL, preL_is w t, List.length_cons, List.take_succ_cons, List.drop_succ_cons]
    by_cases c : a = b
    · subst c; simp
    · have c' : ¬ b = a := fun e => c e.symm
      simp [c, c']
def findSuf (w : List Nat) : List Nat → Option (List Nat)
  | [] => preL w []
  | b :: t => match preL w (b :: t) with | some r => some r | none => findSuf w t
theorem subAt_is (s sub : Str) (i : Nat) : Builtin.Str.subAt s sub i = decide ((s.cps.toList.drop i).take sub.length = sub.cps.toList) := by
  unfold Builtin.Str.subAt
  rw [Bool.eq_iff_iff, beq_iff_eq, decide_eq_true_iff, ← Array.toList_inj, Array.toList_extract, List.extract_eq_take_drop, Nat.add_sub_cancel_left]
theorem le_sub_add {a b c : Nat} (h : c ≤ b) (x : a ≤ b - c) : c + a ≤ b := by omega
theorem find_suf (s sub : Str) (n : Nat) : ∀ lo, lo + n = s.length →
    ((List.range' lo (n + 1)).find? fun i => decide (i + sub.length ≤ s.length) && Builtin.Str.subAt s sub i).map (fun i => s.cps.toList.drop (i + sub.length)) = findSuf sub.cps.toList (s.cps.toList.drop lo) := by
  have hP : ∀ lo, lo ≤ s.length → (decide (lo + sub.length ≤ s.length) && Builtin.Str.subAt s sub lo) = decide ((s.cps.toList.drop lo).take sub.length = sub.cps.toList) := fun lo hlo => by
    rw [subAt_is]
    by_cases c : (s.cps.toList.drop lo).take sub.length = sub.cps.toList
    · have := congrArg List.length c
      rw [List.length_take, List.length_drop] at this
      rw [decide_eq_true c, decide_eq_true (show lo + sub.length ≤ s.length from le_sub_add hlo (Nat.le_trans (Nat.le_of_eq this.symm) (Nat.min_le_right _ _))), Bool.and_true]
    · rw [decide_eq_false c, Bool.and_false]
  have hp : ∀ lo, preL sub.cps.toList (s.cps.toList.drop lo) = if (s.cps.toList.drop lo).take sub.length = sub.cps.toList then some (s.cps.toList.drop (lo + sub.length)) else none := fun lo => by
    rw [preL_is, List.drop_drop]; rfl
  induction n with
  | zero =>
    intro lo e
    have hd : s.cps.toList.drop lo = [] := List.drop_eq_nil_of_le (Nat.le_of_eq e.symm)
    have hp := hp lo
    rw [List.range'_succ, List.find?_cons, hP lo (Nat.le_of_eq e), hd, findSuf]
    rw [hd] at hp
    rw [hp]
    by_cases c : ([] : List Nat).take sub.length = sub.cps.toList
    · rw [decide_eq_true c, if_pos c]; rfl
    · rw [decide_eq_false c, if_neg c]; rfl
  | succ n ih =>
    intro lo e
    have hl : lo < s.cps.toList.length := show lo < s.length from e ▸ Nat.lt_add_of_pos_right (Nat.succ_pos n)
    have hp := hp lo
    rw [List.range'_succ, List.find?_cons, hP lo (Nat.le_of_lt hl)]
    rw [List.drop_eq_getElem_cons hl] at hp ⊢
    rw [findSuf, hp]
    by_cases c : (s.cps.toList[lo] :: s.cps.toList.drop (lo + 1)).take sub.length = sub.cps.toList
    · rw [decide_eq_true c, if_pos c]; rfl
    · rw [decide_eq_false c, if_neg c]
      exact ih (lo + 1) (by rw [Nat.add_assoc, Nat.add_comm 1 n]; exact e)
def scanS (t : List Nat) : List (List Nat) → Bool
  | [] => true
  | w :: r => match findSuf w t with | some t => scanS t r | none => false
theorem from_nat (n k : Nat) : fromIndex n (k : Int) = k := by
  unfold fromIndex
  rw [if_neg (Int.not_lt.mpr (Int.natCast_nonneg k)), Int.max_eq_right (Int.natCast_nonneg k)]; rfl
theorem scan_suf (got : Str) : ∀ (l : List Str) (p : Nat), p ≤ got.length → scan got l (p : Int) = scanS (got.cps.toList.drop p) (l.map (·.cps.toList))
  | [], _, _ => rfl
  | w :: r, p, hp => by
    have hf := find_suf got w (got.length - p) p (Nat.add_sub_of_le hp)
    rw [scan, List.map_cons, scanS, ← hf, find4, from_nat, from_nat, Nat.min_self, occ_find, show got.length + 1 - p = got.length - p + 1 from Nat.succ_sub hp]
    cases e : (List.range' p (got.length - p + 1)).find? fun i => decide (i + w.length ≤ got.length) && Builtin.Str.subAt got w i with
    | none => rfl
    | some k =>
      have hk := List.find?_some e
      rw [Bool.and_eq_true, decide_eq_true_iff] at hk
      exact scan_suf got r (k + w.length) hk.1
def nums : List Nat := [0, 1, 2, 3, 4, 5, 6, 7, 8, 9, 10, 11, 12, 13, 14, 15, 16, 17, 18, 19, 20, 21, 22, 23, 24, 25, 26, 27, 28, 29, 30, 31]
theorem nums_mem : ∀ k : Fin 32, k.val ∈ nums := by decide +kernel
theorem scan_all : (nums.all fun m => m == 0 || nums.all fun k => scanS (flagText m).cps.toList ((Str.ofString "" :: nmBelow k 5 ++ [Str.ofString ""]).map (·.cps.toList)) == (k &&& m == k)) = true := by decide +kernel
theorem scan_is (k m : Fin 32) (hm : m.val ≠ 0) : scan (flagText m.val) (Str.ofString "" :: nmBelow k.val 5 ++ [Str.ofString ""]) 0 = (k.val &&& m.val == k.val) := by
  have h := List.all_eq_true.mp scan_all m.val (nums_mem m)
  rw [Bool.or_eq_true, List.all_eq_true] at h
  rcases h with h | h
  · exact absurd (beq_iff_eq.mp h) hm
  · have := h k.val (nums_mem k)
    rw [← List.drop_zero (l := (flagText m.val).cps.toList), ← scan_suf _ _ _ (Nat.zero_le _)] at this
    exact beq_iff_eq.mp this
def pat (k : Nat) : Str := Str.ofString "..." ++ Txt.replace (flagText k) (Str.ofString ", ") (Str.ofString "...") ++ Str.ofString "..."
theorem pat_split : ∀ k : Fin 32, k.val ≠ 0 → Txt.split (pat k.val) (Str.ofString "...") = (Str.ofString "" :: nmBelow k.val 5 ++ [Str.ofString ""]) := by decide +kernel
end Mine

-- part Em
open PySem PySem.W PyProof.Rows PySem.Calls PySem.Spec PyProof.Rows.LCg PyProof.Rows.LCt
set_option Elab.async false
set_option maxRecDepth 100000
set_option maxHeartbeats 8000000
namespace Mine
section
variable {prog : Program} {w : World} {A : Around} {s : Shared} {Q : Value → Shared → Prop} {E : Value → Shared → Prop}
variable {p : Program} {loose : List Str} {mean : ExcName → Option Value} {mg mb : Str → Option Value}
local macro_rules | `(tactic| walk_at "exec For Name Name cons nil") => `(tactic| refine Stop.out ?_)
theorem gives_find4 (x y : Str) (i j : Int) (t u v v' : Tok) : Gives (Builtin.«str.find» ⟨[.str x t, .str y u, .int i v, .int j v'], []⟩) (.int (find4 x y i j)) := by
  show Gives (match Builtin.Str.occurrences x y (fromIndex x.length i) (min (fromIndex x.length j) x.length) 1 with | k :: _ => retInt k | [] => (do rule "str.find.not-found"; retInt (-1))) _
  unfold find4
  cases Builtin.Str.occurrences x y (fromIndex x.length i) (min (fromIndex x.length j) x.length) 1 with
  | nil => exact .rule (.of_eq rfl)
  | cons k _ => exact .of_eq rfl
theorem call_find4 {x y : Str} {i j : Int} {t u v v' : Tok} (hq : Q (.int (find4 x y i j) s.toks) { s with toks := s.toks + 1 }) : wpAny (model prog w) A (call (.builtin "str.find") [.str x t, .str y u, .int i v, .int j v']) Q E s :=
  call_gives F.slot_str_find (typeIs_str _ _ _) F.entry_str_find (F.args_str_find_4 _ _ _ _) (gives_find4 x y i j t u v v') hq
theorem last_of {α : Type} (x y d : α) (mid : List α) : (x :: mid ++ [y]).getD (-1 + ((x :: mid ++ [y]).length : Int)).toNat d = y := by
  have e : (-1 + ((x :: mid ++ [y]).length : Int)).toNat = mid.length + 1 := by simp; omega
  rw [e]; simp

theorem em (X : Frag.In (hd.heap_39 w.params) s.heap) (T : Top p loose mean mg mb s.heap) (hA : A.depth + 1 < recursionLimit) (hh : A.handled = none) (want got : Str) (mid : List Str) (tw tg : Tok)
   (hs : Txt.split want (Str.ofString "...") = Str.ofString "" :: mid ++ [Str.ofString ""])
   (hin : (Builtin.Str.occurrences want (Str.ofString "...") 0 want.length 1).isEmpty = false) (hm : mid.length ≤ 5) (hwl : want.length ≤ 1000) (hgl : got.length ≤ 1000)
   (ret : ∀ (h' : Heap) (tk' : Nat), Kp s.heap h' → Q (.bool (scan got (Str.ofString "" :: mid ++ [Str.ofString ""]) 0)) { s with heap := h', toks := tk' }) :
   wpAny (model prog w) A (call (.ref 72) [.str want tw, .str got tg]) Q E s := by
  obtain ⟨ah, dp, fr, gd, un⟩ := A
  dsimp only at hh hA
  subst hh
  refine' enter X T ?k6 ?k7 ?k8 ?k9 ?kB ?_ ?c2 ?c3 ?c4 ?c5
  (case k6 => k_is); (case k7 => k_is); (case k8 => (dsimp only; omega)); (case k9 => exact BindsTo.of_eq rfl); (case c5 => decide); (case kB => exact locs rfl); (case c2 => exact rfl); (case c3 => exact rfl); (case c4 => exact rfl)
  intro L h₁ tk F N
  k_steps
  rotate_left
  · exfalso
    rename (List.map _ _ = Txt.split _ _) => hl
    rename (¬ (2 : Int) ≤ _) => hn
    rw [hs] at hl
    have := congrArg List.length hl
    simp at this
    omega
  rename (List.map _ _ = Txt.split _ _) => hl
  rename (List.map _ _)[Int.toNat 0]? = some _ => hy
  rw [hs] at hl
  rw [hl] at hy
  cases Option.some.inj hy
  clear hy
  k_steps
  rw [hl, last_of]
  k_steps
  refine Stop.mk ?_
  refine for_list (by k_asm) ?_
  k_steps
  rename Fr _ _ _ _ => F1
  rename News _ _ _ _ => N1
  rename StrsAre _ _ => hS
  rename List (Str × Tok) => l
  rw [hl] at hS
  refine ⟨_, (strValues l).toArray, _, _, fun i m news => ∃ q t tg te D o1 o2, news = [(D, o1), (h₁.objs.size, ({ cls := Value.type "list", data := Data.seq (strValues l).toArray } : Obj))] ∧ o2 = o1 ∧ m (Str.ofString "got") = some (.str got tg) ∧ m (Str.ofString "endpos") = some (.int (got.length : Int) te) ∧ m (Str.ofString "startpos") = some (.int q t) ∧
    scan got ((Str.ofString "" :: mid ++ [Str.ofString ""]).drop i) q = scan got (Str.ofString "" :: mid ++ [Str.ofString ""]) 0, rfl, rfl, F1, N1, .inr ⟨_, .tail _ (.head _), rfl, _, rfl⟩, ?_, ?_, ?_, ?_⟩
  · exact ⟨_, _, _, _, _, _, _, rfl, rfl, rfl, rfl, rfl, rfl⟩
  · rintro i m nw ⟨q, t, tg, te, D, o1, o2, rfl, -⟩
    exact .inr ⟨_, .tail _ (.head _), rfl, _, rfl⟩
  · rintro I i v m₁ news₁ h tk oI hlt hi hv ⟨q, t, tg, te, D, o1, o2, rfl, rfl, e1, e2, e3, e4⟩ hne F2 N2
    have hv' : (strValues l)[i]? = some v := by simpa using hv
    obtain ⟨y, ty, rfl, hy⟩ := StrsAre.item hS i v hv'
    have F3 := frKnow3 F2 e1 e2 e3
    clear F2 F1 N1
    have hd : (Str.ofString "" :: mid ++ [Str.ofString ""]).drop i = y :: (Str.ofString "" :: mid ++ [Str.ofString ""]).drop (i + 1) := by
      obtain ⟨hlt, he⟩ := List.getElem?_eq_some_iff.mp hy
      rw [List.drop_eq_getElem_cons hlt, he]
    rw [hd, scan] at e4
    rename (∀ a : Str, a ∈ List.map _ _ → a.length ≤ _) => hal
    have hyl : y.length ≤ 1000 := Nat.le_trans (hal y (by rw [hl]; exact List.mem_of_getElem? hy)) hwl
    k_steps
    refine call_find4 ?_
    k_steps
    · rename Fr _ _ _ _ => Fz
      rename (find4 _ _ _ _ < 0) => hx
      show Q (.bool false) _
      rw [if_pos hx] at e4
      rw [e4]
      exact ret _ _ Fz.keep
    · rename Fr _ _ _ _ => Fz
      rename News _ _ _ _ => Nz
      rename (¬ find4 _ _ _ _ < 0) => hx
      rw [if_neg hx] at e4
      refine TurnEnd.next Fz Nz (fun _ x => x) hne ?_
      exact ⟨_, _, _, _, _, _, _, rfl, rfl, rfl, rfl, rfl, e4⟩
  · rintro h tk m₁ news₁ ⟨q, t, tg, te, D, o1, o2, rfl, rfl, e1, e2, e3, e4⟩ F2 N2
    have hlen : (strValues l).toArray.size = (Str.ofString "" :: mid ++ [Str.ofString ""]).length := by
      rw [← hS.length]; simp
    rw [hlen, List.drop_length, scan] at e4
    k_steps
    show Q (.bool true) _
    rw [e4]
    exact ret _ _ F2.keep
end
end Mine

-- part Tied
open PySem PySem.W PyProof.Rows PySem.Calls PySem.Spec PyProof.Rows.LCg PyProof.Rows.LCt
set_option Elab.async false
set_option maxRecDepth 100000
set_option maxHeartbeats 8000000
namespace Mine
section
variable {prog : Program} {w : World} {A : Around} {s : Shared} {Q : Value → Shared → Prop} {E : Value → Shared → Prop}
variable {p : Program} {loose : List Str} {mean : ExcName → Option Value} {mg mb : Str → Option Value}
local macro_rules | `(tactic| walk_at "exec For Name Name cons nil") => `(tactic| refine Stop.out ?_)
local macro_rules | `(tactic| walk_at "call ref") => `(tactic| refine Stop.out ?_)
theorem flagText_len : ∀ f : Fin 32, (flagText f.val).length ≤ 100 := by decide +kernel
theorem pat_len : ∀ f : Fin 32, (pat f.val).length ≤ 100 := by decide +kernel
theorem pat_in : ∀ k : Fin 32, k.val ≠ 0 → (Builtin.Str.occurrences (pat k.val) (Str.ofString "...") 0 (pat k.val).length 1).isEmpty = false := by decide +kernel
theorem nm_len : ∀ f : Fin 32, (nmBelow f.val 5).length ≤ 5 := by decide +kernel
theorem repl_len : ∀ f : Fin 32, (Txt.replace (flagText f.val) (Str.ofString ", ") (Str.ofString "...")).length ≤ 100 := by decide +kernel
theorem lp (X : Frag.In (hd.heap_39 w.params) s.heap) (T : Top p loose mean mg mb s.heap) (hA : A.depth + 2 < recursionLimit) (hh : A.handled = none) (k : Nat) (tk : Tok) (h1 : 1 ≤ k) (h2 : k < 32)
   (ret : ∀ (t : Tok) (h' : Heap) (tk' : Nat), Kp s.heap h' → Q (.str (pat k) t) { s with heap := h', toks := tk' }) :
   wpAny (model prog w) A (call (.ref 93) [.int (k : Int) tk]) Q E s := by
  obtain ⟨ah, dp, fr, gd, un⟩ := A
  dsimp only at hh hA
  subst hh
  refine' enter X T ?k6 ?k7 ?k8 ?k9 ?kB ?_ ?c2 ?c3 ?c4 ?c5
  (case k6 => k_is); (case k7 => k_is); (case k8 => (dsimp only; omega)); (case k9 => exact BindsTo.of_eq rfl); (case c5 => decide); (case kB => exact locs rfl); (case c2 => exact rfl); (case c3 => exact rfl); (case c4 => exact rfl)
  intro L h₁ tk F N
  have hfl : (flagText k).length ≤ 100 := flagText_len ⟨k, h2⟩
  k_steps
  refine Stop.mk (toksUp (pf (X.keeps F.keep) (T.keeps F.keep) (by dsimp [Around.deeper]; omega) rfl k _ h1 h2 fun t h' tk' kp ht => ?_))
  have F' := kp.fr F
  have N' := kp.news N
  clear F N
  dsimp only at ht
  k_steps
  refine SC.replaceW (show @Ne Nat _ _ by omega) (show @Ne Nat _ _ by omega) (show @Ne Nat _ _ by omega) (by decide) (by omega) (by decide) fun t' k' => ?_
  have hrl := repl_len ⟨k, h2⟩
  dsimp only at hrl
  generalize hR : Txt.replace (flagText k) (Str.ofString ", ") (Str.ofString "...") = R at hrl ⊢
  have hd3 : (Str.ofString "...").length = 3 := by decide
  refine add_str (fun t1 k1 => ?_) (by rw [hd3, sizeLine_eq]; omega)
  k_steps
  have e : pat k = Str.ofString "..." ++ R ++ Str.ofString "..." := by rw [← hR]; rfl
  rw [← e]
  exact ret _ _ _ F'.keep

theorem tied (X : Frag.In (hd.heap_39 w.params) s.heap) (T : Top p loose mean mg mb s.heap) (hA : A.depth + 2 < recursionLimit) (hh : A.handled = none) (f : Nat) (tf : Tok) (h1 : 1 ≤ f) (h2 : f < 32)
   (a : Addr) (vs : List Value) (ks : List Nat) (hl : s.heap.IsList a vs.toArray) (hs : StrsAre vs (ks.map pat)) (hk : ∀ k ∈ ks, 1 ≤ k ∧ k < 32)
   (ret : ∀ (h' : Heap) (tk' : Nat), Kp s.heap h' → Q (.bool (ks.any fun k => k &&& f == k)) { s with heap := h', toks := tk' }) :
   wpAny (model prog w) A (call (.ref 100) [.str (flagText f) tf, .ref a]) Q E s := by
  obtain ⟨ah, dp, fr, gd, un⟩ := A
  dsimp only at hh hA
  subst hh
  refine' enter X T ?k6 ?k7 ?k8 ?k9 ?kB ?_ ?c2 ?c3 ?c4 ?c5
  (case k6 => k_is); (case k7 => k_is); (case k8 => (dsimp only; omega)); (case k9 => exact BindsTo.of_eq rfl); (case c5 => decide); (case kB => exact locs rfl); (case c2 => exact rfl); (case c3 => exact rfl); (case c4 => exact rfl)
  intro L h₁ tk F N
  k_steps
  refine Stop.mk ?_
  refine for_list (by k_asm) ?_
  k_steps
  refine ⟨_, vs.toArray, _, _, fun i m news => ∃ t, news = [] ∧ m (Str.ofString "text") = some (.str (flagText f) t) ∧ (ks.any fun k => k &&& f == k) = ((ks.drop i).any fun k => k &&& f == k), rfl, rfl, F, N, .inl hl, ?_, ?_, ?_, ?_⟩
  · exact ⟨_, rfl, rfl, rfl⟩
  · rintro i m nw -
    exact .inl hl
  · rintro I i v m₁ news₁ h tk oI hlt hi hv ⟨t, rfl, e1, e2⟩ hne F2 N2
    have hv' : vs[i]? = some v := by simpa using hv
    obtain ⟨y, ty, rfl, hy⟩ := StrsAre.item hs i v hv'
    rw [List.getElem?_map] at hy
    obtain ⟨k, hk1, rfl⟩ := Option.map_eq_some_iff.mp hy
    have hkb := hk k (List.mem_of_getElem? hk1)
    have F3 := frKnow F2 e1
    clear F2 F N
    have hd : ks.drop i = k :: ks.drop (i + 1) := by
      obtain ⟨hlt, he⟩ := List.getElem?_eq_some_iff.mp hk1
      rw [List.drop_eq_getElem_cons hlt, he]
    rw [hd, List.any_cons] at e2
    k_steps
    rename Fr _ _ _ _ => Fz
    rename News _ _ _ _ => Nz
    refine Stop.mk (em (X.keeps Fz.keep) (T.keeps Fz.keep) (by dsimp [Around.deeper]; omega) rfl (pat k) (flagText f) (nmBelow k 5) _ _ (pat_split ⟨k, hkb.2⟩ (by have := hkb.1; dsimp only; omega)) (pat_in ⟨k, hkb.2⟩ (by have := hkb.1; dsimp only; omega)) (nm_len ⟨k, hkb.2⟩)
      (Nat.le_trans (pat_len ⟨k, hkb.2⟩) (by decide)) (Nat.le_trans (flagText_len ⟨f, h2⟩) (by decide)) fun h' tk' kp => ?_)
    have hsc := scan_is ⟨k, hkb.2⟩ ⟨f, h2⟩ (by dsimp only; omega)
    dsimp only at hsc
    rw [hsc]
    have F' := kp.fr Fz
    have N' := kp.news Nz
    clear Fz Nz F3 N2
    cases hb : (k &&& f == k) with
    | true =>
      k_steps
      show Q (.bool true) _
      rw [hb, Bool.true_or] at e2
      rw [← e2]
      exact ret _ _ F'.keep
    | false =>
      k_steps
      rw [hb, Bool.false_or] at e2
      refine TurnEnd.next F' N' (fun _ x => x) (by simp) ?_
      exact ⟨_, rfl, rfl, e2⟩
  · rintro h tk m₁ news₁ ⟨t, rfl, e1, e2⟩ F2 N2
    have hlen : vs.toArray.size = ks.length := by
      have := hs.length
      simpa using this
    rw [hlen, List.drop_length, List.any_nil] at e2
    k_steps
    show Q (.bool false) _
    rw [← e2]
    exact ret _ _ F2.keep
end
end Mine

-- part Reach
open PySem PySem.W PyProof.Rows PySem.Calls PySem.Spec PyProof.Rows.LCg PyProof.Rows.LCt
set_option Elab.async false
set_option maxRecDepth 100000
set_option maxHeartbeats 8000000
namespace Mine
section
local macro_rules | `(tactic| walk_at "pad0") => `(tactic| skip)
variable {prog : Program} {w : World} {A : Around} {s : Shared} {Q : Value → Shared → Prop} {E : Value → Shared → Prop}
variable {p : Program} {loose : List Str} {mean : ExcName → Option Value} {mg mb : Str → Option Value}
local macro_rules | `(tactic| walk_at "exec For Name Name cons nil") => `(tactic| refine Stop.out ?_)
local macro_rules | `(tactic| walk_at "call ref") => `(tactic| refine Stop.out ?_)
def rstep (reach : List Nat) (r : Nat) : List Nat := if r ∈ reach then reach else reach ++ reach.map (r ^^^ ·)
def reachN (rs : List Nat) : List Nat := rs.foldl rstep [0]
def nInts (l : List Nat) : List Int := List.map (fun (n : Nat) => (n : Int)) l

theorem nInts_item {vs : List Value} {l : List Nat} {i : Nat} {v : Value} (h : IntsAre vs (nInts l)) (hv : vs[i]? = some v) : ∃ r : Nat, l[i]? = some r ∧ ∃ t, v = .int (r : Int) t := by
  have hlt : i < l.length := by
    have h1 := (List.getElem?_eq_some_iff.mp hv).1
    have h2 := h.length
    simp [nInts] at h2
    omega
  obtain ⟨t, ht⟩ := h.get i (l[i] : Int) (by simp [nInts, hlt])
  rw [hv] at ht
  exact ⟨l[i], by simp [hlt], t, Option.some.inj ht⟩
theorem nInts_any {l : List Nat} {r : Nat} : ((nInts l).any fun x => x == (r : Int)) = true ↔ r ∈ l := by
  unfold nInts
  rw [List.any_map, List.any_eq_true]
  constructor
  · rintro ⟨x, hx, e⟩
    have : (x : Int) = (r : Int) := by simpa using e
    have : x = r := by omega
    exact this ▸ hx
  · intro h
    exact ⟨r, h, by simp⟩
theorem rstep_len (l : List Nat) (r : Nat) : (rstep l r).length ≤ 2 * l.length := by
  unfold rstep; split
  · omega
  · rw [List.length_append, List.length_map]; omega
theorem reachF_len : ∀ (rs l : List Nat), (rs.foldl rstep l).length ≤ 2 ^ rs.length * l.length
  | [], l => by simp
  | r :: rs, l => by
    have h1 := reachF_len rs (rstep l r)
    have h2 := rstep_len l r
    have h3 : 2 ^ rs.length * (rstep l r).length ≤ 2 ^ rs.length * (2 * l.length) := Nat.mul_le_mul_left _ h2
    rw [List.foldl_cons, List.length_cons, Nat.pow_succ, Nat.mul_assoc]
    exact Nat.le_trans h1 h3
theorem reachN_len (rs : List Nat) : (reachN rs).length ≤ 2 ^ rs.length := by
  have := reachF_len rs [0]
  simpa [reachN] using this
theorem xor_nat : ∀ a b : Fin 16, Builtin.bitXor (a.val : Int) (b.val : Int) = ((a.val ^^^ b.val : Nat) : Int) ∧ a.val ^^^ b.val < 16 := by decide +kernel
theorem rstep_lt {l : List Nat} {r : Nat} (hr : r < 16) (h : ∀ x ∈ l, x < 16) : ∀ x ∈ rstep l r, x < 16 := by
  intro x hx
  unfold rstep at hx
  split at hx
  · exact h x hx
  · rcases List.mem_append.mp hx with h1 | h1
    · exact h x h1
    · obtain ⟨y, hy, rfl⟩ := List.mem_map.mp h1
      exact (xor_nat ⟨r, hr⟩ ⟨y, h y hy⟩).2
theorem reachF_lt : ∀ {rs l : List Nat}, (∀ r ∈ rs, r < 16) → (∀ x ∈ l, x < 16) → ∀ x ∈ rs.foldl rstep l, x < 16
  | [], _, _, h => h
  | a :: rs, l, h, h' => reachF_lt (rs := rs) (l := rstep l a) (fun r hr => h r (List.mem_cons_of_mem _ hr)) (rstep_lt (h _ List.mem_cons_self) h')
theorem reachN_lt {rs : List Nat} (h : ∀ r ∈ rs, r < 16) : ∀ x ∈ reachN rs, x < 16 := reachF_lt h (by simp)

theorem nInts_xor {l : List Nat} {r : Nat} (hr : r < 16) (h : ∀ x ∈ l, x < 16) : nInts l ++ List.map (fun k' => Builtin.bitXor (r : Int) k') (nInts l) = nInts (l ++ l.map (r ^^^ ·)) := by
  unfold nInts
  rw [List.map_append, List.map_map, List.map_map]
  congr 1
  refine List.map_congr_left fun x hx => ?_
  exact (xor_nat ⟨r, hr⟩ ⟨x, h x hx⟩).1

theorem reach (X : Frag.In (hd.heap_39 w.params) s.heap) (T : Top p loose mean mg mb s.heap) (hA : A.depth + 2 < recursionLimit) (hh : A.handled = none)
   (a : Addr) (vs : List Value) (rs : List Nat) (hl : s.heap.IsList a vs.toArray) (hi : IntsAre vs (nInts rs)) (hr : ∀ r ∈ rs, r < 16) (hn : rs.length ≤ 5)
   (ret : ∀ D ws n (h' : Heap) (tk' : Nat), Kp s.heap h' → s.heap.get? D = none → h'.get? D = some (W.listOf (List.toArray ws) n) → IntsAre ws (nInts (reachN rs)) → Q (.ref D) { s with heap := h', toks := tk' }) :
   wpAny (model prog w) A (call (.ref 105) [.ref a]) Q E s := by
  obtain ⟨ah, dp, fr, gd, un⟩ := A
  dsimp only at hh hA
  subst hh
  refine' enterC X T ?k6 ?k7 ?k8 ?k9 ?kB ?k0 ?_ ?c2 ?c3 ?c4
  (case k6 => k_is); (case k7 => k_is); (case k8 => (dsimp only; omega)); (case k9 => exact BindsTo.of_eq rfl); (case kB => rfl); (case k0 => decide); (case c2 => exact rfl); (case c3 => exact rfl); (case c4 => exact rfl)
  intro L h₁ tk cells F N Y
  have hY := CellsAre.one Y
  obtain ⟨oc, rfl, dc⟩ := hY
  clear Y
  k_steps
  refine Stop.mk (for_list (by k_asm) ?_)
  k_steps
  rename Fr _ _ _ _ => F1
  rename News _ _ _ _ => N1
  rename (_ < _) => hlt0
  refine ⟨_, vs.toArray, _, _, fun i m news => ∃ D ws n oc v, m (Str.ofString "reach") = some (.ref D) ∧ news = [(D, W.listOf (List.toArray ws) n), (L + 1, oc)] ∧ oc.data = .cell v ∧ IntsAre ws (nInts (reachN (rs.take i))) ∧ @LT.lt Nat _ (L + 1) D, rfl, rfl, F1, N1, .inl hl, ?_, ?_, ?_, ?_⟩
  · exact ⟨_, _, _, _, _, rfl, rfl, dc, .cons _ _ .nil, hlt0⟩
  · rintro i m nw -
    exact .inl hl
  · rintro I i v m₁ news₁ h tk oI hlt hi' hv ⟨D, ws, n, oc', v', e1, rfl, e2, e3, e4⟩ hne F2 N2
    have hv' : vs[i]? = some v := by simpa using hv
    clear dc
    have F3 := frKnow F2 e1
    clear F2 F1 N1
    have hne1 : @Ne Nat D I := hne _ (.head _)
    have hne2 : @Ne Nat (L + 1) I := hne _ (.tail _ (.head _))
    obtain ⟨r, hr1, t, rfl⟩ := nInts_item hi hv'
    have hrb : r < 16 := hr r (List.mem_of_getElem? hr1)
    have htk : rs.take (i + 1) = rs.take i ++ [r] := by rw [List.take_add_one, hr1]; rfl
    have hrs : reachN (rs.take (i + 1)) = rstep (reachN (rs.take i)) r := by rw [htk, reachN, List.foldl_append]; rfl
    have hsz := reachN_len (rs.take i)
    have hsz2 : 2 ^ (rs.take i).length ≤ 2 ^ 5 := Nat.pow_le_pow_right (by decide) (by rw [List.length_take]; omega)
    have hwl : ws.length = (reachN (rs.take i)).length := by rw [e3.length]; simp [nInts]
    k_steps
    · rename Fr _ _ _ _ => Fz
      rename News _ _ _ _ => Nz
      rename (List.any _ _ = true) => ha
      rename (Obj.data _ = Data.cell (some _)) => hdz
      refine TurnEnd.next Fz Nz (fun _ x => x) ?_ ?_
      · simp; exact ⟨hne1, hne2⟩
      refine ⟨_, _, _, _, _, rfl, rfl, hdz, ?_, e4⟩
      rw [hrs, rstep, if_pos (nInts_any.mp ha)]
      exact e3
    · rename Fr _ _ _ _ => Fz
      rename News _ _ _ _ => Nz
      rename (List.any _ _ = false) => ha
      rename (Obj.data _ = Data.cell (some _)) => hdz
      rename (IntsAre _ (_ ++ _)) => hI
      rename (_ < _ ∧ _) => hltz
      rename_i D1 _ _ _ D2 ws2 _ _
      refine' TurnEnd.next Fz Nz ?s ?d ?j
      case j =>
        refine ⟨D2, ws2, 0, _, _, rfl, rfl, hdz, ?_, hltz.2.2.2⟩
        rw [hrs, rstep, if_neg (fun q => by rw [nInts_any.mpr q] at ha; cases ha)]
        rw [nInts_xor hrb (reachN_lt fun x hx => hr x (List.mem_of_mem_take hx))] at hI
        exact hI
      case s =>
        intro p hp
        simp only [List.mem_cons, List.not_mem_nil, or_false] at hp ⊢
        rcases hp with rfl | rfl | rfl <;> simp
      case d =>
        intro p hp
        simp only [List.mem_cons, List.not_mem_nil, or_false] at hp
        rcases hp with rfl | rfl
        · exact Nat.ne_of_gt hltz.2.1
        · exact hne2
  · rintro h tk m₁ news₁ ⟨D, ws, n, oc', v', e1, rfl, e2, e3, e4⟩ F2 N2
    have F3 := frKnow F2 e1
    k_steps
    have hlen : vs.toArray.size = rs.length := by
      have := hi.length
      simpa [nInts] using this
    rw [hlen, List.take_length] at e3
    have hD := N2 _ (.head _)
    exact ret _ _ _ _ _ F2.keep hD.2.2 hD.1 e3
end
end Mine

-- part Tape
open PySem PySem.W PyProof.Rows PySem.Calls PySem.Spec PyProof.Rows.LCg PyProof.Rows.LCt
set_option Elab.async false
set_option maxRecDepth 100000
set_option maxHeartbeats 8000000
namespace Mine
section
variable {prog : Program} {w : World} {A : Around} {s : Shared} {Q : Value → Shared → Prop} {E : Value → Shared → Prop}
variable {p : Program} {loose : List Str} {mean : ExcName → Option Value} {mg mb : Str → Option Value}
local macro_rules | `(tactic| walk_at "exec For Name Name cons nil") => `(tactic| refine Stop.out ?_)
local macro_rules | `(tactic| walk_at "WhlIf") => `(tactic| (first | (refine WhlIf.yes (decide_eq_true (by assumption)) ?_) | (refine WhlIf.no (decide_eq_false (by assumption)) ?_)))
def dg (n : Nat) : List Nat := if n < 64 then [n] else if n < 4096 then [n / 64 + 64, n % 64] else [n / 4096 + 64, n / 64 % 64 + 64, n % 64]
def tapeN (ms : List Nat) : List Nat := ms.flatMap dg
theorem ext_K {A : Around} {h₀ : Heap} {L b D : Addr} {m : Str → Option Value} {news news' : List (Addr × Obj)} {us ds : List Value} {n n2 : Nat} (F : Fr h₀ L s.heap m) (N : News h₀ L s.heap news) (hb : (b, W.listOf (List.toArray ds) n2) ∈ news) (hne : ds.length ≠ 0) (hlen : us.length + ds.length ≤ 1000)
    (U : Upd D (W.listOf (List.toArray us) n) (W.listOf (List.toArray (us ++ ds)) (n + 1)) news news')
    (h : ∀ h', Fr h₀ L h' m → News h₀ L h' news' → Q .none { s with heap := h' }) : wpAny (model prog w) A (call (.builtin "list.extend") [.ref D, .ref b]) Q E s := by
  refine kl_extend F N hb (by simp) (by simpa using hne) U ?_ ?_ ?_ h
  · simp [Builtin.List.listTooLong, sizeLine_eq]
    intro _
    omega
  · rw [sizeLine_eq]; simp; omega
  · rw [sizeLine_eq]; simp; omega
theorem tapeN_len (l : List Nat) : (tapeN l).length ≤ 3 * l.length := by
  unfold tapeN
  induction l with
  | nil => simp
  | cons a r ih =>
    rw [List.flatMap_cons, List.length_append, List.length_cons]
    have : (dg a).length ≤ 3 := by unfold dg; (repeat' split) <;> simp
    omega
theorem le64 {r : Nat} (h : 64 ≤ r) : (64 : Int) ≤ (r : Int) := Int.ofNat_le.mpr h
theorem nle64 {r : Nat} (h : r < 64) : ¬ ((64 : Int) ≤ (r : Int)) := fun e => Nat.not_le.mpr h (Int.ofNat_le.mp e)
theorem fmod64 (r : Nat) : Int.fmod (r : Int) 64 = ((r % 64 : Nat) : Int) := by rw [Int.fmod_eq_emod_of_nonneg _ (by decide)]; rfl
theorem fdiv64 (r : Nat) : Int.fdiv (r : Int) 64 = ((r / 64 : Nat) : Int) := by rw [Int.fdiv_eq_ediv_of_nonneg _ (by decide)]; rfl
theorem dg_lt {n : Nat} (h : n < 262144) : ∀ x ∈ dg n, x < 128 := by
  unfold dg
  intro x hx
  split at hx
  · rw [List.mem_singleton.mp hx]; omega
  · have l1 : ∀ k, k % 64 < 64 := fun k => Nat.mod_lt k (by decide)
    split at hx
    · rename_i c2
      rcases List.mem_cons.mp hx with rfl | hx
      · exact Nat.add_lt_add_right (Nat.div_lt_of_lt_mul (k := 64) c2) 64
      · rw [List.mem_singleton.mp hx]; exact Nat.lt_trans (l1 n) (by decide)
    · rcases List.mem_cons.mp hx with rfl | hx
      · exact Nat.add_lt_add_right (Nat.div_lt_of_lt_mul (k := 64) h) 64
      rcases List.mem_cons.mp hx with rfl | hx
      · exact Nat.add_lt_add_right (l1 _) 64
      · rw [List.mem_singleton.mp hx]; exact Nat.lt_trans (l1 n) (by decide)
theorem tapeN_byte {ms : List Nat} (hm : ∀ m ∈ ms, m < 262144) : ∀ n ∈ nInts (tapeN ms), 0 ≤ n ∧ n < 256 := by
  intro n hn
  obtain ⟨x, hx, rfl⟩ := List.mem_map.mp hn
  obtain ⟨y, hy, hxy⟩ := List.mem_flatMap.mp hx
  have := dg_lt (hm y hy) x hxy
  omega
theorem intsCast {vs : List Value} {l l' : List Int} (h : IntsAre vs l) (e : l = l') : IntsAre vs l' := e ▸ h
theorem intsApp : ∀ {vs ws : List Value} {l l' : List Int}, IntsAre vs l → IntsAre ws l' → IntsAre (vs ++ ws) (l ++ l')
  | _, _, _, _, .nil, h => h
  | _, _, _, _, .cons n t h, h' => .cons n t (intsApp h h')
theorem nInts_app (l l' : List Nat) : nInts (l ++ l') = nInts l ++ nInts l' := List.map_append

theorem tape (X : Frag.In (hd.heap_39 w.params) s.heap) (T : Top p loose mean mg mb s.heap) (hA : A.depth + 2 < recursionLimit) (hh : A.handled = none)
   (a : Addr) (vs : List Value) (ms : List Nat) (hl : s.heap.IsList a vs.toArray) (hi : IntsAre vs (nInts ms)) (hm : ∀ m ∈ ms, m < 262144) (hn : ms.length = 5)
   (ret : ∀ t (h' : Heap) (tk' : Nat), Kp s.heap h' → Q (.bytes (byteArr (nInts (tapeN ms))) t) { s with heap := h', toks := tk' }) :
   wpAny (model prog w) A (call (.ref 86) [.ref a]) Q E s := by
  obtain ⟨ah, dp, fr, gd, un⟩ := A
  dsimp only at hh hA
  subst hh
  refine' enter X T ?k6 ?k7 ?k8 ?k9 ?kB ?_ ?c2 ?c3 ?c4 ?c5
  (case k6 => k_is); (case k7 => k_is); (case k8 => (dsimp only; omega)); (case k9 => exact BindsTo.of_eq rfl); (case c5 => decide); (case kB => exact locs rfl); (case c2 => exact rfl); (case c3 => exact rfl); (case c4 => exact rfl)
  intro L h₁ tk F N
  k_steps
  refine Stop.mk (for_list (by k_asm) ?_)
  k_steps
  rename Fr _ _ _ _ => F1
  rename News _ _ _ _ => N1
  rename_i D _ _ _
  refine ⟨_, vs.toArray, _, _, fun i m news => ∃ us n, m (Str.ofString "tape") = some (.ref D) ∧ news = [(D, W.listOf (List.toArray us) n)] ∧ IntsAre us (nInts (tapeN (ms.take i))), rfl, rfl, F1, N1, .inl hl, ?_, ?_, ?_, ?_⟩
  · exact ⟨_, _, rfl, rfl, .nil⟩
  · rintro i m nw -
    exact .inl hl
  · rintro I i v m₁ news₁ h tk oI hlt hii hv ⟨us, n, e1, rfl, e3⟩ hne F2 N2
    have hv' : vs[i]? = some v := by simpa using hv
    obtain ⟨r, hr1, t, rfl⟩ := nInts_item hi hv'
    have hrb := hm r (List.mem_of_getElem? hr1)
    have F3 := frKnow F2 e1
    clear F2 F1 N1
    have hne1 : @Ne Nat D I := hne _ (.head _)
    have f0 : Int.fmod (r : Int) 64 = ((r % 64 : Nat) : Int) := fmod64 r
    have f1 : Int.fdiv (r : Int) 64 = ((r / 64 : Nat) : Int) := fdiv64 r
    have f2 : Int.fdiv (Int.fdiv (r : Int) 64) 64 = ((r / 4096 : Nat) : Int) := by rw [f1, fdiv64, Nat.div_div_eq_div_mul]
    have f3 : Int.fmod ((r / 64 : Nat) : Int) 64 = ((r / 64 % 64 : Nat) : Int) := fmod64 _
    have f4 : Int.fmod ((r / 4096 : Nat) : Int) 64 = ((r / 4096 % 64 : Nat) : Int) := fmod64 _
    have htk : ms.take (i + 1) = ms.take i ++ [r] := by rw [List.take_add_one, hr1]; rfl
    have hts : tapeN (ms.take (i + 1)) = tapeN (ms.take i) ++ dg r := by rw [htk, tapeN, List.flatMap_append]; simp [tapeN]
    have hul : us.length ≤ 15 := by
      have q1 := e3.length
      have q2 := tapeN_len (ms.take i)
      rw [List.length_take] at q2
      simp only [nInts, List.length_map] at q1
      omega
    by_cases c1 : r < 64
    · have w1 : ¬ ((64 : Int) ≤ (r : Int)) := nle64 c1
      k_steps
      rename Fr _ _ _ _ => Fy
      rename News _ _ _ _ => Ny
      refine' ext_K Fy Ny (.head _) ?ne ?le ?U ?_
      case ne => simp
      case U => k_upd
      case le => (simp only [List.length_cons, List.length_nil]; omega)
      intro h' F' N'
      k_steps
      refine TurnEnd.next1 F' N' (by simpa using hne1) ?_
      · skip
        refine ⟨_, _, rfl, rfl, ?_⟩
        rw [hts, nInts_app]
        refine intsApp e3 (intsCast (.cons _ _ .nil) ?_)
        rw [dg, if_pos c1, f0, Nat.mod_eq_of_lt c1]; rfl
    · have w1 : (64 : Int) ≤ (r : Int) := le64 (Nat.not_lt.mp c1)
      by_cases c2 : r < 4096
      · have w2 : ¬ ((64 : Int) ≤ Int.fdiv (r : Int) 64) := by rw [f1]; exact nle64 (Nat.div_lt_of_lt_mul (k := 64) c2)
        k_steps
        rename Fr _ _ _ _ => Fy
        rename News _ _ _ _ => Ny
        refine' ext_K Fy Ny (.head _) ?ne ?le ?U ?_
        case ne => simp
        case U => k_upd
        case le => (simp only [List.length_cons, List.length_nil]; omega)
        intro h' F' N'
        k_steps
        refine TurnEnd.next1 F' N' (by simpa using hne1) ?_
        · skip
          refine ⟨_, _, rfl, rfl, ?_⟩
          rw [hts, nInts_app]
          refine intsApp e3 (intsCast (.cons _ _ (.cons _ _ .nil)) ?_)
          rw [dg, if_neg c1, if_pos c2, f0, f1, f3, Nat.mod_eq_of_lt (Nat.div_lt_of_lt_mul (k := 64) c2)]; simp [nInts]
      · have w2 : (64 : Int) ≤ Int.fdiv (r : Int) 64 := by rw [f1]; exact le64 ((Nat.le_div_iff_mul_le (by decide)).mpr (Nat.not_lt.mp c2))
        have w3 : ¬ ((64 : Int) ≤ Int.fdiv (Int.fdiv (r : Int) 64) 64) := by rw [f2]; exact nle64 (Nat.div_lt_of_lt_mul (k := 64) hrb)
        k_steps
        rename Fr _ _ _ _ => Fy
        rename News _ _ _ _ => Ny
        refine' ext_K Fy Ny (.head _) ?ne ?le ?U ?_
        case ne => simp
        case U => k_upd
        case le => (simp only [List.length_cons, List.length_nil]; omega)
        intro h' F' N'
        k_steps
        refine TurnEnd.next1 F' N' (by simpa using hne1) ?_
        · skip
          refine ⟨_, _, rfl, rfl, ?_⟩
          rw [hts, nInts_app]
          refine intsApp e3 (intsCast (.cons _ _ (.cons _ _ (.cons _ _ .nil))) ?_)
          rw [dg, if_neg c1, if_neg c2, f0, f2, f1, f3, f4, Nat.mod_eq_of_lt (Nat.div_lt_of_lt_mul (k := 64) hrb)]; simp [nInts]
  · rintro h tk m₁ news₁ ⟨us, n, e1, rfl, e3⟩ F2 N2
    have F3 := frKnow F2 e1
    k_steps
    have hlen : vs.toArray.size = ms.length := by
      have := hi.length
      simpa [nInts] using this
    rw [hlen, List.take_length] at e3
    have hul : us.length ≤ 15 := by
      have q1 := e3.length
      have q2 := tapeN_len ms
      simp only [nInts, List.length_map] at q1
      omega
    refine call_bytes_ints (News.isList N2 (.head _)) e3 (tapeN_byte hm) (by rw [sizeLine_eq]; omega) rfl fun h' t k hk => ?_
    exact ret t h' k (Kp.trans F2.keep hk)
end
end Mine

-- part Pv
open PySem PySem.W PyProof.Rows PySem.Calls PySem.Spec PyProof.Rows.LCg PyProof.Rows.LCt
set_option Elab.async false
set_option maxRecDepth 100000
set_option maxHeartbeats 8000000
namespace Mine
section
variable {prog : Program} {w : World} {A : Around} {s : Shared} {Q : Value → Shared → Prop} {E : Value → Shared → Prop} {K : Frag}
variable {p : Program} {loose : List Str} {mean : ExcName → Option Value} {mg mb : Str → Option Value}
/-- an object that is an iterator over bytes, at place i -/
def BI (o : Obj) (b : Array UInt8) (t : Tok) (i : Nat) : Prop := o.cls = .type "bytes_iterator" ∧ o.data = .fields #[.bytes b t, .int i 0]
theorem BI.at {h : Heap} {a : Addr} {o : Obj} {b : Array UInt8} {t : Tok} {i : Nat} (x : BI o b t i) (e : h.get? a = some o) : KBw.IsBytesIter h a b t i := ⟨o, e, x.1, x.2⟩

theorem next_head {it : Addr} {T : String} {id : String} (ht : s.TypeIs (.ref it) T) (hs : typeLookup (.type T) (Str.ofString "__next__") = pure (some (.builtin id)))
    (h : wpAny (model prog w) A.in1 (callSpecial? (.ref it) (Str.ofString "__next__")) (fun r s' => ∃ v, r = some v ∧ Q v s') E s) : wpAny (model prog w) A (call (.builtin "next") [.ref it]) Q E s := by
  refine call_function_entry (by decide +kernel) (by decide +kernel) kdk_entry_next (kdk_args_next _) ?_
  unfold Builtin.«next»
  refine wpAny_bind (m := someArgs "next" 1 2 _) (wpAny_of_eq (a := [Value.ref it]) (by first | rfl | kernel_rfl!) ?_)
  dsimp only
  refine wpAny_bind (wpAny_specialOf (name := Str.ofString "__next__") ht hs ?_)
  refine wpAny_ite_split (fun hab => absurd hab (by simp)) (fun _ => ?_)
  refine wpAny_bind (wpAny_mono h (fun r s' x => ?_) fun _ _ x => x)
  obtain ⟨v, rfl, q⟩ := x
  exact wpAny_pure ⟨_, rfl, q⟩

theorem next_bytes {it : Addr} {b : Array UInt8} {t : Tok} {i : Nat} {c : UInt8} (hit : KBw.IsBytesIter s.heap it b t i) (hx : b[i]? = some c)
    (hQ : ∀ h', KBw.IsBytesIter h' it b t (i + 1) → Heap.SameBut it s.heap h' → Q (.int (c.toNat : Int) s.toks) { s with heap := h', toks := s.toks + 1 }) : wpAny (model prog w) A (call (.builtin "next") [.ref it]) Q E s := by
  obtain ⟨o, ho, hc, hd⟩ := id hit
  refine next_head (KBw.iter_typeIs hit) KBw.slot_next.lookup ?_
  refine wpAny_callSpecial?_slot (name := PySem.Str.ofString "__next__") (KBw.iter_typeIs hit) KBw.slot_next
    (wpAny_call_entry KBw.slot_next (KBw.iter_typeIs hit) KBw.entry_next ?_ (KBw.args_next _))
  show wpAny _ _ (field (.ref it) 0 >>= _) _ _ s
  refine wpAny_bind (wpAny_field ho hd (x := .bytes b t) rfl ?_)
  show wpAny _ _ (if (Value.bytes b t == Value.none) = true then _ else _) _ _ s
  rw [if_neg (show ¬ ((Value.bytes b t == Value.none) = true) from Bool.false_ne_true)]
  show wpAny _ _ (field (.ref it) 1 >>= _) _ _ s
  refine wpAny_bind (wpAny_field ho hd (x := .int i 0) rfl ?_)
  refine wpAny_bind (wpAny_of_eq (a := b) rfl ?_)
  simp only [Int.toNat_natCast, hx]
  refine wpAny_bind (wpAny_setField ho hd (by simp) (wpAny_bind (wpAny_mkInt (wpAny_pure ⟨_, rfl, ⟨_, rfl, hQ _ ?_ (Heap.SameBut.update ..)⟩⟩))))
  exact ⟨_, Heap.get?_update_self _ ho (Obj.isFreed_of_fields (Obj.data_mapFields hd _)), (Obj.cls_mapFields ..).trans hc, by
    rw [Obj.data_mapFields hd]; simp [rawInt]⟩

theorem next_K {h₀ : Heap} {L I : Addr} {m : Str → Option Value} {news : List (Addr × Obj)} {oI : Obj} {g : Obj → List (Addr × Obj)} {b : Array UInt8} {t : Tok} {i : Nat} {c : UInt8}
    (F : Fr h₀ L s.heap m) (N : News h₀ L s.heap news) (U : UpdF I oI news g) (hb : BI oI b t i) (hx : b[i]? = some c)
    (h : ∀ h' o', Fr h₀ L h' m → News h₀ L h' (g o') → BI o' b t (i + 1) → Q (.int (c.toNat : Int) s.toks) { s with heap := h', toks := s.toks + 1 }) : wpAny (model prog w) A (call (.builtin "next") [.ref I]) Q E s := by
  obtain ⟨pre, post, hl, hg, a, b'⟩ := U.split
  have hmem : (I, oI) ∈ news := by rw [hl]; exact List.mem_append_right _ (.head _)
  have hm := N (I, oI) hmem
  refine next_bytes (hb.at hm.1) hx fun h' hit' hs => ?_
  obtain ⟨o', ho', hc', hd'⟩ := hit'
  exact h h' o' (F.change hs hm.2.1 hm.2.2) (hg o' ▸ (show News h₀ L s.heap (pre ++ (I, oI) :: post) from hl ▸ N).setIn a b' hs ho') ⟨hc', hd'⟩

/-- a def that changes one object of its caller's -/
theorem enterM {h₀ : Heap} {I : Addr} {oI : Obj} {name qual : Str} {params : Arguments} {body : List Stmt} {scope : Scope} {dV kV doc pm cdv ct oc : Value} {an od : Option Addr} {osl : Array (Option Value)} {f : Addr} {pos : List Value} {kw : List (Str × Value)} {binds : List (Str × Value)}
    (X : K.In h₀) (T : Top p loose mean mg mb h₀) (k₀ : Kp h₀ s.heap) (hI₀ : h₀.get? I = none) (hI : s.heap.get? I = some oI)
    (ho : K.lookup f = some ⟨oc, od, .func (fnOf name qual params body scope dV kV doc pm an cdv ct), osl⟩) (hcd : codeIn K cdv qual = true) (hroom : A.depth < recursionLimit)
    (hbind : BindsTo s (fnOf name qual params body scope dV kV doc pm an cdv ct) ⟨pos, kw⟩ binds) (hloc : ∀ y ∈ binds, scope.names.lookup y.1 = some .local)
    (h : ∀ g L h₁ tk, K.In g → Top p loose mean mg mb g → (∀ b o, b ≠ I → s.heap.get? b = some o → g.get? b = some o) → @LT.lt Nat _ I L → Fr g L h₁ (fun y => binds.reverse.lookup y) → News g L h₁ [(I, oI)] →
      wpAny (model prog w) (A.deeper (envOf qual scope L f cdv)) (execs body (envOf qual scope L f cdv))
        (fun fl s' => Q (match fl with | .ret v => v | _ => .none) s') (fun _ _ => False) { s with heap := h₁, toks := tk })
    (hco : scope.isCoroutine = false) (hgen : scope.isGenerator = false) (hk : scope.kind = .function)
    (hcell : ∀ x ∈ scope.names, x.2 ≠ .cell) : wpAny (model prog w) A (call (.ref f) pos kw) Q E s := by
  have st : ∀ b o, h₀.get? b = some o → (s.heap.hide I).get? b = some o := fun b o e => (Heap.hide_ne s.heap fun q => by rw [q, hI₀] at e; cases e).trans (k₀ b o e)
  exact wpAny_call (codeAny_call_def (fd := fnOf name qual params body scope dV kV doc pm an cdv ct) (body := body) (binds := binds) hroom ((X.keeps k₀) _ _ ho) rfl (T.nolimit.keeps k₀) (codeRec_of (X.keeps k₀) hcd) rfl hbind hcell hloc
    (fun h₁ hns hk₁ => wpAny_mono (h (s.heap.hide I) s.heap.objs.size h₁ _ (X.keeps st) (T.keeps st) (fun b o hb e => (Heap.hide_ne s.heap hb).trans e) (Heap.lt_size hI) ⟨hns, fun b o e => hk₁ b o (Heap.of_hide e), Nat.le_of_eq (Heap.hide_size _ _)⟩
      (fun q hq => by
        rw [List.mem_singleton.mp hq]
        exact ⟨hk₁ _ _ hI, Nat.ne_of_lt (Heap.lt_size hI), Heap.hide_self _ _⟩)) (fun _ _ x => x) fun _ _ x => x.elim) hco hgen hk)

theorem bitOr_nat (a b : Nat) : Builtin.bitOr (a : Int) (b : Int) = ((a ||| b : Nat) : Int) := by
  unfold Builtin.bitOr Builtin.bitAnd Builtin.bitNot
  have e1 : decide ((0 : Int) ≤ -(a : Int) - 1) = false := decide_eq_false (by omega)
  have e2 : decide ((0 : Int) ≤ -(b : Int) - 1) = false := decide_eq_false (by omega)
  simp only [e1, e2]
  have q1 : (-(-(a : Int) - 1) - 1).toNat = a := by omega
  have q2 : (-(-(b : Int) - 1) - 1).toNat = b := by omega
  rw [q1, q2]; omega
theorem or_digit (a b : Nat) (h : b < 64) : Builtin.bitOr ((a : Int) * 2 ^ 6) (b : Int) = ((a * 64 + b : Nat) : Int) := by
  have e : (a : Int) * 2 ^ 6 = ((2 ^ 6 * a : Nat) : Int) := by rw [Nat.mul_comm]; first | done | rfl
  rw [e, bitOr_nat, ← Nat.two_pow_add_eq_or_of_lt (show b < 2 ^ 6 from h), Nat.mul_comm]
theorem int_is {x y : Int} {t : Tok} (e : x = y) (h : Q (.int y t) s) : Q (.int x t) s := e ▸ h
theorem bits_byte : ∀ x : Fin 128, Builtin.bitAnd (x.val : Int) 63 = ((x.val % 64 : Nat) : Int) ∧ Builtin.bitAnd (x.val : Int) 64 = (if 64 ≤ x.val then 64 else 0) := by decide +kernel

theorem bne_yes {x : Int} (h : x = 64) : (x != 0) = true := by subst h; rfl
theorem bne_no {x : Int} (h : x = 0) : (x != 0) = false := by subst h; rfl
local macro_rules | `(tactic| walk_at "WhlIf") => `(tactic| (first | (refine WhlIf.yes (bne_yes (by assumption)) ?_) | (refine WhlIf.no (bne_no (by assumption)) ?_)))
local macro_rules | `(tactic| walk_at "exec While BinOp cons nil") => `(tactic| (k_dflt (refine whl_start 100 ?_)))
local macro_rules | `(tactic| walk_at "exec While BinOp") => `(tactic| (k_dflt (refine whl_start 100 ?_)))
local macro_rules | `(tactic| walk_at "exec While") => `(tactic| (k_dflt (refine whl_start 100 ?_)))
local macro_rules | `(tactic| walk_at "call builtin:next") => `(tactic| (refine Stop.out ?_))
/-- the places i .. of b hold the digits l -/
def Holds (b : Array UInt8) (i : Nat) (l : List Nat) : Prop := ∀ j x, l[j]? = some x → ∃ c : UInt8, b[i + j]? = some c ∧ c.toNat = x

theorem dig2 (n : Nat) (h : n < 4096) : (n / 64 + 64) % 64 * 64 + n % 64 % 64 = n := by
  rw [Nat.add_mod_right, Nat.mod_eq_of_lt (Nat.div_lt_of_lt_mul (k := 64) h), Nat.mod_mod, Nat.div_add_mod']
theorem dig3 (n : Nat) (h : n < 262144) : ((n / 4096 + 64) % 64 * 64 + (n / 64 % 64 + 64) % 64) * 64 + n % 64 % 64 = n := by
  rw [Nat.add_mod_right, Nat.add_mod_right, Nat.mod_mod, Nat.mod_mod, Nat.mod_eq_of_lt (Nat.div_lt_of_lt_mul (k := 64) h), show n / 4096 = n / 64 / 64 from (Nat.div_div_eq_div_mul n 64 64).symm, Nat.div_add_mod', Nat.div_add_mod']
theorem dig3b (n : Nat) : (((n / 4096 + 64) % 64 * 64 + (n / 64 % 64 + 64) % 64 : Nat) : Int).natAbs < 2 ^ 64 :=
  Nat.lt_of_le_of_lt (Nat.add_le_add (Nat.mul_le_mul_right 64 (Nat.le_of_lt (Nat.mod_lt _ (by decide)))) (Nat.le_of_lt (Nat.mod_lt _ (by decide)))) (by decide : 64 * 64 + 64 < 2 ^ 64)
theorem pv {h₀ : Heap} (X : Frag.In (hd.heap_39 w.params) h₀) (T : Top p loose mean mg mb h₀) (hA : A.depth + 2 < recursionLimit) (hh : A.handled = none)
   (I : Addr) (oI : Obj) (b : Array UInt8) (t : Tok) (i n : Nat) (k₀ : Kp h₀ s.heap) (hI₀ : h₀.get? I = none) (hI : s.heap.get? I = some oI) (hb : BI oI b t i) (hn : n < 262144) (hd : Holds b i (dg n))
   (ret : ∀ (t' : Tok) (o' : Obj) (h' : Heap) (tk' : Nat), (∀ b o, b ≠ I → s.heap.get? b = some o → h'.get? b = some o) → h'.get? I = some o' → BI o' b t (i + (dg n).length) → Q (.int (n : Int) t') { s with heap := h', toks := tk' }) :
   wpAny (model prog w) A (call (.ref 65) [.ref I]) Q E s := by
  obtain ⟨ah, dp, fr, gd, un⟩ := A
  dsimp only at hh hA
  subst hh
  refine' enterM X T k₀ hI₀ hI ?k6 ?k7 ?k8 ?k9 ?kB ?_ ?c2 ?c3 ?c4 ?c5
  (case k6 => k_is); (case k7 => k_is); (case k8 => (dsimp only; omega)); (case k9 => exact BindsTo.of_eq rfl); (case c5 => decide); (case kB => exact locs rfl); (case c2 => exact rfl); (case c3 => exact rfl); (case c4 => exact rfl)
  clear X T k₀ hI₀ hI
  intro g L h₁ tk X T kg hlt F N
  k_steps
  by_cases c1 : n < 64
  · have e0 : dg n = [n] := by rw [dg, if_pos c1]
    rw [e0] at hd ret
    obtain ⟨x0, hx0, q0⟩ := hd 0 _ rfl
    obtain ⟨f1, f2⟩ := bits_byte ⟨n, by omega⟩
    dsimp only at f1 f2
    rw [if_neg (Nat.not_le.mpr c1)] at f2
    refine Stop.mk (next_K F N (by k_updF) hb hx0 fun h2 o2 F2 N2 b2 => ?_)
    rw [q0]
    clear F N
    k_steps
    rename Fr _ _ _ _ => Fz
    rename News _ _ _ _ => Nz
    have ev : Builtin.bitAnd (n : Int) 63 = (n : Int) := by rw [f1, Nat.mod_eq_of_lt c1]
    show Q (.int (Builtin.bitAnd (n : Int) 63) _) _
    rw [ev]
    exact ret _ _ _ _ (fun b o hb e => Fz.keep b o (kg b o hb e)) (Nz _ (.head _)).1 b2
  by_cases c2 : n < 4096
  · have e0 : dg n = [n / 64 + 64, n % 64] := by rw [dg, if_neg c1, if_pos c2]
    rw [e0] at hd ret
    obtain ⟨x0, hx0, q0⟩ := hd 0 _ rfl
    obtain ⟨x1, hx1, q1⟩ := hd 1 _ rfl
    obtain ⟨f1, f2⟩ := bits_byte ⟨n / 64 + 64, Nat.add_lt_add_right (Nat.div_lt_of_lt_mul (k := 64) c2) 64⟩
    obtain ⟨f3, f4⟩ := bits_byte ⟨n % 64, Nat.lt_trans (Nat.mod_lt n (by decide : 64 > 0)) (by decide)⟩
    dsimp only at f1 f2 f3 f4
    rw [if_pos (Nat.le_add_left _ _)] at f2
    rw [if_neg (Nat.not_le.mpr (Nat.mod_lt n (by decide : 64 > 0)))] at f4
    refine Stop.mk (next_K F N (by k_updF) hb hx0 fun h2 o2 F2 N2 b2 => ?_)
    rw [q0]
    clear F N
    k_steps
    rename Fr _ _ _ _ => Fy
    rename News _ _ _ _ => Ny
    refine Stop.mk (next_K Fy Ny (by k_updF) b2 hx1 fun h3 o3 F3 N3 b3 => ?_)
    rw [q1]
    clear Fy Ny
    k_steps
    rename Fr _ _ _ _ => Fz
    rename News _ _ _ _ => Nz
    refine int_is (Q := Q) ?_ (ret _ _ _ _ (fun b o hb e => Fz.keep b o (kg b o hb e)) (Nz _ (.head _)).1 b3)
    show Builtin.bitOr (Builtin.bitAnd ((n / 64 + 64 : Nat) : Int) 63 * 2 ^ 6) (Builtin.bitAnd ((n % 64 : Nat) : Int) 63) = (n : Int)
    rw [f1, f3]
    have g1 := or_digit ((n / 64 + 64) % 64) (n % 64 % 64) (Nat.mod_lt _ (by decide))
    rw [g1, dig2 n (by assumption)]
  · have e0 : dg n = [n / 4096 + 64, n / 64 % 64 + 64, n % 64] := by rw [dg, if_neg c1, if_neg c2]
    rw [e0] at hd ret
    obtain ⟨x0, hx0, q0⟩ := hd 0 _ rfl
    obtain ⟨x1, hx1, q1⟩ := hd 1 _ rfl
    obtain ⟨x2, hx2, q2⟩ := hd 2 _ rfl
    obtain ⟨f1, f2⟩ := bits_byte ⟨n / 4096 + 64, Nat.add_lt_add_right (Nat.div_lt_of_lt_mul (k := 64) hn) 64⟩
    obtain ⟨f3, f4⟩ := bits_byte ⟨n / 64 % 64 + 64, Nat.add_lt_add_right (Nat.mod_lt _ (by decide : 64 > 0)) 64⟩
    obtain ⟨f5, f6⟩ := bits_byte ⟨n % 64, Nat.lt_trans (Nat.mod_lt n (by decide : 64 > 0)) (by decide)⟩
    dsimp only at f1 f2 f3 f4 f5 f6
    rw [if_pos (Nat.le_add_left _ _)] at f2
    rw [if_pos (Nat.le_add_left _ _)] at f4
    rw [if_neg (Nat.not_le.mpr (Nat.mod_lt n (by decide : 64 > 0)))] at f6
    refine Stop.mk (next_K F N (by k_updF) hb hx0 fun h2 o2 F2 N2 b2 => ?_)
    rw [q0]
    clear F N
    k_steps
    rename Fr _ _ _ _ => Fy
    rename News _ _ _ _ => Ny
    refine Stop.mk (next_K Fy Ny (by k_updF) b2 hx1 fun h3 o3 F3 N3 b3 => ?_)
    rw [q1]
    clear Fy Ny
    k_steps
    have g1 := or_digit ((n / 4096 + 64) % 64) ((n / 64 % 64 + 64) % 64) (Nat.mod_lt _ (by decide))
    have g0 : Builtin.bitOr (Builtin.bitAnd ((n / 4096 + 64 : Nat) : Int) 63 * 2 ^ 6) (Builtin.bitAnd ((n / 64 % 64 + 64 : Nat) : Int) 63) = (((n / 4096 + 64) % 64 * 64 + (n / 64 % 64 + 64) % 64 : Nat) : Int) := by rw [f1, f3, g1]
    refine ilshift_int_small (by decide) (by decide) (show (Builtin.bitOr (Builtin.bitAnd ((n / 4096 + 64 : Nat) : Int) 63 * 2 ^ 6) (Builtin.bitAnd ((n / 64 % 64 + 64 : Nat) : Int) 63)).natAbs < 2 ^ 64 by rw [g0]; exact dig3b n) ?_
    k_steps
    rename Fr _ _ _ _ => Fy
    rename News _ _ _ _ => Ny
    refine Stop.mk (next_K Fy Ny (by k_updF) b3 hx2 fun h4 o4 F4 N4 b4 => ?_)
    rw [q2]
    clear Fy Ny
    k_steps
    rename Fr _ _ _ _ => Fz
    rename News _ _ _ _ => Nz
    refine int_is (Q := Q) ?_ (ret _ _ _ _ (fun b o hb e => Fz.keep b o (kg b o hb e)) (Nz _ (.head _)).1 b4)
    show Builtin.bitOr (Builtin.bitOr (Builtin.bitAnd ((n / 4096 + 64 : Nat) : Int) 63 * 2 ^ 6) (Builtin.bitAnd ((n / 64 % 64 + 64 : Nat) : Int) 63) * 2 ^ 6) (Builtin.bitAnd ((n % 64 : Nat) : Int) 63) = (n : Int)
    rw [g0, f5]
    have g2 := or_digit ((n / 4096 + 64) % 64 * 64 + (n / 64 % 64 + 64) % 64) (n % 64 % 64) (Nat.mod_lt _ (by decide))
    rw [g2, dig3 n (by assumption)]
end
end Mine

-- part Bis
open PySem PySem.W PyProof.Rows PySem.Calls PySem.Spec PyProof.Rows.LCg PyProof.Rows.LCt
set_option Elab.async false
set_option maxRecDepth 100000
set_option maxHeartbeats 8000000
namespace Mine
section
variable {prog : Program} {w : World} {A : Around} {s : Shared} {Q : Value → Shared → Prop} {E : Value → Shared → Prop} {K : Frag}
variable {p : Program} {loose : List Str} {mean : ExcName → Option Value} {mg mb : Str → Option Value}
def WhileEnd (h₀ : Heap) (L : Addr) (J : (Str → Option Value) → List (Addr × Obj) → Prop) (s : Shared) (Q : Flow → Shared → Prop) (f : Flow) (s₃ : Shared) : Prop :=
  match f with
  | .next | .cont => ∃ h' tk' m₂ news₂, s₃ = { s with heap := h', toks := tk' } ∧ Fr h₀ L h' m₂ ∧ News h₀ L h' news₂ ∧ J m₂ news₂
  | .brk => Q .next s₃
  | .ret v => Q (.ret v) s₃
theorem WhileEnd.next {h₀ : Heap} {L : Addr} {J : (Str → Option Value) → List (Addr × Obj) → Prop} {s : Shared} {Q : Flow → Shared → Prop} {h' : Heap} {tk : Nat} {m₂ : Str → Option Value} {news₂ : List (Addr × Obj)}
    (F : Fr h₀ L h' m₂) (N : News h₀ L h' news₂) (j : J m₂ news₂) : WhileEnd h₀ L J s Q .next { s with heap := h', toks := tk } := ⟨h', tk, m₂, news₂, rfl, F, N, j⟩
theorem while_J {env : Env} {h₀ : Heap} {test : Expr} {body orelse : List Stmt} {pos : Pos} {Q : Flow → Shared → Prop} {m : Str → Option Value} {news : List (Addr × Obj)}
    (F : Fr h₀ env.locals s.heap m) (N : News h₀ env.locals s.heap news) (J : Nat → (Str → Option Value) → List (Addr × Obj) → Prop) (n : Nat) (h0 : J n m news)
    (turn : ∀ n m₁ news₁ h tk, J n m₁ news₁ → Fr h₀ env.locals h m₁ → News h₀ env.locals h news₁ →
      wpAny (model prog w) A (isTrue test env (eval test env)) (fun b s₂ => WhlIf b
        (wpAny (model prog w) A (execs body env) (WhileEnd h₀ env.locals (fun m₂ news₂ => ∃ k, k < n ∧ J k m₂ news₂) s Q) (fun _ _ => False) s₂)
        (wpAny (model prog w) A (execs orelse env) Q (fun _ _ => False) s₂)) (fun _ _ => False) { s with heap := h, toks := tk }) :
    wpAny (model prog w) A (exec (.While test body orelse pos) env) Q (fun _ _ => False) s := by
  refine wpAny_While (codeAny_mono (R := fun r s' => match r with | .ok f => Q f s' | .error _ => False) ?_ (fun r s' x => by cases r with | ok f => exact x | error e => exact x.elim))
  refine codeAny_whileLoop (fun k s' => ∃ h' tk m' news', s' = { s with heap := h', toks := tk } ∧ Fr h₀ env.locals h' m' ∧ News h₀ env.locals h' news' ∧ J k m' news') ?_ n ⟨s.heap, s.toks, m, news, rfl, F, N, h0⟩
  rintro k s' ⟨h', tk, m', news', rfl, F', N', hJ⟩
  refine wpAny_mono (turn k m' news' h' tk hJ F' N') (fun b s₂ h₂ => ?_) fun _ _ e => e.elim
  unfold WhlIf at h₂
  cases b with
  | true =>
    simp only [if_true] at h₂ ⊢
    refine wpAny_mono h₂ (fun f s₃ h₃ => ?_) fun _ _ e => e.elim
    cases f with
    | ret v => exact h₃
    | brk => exact h₃
    | next =>
      obtain ⟨h₃', tk₃, m₂, news₂, rfl, F₃, N₃, k', hk', hJ₃⟩ := h₃
      exact ⟨k', hk', h₃', tk₃, m₂, news₂, rfl, F₃, N₃, hJ₃⟩
    | cont =>
      obtain ⟨h₃', tk₃, m₂, news₂, rfl, F₃, N₃, k', hk', hJ₃⟩ := h₃
      exact ⟨k', hk', h₃', tk₃, m₂, news₂, rfl, F₃, N₃, hJ₃⟩
  | false =>
    simp only [Bool.false_eq_true, if_false] at h₂ ⊢
    exact wpAny_mono h₂ (fun f s₃ h₃ => h₃) fun _ _ e => e.elim

/-- a value that, called upon j, answers the j-th number of ps and keeps all -/
def KeyFn (prog : Program) (w : World) (h₀ : Heap) (v : Value) (ps : List Nat) : Prop :=
  ∀ (A : Around) (s : Shared) (Q E : Value → Shared → Prop) (j : Nat) (t : Tok), Kp h₀ s.heap → A.handled = none → A.depth + 1 < recursionLimit → j < ps.length →
    (∀ t' h' tk', Kp s.heap h' → Q (.int ((ps.getD j 0 : Nat) : Int) t') { s with heap := h', toks := tk' }) → wpAny (model prog w) A (call v [.int (j : Int) t]) Q E s

theorem fnKeeps {q : Addr} {h h' : Heap} (x : FnAt q h) (k : Kp h h') : FnAt q h' := let ⟨a, b, c, d, e⟩ := x; ⟨a, b, c, d, k _ _ e⟩
theorem nInts_getD (l : List Nat) (i : Nat) : (nInts l).getD i 0 = ((l.getD i 0 : Nat) : Int) := by
  simp only [nInts, List.getD_eq_getElem?_getD, List.getElem?_map]
  cases l[i]? <;> simp
theorem getD_mem {l : List Nat} {i : Nat} (h : i < l.length) : l.getD i 0 ∈ l := by
  simp [List.getD_eq_getElem?_getD, List.getElem?_eq_getElem h]
theorem getD_map {l : List Nat} {f : Nat → Nat} {i : Nat} (h : i < l.length) : (l.map f).getD i 0 = f (l.getD i 0) := by
  simp [List.getD_eq_getElem?_getD, List.getElem?_eq_getElem h]
theorem sorted_getD {l : List Nat} {i j : Nat} (hs : l.Pairwise (· ≤ ·)) (h : i ≤ j) (hj : j < l.length) : l.getD i 0 ≤ l.getD j 0 := by
  rcases Nat.lt_or_eq_of_le h with h1 | h1
  · simp only [List.getD_eq_getElem?_getD, List.getElem?_eq_getElem hj, List.getElem?_eq_getElem (Nat.lt_trans h1 hj), Option.getD_some]
    exact (List.pairwise_iff_getElem.mp hs) i j _ hj h1
  · rw [h1]; exact Nat.le_refl _
theorem countP_pre {P : Nat → Bool} {l : List Nat} : ∀ {r : Nat}, r ≤ l.length → (∀ i, i < r → P (l.getD i 0) = true) → (∀ i, r ≤ i → i < l.length → P (l.getD i 0) = false) → l.countP P = r := by
  induction l with
  | nil => intro r h _ _; simp at h; simp [h]
  | cons a l ih =>
    intro r h h1 h2
    cases r with
    | zero =>
      have ha : P a = false := by simpa using h2 0 (Nat.le_refl _) (by simp)
      rw [List.countP_cons_of_neg (by simp [ha])]
      refine ih (Nat.zero_le _) (fun i hi => absurd hi (Nat.not_lt_zero _)) fun i _ hi => ?_
      simpa using h2 (i + 1) (Nat.zero_le _) (by simpa using hi)
    | succ r =>
      have ha : P a = true := by simpa using h1 0 (Nat.succ_pos _)
      rw [List.countP_cons_of_pos ha]
      congr 1
      refine ih (by simpa using h) (fun i hi => ?_) fun i h3 hi => ?_
      · simpa using h1 (i + 1) (by omega)
      · simpa using h2 (i + 1) (by omega) (by simpa using hi)
theorem countP_le_eq {ks : List Nat} {x r : Nat} (h : r ≤ ks.length) (h1 : ∀ i, i < r → ks.getD i 0 ≤ x) (h2 : ∀ i, r ≤ i → i < ks.length → x < ks.getD i 0) : ks.countP (· ≤ x) = r :=
  countP_pre h (fun i hi => by simpa using h1 i hi) fun i h3 h4 => by simpa using h2 i h3 h4
theorem countP_lt_eq {ks : List Nat} {x r : Nat} (h : r ≤ ks.length) (h1 : ∀ i, i < r → ks.getD i 0 < x) (h2 : ∀ i, r ≤ i → i < ks.length → x ≤ ks.getD i 0) : ks.countP (· < x) = r :=
  countP_pre h (fun i hi => by simpa using h1 i hi) fun i h3 h4 => by simpa using h2 i h3 h4

local macro_rules | `(tactic| walk_at "exec While Compare cons nil") => `(tactic| refine Stop.out ?_)
local macro_rules | `(tactic| walk_at "call ref") => `(tactic| refine Stop.out ?_)
local macro_rules | `(tactic| walk_at "callWith ref") => `(tactic| refine Stop.out ?_)

def bisRDef : Stmt := (PySem.Challenge.pw_qu0037_01.main.body.drop 2).headD (.Pass default)
def bisRBody : List Stmt := match bisRDef with | .FunctionDef _ _ b _ _ _ _ _ _ _ => b | _ => []
def bisRScope : Scope := match bisRDef with | .FunctionDef _ _ _ _ _ _ s _ _ _ => s | _ => default
theorem bisRB {L : Addr} {h₁ : Heap} {tk : Nat} {m : Str → Option Value} {dp un : Nat} {fr : Option (List Env)} {gd : Option (List Code)} (X : Frag.In (hd.heap_39 w.params) s.heap) (T : Top p loose mean mg mb s.heap) (hA : dp + 3 < recursionLimit)
   (a kf : Addr) (vs : List Value) (as ps : List Nat) (x : Nat) (tx t0 : Tok) (hl : s.heap.IsList a vs.toArray) (hi : IntsAre vs (nInts as)) (ha : ∀ j ∈ as, j < ps.length) (hk : KeyFn prog w s.heap (.ref kf) ps) (hfn : FnAt kf s.heap)
   (hn : as.length ≤ 5) (hs : (as.map (ps.getD · 0)).Pairwise (· ≤ ·)) (F : Fr s.heap L h₁ m) (N : News s.heap L h₁ [])
   (e1 : m (Str.ofString "a") = some (.ref a)) (e2 : m (Str.ofString "x") = some (.int (x : Int) tx)) (e3 : m (Str.ofString "lo") = some (.int 0 t0)) (e4 : m (Str.ofString "hi") = some .none) (e5 : m (Str.ofString "key") = some (.ref kf))
   (ret : ∀ (t : Tok) (h' : Heap) (tk' : Nat), Kp s.heap h' → Q (.int (((as.map (ps.getD · 0)).countP (· ≤ x) : Nat) : Int) t) { s with heap := h', toks := tk' }) :
   wpAny (model prog w) (({ depth := dp, frames := fr, handled := none, guards := gd, units := un } : Around).deeper (envOf (Str.ofString "bisect_right") bisRScope L 32 (.ref 31))) (execs bisRBody (envOf (Str.ofString "bisect_right") bisRScope L 32 (.ref 31)))
     (fun fl s' => Q (match fl with | .ret v => v | _ => .none) s') (fun _ _ => False) { s with heap := h₁, toks := tk } := by
  replace F := frKnow5 F e1 e2 e3 e4 e5
  have hn2 : (nInts as).length ≤ 5 := by simpa [nInts] using hn
  k_steps
  rename Fr _ _ _ _ => F1
  rename News _ _ _ _ => N1
  have hnl : (nInts as).length = as.length := by simp [nInts]
  rw [hnl] at F1
  refine Stop.mk (while_J F1 N1 (fun n m news => ∃ (lo hi : Nat) (tlo thi tx : Tok), news = [] ∧ m (Str.ofString "a") = some (.ref a) ∧ m (Str.ofString "x") = some (.int (x : Int) tx) ∧ m (Str.ofString "key") = some (.ref kf) ∧ m (Str.ofString "lo") = some (.int (lo : Int) tlo) ∧ m (Str.ofString "hi") = some (.int (hi : Int) thi) ∧
    lo ≤ hi ∧ hi ≤ as.length ∧ (∀ i, i < lo → (as.map (ps.getD · 0)).getD i 0 ≤ x) ∧ (∀ i, hi ≤ i → i < as.length → x < (as.map (ps.getD · 0)).getD i 0) ∧ n = hi - lo) as.length ?_ ?_)
  · exact ⟨0, as.length, _, _, _, rfl, rfl, rfl, rfl, rfl, rfl, Nat.zero_le _, Nat.le_refl _, fun i h => absurd h (Nat.not_lt_zero _), fun i h1 h2 => absurd h2 (Nat.not_lt.mpr h1), rfl⟩
  · rintro n m₁ news₁ h tk ⟨lo, hi', tlo, thi, tx', rfl, e1, e2, e3, e4, e5, q1, q2, q3, q4, rfl⟩ F2 N2
    have F3 := frKnow5 F2 e1 e2 e3 e4 e5
    have hm : Int.fdiv ((lo : Int) + (hi' : Int)) 2 = (((lo + hi') / 2 : Nat) : Int) := by rw [Int.fdiv_eq_ediv_of_nonneg _ (by decide)]; omega
    clear F2 F1 N1
    k_steps
    by_cases c1 : lo < hi'
    · refine WhlIf.yes (decide_eq_true (by omega)) ?_
      k_steps
      rename Fr _ _ _ _ => Fy
      rename News _ _ _ _ => Ny
      refine Stop.mk (callWith_F (fnKeeps hfn Fy.keep) ?_)
      k_steps
      · exact fnKeeps hfn Fy.keep
      refine Stop.mk ?_
      have hmid : (lo + hi') / 2 < as.length := by omega
      rw [hm, Int.toNat_natCast, nInts_getD]
      rw [hm] at Fy
      refine hk _ _ _ _ _ _ Fy.keep rfl (by dsimp [Around.deeper]; omega) (ha _ (getD_mem hmid)) fun t' h' tk' kp => ?_
      have F4 := kp.fr Fy
      have N4 := kp.news Ny
      clear Fy Ny F3 N2
      have hkm : (as.map (ps.getD · 0)).getD ((lo + hi') / 2) 0 = ps.getD (as.getD ((lo + hi') / 2) 0) 0 := getD_map hmid
      k_steps
      · rename Fr _ _ _ _ => Fz
        rename News _ _ _ _ => Nz
        rename ((x : Int) < _) => hx
        refine WhileEnd.next Fz Nz ?_
        refine ⟨(lo + hi') / 2 - lo, by omega, lo, (lo + hi') / 2, _, _, _, rfl, rfl, rfl, rfl, rfl, rfl, by omega, by omega, q3, ?_, rfl⟩
        intro i h1 h2
        exact Nat.lt_of_lt_of_le (by rw [hkm]; omega) (sorted_getD hs h1 (by simpa using h2))
      · rename Fr _ _ _ _ => Fz
        rename News _ _ _ _ => Nz
        rename (¬ (x : Int) < _) => hx
        refine WhileEnd.next Fz Nz ?_
        refine ⟨hi' - ((lo + hi') / 2 + 1), by omega, (lo + hi') / 2 + 1, hi', _, _, _, rfl, rfl, rfl, rfl, rfl, rfl, by omega, by omega, ?_, q4, rfl⟩
        intro i h1
        exact Nat.le_trans (sorted_getD hs (Nat.le_of_lt_succ h1) (by simpa using hmid)) (by rw [hkm]; omega)
    · refine WhlIf.no (decide_eq_false (by omega)) ?_
      k_steps
      have e : lo = hi' := by omega
      subst e
      have := countP_le_eq (ks := as.map (ps.getD · 0)) (x := x) (r := lo) (by simpa using q2) q3 (fun i h1 h2 => q4 i h1 (by simpa using h2))
      rw [this] at ret
      exact ret _ _ _ F3.keep
theorem bisR (X : Frag.In (hd.heap_39 w.params) s.heap) (T : Top p loose mean mg mb s.heap) (hA : A.depth + 3 < recursionLimit) (hh : A.handled = none)
   (a kf : Addr) (vs : List Value) (as ps : List Nat) (x : Nat) (tx t0 : Tok) (hl : s.heap.IsList a vs.toArray) (hi : IntsAre vs (nInts as)) (ha : ∀ j ∈ as, j < ps.length) (hk : KeyFn prog w s.heap (.ref kf) ps) (hfn : FnAt kf s.heap)
   (hn : as.length ≤ 5) (hs : (as.map (ps.getD · 0)).Pairwise (· ≤ ·))
   (ret : ∀ (t : Tok) (h' : Heap) (tk' : Nat), Kp s.heap h' → Q (.int (((as.map (ps.getD · 0)).countP (· ≤ x) : Nat) : Int) t) { s with heap := h', toks := tk' }) :
   wpAny (model prog w) A (call (.ref 32) [.ref a, .int (x : Int) tx, .int 0 t0, .none] [(Str.ofString "key", .ref kf)]) Q E s := by
  obtain ⟨ah, dp, fr, gd, un⟩ := A
  dsimp only at hh hA
  subst hh
  refine' enter X T ?k6 ?k7 ?k8 ?k9 ?kB ?_ ?c2 ?c3 ?c4 ?c5
  (case k6 => k_is); (case k7 => k_is); (case k8 => (dsimp only; omega)); (case k9 => exact kp_binds X (fun _ => rfl)); (case c5 => decide); (case kB => exact locs rfl); (case c2 => exact rfl); (case c3 => exact rfl); (case c4 => exact rfl)
  intro L h₁ tk F N
  exact bisRB X T hA a kf vs as ps x tx _ hl hi ha hk hfn hn hs F N rfl rfl rfl rfl rfl ret
theorem bisRd (X : Frag.In (hd.heap_39 w.params) s.heap) (T : Top p loose mean mg mb s.heap) (hA : A.depth + 3 < recursionLimit) (hh : A.handled = none)
   (a kf : Addr) (vs : List Value) (as ps : List Nat) (x : Nat) (tx : Tok) (hl : s.heap.IsList a vs.toArray) (hi : IntsAre vs (nInts as)) (ha : ∀ j ∈ as, j < ps.length) (hk : KeyFn prog w s.heap (.ref kf) ps) (hfn : FnAt kf s.heap)
   (hn : as.length ≤ 5) (hs : (as.map (ps.getD · 0)).Pairwise (· ≤ ·))
   (ret : ∀ (t : Tok) (h' : Heap) (tk' : Nat), Kp s.heap h' → Q (.int (((as.map (ps.getD · 0)).countP (· ≤ x) : Nat) : Int) t) { s with heap := h', toks := tk' }) :
   wpAny (model prog w) A (call (.ref 32) [.ref a, .int (x : Int) tx] [(Str.ofString "key", .ref kf)]) Q E s := by
  obtain ⟨ah, dp, fr, gd, un⟩ := A
  dsimp only at hh hA
  subst hh
  refine' enter X T ?k6 ?k7 ?k8 ?k9 ?kB ?_ ?c2 ?c3 ?c4 ?c5
  (case k6 => k_is); (case k7 => k_is); (case k8 => (dsimp only; omega)); (case k9 => exact kp_binds X (fun _ => rfl)); (case c5 => decide); (case kB => exact locs rfl); (case c2 => exact rfl); (case c3 => exact rfl); (case c4 => exact rfl)
  intro L h₁ tk F N
  exact bisRB X T hA a kf vs as ps x tx _ hl hi ha hk hfn hn hs F N rfl rfl rfl rfl rfl ret
def bisLDef : Stmt := (PySem.Challenge.pw_qu0037_01.main.body.drop 4).headD (.Pass default)
def bisLBody : List Stmt := match bisLDef with | .FunctionDef _ _ b _ _ _ _ _ _ _ => b | _ => []
def bisLScope : Scope := match bisLDef with | .FunctionDef _ _ _ _ _ _ s _ _ _ => s | _ => default
theorem bisLB {L : Addr} {h₁ : Heap} {tk : Nat} {m : Str → Option Value} {dp un : Nat} {fr : Option (List Env)} {gd : Option (List Code)} (X : Frag.In (hd.heap_39 w.params) s.heap) (T : Top p loose mean mg mb s.heap) (hA : dp + 3 < recursionLimit)
   (a kf : Addr) (vs : List Value) (as ps : List Nat) (x : Nat) (tx t0 : Tok) (hl : s.heap.IsList a vs.toArray) (hi : IntsAre vs (nInts as)) (ha : ∀ j ∈ as, j < ps.length) (hk : KeyFn prog w s.heap (.ref kf) ps) (hfn : FnAt kf s.heap)
   (hn : as.length ≤ 5) (hs : (as.map (ps.getD · 0)).Pairwise (· ≤ ·)) (F : Fr s.heap L h₁ m) (N : News s.heap L h₁ [])
   (e1 : m (Str.ofString "a") = some (.ref a)) (e2 : m (Str.ofString "x") = some (.int (x : Int) tx)) (e3 : m (Str.ofString "lo") = some (.int 0 t0)) (e4 : m (Str.ofString "hi") = some .none) (e5 : m (Str.ofString "key") = some (.ref kf))
   (ret : ∀ (t : Tok) (h' : Heap) (tk' : Nat), Kp s.heap h' → Q (.int (((as.map (ps.getD · 0)).countP (· < x) : Nat) : Int) t) { s with heap := h', toks := tk' }) :
   wpAny (model prog w) (({ depth := dp, frames := fr, handled := none, guards := gd, units := un } : Around).deeper (envOf (Str.ofString "bisect_left") bisLScope L 50 (.ref 49))) (execs bisLBody (envOf (Str.ofString "bisect_left") bisLScope L 50 (.ref 49)))
     (fun fl s' => Q (match fl with | .ret v => v | _ => .none) s') (fun _ _ => False) { s with heap := h₁, toks := tk } := by
  replace F := frKnow5 F e1 e2 e3 e4 e5
  have hn2 : (nInts as).length ≤ 5 := by simpa [nInts] using hn
  k_steps
  rename Fr _ _ _ _ => F1
  rename News _ _ _ _ => N1
  have hnl : (nInts as).length = as.length := by simp [nInts]
  rw [hnl] at F1
  refine Stop.mk (while_J F1 N1 (fun n m news => ∃ (lo hi : Nat) (tlo thi tx : Tok), news = [] ∧ m (Str.ofString "a") = some (.ref a) ∧ m (Str.ofString "x") = some (.int (x : Int) tx) ∧ m (Str.ofString "key") = some (.ref kf) ∧ m (Str.ofString "lo") = some (.int (lo : Int) tlo) ∧ m (Str.ofString "hi") = some (.int (hi : Int) thi) ∧
    lo ≤ hi ∧ hi ≤ as.length ∧ (∀ i, i < lo → (as.map (ps.getD · 0)).getD i 0 < x) ∧ (∀ i, hi ≤ i → i < as.length → x ≤ (as.map (ps.getD · 0)).getD i 0) ∧ n = hi - lo) as.length ?_ ?_)
  · exact ⟨0, as.length, _, _, _, rfl, rfl, rfl, rfl, rfl, rfl, Nat.zero_le _, Nat.le_refl _, fun i h => absurd h (Nat.not_lt_zero _), fun i h1 h2 => absurd h2 (Nat.not_lt.mpr h1), rfl⟩
  · rintro n m₁ news₁ h tk ⟨lo, hi', tlo, thi, tx', rfl, e1, e2, e3, e4, e5, q1, q2, q3, q4, rfl⟩ F2 N2
    have F3 := frKnow5 F2 e1 e2 e3 e4 e5
    have hm : Int.fdiv ((lo : Int) + (hi' : Int)) 2 = (((lo + hi') / 2 : Nat) : Int) := by rw [Int.fdiv_eq_ediv_of_nonneg _ (by decide)]; omega
    clear F2 F1 N1
    k_steps
    by_cases c1 : lo < hi'
    · refine WhlIf.yes (decide_eq_true (by omega)) ?_
      k_steps
      rename Fr _ _ _ _ => Fy
      rename News _ _ _ _ => Ny
      refine Stop.mk (callWith_F (fnKeeps hfn Fy.keep) ?_)
      k_steps
      · exact fnKeeps hfn Fy.keep
      refine Stop.mk ?_
      have hmid : (lo + hi') / 2 < as.length := by omega
      rw [hm, Int.toNat_natCast, nInts_getD]
      rw [hm] at Fy
      refine hk _ _ _ _ _ _ Fy.keep rfl (by dsimp [Around.deeper]; omega) (ha _ (getD_mem hmid)) fun t' h' tk' kp => ?_
      have F4 := kp.fr Fy
      have N4 := kp.news Ny
      clear Fy Ny F3 N2
      have hkm : (as.map (ps.getD · 0)).getD ((lo + hi') / 2) 0 = ps.getD (as.getD ((lo + hi') / 2) 0) 0 := getD_map hmid
      k_steps
      · rename Fr _ _ _ _ => Fz
        rename News _ _ _ _ => Nz
        rename (_ < (x : Int)) => hx
        refine WhileEnd.next Fz Nz ?_
        refine ⟨hi' - ((lo + hi') / 2 + 1), by omega, (lo + hi') / 2 + 1, hi', _, _, _, rfl, rfl, rfl, rfl, rfl, rfl, by omega, by omega, ?_, q4, rfl⟩
        intro i h1
        exact Nat.lt_of_le_of_lt (sorted_getD hs (Nat.le_of_lt_succ h1) (by simpa using hmid)) (by rw [hkm]; omega)
      · rename Fr _ _ _ _ => Fz
        rename News _ _ _ _ => Nz
        rename (¬ _ < (x : Int)) => hx
        refine WhileEnd.next Fz Nz ?_
        refine ⟨(lo + hi') / 2 - lo, by omega, lo, (lo + hi') / 2, _, _, _, rfl, rfl, rfl, rfl, rfl, rfl, by omega, by omega, q3, ?_, rfl⟩
        intro i h1 h2
        exact Nat.le_trans (by rw [hkm]; omega) (sorted_getD hs h1 (by simpa using h2))
    · refine WhlIf.no (decide_eq_false (by omega)) ?_
      k_steps
      have e : lo = hi' := by omega
      subst e
      have := countP_lt_eq (ks := as.map (ps.getD · 0)) (x := x) (r := lo) (by simpa using q2) q3 (fun i h1 h2 => q4 i h1 (by simpa using h2))
      rw [this] at ret
      exact ret _ _ _ F3.keep
theorem bisL (X : Frag.In (hd.heap_39 w.params) s.heap) (T : Top p loose mean mg mb s.heap) (hA : A.depth + 3 < recursionLimit) (hh : A.handled = none)
   (a kf : Addr) (vs : List Value) (as ps : List Nat) (x : Nat) (tx t0 : Tok) (hl : s.heap.IsList a vs.toArray) (hi : IntsAre vs (nInts as)) (ha : ∀ j ∈ as, j < ps.length) (hk : KeyFn prog w s.heap (.ref kf) ps) (hfn : FnAt kf s.heap)
   (hn : as.length ≤ 5) (hs : (as.map (ps.getD · 0)).Pairwise (· ≤ ·))
   (ret : ∀ (t : Tok) (h' : Heap) (tk' : Nat), Kp s.heap h' → Q (.int (((as.map (ps.getD · 0)).countP (· < x) : Nat) : Int) t) { s with heap := h', toks := tk' }) :
   wpAny (model prog w) A (call (.ref 50) [.ref a, .int (x : Int) tx, .int 0 t0, .none] [(Str.ofString "key", .ref kf)]) Q E s := by
  obtain ⟨ah, dp, fr, gd, un⟩ := A
  dsimp only at hh hA
  subst hh
  refine' enter X T ?k6 ?k7 ?k8 ?k9 ?kB ?_ ?c2 ?c3 ?c4 ?c5
  (case k6 => k_is); (case k7 => k_is); (case k8 => (dsimp only; omega)); (case k9 => exact kp_binds X (fun _ => rfl)); (case c5 => decide); (case kB => exact locs rfl); (case c2 => exact rfl); (case c3 => exact rfl); (case c4 => exact rfl)
  intro L h₁ tk F N
  exact bisLB X T hA a kf vs as ps x tx _ hl hi ha hk hfn hn hs F N rfl rfl rfl rfl rfl ret
theorem bisLd (X : Frag.In (hd.heap_39 w.params) s.heap) (T : Top p loose mean mg mb s.heap) (hA : A.depth + 3 < recursionLimit) (hh : A.handled = none)
   (a kf : Addr) (vs : List Value) (as ps : List Nat) (x : Nat) (tx : Tok) (hl : s.heap.IsList a vs.toArray) (hi : IntsAre vs (nInts as)) (ha : ∀ j ∈ as, j < ps.length) (hk : KeyFn prog w s.heap (.ref kf) ps) (hfn : FnAt kf s.heap)
   (hn : as.length ≤ 5) (hs : (as.map (ps.getD · 0)).Pairwise (· ≤ ·))
   (ret : ∀ (t : Tok) (h' : Heap) (tk' : Nat), Kp s.heap h' → Q (.int (((as.map (ps.getD · 0)).countP (· < x) : Nat) : Int) t) { s with heap := h', toks := tk' }) :
   wpAny (model prog w) A (call (.ref 50) [.ref a, .int (x : Int) tx] [(Str.ofString "key", .ref kf)]) Q E s := by
  obtain ⟨ah, dp, fr, gd, un⟩ := A
  dsimp only at hh hA
  subst hh
  refine' enter X T ?k6 ?k7 ?k8 ?k9 ?kB ?_ ?c2 ?c3 ?c4 ?c5
  (case k6 => k_is); (case k7 => k_is); (case k8 => (dsimp only; omega)); (case k9 => exact kp_binds X (fun _ => rfl)); (case c5 => decide); (case kB => exact locs rfl); (case c2 => exact rfl); (case c3 => exact rfl); (case c4 => exact rfl)
  intro L h₁ tk F N
  exact bisLB X T hA a kf vs as ps x tx _ hl hi ha hk hfn hn hs F N rfl rfl rfl rfl rfl ret
end
end Mine

-- part Ins
open PySem PySem.W PyProof.Rows PySem.Calls PySem.Spec PyProof.Rows.LCg PyProof.Rows.LCt
set_option Elab.async false
set_option maxRecDepth 100000
set_option maxHeartbeats 8000000
namespace Mine
section
variable {prog : Program} {w : World} {A : Around} {s : Shared} {Q : Value → Shared → Prop} {E : Value → Shared → Prop} {K : Frag}
variable {p : Program} {loose : List Str} {mean : ExcName → Option Value} {mg mb : Str → Option Value}
theorem KeyFn.mono {h h' : Heap} {v : Value} {ps : List Nat} (x : KeyFn prog w h v ps) (k : Kp h h') : KeyFn prog w h' v ps :=
  fun A s Q E j t hk => x A s Q E j t (k.trans hk)
local macro_rules | `(tactic| walk_at "call ref") => `(tactic| refine Stop.out ?_)
local macro_rules | `(tactic| walk_at "call builtin:list.insert") => `(tactic| refine Stop.out ?_)

theorem intsTake : ∀ {vs : List Value} {l : List Int} (r : Nat), IntsAre vs l → IntsAre (vs.take r) (l.take r)
  | _, _, 0, _ => by simp only [List.take_zero]; exact .nil
  | _, _, _ + 1, .nil => .nil
  | _, _, r + 1, .cons n t h => .cons n t (intsTake r h)
theorem intsDrop : ∀ {vs : List Value} {l : List Int} (r : Nat), IntsAre vs l → IntsAre (vs.drop r) (l.drop r)
  | _, _, 0, h => h
  | _, _, _ + 1, .nil => .nil
  | _, _, r + 1, .cons n t h => intsDrop r h
theorem insInts {vs : List Value} {as : List Nat} {x : Nat} {t : Tok} (h : IntsAre vs (nInts as)) (r : Nat) : IntsAre (vs.take r ++ .int (x : Int) t :: vs.drop r) (nInts (as.take r ++ x :: as.drop r)) := by
  have e : nInts (as.take r ++ x :: as.drop r) = (nInts as).take r ++ (x : Int) :: (nInts as).drop r := by
    simp [nInts, List.map_take, List.map_drop]
  rw [e]
  exact intsApp (intsTake r h) (.cons _ _ (intsDrop r h))

theorem insR {h₀ : Heap} (X : Frag.In (hd.heap_39 w.params) h₀) (T : Top p loose mean mg mb h₀) (hA : A.depth + 4 < recursionLimit) (hh : A.handled = none) (k₀ : Kp h₀ s.heap)
   (a kf : Addr) (vs : List Value) (n : Nat) (as ps : List Nat) (x : Nat) (tx : Tok) (ha₀ : h₀.get? a = none) (hobj : s.heap.get? a = some (W.listOf (List.toArray vs) n)) (hi : IntsAre vs (nInts as)) (ha : ∀ j ∈ as, j < ps.length) (hx : x < ps.length)
   (hk : KeyFn prog w s.heap (.ref kf) ps) (hfn : FnAt kf s.heap) (hn : as.length ≤ 4) (hs : (as.map (ps.getD · 0)).Pairwise (· ≤ ·))
   (ret : ∀ vs' n' (h' : Heap) (tk' : Nat), (∀ b o, b ≠ a → s.heap.get? b = some o → h'.get? b = some o) → h'.get? a = some (W.listOf (List.toArray vs') n') → IntsAre vs' (nInts (as.take ((as.map (ps.getD · 0)).countP (· ≤ ps.getD x 0)) ++ x :: as.drop ((as.map (ps.getD · 0)).countP (· ≤ ps.getD x 0)))) → Q .none { s with heap := h', toks := tk' }) :
   wpAny (model prog w) A (call (.ref 23) [.ref a, .int (x : Int) tx] [(Str.ofString "key", .ref kf)]) Q E s := by
  obtain ⟨ah, dp, fr, gd, un⟩ := A
  dsimp only at hh hA
  subst hh
  refine' enterM X T k₀ ha₀ hobj ?k6 ?k7 ?k8 ?k9 ?kB ?_ ?c2 ?c3 ?c4 ?c5
  (case k6 => k_is); (case k7 => k_is); (case k8 => (dsimp only; omega)); (case k9 => exact kp_binds (X.keeps k₀) (fun _ => rfl)); (case c5 => decide); (case kB => exact locs rfl); (case c2 => exact rfl); (case c3 => exact rfl); (case c4 => exact rfl)
  clear X T k₀ ha₀
  intro g L h₁ tk X T kg hlt F N
  have kp1 : Kp s.heap h₁ := fun b o e => by
    by_cases q : b = a
    · subst q; rw [hobj] at e; cases e; exact (N _ (.head _)).1
    · exact F.keep b o (kg b o q e)
  k_steps
  refine callWith_F (fnKeeps hfn kp1) ?_
  k_steps
  · exact fnKeeps hfn kp1
  refine Stop.mk (hk _ _ _ _ _ _ kp1 rfl (by dsimp [Around.deeper]; omega) hx fun t' h' tk' kp => ?_)
  have F4 := kp.fr F
  have N4 := kp.news N
  have kp2 := kp1.trans kp
  clear F N
  k_steps
  refine Stop.mk (bisR (X.keeps F4.keep) (T.keeps F4.keep) (by dsimp [Around.deeper]; omega) rfl a kf vs as ps _ _ _ (News.isList N4 (.head _)) hi ha (hk.mono kp2) (fnKeeps hfn kp2) (by omega) hs fun t2 h2 tk2 kp => ?_)
  have F5 := kp.fr F4
  have N5 := kp.news N4
  clear F4 N4
  generalize hr : (as.map (ps.getD · 0)).countP (· ≤ ps.getD x 0) = r at ret ⊢
  have hrl : r ≤ as.length := by rw [← hr]; exact Nat.le_trans List.countP_le_length (by simp)
  k_steps
  rename Fr _ _ _ _ => Fy
  rename News _ _ _ _ => Ny
  have hvl : vs.length = as.length := by rw [hi.length]; simp [nInts]
  refine' Stop.mk (kl_insert (its := List.toArray vs) (n := n) Fy Ny (by simp [Builtin.List.listFitsIndex]; omega) rfl ?U (by rw [sizeLine_eq]; simp; omega) ?_)
  case U => k_upd
  intro h3 F3 N3
  k_steps
  refine ret _ _ _ _ (fun b o hb e => F3.keep b o (kg b o hb e)) (N3 _ (.head _)).1 ?_
  have e1 : kl_ins (List.toArray vs).toList (r : Int) (.int (x : Int) tx) = vs.take r ++ .int (x : Int) tx :: vs.drop r := by
    unfold kl_ins
    rw [if_neg (by omega)]
    have : min (r : Int).toNat (List.toArray vs).toList.length = r := by simp; omega
    rw [this]
  rw [e1]
  exact insInts hi r
theorem insL {h₀ : Heap} (X : Frag.In (hd.heap_39 w.params) h₀) (T : Top p loose mean mg mb h₀) (hA : A.depth + 4 < recursionLimit) (hh : A.handled = none) (k₀ : Kp h₀ s.heap)
   (a kf : Addr) (vs : List Value) (n : Nat) (as ps : List Nat) (x : Nat) (tx : Tok) (ha₀ : h₀.get? a = none) (hobj : s.heap.get? a = some (W.listOf (List.toArray vs) n)) (hi : IntsAre vs (nInts as)) (ha : ∀ j ∈ as, j < ps.length) (hx : x < ps.length)
   (hk : KeyFn prog w s.heap (.ref kf) ps) (hfn : FnAt kf s.heap) (hn : as.length ≤ 4) (hs : (as.map (ps.getD · 0)).Pairwise (· ≤ ·))
   (ret : ∀ vs' n' (h' : Heap) (tk' : Nat), (∀ b o, b ≠ a → s.heap.get? b = some o → h'.get? b = some o) → h'.get? a = some (W.listOf (List.toArray vs') n') → IntsAre vs' (nInts (as.take ((as.map (ps.getD · 0)).countP (· < ps.getD x 0)) ++ x :: as.drop ((as.map (ps.getD · 0)).countP (· < ps.getD x 0)))) → Q .none { s with heap := h', toks := tk' }) :
   wpAny (model prog w) A (call (.ref 41) [.ref a, .int (x : Int) tx] [(Str.ofString "key", .ref kf)]) Q E s := by
  obtain ⟨ah, dp, fr, gd, un⟩ := A
  dsimp only at hh hA
  subst hh
  refine' enterM X T k₀ ha₀ hobj ?k6 ?k7 ?k8 ?k9 ?kB ?_ ?c2 ?c3 ?c4 ?c5
  (case k6 => k_is); (case k7 => k_is); (case k8 => (dsimp only; omega)); (case k9 => exact kp_binds (X.keeps k₀) (fun _ => rfl)); (case c5 => decide); (case kB => exact locs rfl); (case c2 => exact rfl); (case c3 => exact rfl); (case c4 => exact rfl)
  clear X T k₀ ha₀
  intro g L h₁ tk X T kg hlt F N
  have kp1 : Kp s.heap h₁ := fun b o e => by
    by_cases q : b = a
    · subst q; rw [hobj] at e; cases e; exact (N _ (.head _)).1
    · exact F.keep b o (kg b o q e)
  k_steps
  refine callWith_F (fnKeeps hfn kp1) ?_
  k_steps
  · exact fnKeeps hfn kp1
  refine Stop.mk (hk _ _ _ _ _ _ kp1 rfl (by dsimp [Around.deeper]; omega) hx fun t' h' tk' kp => ?_)
  have F4 := kp.fr F
  have N4 := kp.news N
  have kp2 := kp1.trans kp
  clear F N
  k_steps
  refine Stop.mk (bisL (X.keeps F4.keep) (T.keeps F4.keep) (by dsimp [Around.deeper]; omega) rfl a kf vs as ps _ _ _ (News.isList N4 (.head _)) hi ha (hk.mono kp2) (fnKeeps hfn kp2) (by omega) hs fun t2 h2 tk2 kp => ?_)
  have F5 := kp.fr F4
  have N5 := kp.news N4
  clear F4 N4
  generalize hr : (as.map (ps.getD · 0)).countP (· < ps.getD x 0) = r at ret ⊢
  have hrl : r ≤ as.length := by rw [← hr]; exact Nat.le_trans List.countP_le_length (by simp)
  k_steps
  rename Fr _ _ _ _ => Fy
  rename News _ _ _ _ => Ny
  have hvl : vs.length = as.length := by rw [hi.length]; simp [nInts]
  refine' Stop.mk (kl_insert (its := List.toArray vs) (n := n) Fy Ny (by simp [Builtin.List.listFitsIndex]; omega) rfl ?U (by rw [sizeLine_eq]; simp; omega) ?_)
  case U => k_upd
  intro h3 F3 N3
  k_steps
  refine ret _ _ _ _ (fun b o hb e => F3.keep b o (kg b o hb e)) (N3 _ (.head _)).1 ?_
  have e1 : kl_ins (List.toArray vs).toList (r : Int) (.int (x : Int) tx) = vs.take r ++ .int (x : Int) tx :: vs.drop r := by
    unfold kl_ins
    rw [if_neg (by omega)]
    have : min (r : Int).toNat (List.toArray vs).toList.length = r := by simp; omega
    rw [this]
  rw [e1]
  exact insInts hi r
end
end Mine

-- part Drawn
open PySem PySem.W PyProof.Rows PySem.Calls PySem.Spec PyProof.Rows.LCg PyProof.Rows.LCt
set_option Elab.async false
set_option maxRecDepth 100000
set_option maxHeartbeats 8000000
namespace Mine
section
variable {prog : Program} {w : World} {A : Around} {s : Shared} {Q : Value → Shared → Prop} {E : Value → Shared → Prop}
variable {p : Program} {loose : List Str} {mean : ExcName → Option Value} {mg mb : Str → Option Value}
local macro_rules | `(tactic| walk_at "exec For Name Call cons nil") => `(tactic| refine Stop.out ?_)
theorem range_size (n : Nat) : Builtin.Range.rangeSize 0 (n : Int) 1 = (n : Int) := by
  unfold Builtin.Range.rangeSize
  simp
  omega
theorem range_small {n : Nat} (h : n ≤ 1000) : Builtin.Range.small 0 (n : Int) 1 = true := by
  unfold Builtin.Range.small
  rw [range_size]
  simp [Builtin.Range.rangeFitsLong]
  omega

theorem drawn (X : Frag.In (hd.heap_39 w.params) s.heap) (T : Top p loose mean mg mb s.heap) (hA : A.depth + 2 < recursionLimit) (hh : A.handled = none)
   (a b : Addr) (vs ws : List Value) (ns bs : List Int) (hl : s.heap.IsList a vs.toArray) (hi : IntsAre vs ns) (hl2 : s.heap.IsList b ws.toArray) (hi2 : IntsAre ws bs) (hn : ns.length ≤ 63) (hb : bs.length = 5)
   (ret : ∀ D us n ds (h' : Heap) (tk' : Nat), Kp s.heap h' → s.heap.get? D = none → h'.get? D = some (W.listOf (List.toArray us) n) → IntsAre us ds → ds.length = 5 → Q (.ref D) { s with heap := h', toks := tk' }) :
   wpAny (model prog w) A (call (.ref 79) [.ref a, .ref b]) Q E s := by
  obtain ⟨ah, dp, fr, gd, un⟩ := A
  dsimp only at hh hA
  subst hh
  refine' enter X T ?k6 ?k7 ?k8 ?k9 ?kB ?_ ?c2 ?c3 ?c4 ?c5
  (case k6 => k_is); (case k7 => k_is); (case k8 => (dsimp only; omega)); (case k9 => exact BindsTo.of_eq rfl); (case c5 => decide); (case kB => exact locs rfl); (case c2 => exact rfl); (case c3 => exact rfl); (case c4 => exact rfl)
  intro L h₁ tk F N
  k_steps
  refine Stop.mk (for_range (by k_asm) ?_)
  k_steps
  rename IsRange _ _ _ _ _ _ _ _ => hr
  rename Fr _ _ _ _ => F1
  rename News _ _ _ _ => N1
  rename_i D c' _ _ _ _ _ _ _ _ _ _ _ _ _ _
  have hN : (if (60 : Int) < (ns.length : Int) then 60 else (ns.length : Int)) = ((min ns.length 60 : Nat) : Int) := by split <;> omega
  rw [hN] at hr
  refine ⟨_, _, _, _, _, _, min ns.length 60, _, _, fun i m news => ∃ us n ds, m (Str.ofString "drawn") = some (.ref D) ∧ m (Str.ofString "script") = some (.ref a) ∧ m (Str.ofString "base") = some (.ref b) ∧ news = [(D, W.listOf (List.toArray us) n)] ∧ IntsAre us ds ∧ ds.length = 5, rfl, rfl, F1, N1, hr, range_small (by omega), range_size _, ?_, ?_, ?_⟩
  · exact ⟨_, _, bs, rfl, rfl, rfl, rfl, hi2, hb⟩
  · rintro I i tv m₁ news₁ h tk oI hlt hii ⟨us, n, ds, e1, e2, e3, rfl, e5, e6⟩ hne F2 N2
    have F3 := frKnow3 F2 e1 e2 e3
    clear F2 F1 N1 hr
    have hne1 : @Ne Nat D I := hne _ (.head _)
    k_steps
    rename Fr _ _ _ _ => Fz
    rename News _ _ _ _ => Nz
    rename IntsAre _ (List.set _ _ _) => hI
    refine TurnEnd.next Fz Nz (fun _ x => x) (by simpa using hne1) ?_
    exact ⟨_, _, _, rfl, rfl, rfl, rfl, hI, by rw [List.length_set]; exact e6⟩
  · rintro h tk m₁ news₁ ⟨us, n, ds, e1, e2, e3, rfl, e5, e6⟩ F2 N2
    have F3 := frKnow3 F2 e1 e2 e3
    k_steps
    have hD := N2 _ (.head _)
    exact ret _ _ _ _ _ _ F2.keep hD.2.2 hD.1 e5 e6
end
end Mine

-- part LawDefs
open PySem PySem.W PyProof.Rows PySem.Calls PySem.Spec PyProof.Rows.LCg PyProof.Rows.LCt
set_option Elab.async false
set_option maxRecDepth 100000
set_option maxHeartbeats 8000000
namespace Mine
def lawDef : Stmt := (PySem.Challenge.pw_qu0037_01.main.body.getLastD (.Pass default))
def lawBody : List Stmt := match lawDef with | .FunctionDef _ _ b _ _ _ _ _ _ _ => b | _ => []
def lawScope : Scope := match lawDef with | .FunctionDef _ _ _ _ _ _ s _ _ _ => s | _ => default
abbrev lawEnv (L fa : Addr) : Env := envOfC (Str.ofString "law") lawScope L fa (.ref 109)
abbrev lawA (L fa : Addr) : Around := callerA.deeper (lawEnv L fa)
@[irreducible] def lawRest (k : Nat) : List Stmt := lawBody.drop k
theorem lawRest_eq (k : Nat) : lawRest k = lawBody.drop k := by unfold lawRest; rfl
theorem law_cut (k : Nat) : lawBody = lawBody.take k ++ lawRest k := by rw [lawRest_eq, List.take_append_drop]
theorem newsAdd {h₀ h h' : Heap} {L D : Addr} {m : Str → Option Value} {news : List (Addr × Obj)} {o : Obj} (kp : Kp h h') (F : Fr h₀ L h m) (N : News h₀ L h news) (hD : h.get? D = none) (hD' : h'.get? D = some o) : News h₀ L h' ((D, o) :: news) := by
  intro p hp
  rcases List.mem_cons.mp hp with rfl | hp
  · refine ⟨hD', fun q => ?_, ?_⟩
    · obtain ⟨oL, _, _, hL, _⟩ := F.ns
      have q' : D = L := q
      rw [← q', hD] at hL; cases hL
    · cases e : h₀.get? D with
      | none => rfl
      | some o' => have := F.keep _ _ e; rw [hD] at this; cases this
  · exact kp.news N p hp
theorem newsNe {h₀ h : Heap} {L D : Addr} {news : List (Addr × Obj)} (N : News h₀ L h news) (hD : h.get? D = none) : ∀ p ∈ news, p.1 ≠ D := fun p hp q => by
  have := (N p hp).1; rw [q, hD] at this; cases this
theorem iter_bytes {prog : Program} {w : World} {A : Around} {s : Shared} {Q : Value → Shared → Prop} {E : Value → Shared → Prop} {h₀ : Heap} {L : Addr} {m : Str → Option Value} {news : List (Addr × Obj)} {b : Array UInt8} {t : Tok} (F : Fr h₀ L s.heap m) (N : News h₀ L s.heap news)
    (h : ∀ I o h', Fr h₀ L h' m → News h₀ L h' ((I, o) :: news) → BI o b t 0 → (∀ p ∈ news, p.1 < I) → Q (.ref I) { s with heap := h' }) : wpAny (model prog w) A (call (.builtin "iter") [.bytes b t]) Q E s := by
  refine call_function_entry (by decide +kernel) (by decide +kernel) kdk_entry_iter (kdk_args_iter _) ?_
  unfold Builtin.«iter»
  refine wpAny_bind (m := someArgs "iter" 1 2 _) (wpAny_of_eq (a := [Value.bytes b t]) (by first | rfl | kernel_rfl!) ?_)
  dsimp only
  refine wpAny_bind (KBw.pyIter_bytes ?_)
  exact wpAny_pure ⟨_, rfl, h _ _ _ (F.push _) (N.push F _) ⟨rfl, rfl⟩ (fun q hq => Heap.lt_size (N q hq).1)⟩
theorem cellsTen {cm : Str → Option Value} {n1 n2 n3 n4 n5 n6 n7 n8 n9 n10 : Str} {c1 c2 c3 c4 c5 c6 c7 c8 c9 c10 : Addr} {cells : List (Addr × Obj)} (x : CellsAre cm [(n1, c1), (n2, c2), (n3, c3), (n4, c4), (n5, c5), (n6, c6), (n7, c7), (n8, c8), (n9, c9), (n10, c10)] cells) :
    ∃ o1 o2 o3 o4 o5 o6 o7 o8 o9 o10, cells = [(c1, o1), (c2, o2), (c3, o3), (c4, o4), (c5, o5), (c6, o6), (c7, o7), (c8, o8), (c9, o9), (c10, o10)] ∧ o1.data = .cell (cm n1) ∧ o2.data = .cell (cm n2) ∧ o3.data = .cell (cm n3) ∧ o4.data = .cell (cm n4) ∧ o5.data = .cell (cm n5) ∧ o6.data = .cell (cm n6) ∧ o7.data = .cell (cm n7) ∧ o8.data = .cell (cm n8) ∧ o9.data = .cell (cm n9) ∧ o10.data = .cell (cm n10) := by
  cases x with
  | cons h1 r =>
    cases r with
    | cons h2 r =>
      obtain ⟨a, b, c, d, e, f, g, h, rfl, k⟩ := kc_eight r
      exact ⟨_, _, a, b, c, d, e, f, g, h, rfl, h1, h2, k⟩
theorem subI {α : Type} {l : List α} : ∀ {l' : List α} (is : List Nat), is.map (l[·]?) = l'.map some → ∀ q ∈ l', q ∈ l
  | [], _, _, _, h => by cases h
  | a :: l', [], e, _, _ => by simp at e
  | a :: l', i :: is, e, q, h => by
    simp only [List.map_cons, List.cons.injEq] at e
    rcases List.mem_cons.mp h with rfl | h
    · exact List.mem_of_getElem? e.1
    · exact subI is e.2 q h
theorem subE {α : Type} {l l' : List α} (n : Nat) (is : List Nat) (h : is.map (l[·]?) = l'.map some) : ∀ q ∈ l' ++ l.drop n, q ∈ l := fun q hq => by
  rcases List.mem_append.mp hq with hq | hq
  · exact subI is h q hq
  · exact List.mem_of_mem_drop hq
theorem neI {I : Addr} {l l' : List (Addr × Obj)} (h : ∀ q ∈ l, q.1 ≠ I) (e : l'.map (·.1) = l.map (·.1)) : ∀ q ∈ l', q.1 ≠ I := fun q hq => by
  have : q.1 ∈ l.map (·.1) := e ▸ List.mem_map_of_mem hq
  obtain ⟨r, hr, e2⟩ := List.mem_map.mp this
  rw [← e2]; exact h r hr
theorem off1_lt {I : Addr} {l : List (Addr × Obj)} (h : ∀ p ∈ l, p.1 < I) : Off1 I l := by
  induction l with
  | nil => exact trivial
  | cons p r ih => exact ⟨Nat.ne_of_lt (h p (.head _)), ih fun q hq => h q (.tail _ hq)⟩
theorem off1_ne {I : Addr} {l : List (Addr × Obj)} (h : ∀ p ∈ l, p.1 ≠ I) : Off1 I l := by
  induction l with
  | nil => exact trivial
  | cons p r ih => exact ⟨h p (.head _), ih fun q hq => h q (.tail _ hq)⟩
theorem off1_swap {I a : Addr} {o o' : Obj} (l : List (Addr × Obj)) {r : List (Addr × Obj)} (h : Off1 I (l ++ (a, o) :: r)) : Off1 I (l ++ (a, o') :: r) := by
  induction l with
  | nil => exact ⟨h.1, h.2⟩
  | cons p r ih => exact ⟨h.1, ih h.2⟩
theorem cellNe {L a b : Nat} (h : (a == b) = false) : L + a ≠ L + b := fun e => by
  rw [Nat.add_left_cancel e] at h; simp at h
theorem tabNe {L a : Nat} (h : @LT.lt Nat _ 107 L) : 107 ≠ L + a := Nat.ne_of_lt (Nat.lt_of_lt_of_le h (Nat.le_add_right _ _))
theorem cellNeR {L a b c : Nat} (h : L + b = c) (h2 : (a == b) = false) : L + a ≠ c := h ▸ cellNe h2
theorem tabNeR {L b c : Nat} (h : L + b = c) (h2 : @LT.lt Nat _ 107 L) : 107 ≠ c := h ▸ tabNe h2
end Mine
local macro_rules | `(tactic| k_ne) => `(tactic| (refine neN ?_; (try dsimp only); first
  | with_reducible assumption
  | with_reducible exact Ne.symm (by assumption)
  | with_reducible exact Mine.cellNe rfl
  | with_reducible exact Mine.tabNe (by assumption)
  | with_reducible exact Ne.symm (Mine.tabNe (by assumption))
  | with_reducible exact Nat.ne_of_lt (by assumption)
  | with_reducible exact Nat.ne_of_gt (by assumption)
  | exact Mine.cellNeR (b := 2) rfl rfl
  | exact Mine.cellNeR (b := 3) rfl rfl
  | exact Mine.cellNeR (b := 4) rfl rfl
  | exact Mine.cellNeR (b := 5) rfl rfl
  | exact Mine.cellNeR (b := 6) rfl rfl
  | exact Mine.cellNeR (b := 7) rfl rfl
  | exact Mine.cellNeR (b := 8) rfl rfl
  | exact Mine.cellNeR (b := 9) rfl rfl
  | exact Mine.cellNeR (b := 10) rfl rfl
  | exact Ne.symm (Mine.cellNeR (b := 2) rfl rfl)
  | exact Ne.symm (Mine.cellNeR (b := 3) rfl rfl)
  | exact Ne.symm (Mine.cellNeR (b := 4) rfl rfl)
  | exact Ne.symm (Mine.cellNeR (b := 5) rfl rfl)
  | exact Ne.symm (Mine.cellNeR (b := 6) rfl rfl)
  | exact Ne.symm (Mine.cellNeR (b := 7) rfl rfl)
  | exact Ne.symm (Mine.cellNeR (b := 8) rfl rfl)
  | exact Ne.symm (Mine.cellNeR (b := 9) rfl rfl)
  | exact Ne.symm (Mine.cellNeR (b := 10) rfl rfl)
  | exact Mine.tabNeR (b := 2) rfl (by assumption)
  | exact Mine.tabNeR (b := 3) rfl (by assumption)
  | exact Mine.tabNeR (b := 4) rfl (by assumption)
  | exact Mine.tabNeR (b := 5) rfl (by assumption)
  | exact Mine.tabNeR (b := 6) rfl (by assumption)
  | exact Mine.tabNeR (b := 7) rfl (by assumption)
  | exact Mine.tabNeR (b := 8) rfl (by assumption)
  | exact Mine.tabNeR (b := 9) rfl (by assumption)
  | exact Mine.tabNeR (b := 10) rfl (by assumption)
  | (rename (_ ≠ _ ∧ _) => q; first | exact Ne.symm q.1 | exact Ne.symm q.2.1 | exact Ne.symm q.2.2.1 | exact Ne.symm q.2.2.2.1 | exact Ne.symm q.2.2.2.2.1 | exact Ne.symm q.2.2.2.2.2.1 | exact Ne.symm q.2.2.2.2.2.2.1 | exact Ne.symm q.2.2.2.2.2.2.2.1 | exact Ne.symm q.2.2.2.2.2.2.2.2.1 | exact Ne.symm q.2.2.2.2.2.2.2.2.2.1 | exact Ne.symm q.2.2.2.2.2.2.2.2.2.2.1 | exact Ne.symm q.2.2.2.2.2.2.2.2.2.2.2.1 | exact Ne.symm q.2.2.2.2.2.2.2.2.2.2.2.2.1 | exact Ne.symm q.2.2.2.2.2.2.2.2.2.2.2.2.2.1)
  | omega))

-- part Law1
open PySem PySem.W PyProof.Rows PySem.Calls PySem.Spec PyProof.Rows.LCg PyProof.Rows.LCt
set_option Elab.async false
set_option maxRecDepth 100000
set_option maxHeartbeats 8000000
namespace Mine
section
variable {prog : Program} {w : World} {s : Shared} {Q : Flow → Shared → Prop}
variable {p : Program} {loose : List Str} {mean : ExcName → Option Value} {mg mb : Str → Option Value} {h₀ h₁ : Heap} {L fa : Addr} {tk : Nat}
local macro_rules | `(tactic| walk_at "call ref") => `(tactic| refine Stop.out ?_)
local macro_rules | `(tactic| walk_at "exec Assign cons ListComp") => `(tactic| refine Stop.out ?_)

theorem ms_of (ds : List Int) (h : ds.length = 5) : ∃ ms : List Nat, ds.map (fun k' => k'.fmod 262144) = nInts ms ∧ ms.length = 5 ∧ ∀ m ∈ ms, m < 262144 := by
  refine ⟨ds.map fun k => (k.fmod 262144).toNat, ?_, by simpa using h, ?_⟩
  · simp only [nInts, List.map_map]
    refine List.map_congr_left fun k _ => ?_
    have := Int.fmod_nonneg_of_pos k (by decide : (0 : Int) < 262144)
    simp only [Function.comp]
    omega
  · intro m hm
    obtain ⟨k, _, rfl⟩ := List.mem_map.mp hm
    have h1 := Int.fmod_nonneg_of_pos k (by decide : (0 : Int) < 262144)
    have h2 := Int.fmod_lt_of_pos k (by decide : (0 : Int) < 262144)
    omega
theorem keep_dropA {α : Type} {q a b : α} {l : List α} (h : q ∈ a :: l) : q ∈ a :: b :: l := by
  rcases List.mem_cons.mp h with rfl | h
  · exact .head _
  · exact .tail _ (.tail _ h)

theorem seg0 {a : Addr} {vs : List Value} {ns : List Int} {o1 o2 o3 o4 o5 o6 o7 o8 o9 o10 : Obj}
    (X : Frag.In (hd.heap_39 w.params) h₀) (T : Top p loose mean mg mb h₀) (B : Below callerA h₀ [] h₀) (C : CodeHd h₀ 109 107) (hl : h₀.IsList a vs.toArray) (hi : IntsAre vs ns) (hn : ns.length ≤ 63) (h107 : @LT.lt Nat _ 107 L)
    (F : Fr h₀ L h₁ (fun y => if y = Str.ofString "script" then some (.ref a) else none))
    (N : News h₀ L h₁ [(L + 10, o1), (L + 9, o2), (L + 8, o3), (L + 7, o4), (L + 6, o5), (L + 5, o6), (L + 4, o7), (L + 3, o8), (L + 2, o9), (L + 1, o10), (107, tabObj #[])])
    (d10 : o10.data = .cell none)
    (rest : ∀ I D2 oI q10 ys t ms h2 tk2 m2, Fr h₀ L h2 m2 → m2 (Str.ofString "numbers") = some (.ref D2) →
       News h₀ L h2 [(I, oI), (D2, lst ys), (L + 10, o1), (L + 9, o2), (L + 8, o3), (L + 7, o4), (L + 6, o5), (L + 5, o6), (L + 4, o7), (L + 3, o8), (L + 2, o9), (L + 1, q10), (107, tabObj #[])] →
       Off1 I [(D2, lst ys), (L + 10, o1), (L + 9, o2), (L + 8, o3), (L + 7, o4), (L + 6, o5), (L + 5, o6), (L + 4, o7), (L + 3, o8), (L + 2, o9), (L + 1, q10), (107, tabObj #[])] →
       Off1 D2 [(L + 10, o1), (L + 9, o2), (L + 8, o3), (L + 7, o4), (L + 6, o5), (L + 5, o6), (L + 4, o7), (L + 3, o8), (L + 2, o9), (L + 1, q10), (107, tabObj #[])] →
       q10.data = .cell (some (.ref I)) → BI oI (byteArr (nInts (tapeN ms))) t 0 → IntsAre ys (nInts ms) → ms.length = 5 → (∀ m ∈ ms, m < 262144) →
       wpAny (model prog w) (lawA L fa) (execs (lawRest 2) (lawEnv L fa)) Q (fun _ _ => False) { s with heap := h2, toks := tk2 }) :
    wpAny (model prog w) (lawA L fa) (execs (lawBody.take 2 ++ lawRest 2) (lawEnv L fa)) Q (fun _ _ => False) { s with heap := h₁, toks := tk } := by
  k_steps
  refine Stop.mk (Assign_ListComp_U F rfl rfl rfl (by decide) rfl (by decide) rfl rfl rfl ?_)
  k_steps
  rename Fr _ _ _ _ => F1
  rename News _ _ _ _ => N1
  refine Stop.mk (drawn (X.keeps F1.keep) (T.keeps F1.keep) (Nat.le_of_ble_eq_true rfl) rfl a _ vs _ ns [147, 69, 150, 73, 156] (hl.at fun o e => F1.keep _ o e) hi (News.isList N1 (.head _)) (.cons _ _ (.cons _ _ (.cons _ _ (.cons _ _ (.cons _ _ .nil))))) hn rfl fun D us n ds h2 tk2 kp hD hD' hI hds => ?_)
  have F2 := kp.fr F1
  have N2 := newsAdd kp F1 (fun q hq => N1 q (.tail _ hq)) hD hD'
  clear F1 N1
  k_steps
  rename Fr _ _ _ _ => F1
  rename News _ _ _ _ => N1
  rename IntsAre _ (List.map _ _) => hI2
  rename_i ys _ D2 _ _ off
  obtain ⟨ms, hms, hml, hmb⟩ := ms_of ds hds
  rw [hms] at hI2
  have N3 := fun q hq => N1 q (keep_dropA hq)
  refine Stop.mk (tape (X.keeps F1.keep) (T.keeps F1.keep) (Nat.le_of_ble_eq_true rfl) rfl _ ys ms (News.isList N1 (.head _)) hI2 hmb hml fun t h3 tk3 kp => ?_)
  have F3 := kp.fr F1
  have N4 := kp.news N3
  clear F1 N1 N3
  k_steps
  refine iter_bytes F3 N4 fun I oI h4 F5 N5 bi l5 => ?_
  clear F3 N4
  have l6 := l5
  k_lt l5
  obtain ⟨off0, off1, off2, off3, off4, off5, off6, off7, off8, off9, off10, off11⟩ := off
  k_steps
  rename Fr _ _ _ _ => F1
  rename News _ _ _ _ => N1
  refine rest _ _ _ _ _ _ ms _ _ _ F1 rfl N1 ?_ ?_ (by assumption) bi hI2 hml hmb
  · obtain ⟨a0, a1, a2, a3, a4, a5, a6, a7, a8, a9, a10, a11, -⟩ := off1_lt l6
    exact ⟨a0, a1, a2, a3, a4, a5, a6, a7, a8, a9, a10, a11, trivial⟩
  · exact ⟨off1, off2, off3, off4, off5, off6, off7, off8, off9, off10, off11, trivial⟩
end
end Mine

-- part Law1b
open PySem PySem.W PyProof.Rows PySem.Calls PySem.Spec PyProof.Rows.LCg PyProof.Rows.LCt
set_option Elab.async false
set_option maxRecDepth 100000
set_option maxHeartbeats 8000000
namespace Mine
section
variable {prog : Program} {w : World} {s : Shared} {Q : Flow → Shared → Prop}
variable {p : Program} {loose : List Str} {mean : ExcName → Option Value} {mg mb : Str → Option Value} {h₀ h₁ : Heap} {L fa : Addr} {tk : Nat}
local macro_rules | `(tactic| walk_at "call ref") => `(tactic| refine Stop.out ?_)
local macro_rules | `(tactic| walk_at "exec Assign cons ListComp") => `(tactic| refine Stop.out ?_)
local macro_rules | `(tactic| walk_at "CompSrc") => `(tactic| refine Stop.out ?_)
/-- a comprehension whose element changes one object -/
theorem compM {A : Around} {h₀ : Heap} {L : Addr} {m : Str → Option Value} {env : Env} {elt : Expr} {x : Str} {scope : Scope} {cl : List (Str × Addr)} {P : Nat → Value → Prop} {Fin : List Value → List (Addr × Obj) → Prop} {I : Addr} {news : List (Addr × Obj)} {n : Nat}
    (R : Nat → List Value → Obj → Prop) (hIL : L ≠ I) (hI₀ : h₀.get? I = none) (hne : ∀ q ∈ news, q.1 ≠ I)
    (hstep : ∀ i ys v J oJ C oC D m₂ h tk oI, i < n → R i ys oI → P i v → NsObj oC m₂ → m₂ x = some v → Fr h₀ L h m → News h₀ L h ((J, oJ) :: (C, oC) :: (D, lst ys) :: (I, oI) :: news) →
      wpAny (model prog w) A (eval elt (compEnvC scope cl C env)) (fun y s' => ∃ h' tk' o', s' = { s with heap := h', toks := tk' } ∧ (∀ b o, b ≠ I → h.get? b = some o → h'.get? b = some o) ∧ h'.get? I = some o' ∧ R (i + 1) (ys ++ [y]) o') (fun _ _ => False) { s with heap := h, toks := tk })
    (hfin : ∀ ys o, R n ys o → Fin ys ((I, o) :: news)) : ∀ (k i : Nat) (ys : List Value) (oI : Obj), i + k = n → R i ys oI → CompRest prog w A h₀ L m env elt x scope cl s (fun _ => True) P Fin k i ys ((I, oI) :: news)
  | 0, i, ys, oI, e, r => CompRest.zero (hfin ys oI (by rw [← e, Nat.add_zero]; exact r))
  | k + 1, i, ys, oI, e, r => CompRest.succ fun v J oJ C oC D m₂ h tk E' hP hN hx F N off ne => by
    refine wpAny_mono (hstep i ys v J oJ C oC D m₂ h tk oI (by omega) r hP hN hx F N) (fun y s' q => ?_) fun _ _ q => q.elim
    obtain ⟨h', tk', o', rfl, kp, hI', r'⟩ := q
    have kp' : ∀ b o, b ∉ [I] → h.get? b = some o → h'.get? b = some o := fun b o hb e => kp b o (by simpa using hb) e
    obtain ⟨⟨i1, i2, i3⟩, off'⟩ := off
    refine ⟨h', tk', (I, o') :: news, rfl, fr_but F kp' hIL hI₀, ?_, ⟨⟨i1, i2, i3⟩, off'⟩, trivial, compM R hIL hI₀ hne hstep hfin k (i + 1) (ys ++ [y]) o' (by omega) r'⟩
    intro q hq
    rcases List.mem_cons.mp hq with rfl | hq
    · exact ⟨kp' _ _ (by simpa using Ne.symm i1) (N _ (.head _)).1, (N _ (.head _)).2⟩
    rcases List.mem_cons.mp hq with rfl | hq
    · exact ⟨kp' _ _ (by simpa using Ne.symm i2) (N _ (.tail _ (.head _))).1, (N _ (.tail _ (.head _))).2⟩
    rcases List.mem_cons.mp hq with rfl | hq
    · exact ⟨kp' _ _ (by simpa using Ne.symm i3) (N _ (.tail _ (.tail _ (.head _)))).1, (N _ (.tail _ (.tail _ (.head _)))).2⟩
    rcases List.mem_cons.mp hq with rfl | hq
    · exact ⟨hI', Ne.symm hIL, hI₀⟩
    · exact ⟨kp' _ _ (by simpa using hne q hq) (N q (.tail _ (.tail _ (.tail _ (.tail _ hq))))).1, (N q (.tail _ (.tail _ (.tail _ (.tail _ hq))))).2⟩

theorem byteArr_get {l : List Nat} (h : ∀ x ∈ l, x < 128) (j x : Nat) (e : l[j]? = some x) : ∃ c : UInt8, (byteArr (nInts l))[j]? = some c ∧ c.toNat = x := by
  refine ⟨UInt8.ofNat x, ?_, ?_⟩
  · unfold byteArr nInts
    simp [e]
  · have := h x (List.mem_of_getElem? e)
    simp; omega
theorem tape_at {ms : List Nat} (hms : ∀ m ∈ ms, m < 262144) {i n : Nat} (hi : ms[i]? = some n) : Holds (byteArr (nInts (tapeN ms))) (tapeN (ms.take i)).length (dg n) := by
  intro j x hx
  have hlt : ∀ x ∈ tapeN ms, x < 128 := by
    intro x hx
    obtain ⟨y, hy, hxy⟩ := List.mem_flatMap.mp hx
    exact dg_lt (hms y hy) x hxy
  refine byteArr_get hlt _ _ ?_
  have hil : i < ms.length := by
    rcases Nat.lt_or_ge i ms.length with h | h
    · exact h
    · rw [List.getElem?_eq_none h] at hi; cases hi
  have e : ms = ms.take i ++ n :: ms.drop (i + 1) := by
    have : ms[i] = n := by rw [List.getElem?_eq_getElem hil] at hi; exact Option.some.inj hi
    rw [← this, ← List.drop_eq_getElem_cons hil, List.take_append_drop]
  have e2 : tapeN ms = tapeN (ms.take i) ++ (dg n ++ tapeN (ms.drop (i + 1))) := by
    conv => lhs; rw [e]
    simp [tapeN]
  rw [e2, List.getElem?_append_right (Nat.le_add_right _ _), Nat.add_sub_cancel_left, List.getElem?_append_left, hx]
  rcases Nat.lt_or_ge j (dg n).length with h | h
  · exact h
  · rw [List.getElem?_eq_none h] at hx; cases hx
theorem seg2 {I D2 : Addr} {oI q10 : Obj} {ys : List Value} {t : Tok} {ms : List Nat} {m2 : Str → Option Value} {o1 o2 o3 o4 o5 o6 o7 o8 o9 : Obj}
    (X : Frag.In (hd.heap_39 w.params) h₀) (T : Top p loose mean mg mb h₀) (h107 : @LT.lt Nat _ 107 L)
    (F : Fr h₀ L h₁ m2) (hm : m2 (Str.ofString "numbers") = some (.ref D2))
    (N : News h₀ L h₁ [(I, oI), (D2, lst ys), (L + 10, o1), (L + 9, o2), (L + 8, o3), (L + 7, o4), (L + 6, o5), (L + 5, o6), (L + 4, o7), (L + 3, o8), (L + 2, o9), (L + 1, q10), (107, tabObj #[])])
    (offI : Off1 I [(D2, lst ys), (L + 10, o1), (L + 9, o2), (L + 8, o3), (L + 7, o4), (L + 6, o5), (L + 5, o6), (L + 4, o7), (L + 3, o8), (L + 2, o9), (L + 1, q10), (107, tabObj #[])])
    (offD : Off1 D2 [(L + 10, o1), (L + 9, o2), (L + 8, o3), (L + 7, o4), (L + 6, o5), (L + 5, o6), (L + 4, o7), (L + 3, o8), (L + 2, o9), (L + 1, q10), (107, tabObj #[])])
    (d10 : q10.data = .cell (some (.ref I))) (bi : BI oI (byteArr (nInts (tapeN ms))) t 0) (hI : IntsAre ys (nInts ms)) (hl : ms.length = 5) (hms : ∀ m ∈ ms, m < 262144)
    (rest : ∀ R oI zs h2 tk2 m2, Fr h₀ L h2 m2 → m2 (Str.ofString "numbers") = some (.ref D2) → m2 (Str.ofString "read") = some (.ref R) →
       News h₀ L h2 [(R, lst zs), (I, oI), (D2, lst ys), (L + 10, o1), (L + 9, o2), (L + 8, o3), (L + 7, o4), (L + 6, o5), (L + 5, o6), (L + 4, o7), (L + 3, o8), (L + 2, o9), (L + 1, q10), (107, tabObj #[])] →
       Off1 R [(I, oI), (D2, lst ys), (L + 10, o1), (L + 9, o2), (L + 8, o3), (L + 7, o4), (L + 6, o5), (L + 5, o6), (L + 4, o7), (L + 3, o8), (L + 2, o9), (L + 1, q10), (107, tabObj #[])] →
       BI oI (byteArr (nInts (tapeN ms))) t (tapeN ms).length → IntsAre zs (nInts ms) →
       wpAny (model prog w) (lawA L fa) (execs (lawRest 3) (lawEnv L fa)) Q (fun _ _ => False) { s with heap := h2, toks := tk2 }) :
    wpAny (model prog w) (lawA L fa) (execs ((lawBody.drop 2).take 1 ++ lawRest 3) (lawEnv L fa)) Q (fun _ _ => False) { s with heap := h₁, toks := tk } := by
  obtain ⟨iff0, iff1, iff2, iff3, iff4, iff5, iff6, iff7, iff8, iff9, iff10, iff11, -⟩ := offI
  obtain ⟨off0, off1, off2, off3, off4, off5, off6, off7, off8, off9, off10, -⟩ := offD
  replace F := frKnow F hm
  k_steps
  refine Stop.mk (Assign_ListComp_U F rfl rfl rfl (by decide) rfl (by decide) rfl rfl rfl ?_)
  k_steps
  rename Fr _ _ _ _ => F1
  rename News _ _ _ _ => N1
  rename IsRange _ _ _ _ _ _ _ _ => R1
  refine Stop.mk (CompSrc.range (n := 5) rfl F1 N1 R1 rfl rfl (by decide) fun g => ?_)
  have hI1 := N1 _ (.head _)
  refine compM (n := 5) (fun i zs o => IntsAre zs (nInts (ms.take i)) ∧ BI o (byteArr (nInts (tapeN ms))) t (tapeN (ms.take i)).length) (Ne.symm hI1.2.1) hI1.2.2 ?_ ?_ ?_ 5 0 [] _ rfl ⟨.nil, bi⟩
  · intro q hq
    simp only [List.mem_cons, List.not_mem_nil, or_false] at hq
    rcases hq with rfl | rfl | rfl | rfl | rfl | rfl | rfl | rfl | rfl | rfl | rfl | rfl <;> assumption
  · clear F1 N1 R1
    intro i zs v J oJ C oC D m₂ h tk oI' hi hR hP hN hx F1 N1
    k_steps
    have hil : i < ms.length := by omega
    have hn := List.getElem?_eq_getElem hil
    have et : ms.take (i + 1) = ms.take i ++ [ms[i]] := by rw [List.take_add_one, hn]; rfl
    have hIm := N1 _ (.tail _ (.tail _ (.tail _ (.head _))))
    refine Stop.mk (pv X T (Nat.le_of_ble_eq_true rfl) rfl I oI' _ t _ ms[i] F1.keep hIm.2.2 hIm.1 hR.2 (hms _ (List.getElem_mem hil)) (tape_at hms hn) fun t' o' h' tk' kp hI' b' => ?_)
    refine ⟨h', tk', o', rfl, kp, hI', ?_, ?_⟩
    · refine intsCast (intsApp hR.1 (.cons _ t' .nil)) ?_
      rw [et, nInts_app]; rfl
    · have e : (tapeN (ms.take (i + 1))).length = (tapeN (ms.take i)).length + (dg ms[i]).length := by
        rw [et, tapeN, List.flatMap_append, List.length_append]
        simp [tapeN]
      rw [e]; exact b'
  · intro zs o hR
    clear F1 N1 R1
    k_steps
    rename Fr _ _ _ (fun z => if z = Str.ofString "read" then _ else _) => F1
    rename News _ _ _ ((_, lst zs) :: _) => N1
    rename_i ox
    rw [List.take_of_length_le (by omega)] at hR
    exact rest _ _ _ _ _ _ F1 rfl rfl N1 ⟨ox.1, ox.2.1, ox.2.2.1, ox.2.2.2.1, ox.2.2.2.2.1, ox.2.2.2.2.2.1, ox.2.2.2.2.2.2.1, ox.2.2.2.2.2.2.2.1, ox.2.2.2.2.2.2.2.2.1, ox.2.2.2.2.2.2.2.2.2.1, ox.2.2.2.2.2.2.2.2.2.2.1, ox.2.2.2.2.2.2.2.2.2.2.2.1, ox.2.2.2.2.2.2.2.2.2.2.2.2, trivial⟩ hR.2 hR.1
end
end Mine

-- part Law3
open PySem PySem.W PyProof.Rows PySem.Calls PySem.Spec PyProof.Rows.LCg PyProof.Rows.LCt
set_option Elab.async false
set_option maxRecDepth 100000
set_option maxHeartbeats 8000000
namespace Mine
section
variable {prog : Program} {w : World} {A : Around} {s : Shared} {Q : Value → Shared → Prop} {E : Value → Shared → Prop} {K : Frag}
variable {p : Program} {loose : List Str} {mean : ExcName → Option Value} {mg mb : Str → Option Value}
local macro_rules | `(tactic| walk_at "call builtin:next") => `(tactic| refine Stop.out ?_)
local macro_rules | `(tactic| walk_at "call ref") => `(tactic| refine Stop.out ?_)

/-- an exception just made -/
def Fresh (h h' : Heap) (e : Addr) : Prop := ∃ oe vs t, h'.get? e = some oe ∧ h.get? e = none ∧ oe.cls = .type "StopIteration" ∧ oe.data = .fields vs ∧ vs[1]? = some .none ∧ vs[0]? = some (.ref t)

theorem next_stop {it : Addr} {b : Array UInt8} {t : Tok} {i : Nat} (hh : A.handled = none) (hit : KBw.IsBytesIter s.heap it b t i) (hx : b[i]? = none)
    (hE : ∀ e h', (∀ b o, b ≠ it → s.heap.get? b = some o → h'.get? b = some o) → Fresh s.heap h' e → E (.ref e) { s with heap := h' }) : wpAny (model prog w) A (call (.builtin "next") [.ref it]) Q E s := by
  obtain ⟨o, ho, hc, hd⟩ := id hit
  refine next_head (KBw.iter_typeIs hit) KBw.slot_next.lookup ?_
  refine wpAny_callSpecial?_slot (name := PySem.Str.ofString "__next__") (KBw.iter_typeIs hit) KBw.slot_next
    (wpAny_call_entry KBw.slot_next (KBw.iter_typeIs hit) KBw.entry_next ?_ (KBw.args_next _))
  show wpAny _ _ (field (.ref it) 0 >>= _) _ _ s
  refine wpAny_bind (wpAny_field ho hd (x := .bytes b t) rfl ?_)
  show wpAny _ _ (if (Value.bytes b t == Value.none) = true then _ else _) _ _ s
  rw [if_neg (show ¬ ((Value.bytes b t == Value.none) = true) from Bool.false_ne_true)]
  show wpAny _ _ (field (.ref it) 1 >>= _) _ _ s
  refine wpAny_bind (wpAny_field ho hd (x := .int i 0) rfl ?_)
  refine wpAny_bind (wpAny_of_eq (a := b) rfl ?_)
  simp only [Int.toNat_natCast, hx]
  refine wpAny_bind (wpAny_rule (wpAny_bind (wpAny_setField ho hd (by simp) ?_)))
  show wpAny _ _ (newExc (.type "StopIteration") [] >>= _) _ _ _
  refine wpAny_bind ?_
  simp only [newExc, newTuple]
  refine wpAny_bind (wpAny_newObj_type ?_ (by size_fits))
  refine wpAny_bind (m := firstArgMember _ _) (wpAny_of_eq (a := Value.none) (by first | rfl | (simp only [firstArgMember]; rfl)) ?_)
  refine wpAny_newObj_type ?_ (by size_fits)
  simp only [raiseNew]
  refine wpAny_bind (wpAny_handled ?_)
  rw [show A.in1.handled = none from hh]
  refine wpAny_bind (wpAny_pure (wpAny_throw ?_))
  refine hE _ _ (fun b o hb e => ?_) ⟨_, _, _, Heap.get?_push_size _ rfl, ?_, rfl, rfl, ?_, rfl⟩
  · exact Heap.get?_push_of_some _ (Heap.get?_push_of_some _ ((Heap.get?_update_other _ _ (Ne.symm hb)).trans e))
  · cases q : s.heap.get? _ with
    | none => rfl
    | some o' => 
      have h1 := Heap.lt_size q
      simp only [Heap.size_push] at h1
      have h2 : (s.heap.update it (Obj.mapFields (·.setIfInBounds 0 Value.none))).objs.size = s.heap.objs.size := by first | exact Heap.size_update .. | simp [Heap.update]
      rw [h2] at h1
      exact absurd h1 (Nat.not_lt.mpr (Nat.le_succ _))
  · first | rfl | (simp; done)

theorem enterR {h₀ : Heap} {I : Addr} {oI : Obj} {name qual : Str} {params : Arguments} {body : List Stmt} {scope : Scope} {dV kV doc pm cdv ct oc : Value} {an od : Option Addr} {osl : Array (Option Value)} {f : Addr} {pos : List Value} {kw : List (Str × Value)} {binds : List (Str × Value)}
    (X : K.In h₀) (T : Top p loose mean mg mb h₀) (k₀ : Kp h₀ s.heap) (hI₀ : h₀.get? I = none) (hI : s.heap.get? I = some oI)
    (ho : K.lookup f = some ⟨oc, od, .func (fnOf name qual params body scope dV kV doc pm an cdv ct), osl⟩) (hcd : codeIn K cdv qual = true) (hroom : A.depth < recursionLimit)
    (hbind : BindsTo s (fnOf name qual params body scope dV kV doc pm an cdv ct) ⟨pos, kw⟩ binds) (hloc : ∀ y ∈ binds, scope.names.lookup y.1 = some .local)
    (h : ∀ g L h₁ tk, K.In g → Top p loose mean mg mb g → (∀ b o, b ≠ I → s.heap.get? b = some o → g.get? b = some o) → @LT.lt Nat _ I L → L = s.heap.objs.size → Kp s.heap h₁ → Fr g L h₁ (fun y => binds.reverse.lookup y) → News g L h₁ [(I, oI)] →
      wpAny (model prog w) (A.deeper (envOf qual scope L f cdv)) (execs body (envOf qual scope L f cdv))
        (fun fl s' => Q (match fl with | .ret v => v | _ => .none) s') (fun e s' => wpAny (model prog w) (A.deeper (envOf qual scope L f cdv)) (leaving (envOf qual scope L f cdv) e) (fun _ s'' => E e s'') (fun e' s'' => E e' s'') s') { s with heap := h₁, toks := tk })
    (hco : scope.isCoroutine = false) (hgen : scope.isGenerator = false) (hk : scope.kind = .function)
    (hcell : ∀ x ∈ scope.names, x.2 ≠ .cell) : wpAny (model prog w) A (call (.ref f) pos kw) Q E s := by
  have st : ∀ b o, h₀.get? b = some o → (s.heap.hide I).get? b = some o := fun b o e => (Heap.hide_ne s.heap fun q => by rw [q, hI₀] at e; cases e).trans (k₀ b o e)
  exact wpAny_call (codeAny_call_def (fd := fnOf name qual params body scope dV kV doc pm an cdv ct) (body := body) (binds := binds) hroom ((X.keeps k₀) _ _ ho) rfl (T.nolimit.keeps k₀) (codeRec_of (X.keeps k₀) hcd) rfl hbind hcell hloc
    (fun h₁ hns hk₁ => wpAny_mono (h (s.heap.hide I) s.heap.objs.size h₁ _ (X.keeps st) (T.keeps st) (fun b o hb e => (Heap.hide_ne s.heap hb).trans e) (Heap.lt_size hI) rfl hk₁ ⟨hns, fun b o e => hk₁ b o (Heap.of_hide e), Nat.le_of_eq (Heap.hide_size _ _)⟩
      (fun q hq => by
        rw [List.mem_singleton.mp hq]
        exact ⟨hk₁ _ _ hI, Nat.ne_of_lt (Heap.lt_size hI), Heap.hide_self _ _⟩)) (fun _ _ x => x) fun _ _ x => x) hco hgen hk)

/-- the reader is at its end: the call raises -/
theorem pvEnd {h₀ : Heap} {L I : Addr} {oI : Obj} {m : Str → Option Value} {env : Env} {outer : List Env} {b : Array UInt8} {t : Tok} {i : Nat}
    (X : Frag.In (hd.heap_39 w.params) h₀) (T : Top p loose mean mg mb h₀) (hA : A.depth + 2 < recursionLimit) (hh : A.handled = none)
    (hfr : A.frames = some (env :: outer)) (base : Heap) (hbase : base.StaysIn s.heap) (hl : s.heap.FunFrames base (env :: outer)) (hIb : base.get? I = none)
    (F : Fr h₀ L s.heap m) (hI₀ : h₀.get? I = none) (hI : s.heap.get? I = some oI) (hb : BI oI b t i) (hx : b[i]? = none)
    (hE : ∀ e a0 h' tk', Heap.FlyingW base (env :: outer) e (.type "StopIteration") a0 h' → s.heap.UpToSlots h' → E (.ref e) { s with heap := h', toks := tk' }) :
    wpAny (model prog w) A (call (.ref 65) [.ref I]) Q E s := by
  obtain ⟨ah, dp, fr, gd, un⟩ := A
  dsimp only at hh hA hfr
  subst hh hfr
  refine' enterR X T F.keep hI₀ hI ?k6 ?k7 ?k8 ?k9 ?kB ?_ ?c2 ?c3 ?c4 ?c5
  (case k6 => k_is); (case k7 => k_is); (case k8 => (dsimp only; omega)); (case k9 => exact BindsTo.of_eq rfl); (case c5 => decide); (case kB => exact locs rfl); (case c2 => exact rfl); (case c3 => exact rfl); (case c4 => exact rfl)
  intro g L' h₁ tk X' T' kg hlt hL' kp F' N'
  rename Fr h₀ _ _ _ => F0
  rename Frag.In _ h₀ => X0
  have X0' := X0; have T0' := T
  have F0' := F0
  clear X0 F0 T
  k_steps
  refine Stop.mk (next_stop rfl (hb.at (N' _ (.head _)).1) hx fun e h' kp2 hf => ?_)
  obtain ⟨oe, vs, t0, he, hen, hc, hdat, h1, h0⟩ := hf
  dsimp only at kp2 hen he
  have sL : s.heap.get? L' = none := by
    cases q : s.heap.get? L' with
    | none => rfl
    | some o => exact absurd (Heap.lt_size q) (by rw [hL']; exact Nat.lt_irrefl _)
  have sE : s.heap.get? e = none := by
    cases q : s.heap.get? e with
    | none => rfl
    | some o => have := kp _ _ q; rw [hen] at this; cases this
  have nonf : ∀ b o, s.heap.get? b = some o → (∀ vs, o.data ≠ .fields vs) → h'.get? b = some o := fun b o e hn => kp2 b o (fun q => by
    rw [q, hI] at e; cases e; exact hn _ hb.2) (kp b o e)
  have st' : base.StaysIn h' := fun b o e => kp2 b o (fun q => by rw [q, hIb] at e; cases e) (kp b o (hbase b o e))
  obtain ⟨oL, esL, epL, hoL, hdL, _⟩ := F'.ns
  refine wpAny_leaving_firstW (base := base) (outer := env :: outer) (L := L') rfl ⟨(by intro q; cases q), ⟨L', oL, rfl, fresh_of_stays hbase sL, kp2 _ _ (Nat.ne_of_gt hlt) hoL, fun vs q => by rw [hdL] at q; cases q⟩, hl.of_keeps fun b o e hn => ⟨o, nonf b o e hn, rfl⟩⟩ rfl he st' (fresh_of_stays hbase sE) hdat h1 h0 fun h'' hL => ?_
  obtain ⟨l1, ⟨_, _, l2⟩, l3, l4⟩ := hL
  rw [hc] at l3
  refine hE e _ h'' _ ⟨l1, fresh_of_stays hbase sE, l2, l3⟩ fun b o e hn => l4 b o (nonf b o e hn) hn
end
end Mine

-- part Law3b
open PySem PySem.W PyProof.Rows PySem.Calls PySem.Spec PyProof.Rows.LCg PyProof.Rows.LCt
set_option Elab.async false
set_option maxRecDepth 100000
set_option maxHeartbeats 8000000
namespace Mine
section
local macro_rules | `(tactic| walk_at "pad0") => `(tactic| skip)
variable {prog : Program} {w : World} {s : Shared} {Q : Flow → Shared → Prop}
variable {p : Program} {loose : List Str} {mean : ExcName → Option Value} {mg mb : Str → Option Value} {h₀ h₁ : Heap} {L fa : Addr} {tk : Nat}
local macro_rules | `(tactic| walk_at "call ref") => `(tactic| refine Stop.out ?_)
local macro_rules | `(tactic| walk_at "exec Try") => `(tactic| refine Stop.out ?_)
def tryBody : List Stmt := match (lawBody.drop 3).headD (.Pass default) with | .Try b _ _ _ _ => b | _ => []
theorem seg3a {E : Value → Shared → Prop} {I : Addr} {oI q10 : Obj} {t : Tok} {b : Array UInt8} {i : Nat} {m : Str → Option Value} {base : Heap}
    (X : Frag.In (hd.heap_39 w.params) h₀) (T : Top p loose mean mg mb h₀)
    (F : Fr h₀ L h₁ m) (N : News h₀ L h₁ [(I, oI), (L + 1, q10)])
    (d10 : q10.data = .cell (some (.ref I))) (bi : BI oI b t i) (hx : b[i]? = none) (hbase : base.StaysIn h₁) (hIb : base.get? I = none) (hLb : base.get? L = none)
    (hE : ∀ e a0 h' tk', Heap.FlyingW base [lawEnv L fa] e (.type "StopIteration") a0 h' → h₁.UpToSlots h' → E (.ref e) { s with heap := h', toks := tk' }) :
    wpAny (model prog w) (lawA L fa) (execs tryBody (lawEnv L fa)) Q E { s with heap := h₁, toks := tk } := by
  k_steps
  obtain ⟨oL, esL, epL, hoL, hdL, _⟩ := F.ns
  have hI := N _ (.head _)
  refine Stop.mk (pvEnd (env := lawEnv L fa) (outer := []) X T (Nat.le_of_ble_eq_true rfl) rfl rfl base hbase ⟨(by intro q; cases q), ⟨L, oL, rfl, hLb, hoL, fun vs q => by rw [hdL] at q; cases q⟩, trivial⟩ hIb F hI.2.2 hI.1 bi hx fun e a0 h' tk' fl sl => hE e a0 h' tk' fl sl)
theorem boot_stop : bootBuiltins (Str.ofString "StopIteration") = some (.type "StopIteration") := by decide +kernel
theorem evStop {Q : Value → Shared → Prop} {E : Value → Shared → Prop} {m : Str → Option Value} {pos : Pos} {e : Addr} (X : Frag.In (hd.heap_39 w.params) h₀) (T : Top p loose mean mg mb h₀) (F : Fr h₀ L h₁ m) (hQ : Q (.type "StopIteration") { s with heap := h₁, toks := tk }) :
    wpAny (model prog w) ((lawA L fa).mark (some (.ref e))) (eval (.Name (Str.ofString "StopIteration") pos) (lawEnv L fa)) Q E { s with heap := h₁, toks := tk } := by
  refine' nameX_B ?F ?X ?T ?e ?v ?n ?_ ?a ?b
  (case F => k_asm); (case X => k_asm); (case T => k_asm); (case a => rfl); (case b => rfl); (case e => k_is); (case v => exact boot_stop); (case n => decide)
  exact hQ
theorem seg3 {I : Addr} {oI q10 : Obj} {t : Tok} {b : Array UInt8} {i : Nat} {m : Str → Option Value} {news : List (Addr × Obj)}
    (X : Frag.In (hd.heap_39 w.params) h₀) (T : Top p loose mean mg mb h₀)
    (F : Fr h₀ L h₁ m) (N : News h₀ L h₁ [(I, oI), (L + 1, q10)]) (NN : News h₀ L h₁ news) (hne : ∀ q ∈ news, q.1 ≠ I)
    (d10 : q10.data = .cell (some (.ref I))) (bi : BI oI b t i) (hx : b[i]? = none)
    (rest : ∀ h2 tk2, Fr h₀ L h2 m → News h₀ L h2 news → 
       wpAny (model prog w) (lawA L fa) (execs (lawRest 4) (lawEnv L fa)) Q (fun _ _ => False) { s with heap := h2, toks := tk2 }) :
    wpAny (model prog w) (lawA L fa) (execs ((lawBody.drop 3).take 1 ++ lawRest 4) (lawEnv L fa)) Q (fun _ _ => False) { s with heap := h₁, toks := tk } := by
  k_steps
  refine Stop.mk ?_
  refine wpAny_Try_except ?_
  have hI := N _ (.head _)
  have inb : ∀ b o, h₁.get? b = some o → b ≠ L → b ≠ I → (hideAll h₁ [L, I]).get? b = some o := fun b o e q1 q2 => hideAll_get _ e (by simp [q1, q2])
  have h0b : h₀.StaysIn (hideAll h₁ [L, I]) := fun b o e => inb b o (F.keep b o e) (fun q => by
    have := F.above; rw [q] at e; exact absurd (Heap.lt_size e) (Nat.not_lt.mpr this)) (fun q => by rw [q, hI.2.2] at e; cases e)
  have hNb : ∀ q ∈ news, (hideAll h₁ [L, I]).get? q.1 = some q.2 := fun q hq => inb _ _ (NN q hq).1 (NN q hq).2.1 (hne q hq)
  refine seg3a (base := hideAll h₁ [L, I]) X T F N d10 bi hx (fun b o e => of_hideAll _ e) (hideAll_none _ (by simp)) (hideAll_none _ (by simp)) fun e a0 h' tk' fl sl => ?_
  refine wpAny_looks_onW (env := lawEnv L fa) (outer := []) (L := L) rfl rfl fl fun h4 held4 sm4 => ?_
  refine wpAny_landsW held4 fun h5 held sm5 => ?_
  obtain ⟨ob, hob, hobc⟩ := held.there
  have sm := (sl.trans sm4).trans sm5
  have F5 := F.of_stays (fun b o q => held.1 b o (h0b b o q)) sm
  refine wpAny_handleBy_builtin (X := "StopIteration") (T := "StopIteration") (b := true) (by rw [isSubtype_type]; kernel_rfl) (by rw [isSubtype_type]; kernel_rfl) isSubtype_stop ?_
  refine evStop X T F5 ⟨rfl, ⟨ob, hob, hobc⟩, ?_⟩
  rw [if_pos rfl]
  refine lands_againW held fun h6 held6 sm6 => ?_
  have F6 := F.of_stays (fun b o q => held6.1 b o (h0b b o q)) (sm.trans sm6)
  have N6 : News h₀ L h6 news := fun q hq => ⟨held6.1 _ _ (hNb q hq), (NN q hq).2⟩
  have k := rest h6 tk' F6 N6
  clear rest N NN
  k_steps
  exact k
end
end Mine

-- part Law4
open PySem PySem.W PyProof.Rows PySem.Calls PySem.Spec PyProof.Rows.LCg PyProof.Rows.LCt
set_option Elab.async false
set_option maxRecDepth 100000
set_option maxHeartbeats 8000000
namespace Mine
section
variable {prog : Program} {w : World} {s : Shared} {Q : Flow → Shared → Prop}
variable {p : Program} {loose : List Str} {mean : ExcName → Option Value} {mg mb : Str → Option Value} {h₀ h₁ : Heap} {L fa : Addr} {tk : Nat}
local macro_rules | `(tactic| walk_at "call ref") => `(tactic| refine Stop.out ?_)
local macro_rules | `(tactic| walk_at "eval ListComp") => `(tactic| refine Stop.out ?_)
theorem keep_drop2 {α : Type} {q a b : α} {c : α} {l : List α} (h : q ∈ a :: b :: l) : q ∈ a :: b :: c :: l := by
  simp only [List.mem_cons] at h ⊢; rcases h with h | h | h <;> simp [h]
theorem keep_drop3 {α : Type} {q a b : α} {c : α} {l : List α} (h : q ∈ a :: b :: l) : q ∈ a :: b :: c :: l := by
  simp only [List.mem_cons] at h ⊢; rcases h with h | h | h <;> simp [h]
theorem frBack2 {h₀ h : Heap} {L : Addr} {m : Str → Option Value} {x y : Str} {v u : Value} (F : Fr h₀ L h (fun z => if z = x then some v else if z = y then some u else m z)) (e : m x = some v) (e2 : m y = some u) : Fr h₀ L h m := by
  have q : m = fun z => if z = x then some v else if z = y then some u else m z := by
    funext z; (repeat' split) <;> simp_all
  exact q.symm ▸ F
theorem mapMod (ms : List Nat) : (nInts ms).map (fun k' => k'.fmod 16) = nInts (ms.map (· % 16)) := by
  simp only [nInts, List.map_map]; refine List.map_congr_left fun k _ => ?_
  simp only [Function.comp]
  rw [Int.fmod_eq_emod_of_nonneg _ (by omega)]; omega
theorem mapDiv (ms : List Nat) : (nInts ms).map (fun k' => k'.fdiv 16) = nInts (ms.map (· / 16)) := by
  simp only [nInts, List.map_map]; refine List.map_congr_left fun k _ => ?_
  simp only [Function.comp]
  rw [Int.fdiv_eq_ediv_of_nonneg _ (by omega)]; omega
theorem seg4 {R D2 : Addr} {zs ys : List Value} {ms : List Nat} {m2 : Str → Option Value} {o1 o2 o3 o4 o5 o6 o7 o8 o9 o10 : Obj}
    (X : Frag.In (hd.heap_39 w.params) h₀) (T : Top p loose mean mg mb h₀) (h107 : @LT.lt Nat _ 107 L)
    (F : Fr h₀ L h₁ m2) (hm : m2 (Str.ofString "numbers") = some (.ref D2)) (hm2 : m2 (Str.ofString "read") = some (.ref R))
    (N : News h₀ L h₁ [(R, lst zs), (D2, lst ys), (L + 10, o1), (L + 9, o2), (L + 8, o3), (L + 7, o4), (L + 6, o5), (L + 5, o6), (L + 4, o7), (L + 3, o8), (L + 2, o9), (L + 1, o10), (107, tabObj #[])])
    (offR : Off1 R [(L + 10, o1), (L + 9, o2), (L + 8, o3), (L + 7, o4), (L + 6, o5), (L + 5, o6), (L + 4, o7), (L + 3, o8), (L + 2, o9), (L + 1, o10), (107, tabObj #[])])
    (offD : Off1 D2 [(L + 10, o1), (L + 9, o2), (L + 8, o3), (L + 7, o4), (L + 6, o5), (L + 5, o6), (L + 4, o7), (L + 3, o8), (L + 2, o9), (L + 1, o10), (107, tabObj #[])])
    (hz : IntsAre zs (nInts ms)) (hy : IntsAre ys (nInts ms)) (hl : ms.length = 5) (hms : ∀ m ∈ ms, m < 262144)
    (d1 : o1.data = .cell none) (d8 : o8.data = .cell none)
    (rest : ∀ RW PR rv pv q1 q8 h2 tk2, Fr h₀ L h2 m2 →
       News h₀ L h2 [(PR, lst pv), (RW, lst rv), (L + 10, q1), (L + 9, o2), (L + 8, o3), (L + 7, o4), (L + 6, o5), (L + 5, o6), (L + 4, o7), (L + 3, q8), (L + 2, o9), (L + 1, o10), (107, tabObj #[])] →
       Off1 PR [(RW, lst rv), (L + 10, q1), (L + 9, o2), (L + 8, o3), (L + 7, o4), (L + 6, o5), (L + 5, o6), (L + 4, o7), (L + 3, q8), (L + 2, o9), (L + 1, o10), (107, tabObj #[])] →
       Off1 RW [(L + 10, q1), (L + 9, o2), (L + 8, o3), (L + 7, o4), (L + 6, o5), (L + 5, o6), (L + 4, o7), (L + 3, q8), (L + 2, o9), (L + 1, o10), (107, tabObj #[])] →
       q1.data = .cell (some (.ref PR)) → q8.data = .cell (some (.ref RW)) → IntsAre rv (nInts (ms.map (· % 16))) → IntsAre pv (nInts (ms.map (· / 16))) →
       wpAny (model prog w) (lawA L fa) (execs (lawRest 7) (lawEnv L fa)) Q (fun _ _ => False) { s with heap := h2, toks := tk2 }) :
    wpAny (model prog w) (lawA L fa) (execs ((lawBody.drop 4).take 3 ++ lawRest 7) (lawEnv L fa)) Q (fun _ _ => False) { s with heap := h₁, toks := tk } := by
  obtain ⟨iff0, iff1, iff2, iff3, iff4, iff5, iff6, iff7, iff8, iff9, iff10, -⟩ := offR
  obtain ⟨off0, off1, off2, off3, off4, off5, off6, off7, off8, off9, off10, -⟩ := offD
  replace F := frKnow2 F hm hm2
  have hnl : (nInts ms).length = 5 := by simpa [nInts] using hl
  k_steps
  refine Stop.mk (ListComp_U F rfl (by decide) rfl (by decide) rfl ?_)
  k_steps
  rename Fr _ _ _ _ => F1
  rename News _ _ _ _ => N1
  rename IntsAre _ (List.map _ _) => hI1
  have N2 := fun q hq => N1 q (keep_drop2 hq)
  rename_i ofa _ _ _
  obtain ⟨a0, a1, a2, a3, a4, a5, a6, a7, a8, a9, a10, a11, a12⟩ := ofa
  refine Stop.mk (ListComp_U F1 rfl (by decide) rfl (by decide) rfl ?_)
  clear N1
  k_steps
  rename Fr _ _ _ _ => F2
  rename News _ _ _ _ => N3
  rename IntsAre _ (List.map _ _) => hI2
  rename_i ofb _ _ _
  obtain ⟨b0, b1, b2, b3, b4, b5, b6, b7, b8, b9, b10, b11, b12⟩ := ofb
  refine rest _ _ _ _ _ _ _ _ (frBack2 F2 hm hm2) (fun q hq => N3 q (keep_drop3 hq)) ⟨b0, b2, b3, b4, b5, b6, b7, b8, b9, b10, b11, b12, trivial⟩ ⟨a2, a3, a4, a5, a6, a7, a8, a9, a10, a11, a12, trivial⟩ (by assumption) (by assumption) (intsCast hI1 (mapMod ms)) (intsCast hI2 (mapDiv ms))
end
end Mine

-- part Law7
open PySem PySem.W PyProof.Rows PySem.Calls PySem.Spec PyProof.Rows.LCg PyProof.Rows.LCt
set_option Elab.async false
set_option maxRecDepth 100000
set_option maxHeartbeats 8000000
namespace Mine
section
variable {prog : Program} {w : World} {s : Shared} {Q : Flow → Shared → Prop}
variable {p : Program} {loose : List Str} {mean : ExcName → Option Value} {mg mb : Str → Option Value} {h₀ h₁ : Heap} {L fa : Addr} {tk : Nat}
theorem keep_drop {α : Type} {q a b : α} {l : List α} (h : q ∈ a :: l) : q ∈ a :: b :: l := by
  rcases List.mem_cons.mp h with rfl | h
  · exact .head _
  · exact .tail _ (.tail _ h)
def sstep (l : List Nat) (r : Nat) : List Nat := l ++ l.map (r ^^^ ·)
def sumsN (rs : List Nat) : List Nat := rs.foldl sstep [0]
theorem sstep_lt {l : List Nat} {r : Nat} (hr : r < 16) (h : ∀ x ∈ l, x < 16) : ∀ x ∈ sstep l r, x < 16 := by
  intro x hx
  rcases List.mem_append.mp hx with h1 | h1
  · exact h x h1
  · obtain ⟨y, hy, rfl⟩ := List.mem_map.mp h1
    exact (xor_nat ⟨r, hr⟩ ⟨y, h y hy⟩).2
theorem sumsF_lt : ∀ {rs l : List Nat}, (∀ r ∈ rs, r < 16) → (∀ x ∈ l, x < 16) → ∀ x ∈ rs.foldl sstep l, x < 16
  | [], _, _, h => h
  | a :: rs, l, h, h' => sumsF_lt (rs := rs) (l := sstep l a) (fun r hr => h r (List.mem_cons_of_mem _ hr)) (sstep_lt (h _ List.mem_cons_self) h')
theorem sumsN_lt {rs : List Nat} (h : ∀ r ∈ rs, r < 16) : ∀ x ∈ sumsN rs, x < 16 := sumsF_lt h (by simp)
theorem sumsF_len : ∀ (rs l : List Nat), (rs.foldl sstep l).length = 2 ^ rs.length * l.length
  | [], l => by simp
  | a :: rs, l => by
    rw [List.foldl_cons, sumsF_len rs, sstep, List.length_append, List.length_map, List.length_cons, Nat.pow_succ]
    rw [Nat.mul_assoc, Nat.two_mul]
theorem sumsN_len (rs : List Nat) : (sumsN rs).length = 2 ^ rs.length := by rw [sumsN, sumsF_len]; simp
local macro_rules | `(tactic| walk_at "call ref") => `(tactic| refine Stop.out ?_)
local macro_rules | `(tactic| walk_at "exec For Name Name cons nil") => `(tactic| refine Stop.out ?_)
local macro_rules | `(tactic| walk_at "exec For") => `(tactic| refine Stop.out ?_)
local macro_rules | `(tactic| walk_at "eval ListComp") => `(tactic| refine Stop.out ?_)
local macro_rules | `(tactic| walk_at "CompSrc") => `(tactic| refine Stop.out ?_)
local macro_rules | `(tactic| walk_at "binaryOp Add ref ref") => `(tactic| refine Stop.out ?_)
theorem seg7 {RW PR : Addr} {rv pv : List Value} {rs ps : List Nat} {m2 : Str → Option Value} {o1 o2 o3 o4 o5 o6 o7 o8 o9 o10 : Obj}
    (X : Frag.In (hd.heap_39 w.params) h₀) (T : Top p loose mean mg mb h₀) (h107 : @LT.lt Nat _ 107 L)
    (F : Fr h₀ L h₁ m2)
    (N : News h₀ L h₁ [(PR, lst pv), (RW, lst rv), (L + 10, o1), (L + 9, o2), (L + 8, o3), (L + 7, o4), (L + 6, o5), (L + 5, o6), (L + 4, o7), (L + 3, o8), (L + 2, o9), (L + 1, o10), (107, tabObj #[])])
    (offP : Off1 PR [(RW, lst rv), (L + 10, o1), (L + 9, o2), (L + 8, o3), (L + 7, o4), (L + 6, o5), (L + 5, o6), (L + 4, o7), (L + 3, o8), (L + 2, o9), (L + 1, o10), (107, tabObj #[])])
    (offR : Off1 RW [(L + 10, o1), (L + 9, o2), (L + 8, o3), (L + 7, o4), (L + 6, o5), (L + 5, o6), (L + 4, o7), (L + 3, o8), (L + 2, o9), (L + 1, o10), (107, tabObj #[])])
    (hr : IntsAre rv (nInts rs)) (hl : rs.length = 5) (hrb : ∀ r ∈ rs, r < 16)
    (d6 : o6.data = .cell none) (d7 : o7.data = .cell none) (d8 : o8.data = .cell (some (.ref RW)))
    (rest : ∀ SM ws n q6 q7 v6 h2 tk2, Fr h₀ L h2 m2 → News h₀ L h2 [(SM, W.listOf (List.toArray ws) n), (PR, lst pv), (RW, lst rv), (L + 10, o1), (L + 9, o2), (L + 8, o3), (L + 7, o4), (L + 6, o5), (L + 5, q6), (L + 4, q7), (L + 3, o8), (L + 2, o9), (L + 1, o10), (107, tabObj #[])] →
      Off1 SM [(PR, lst pv), (RW, lst rv), (L + 10, o1), (L + 9, o2), (L + 8, o3), (L + 7, o4), (L + 6, o5), (L + 5, q6), (L + 4, q7), (L + 3, o8), (L + 2, o9), (L + 1, o10), (107, tabObj #[])] → q6.data = .cell v6 → q7.data = .cell (some (.ref SM)) →
      IntsAre ws (nInts (sumsN rs)) → wpAny (model prog w) (lawA L fa) (execs (lawRest 9) (lawEnv L fa)) Q (fun _ _ => False) { s with heap := h2, toks := tk2 }) :
    wpAny (model prog w) (lawA L fa) (execs ((lawBody.drop 7).take 2 ++ lawRest 9) (lawEnv L fa)) Q (fun _ _ => False) { s with heap := h₁, toks := tk } := by
  dsimp only [Off1] at offP offR
  obtain ⟨p0, p1, p2, p3, p4, p5, p6, p7, p8, p9, p10, p11, -⟩ := offP
  obtain ⟨r0, r1, r2, r3, r4, r5, r6, r7, r8, r9, r10, -⟩ := offR
  k_steps
  refine Stop.mk (for_list (by k_asm) ?_)
  k_steps
  rename Fr _ _ _ _ => F1
  rename News _ _ _ _ => N1
  rename (_ < _ ∧ _) => hlt0
  rename_i S0 _ _ _ d7'
  clear d7
  refine ⟨_, rv.toArray, _, _, fun i m news => ∃ SM ws n q6 q7 v6, m = m2 ∧ news = [(SM, W.listOf (List.toArray ws) n), (PR, lst pv), (RW, lst rv), (L + 10, o1), (L + 9, o2), (L + 8, o3), (L + 7, o4), (L + 6, o5), (L + 5, q6), (L + 4, q7), (L + 3, o8), (L + 2, o9), (L + 1, o10), (107, tabObj #[])] ∧ q6.data = .cell v6 ∧ q7.data = .cell (some (.ref SM)) ∧
      IntsAre ws (nInts (sumsN (rs.take i))) ∧ Off1 SM [(PR, lst pv), (RW, lst rv), (L + 10, o1), (L + 9, o2), (L + 8, o3), (L + 7, o4), (L + 6, o5), (L + 5, q6), (L + 4, q7), (L + 3, o8), (L + 2, o9), (L + 1, o10), (107, tabObj #[])], rfl, rfl, F1, N1, .inr ⟨_, .tail _ (.tail _ (.head _)), rfl, _, rfl⟩, ?_, ?_, ?_, ?_⟩
  · refine ⟨_, _, _, _, _, _, rfl, rfl, d6, d7', .cons _ _ .nil, ?_⟩
    obtain ⟨l0, l1, l2, l3, l4, l5, l6, l7, l8, l9, l10, l11, l12⟩ := hlt0
    exact ⟨Nat.ne_of_lt l0, Nat.ne_of_lt l1, Nat.ne_of_lt l2, Nat.ne_of_lt l3, Nat.ne_of_lt l4, Nat.ne_of_lt l5, Nat.ne_of_lt l6, Nat.ne_of_lt l7, Nat.ne_of_lt l8, Nat.ne_of_lt l9, Nat.ne_of_lt l10, Nat.ne_of_lt l11, Nat.ne_of_lt l12, trivial⟩
  · rintro i m nw ⟨SM, ws, n, q6, q7, v6, -, rfl, -⟩
    exact .inr ⟨_, .tail _ (.tail _ (.head _)), rfl, _, rfl⟩
  · rintro I i v m₁ news₁ h tk oI hlt hi' hv ⟨SM, ws, n, q6, q7, v6, rfl, rfl, e1, e2, e3, e4⟩ hne F2 N2
    have hv' : rv[i]? = some v := by simpa using hv
    clear d6 d7' F1 N1 hlt hlt0
    have hne' := off1_ne hne
    dsimp only [Off1] at hne' e4
    obtain ⟨n0, n1, n2, n3, n4, n5, n6, n7, n8, n9, n10, n11, n12, n13, -⟩ := hne'
    obtain ⟨k0, k1, k2, k3, k4, k5, k6, k7, k8, k9, k10, k11, k12, -⟩ := e4
    obtain ⟨r, hr1, t, rfl⟩ := nInts_item hr hv'
    have hrb' : r < 16 := hrb r (List.mem_of_getElem? hr1)
    have htk : rs.take (i + 1) = rs.take i ++ [r] := by rw [List.take_add_one, hr1]; rfl
    have hrs : sumsN (rs.take (i + 1)) = sstep (sumsN (rs.take i)) r := by rw [htk, sumsN, List.foldl_append]; rfl
    have hsz := sumsN_len (rs.take i)
    have hsz2 : 2 ^ (rs.take i).length ≤ 2 ^ 5 := Nat.pow_le_pow_right (by decide) (by rw [List.length_take]; omega)
    have hwl : ws.length = (sumsN (rs.take i)).length := by rw [e3.length]; simp [nInts]
    generalize hTE : TurnEnd _ _ _ _ _ _ _ = TE
    k_steps
    rename Fr _ _ _ _ => F3
    refine Stop.mk (ListComp_U F3 rfl (by decide) rfl (by decide) rfl ?_)
    k_steps
    rename Fr _ _ _ _ => F4
    rename News _ _ _ _ => N4
    have hwl' : ws.length ≤ 32 := by omega
    refine Stop.mk (CompSrc.ledger rfl F4 N4 (.tail _ (.head _)) (by rw [sizeLine_eq]; simp; omega) fun g => ?_)
    refine compU (n := ws.length) (fun j ys => IntsAre ys (nInts (((sumsN (rs.take i)).take j).map (r ^^^ ·)))) ?_ ?_ ?_ _ 0 [] (by simp) .nil
    · exact .inr ⟨_, .tail _ (.head _), rfl, _, rfl⟩
    · rename (Obj.data _ = Data.cell (some (Value.int _ _))) => hrow
      clear F4 N4 n0 n1 n2 n3 n4 n5 n6 n7 n8 n9 n10 n11 n12 n13 k0 k1 k2 k3 k4 k5 k6 k7 k8 k9 k10 k11 k12 p0 p1 p2 p3 p4 p5 p6 p7 p8 p9 p10 p11 r0 r1 r2 r3 r4 r5 r6 r7 r8 r9 r10
      intro j ys v J oJ C oC D m₃ h tk hj hR hP hN hx F5 N5
      have hP' : ws[j]? = some v := by simpa using hP
      obtain ⟨x, hx1, tx, rfl⟩ := nInts_item e3 hP'
      have hxb := sumsN_lt (fun q hq => hrb q (List.mem_of_mem_take hq)) x (List.mem_of_getElem? hx1)
      have htj : (sumsN (rs.take i)).take (j + 1) = (sumsN (rs.take i)).take j ++ [x] := by rw [List.take_add_one, hx1]; rfl
      k_steps
      · exact fun _ _ e => e
      · rw [htj, List.map_append, nInts_app]
        refine intsApp hR ?_
        have := (xor_nat ⟨r, hrb'⟩ ⟨x, hxb⟩).1
        dsimp only at this
        rw [this]
        exact .cons _ _ .nil
    · intro ys hys
      rw [List.take_of_length_le (by omega)] at hys
      clear F4 N4
      k_steps
      rename Fr _ _ _ _ => F5
      rename News _ _ _ _ => N5
      rename_i D3 _ _ ofd
      have hsum : (nInts (sumsN (rs.take i))).length + (nInts ((sumsN (rs.take i)).map (r ^^^ ·))).length ≤ sizeLine := by
        have e1 : (nInts (sumsN (rs.take i))).length = ws.length := by rw [hwl]; simp [nInts]
        have e2 : (nInts ((sumsN (rs.take i)).map (r ^^^ ·))).length = ws.length := by rw [hwl]; simp [nInts]
        rw [e1, e2, sizeLine_eq]
        exact Nat.le_trans (Nat.add_le_add hwl' hwl') (by decide)
      refine Stop.mk (kmk_add_ints F5 N5 (News.isList N5 (.tail _ (.tail _ (.head _)))) (News.isList N5 (.head _)) e3 hys (fun D4 us h4 F6 N6 l6 hI6 => ?_) hsum)
      clear F5 N5
      have N7 := fun q hq => N6 q (keep_drop hq)
      have l7 := l6
      k_lt l6
      obtain ⟨g0, g1, g2, g3, g4, g5, g6, g7, g8, g9, g10, g11, g12, g13, g14, g15⟩ := l6
      clear N6
      k_steps
      rename Fr _ _ _ _ => Fz
      rename News _ _ _ _ => Nz
      rename (Obj.data _ = Data.cell (some (Value.ref D4))) => dz
      rename (Obj.data _ = Data.cell (some (Value.int _ _))) => dr
      subst hTE
      refine TurnEnd.next Fz Nz (fun q hq => ?_) ?_ ⟨D4, us, 0, _, _, _, rfl, rfl, dr, dz, ?_, ?_⟩
      · exact subI [1, 0, 3, 4, 5, 6, 7, 8, 9, 10, 11, 12, 13, 14, 15] rfl q hq
      · repeat first | exact List.forall_mem_nil _ | refine List.forall_mem_cons.mpr ⟨by first | exact Nat.ne_of_gt g1 | assumption, ?_⟩
      · rw [hrs, sstep, nInts_app]; exact hI6
      · exact ⟨Nat.ne_of_lt g3, Nat.ne_of_lt g4, Nat.ne_of_lt g5, Nat.ne_of_lt g6, Nat.ne_of_lt g7, Nat.ne_of_lt g8, Nat.ne_of_lt g9, Nat.ne_of_lt g10, Nat.ne_of_lt g11, Nat.ne_of_lt g12, Nat.ne_of_lt g13, Nat.ne_of_lt g14, Nat.ne_of_lt g15, trivial⟩
  · rintro h tk m₁ news₁ ⟨SM, ws, n, q6, q7, v6, rfl, rfl, e1, e2, e3, e4⟩ F2 N2
    have hlen : rv.toArray.size = rs.length := by
      have := hr.length
      simpa [nInts] using this
    rw [hlen, List.take_length] at e3
    clear F1 N1
    k_steps
    exact rest _ _ _ _ _ _ _ _ F2 N2 e4 e1 e2 e3
end
end Mine

-- part Mat
set_option Elab.async false
set_option maxRecDepth 100000
namespace Mine
section
/-- the exclusive or of the rows that a mask names -/
def xr (row : Nat → Nat) (m : Nat) : Nat → Nat
  | 0 => 0
  | n + 1 => xr row m n ^^^ (if m.testBit n then row n else 0)
def InL (js : List Nat) (m : Nat) : Prop := ∀ k, m.testBit k = true → k ∈ js
variable {row : Nat → Nat}
theorem xr_zero (n : Nat) : xr row 0 n = 0 := by
  induction n with
  | zero => rfl
  | succ n ih => simp [xr, ih]
theorem xor4 (a b c d : Nat) : (a ^^^ b) ^^^ (c ^^^ d) = (a ^^^ c) ^^^ (b ^^^ d) := by
  rw [Nat.xor_assoc, Nat.xor_assoc, ← Nat.xor_assoc b, Nat.xor_comm b c, Nat.xor_assoc]
theorem xr_xor (a b n : Nat) : xr row (a ^^^ b) n = xr row a n ^^^ xr row b n := by
  induction n with
  | zero => simp [xr]
  | succ n ih =>
    simp only [xr, ih, Nat.testBit_xor]
    rw [xor4]
    congr 1
    cases a.testBit n <;> cases b.testBit n <;> simp
theorem xr_pow (k n : Nat) : xr row (2 ^ k) n = if k < n then row k else 0 := by
  induction n with
  | zero => rfl
  | succ n ih =>
    simp only [xr, ih, Nat.testBit_two_pow]
    by_cases h1 : k < n
    · simp [h1, Nat.lt_succ_of_lt h1, Nat.ne_of_lt h1]
    · by_cases h2 : k = n
      · subst h2; simp
      · have : ¬ k < n + 1 := by omega
        simp [h1, h2, this]
theorem InL.xor {js : List Nat} {a b : Nat} (x : InL js a) (y : InL js b) : InL js (a ^^^ b) := fun k h => by
  rw [Nat.testBit_xor] at h
  cases h1 : a.testBit k with
  | true => exact x k h1
  | false => rw [h1] at h; exact y k (by simpa using h)
theorem InL.pow {js : List Nat} {k : Nat} (h : k ∈ js) : InL js (2 ^ k) := fun j hj => by
  rw [Nat.testBit_two_pow] at hj
  have : k = j := by simpa using hj
  exact this ▸ h
theorem InL.mono {js ks : List Nat} {m : Nat} (x : InL js m) (h : ∀ k ∈ js, k ∈ ks) : InL ks m := fun k hk => h k (x k hk)
theorem InL.zero {js : List Nat} : InL js 0 := fun k h => by simp at h
theorem InL.drop {js : List Nat} {k m : Nat} (x : InL (js ++ [k]) m) (h : m.testBit k = true) : InL js (m ^^^ 2 ^ k) := fun j hj => by
  rw [Nat.testBit_xor, Nat.testBit_two_pow] at hj
  by_cases e : k = j
  · subst e; rw [h] at hj; simp at hj
  · have h1 : m.testBit j = true := by simpa [e] using hj
    rcases List.mem_append.mp (x j h1) with h2 | h2
    · exact h2
    · exact absurd (List.mem_singleton.mp h2).symm e
theorem InL.keep {js : List Nat} {k m : Nat} (x : InL (js ++ [k]) m) (h : m.testBit k = false) : InL js m := fun j hj => by
  rcases List.mem_append.mp (x j hj) with h2 | h2
  · exact h2
  · rw [List.mem_singleton.mp h2, h] at hj; cases hj
/-- what the rows of js come to -/
def Sp (row : Nat → Nat) (js : List Nat) (x : Nat) : Prop := ∃ m, InL js m ∧ xr row m 5 = x
theorem Sp.mono {js ks : List Nat} {x : Nat} (h : Sp row js x) (hk : ∀ k ∈ js, k ∈ ks) : Sp row ks x := let ⟨m, a, b⟩ := h; ⟨m, a.mono hk, b⟩
theorem Sp.zero {js : List Nat} : Sp row js 0 := ⟨0, .zero, xr_zero 5⟩
theorem Sp.xor {js : List Nat} {x y : Nat} (h : Sp row js x) (h' : Sp row js y) : Sp row js (x ^^^ y) := by
  obtain ⟨m, a, rfl⟩ := h
  obtain ⟨n, b, rfl⟩ := h'
  exact ⟨m ^^^ n, a.xor b, xr_xor m n 5⟩
theorem Sp.one {js : List Nat} {k : Nat} (h : k ∈ js) (h5 : k < 5) : Sp row js (row k) := ⟨2 ^ k, .pow h, by rw [xr_pow, if_pos h5]⟩
theorem xor_back (x r : Nat) : (x ^^^ r) ^^^ r = x := by rw [Nat.xor_assoc, Nat.xor_self, Nat.xor_zero]
theorem Sp.snoc {js : List Nat} {k x : Nat} (h5 : k < 5) : Sp row (js ++ [k]) x ↔ Sp row js x ∨ Sp row js (x ^^^ row k) := by
  constructor
  · rintro ⟨m, a, rfl⟩
    cases h : m.testBit k with
    | true => exact .inr ⟨m ^^^ 2 ^ k, a.drop h, by rw [xr_xor, xr_pow, if_pos h5]⟩
    | false => exact .inl ⟨m, a.keep h, rfl⟩
  · rintro (h | h)
    · exact h.mono fun j hj => List.mem_append_left _ hj
    · have := (h.mono (ks := js ++ [k]) fun j hj => List.mem_append_left _ hj).xor (Sp.one (row := row) (List.mem_append_right js (List.mem_singleton.mpr rfl)) h5)
      rwa [xor_back] at this
theorem reach_snoc (l : List Nat) (r : Nat) : reachN (l ++ [r]) = rstep (reachN l) r := by rw [reachN, List.foldl_append]; rfl
theorem snoc_ind {P : List Nat → Prop} (h0 : P []) (h1 : ∀ l a, P l → P (l ++ [a])) (l : List Nat) : P l := by
  rw [← List.reverse_reverse l]
  induction l.reverse with
  | nil => exact h0
  | cons a l ih => rw [List.reverse_cons]; exact h1 _ _ ih
theorem mem_reach (js : List Nat) : (∀ k ∈ js, k < 5) → ∀ x, x ∈ reachN (js.map row) ↔ Sp row js x := by
  induction js using snoc_ind
  · intro _ x
    constructor
    · intro h
      have : x = 0 := by simpa [reachN] using h
      subst this; exact Sp.zero
    · rintro ⟨m, a, rfl⟩
      have : m = 0 := Nat.eq_of_testBit_eq fun i => by
        rw [Nat.zero_testBit]
        cases h : m.testBit i with
        | false => rfl
        | true => cases a i h
      subst this
      rw [xr_zero]; simp [reachN]
  · rename_i js k ih
    intro hk x
    have hk' : ∀ j ∈ js, j < 5 := fun j hj => hk j (List.mem_append_left _ hj)
    have h5 : k < 5 := hk k (List.mem_append_right _ (List.mem_singleton.mpr rfl))
    have ih := ih hk'
    rw [List.map_append, List.map_cons, List.map_nil, reach_snoc, Sp.snoc h5, rstep]
    by_cases c : row k ∈ reachN (js.map row)
    · rw [if_pos c, ih]
      constructor
      · exact .inl
      · rintro (h | h)
        · exact h
        · have := h.xor ((ih _).mp c); rwa [xor_back] at this
    · rw [if_neg c, List.mem_append, List.mem_map, ih]
      refine or_congr Iff.rfl ⟨?_, fun h => ⟨x ^^^ row k, (ih _).mpr h, by rw [Nat.xor_comm, xor_back]⟩⟩
      rintro ⟨y, hy, rfl⟩
      rw [Nat.xor_comm (row k), xor_back]; exact (ih _).mp hy
theorem reach_nodup (js : List Nat) : (∀ k ∈ js, k < 5) → (reachN (js.map row)).Nodup := by
  induction js using snoc_ind
  · intro _; simp [reachN]
  · rename_i js k ih
    intro hk
    have hk' : ∀ j ∈ js, j < 5 := fun j hj => hk j (List.mem_append_left _ hj)
    have ih := ih hk'
    have me := mem_reach (row := row) js hk'
    rw [List.map_append, List.map_cons, List.map_nil, reach_snoc, rstep]
    by_cases c : row k ∈ reachN (js.map row)
    · rw [if_pos c]; exact ih
    · rw [if_neg c, List.nodup_append]
      refine ⟨ih, ?_, ?_⟩
      · refine List.Pairwise.map _ (fun a b hab e => hab ?_) ih
        have := congrArg (row k ^^^ ·) e
        simpa [← Nat.xor_assoc] using this
      · rintro a ha b hb rfl
        obtain ⟨y, hy, e⟩ := List.mem_map.mp hb
        refine c ((me _).mpr ?_)
        have := ((me _).mp ha).xor ((me _).mp hy)
        rw [← e, xor_back] at this; exact this
theorem reach_len_congr {js ks : List Nat} (hj : ∀ k ∈ js, k < 5) (hk : ∀ k ∈ ks, k < 5) (h : ∀ k, k ∈ js ↔ k ∈ ks) : (reachN (js.map row)).length = (reachN (ks.map row)).length := by
  refine List.Perm.length_eq ((List.perm_ext_iff_of_nodup (reach_nodup js hj) (reach_nodup ks hk)).mpr fun x => ?_)
  rw [mem_reach js hj, mem_reach ks hk]
  exact ⟨fun a => a.mono fun k => (h k).mp, fun a => a.mono fun k => (h k).mpr⟩

def gstep (row : Nat → Nat) (d : List Nat) (k : Nat) : List Nat := if row k ∈ reachN (d.map row) then d else d ++ [k]
def greedy (row : Nat → Nat) (js : List Nat) : List Nat := js.foldl (gstep row) []
theorem greedy_snoc (js : List Nat) (k : Nat) : greedy row (js ++ [k]) = gstep row (greedy row js) k := by rw [greedy, List.foldl_append]; rfl
theorem reach_greedy (js : List Nat) : reachN ((greedy row js).map row) = reachN (js.map row) := by
  induction js using snoc_ind with | h0 => rfl | h1 js k ih => ?_
  rw [greedy_snoc, gstep, List.map_append, List.map_cons, List.map_nil, reach_snoc]
  by_cases c : row k ∈ reachN ((greedy row js).map row)
  · rw [if_pos c, rstep, if_pos (ih ▸ c)]; exact ih
  · rw [if_neg c, List.map_append, List.map_cons, List.map_nil, reach_snoc, ih]
theorem greedy_len (js : List Nat) : (reachN ((greedy row js).map row)).length = 2 ^ (greedy row js).length := by
  induction js using snoc_ind with | h0 => rfl | h1 js k ih => ?_
  rw [greedy_snoc, gstep]
  by_cases c : row k ∈ reachN ((greedy row js).map row)
  · rw [if_pos c]; exact ih
  · rw [if_neg c, List.map_append, List.map_cons, List.map_nil, reach_snoc, rstep, if_neg c, List.length_append, List.length_map, ih, List.length_append, List.length_singleton, Nat.pow_succ]; omega
theorem greedy_sub (js : List Nat) : ∀ k ∈ greedy row js, k ∈ js := by
  induction js using snoc_ind with | h0 => exact fun k h => h | h1 js k ih => ?_
  intro j hj
  rw [greedy_snoc, gstep] at hj
  split at hj
  · exact List.mem_append_left _ (ih j hj)
  · rcases List.mem_append.mp hj with h | h
    · exact List.mem_append_left _ (ih j h)
    · exact List.mem_append_right _ h
theorem sp_greedy {js : List Nat} (h : ∀ k ∈ js, k < 5) (x : Nat) : Sp row (greedy row js) x ↔ Sp row js x := by
  rw [← mem_reach _ (fun k hk => h k (greedy_sub js k hk)), ← mem_reach _ h, reach_greedy]
theorem greedy_app (js ks : List Nat) : ∃ l, greedy row (js ++ ks) = greedy row js ++ l ∧ ∀ k ∈ l, k ∈ ks := by
  induction ks using snoc_ind with | h0 => exact ⟨[], by simp, by simp⟩ | h1 ks k ih => ?_
  obtain ⟨l, e, h⟩ := ih
  rw [← List.append_assoc, greedy_snoc, gstep, e]
  split
  · exact ⟨l, rfl, fun j hj => List.mem_append_left _ (h j hj)⟩
  · refine ⟨l ++ [k], by rw [List.append_assoc], fun j hj => ?_⟩
    rcases List.mem_append.mp hj with h1 | h1
    · exact List.mem_append_left _ (h j h1)
    · exact List.mem_append_right _ h1
theorem greedy_mem {p t : List Nat} {k : Nat} (hp : ∀ j ∈ p, j < 5) (nd : (p ++ k :: t).Nodup) : k ∈ greedy row (p ++ k :: t) ↔ ¬ Sp row p (row k) := by
  have e : p ++ k :: t = (p ++ [k]) ++ t := by simp
  rw [e] at nd ⊢
  obtain ⟨l, e2, h⟩ := greedy_app (row := row) (p ++ [k]) t
  have hkl : k ∉ l := fun q => by
    have := (List.nodup_append.mp nd).2.2 k (List.mem_append_right _ (List.mem_singleton.mpr rfl)) k (h k q)
    exact this rfl
  have hkp : k ∉ p := fun q => by
    have := (List.nodup_append.mp (List.nodup_append.mp nd).1).2.2 k q k (List.mem_singleton.mpr rfl)
    exact this rfl
  have hkg : k ∉ greedy row p := fun q => hkp (greedy_sub p k q)
  rw [e2, greedy_snoc, gstep, ← sp_greedy hp, ← mem_reach _ (fun j hj => hp j (greedy_sub p j hj))]
  by_cases c : row k ∈ reachN ((greedy row p).map row)
  · simp [c, hkl, hkg]
  · simp [c, hkl]
theorem greedy_ind {js : List Nat} (h5 : ∀ k ∈ js, k < 5) (nd : js.Nodup) : ∀ m, InL (greedy row js) m → xr row m 5 = 0 → m = 0 := by
  revert h5 nd
  induction js using snoc_ind
  · intro _ _ m a _
    exact Nat.eq_of_testBit_eq fun i => by
      rw [Nat.zero_testBit]
      cases h : m.testBit i with
      | false => rfl
      | true => cases a i h
  · rename_i js k ih
    intro hk nd m a e
    have hk' : ∀ j ∈ js, j < 5 := fun j hj => hk j (List.mem_append_left _ hj)
    have h5 : k < 5 := hk k (List.mem_append_right _ (List.mem_singleton.mpr rfl))
    have ih := ih hk' (List.nodup_append.mp nd).1
    rw [greedy_snoc, gstep] at a
    split at a
    · exact ih m a e
    · rename_i c
      cases h : m.testBit k with
      | false => exact ih m (a.keep h) e
      | true =>
        refine absurd ((mem_reach _ (fun j hj => hk' j (greedy_sub js j hj)) _).mpr ⟨m ^^^ 2 ^ k, a.drop h, ?_⟩) c
        rw [xr_xor, xr_pow, if_pos h5, e, Nat.zero_xor]
end
end Mine

-- part Mat2
set_option Elab.async false
set_option maxRecDepth 100000
namespace Mine
section
local macro_rules | `(tactic| walk_at "pad0") => `(tactic| skip)
theorem sums_is (rs : List Nat) : ∀ n, n ≤ rs.length → ∀ m, m < 2 ^ n → (sumsN (rs.take n))[m]? = some (xr (rs.getD · 0) m n) := by
  intro n
  induction n with
  | zero =>
    intro _ m hm
    have : m = 0 := by simpa using hm
    subst this; simp [sumsN, xr]
  | succ n ih =>
    intro hn m hm
    have hlt : n < rs.length := hn
    have ih := ih (Nat.le_of_lt hlt)
    have et : rs.take (n + 1) = rs.take n ++ [rs.getD n 0] := by
      rw [List.take_add_one, List.getElem?_eq_getElem hlt, List.getD_eq_getElem?_getD, List.getElem?_eq_getElem hlt]; rfl
    have es : sumsN (rs.take (n + 1)) = sstep (sumsN (rs.take n)) (rs.getD n 0) := by rw [et, sumsN, List.foldl_append]; rfl
    have hl : (sumsN (rs.take n)).length = 2 ^ n := by rw [sumsN_len, List.length_take, Nat.min_eq_left (Nat.le_of_lt hlt)]
    rw [es, sstep, xr]
    by_cases c : m < 2 ^ n
    · rw [List.getElem?_append_left (by omega), ih m c, Nat.testBit_lt_two_pow c]; simp
    · have hm2 : m < 2 ^ n + 2 ^ n := by rw [Nat.pow_succ] at hm; omega
      have hb : m.testBit n = true := by
        rw [Nat.testBit_eq_decide_div_mod_eq]
        have : m / 2 ^ n = 1 := by
          apply Nat.div_eq_of_lt_le <;> omega
        simp [this]
      have hx : ∀ k, k ≤ n → xr (rs.getD · 0) m k = xr (rs.getD · 0) (m - 2 ^ n) k := by
        intro k
        induction k with
        | zero => intro _; rfl
        | succ k ik =>
          intro hk
          have e : m = 2 ^ n + (m - 2 ^ n) := by omega
          have hk2 : m.testBit k = (m - 2 ^ n).testBit k := by
            rw [e, Nat.testBit_two_pow_add_gt (by omega)]
            congr 1; omega
          rw [xr, xr, ik (by omega), hk2]
      rw [List.getElem?_append_right (by omega), hl, List.getElem?_map, ih (m - 2 ^ n) (by omega), hb, hx n (Nat.le_refl _)]
      simp [Nat.xor_comm]

def tiesN (rs : List Nat) : List Nat := (List.range' 1 31).filter fun m => (sumsN rs).getD m 0 == 0
theorem mem_ties {rs : List Nat} (h : rs.length = 5) {m : Nat} : m ∈ tiesN rs ↔ 1 ≤ m ∧ m < 32 ∧ xr (rs.getD · 0) m 5 = 0 := by
  rw [tiesN, List.mem_filter, List.mem_range'_1, and_assoc]
  refine and_congr_right fun _ => and_congr_right fun hm => ?_
  have := sums_is rs 5 (by omega) m hm
  rw [List.take_of_length_le (by omega)] at this
  rw [List.getD_eq_getElem?_getD, this]; simp

theorem and_eq {m t : Nat} : (m &&& t == m) = true ↔ ∀ j, m.testBit j = true → t.testBit j = true := by
  rw [beq_iff_eq]
  constructor
  · intro e j hj
    rw [← e, Nat.testBit_and, Bool.and_eq_true] at hj; exact hj.2
  · intro h
    refine Nat.eq_of_testBit_eq fun j => ?_
    rw [Nat.testBit_and]
    cases c : m.testBit j with
    | false => rfl
    | true => rw [h j c]; rfl
theorem bits_lt {t : Nat} (h : ∀ j, t.testBit j = true → j < 5) : t < 32 := by
  refine Nat.lt_pow_two_of_testBit (n := 5) t fun i hi => ?_
  cases c : t.testBit i with
  | false => rfl
  | true => exact absurd (h i c) (by omega)
theorem bit_le {t k : Nat} (h : t.testBit k = true) : 1 ≤ t := by
  cases t with
  | zero => simp at h
  | succ n => omega

def tstep (ties : List Nat) (t k : Nat) : Nat := if (ties.any fun m => m &&& (t ||| 2 ^ k) == m) = true then t else t ||| 2 ^ k
def takenN (ties q : List Nat) : Nat := q.foldl (tstep ties) 0
theorem taken_snoc (ties q : List Nat) (k : Nat) : takenN ties (q ++ [k]) = tstep ties (takenN ties q) k := by rw [takenN, List.foldl_append]; rfl
theorem or_bit (t k j : Nat) : (t ||| 2 ^ k).testBit j = (t.testBit j || decide (k = j)) := by rw [Nat.testBit_or, Nat.testBit_two_pow]

theorem taken_bits {rs : List Nat} (hr : rs.length = 5) (q : List Nat) (h5 : ∀ k ∈ q, k < 5) (nd : q.Nodup) : ∀ j, (takenN (tiesN rs) q).testBit j = true ↔ j ∈ greedy (rs.getD · 0) q := by
  induction q using snoc_ind
  · intro j; simp [takenN, greedy]
  · rename_i q k ih
    have hq : ∀ k ∈ q, k < 5 := fun j hj => h5 j (List.mem_append_left _ hj)
    have hk : k < 5 := h5 k (List.mem_append_right _ (List.mem_singleton.mpr rfl))
    have ndq := (List.nodup_append.mp nd).1
    have ih := ih hq ndq
    have hkq : k ∉ q := fun c => (List.nodup_append.mp nd).2.2 k c k (List.mem_singleton.mpr rfl) rfl
    have hkg : k ∉ greedy (rs.getD · 0) q := fun c => hkq (greedy_sub q k c)
    have hg5 : ∀ j ∈ greedy (rs.getD · 0) q, j < 5 := fun j hj => hq j (greedy_sub q j hj)
    intro j
    rw [taken_snoc, greedy_snoc, tstep, gstep]
    have key : ((tiesN rs).any fun m => m &&& (takenN (tiesN rs) q ||| 2 ^ k) == m) = true ↔ rs.getD k 0 ∈ reachN ((greedy (rs.getD · 0) q).map (rs.getD · 0)) := by
      rw [mem_reach (row := (rs.getD · 0)) _ hg5, List.any_eq_true]
      constructor
      · rintro ⟨m, hm, hsub⟩
        obtain ⟨m1, m2, m3⟩ := (mem_ties hr).mp hm
        rw [and_eq] at hsub
        have hin : InL (greedy (rs.getD · 0) q ++ [k]) m := fun i hi => by
          have := hsub i hi
          rw [or_bit, Bool.or_eq_true, ih i] at this
          rcases this with h | h
          · exact List.mem_append_left _ h
          · exact List.mem_append_right _ (List.mem_singleton.mpr (of_decide_eq_true h).symm)
        cases c : m.testBit k with
        | true => exact ⟨m ^^^ 2 ^ k, hin.drop c, by rw [xr_xor, xr_pow, if_pos hk, m3, Nat.zero_xor]⟩
        | false => exact absurd (greedy_ind hq ndq m (hin.keep c) m3) (by omega)
      · rintro ⟨m, hm, hx⟩
        have hmk : m.testBit k = false := by
          cases c : m.testBit k with
          | false => rfl
          | true => exact absurd (hm k c) hkg
        have hb : ∀ i, (m ^^^ 2 ^ k).testBit i = true → i ∈ greedy (rs.getD · 0) q ∨ k = i := fun i hi => by
          rw [Nat.testBit_xor, Nat.testBit_two_pow] at hi
          by_cases e : k = i
          · exact .inr e
          · exact .inl (hm i (by simpa [e] using hi))
        refine ⟨m ^^^ 2 ^ k, (mem_ties hr).mpr ⟨?_, ?_, ?_⟩, ?_⟩
        · refine bit_le (k := k) ?_
          rw [Nat.testBit_xor, Nat.testBit_two_pow, hmk]; simp
        · exact bits_lt fun i hi => (hb i hi).elim (hg5 i) fun e => e ▸ hk
        · rw [xr_xor, xr_pow, if_pos hk, hx, Nat.xor_self]
        · rw [and_eq]
          intro i hi
          rw [or_bit, Bool.or_eq_true, ih i]
          exact (hb i hi).imp id fun e => decide_eq_true e
    by_cases c : rs.getD k 0 ∈ reachN ((greedy (rs.getD · 0) q).map (rs.getD · 0))
    · rw [if_pos (key.mpr c), if_pos c]; exact ih j
    · rw [if_neg (fun q => c (key.mp q)), if_neg c, or_bit, Bool.or_eq_true, ih j, List.mem_append, List.mem_singleton, decide_eq_true_iff]
      exact or_congr Iff.rfl eq_comm

theorem picked_is {q : List Nat} {row : Nat → Nat} (nd : q.Nodup) : q.filter (fun k => decide (k ∈ greedy row q)) = greedy row q := by
  induction q using snoc_ind
  · simp [greedy]
  · rename_i q k ih
    have hkq : k ∉ q := fun c => (List.nodup_append.mp nd).2.2 k c k (List.mem_singleton.mpr rfl) rfl
    have ih := ih (List.nodup_append.mp nd).1
    have hkg : k ∉ greedy row q := fun c => hkq (greedy_sub q k c)
    rw [List.filter_append, greedy_snoc, gstep]
    split
    · rw [ih]
      simp [hkg]
    · have e : q.filter (fun j => decide (j ∈ greedy row q ++ [k])) = q.filter (fun j => decide (j ∈ greedy row q)) := by
        refine List.filter_congr fun j hj => ?_
        have : j ≠ k := fun e => hkq (e ▸ hj)
        simp [this]
      rw [e, ih]
      simp

def kstep (ties : List Nat) (t k : Nat) : Nat := if ((ties.filter fun m => m.testBit k).any fun m => m &&& t == m) = true then t ^^^ 2 ^ k else t
theorem in_front {row : Nat → Nat} {q p : List Nat} {k : Nat} (h5 : ∀ j ∈ q, j < 5) (nd : q.Nodup) (m : Nat) (hx : xr row m 5 = 0) :
    ∀ t r, q = p ++ k :: t ++ r → (∀ j ∈ t, m.testBit j = true → j ∈ greedy row q) → InL (p ++ k :: t) m → InL (p ++ [k]) m := by
  intro t
  induction t using snoc_ind
  · intro r _ _ h; exact h
  · rename_i t j ih
    intro r e hg hin
    have ea : p ++ k :: (t ++ [j]) = (p ++ k :: t) ++ [j] := by simp
    rw [ea] at hin e
    cases c : m.testBit j with
    | false => exact ih (j :: r) (by rw [e]; simp) (fun i hi => hg i (List.mem_append_left _ hi)) (hin.keep c)
    | true =>
      have hj := hg j (List.mem_append_right _ (List.mem_singleton.mpr rfl)) c
      have e2 : q = (p ++ k :: t) ++ j :: r := by rw [e]; simp
      rw [e2] at hj
      have hj5 : j < 5 := h5 j (by rw [e2]; simp)
      refine absurd ⟨m ^^^ 2 ^ j, hin.drop c, ?_⟩ ((greedy_mem (row := row) (fun i hi => h5 i (by rw [e2]; exact List.mem_append_left _ hi)) (e2 ▸ nd)).mp hj)
      rw [xr_xor, xr_pow, if_pos hj5, hx, Nat.zero_xor]
theorem kept_bits {rs : List Nat} (hr : rs.length = 5) (q : List Nat) (h5 : ∀ k ∈ q, k < 5) (hall : ∀ k, k < 5 → k ∈ q) (nd : q.Nodup) :
    ∀ t p, q = p ++ t → ∀ j, (t.reverse.foldl (kstep (tiesN rs)) 31).testBit j = true ↔ (j ∈ p ∨ (j ∈ t ∧ j ∈ greedy (rs.getD · 0) q)) := by
  intro t
  induction t with
  | nil =>
    intro p e j
    rw [List.append_nil] at e
    subst e
    have h31 : ∀ j, Nat.testBit 31 j = true ↔ j < 5 := fun j => by
      rw [show (31 : Nat) = 2 ^ 5 - 1 from rfl, Nat.testBit_two_pow_sub_one, decide_eq_true_iff]
    simp only [List.reverse_nil, List.foldl_nil, h31]
    exact ⟨fun h => .inl (hall j h), fun h => h.elim (h5 j) fun h => by cases h.1⟩
  | cons k t ih =>
    intro p e j
    have e' : q = (p ++ [k]) ++ t := by rw [e]; simp
    have ih := ih (p ++ [k]) e'
    rw [List.reverse_cons, List.foldl_append, List.foldl_cons, List.foldl_nil]
    generalize ht : t.reverse.foldl (kstep (tiesN rs)) 31 = K at ih ⊢
    have hk5 : k < 5 := h5 k (by rw [e]; simp)
    have hp5 : ∀ j ∈ p, j < 5 := fun j hj => h5 j (by rw [e]; exact List.mem_append_left _ hj)
    have hgm := greedy_mem (row := (rs.getD · 0)) hp5 (e ▸ nd)
    rw [← e] at hgm
    have hkp : k ∉ p := fun c => by
      rw [e] at nd
      exact (List.nodup_append.mp nd).2.2 k c k (List.mem_cons_self) rfl
    have hkt : k ∉ t := fun c => by
      rw [e] at nd
      exact (List.nodup_cons.mp (List.nodup_append.mp nd).2.1).1 c
    have key : (((tiesN rs).filter fun m => m.testBit k).any fun m => m &&& K == m) = true ↔ Sp (rs.getD · 0) p (rs.getD k 0) := by
      rw [List.any_eq_true]
      constructor
      · rintro ⟨m, hm, hsub⟩
        obtain ⟨hm, hmk⟩ := List.mem_filter.mp hm
        obtain ⟨m1, m2, m3⟩ := (mem_ties hr).mp hm
        rw [and_eq] at hsub
        have hin : InL (p ++ [k]) m := by
          refine in_front (row := (rs.getD · 0)) h5 nd m m3 t [] (by rw [e]; simp) (fun i hi hb => ?_) (fun i hi => ?_)
          · rcases (ih i).mp (hsub i hb) with h | h
            · exfalso
              rcases List.mem_append.mp h with h | h
              · rw [e] at nd; exact (List.nodup_append.mp nd).2.2 i h i (List.mem_cons_of_mem _ hi) rfl
              · exact hkt ((List.mem_singleton.mp h) ▸ hi)
            · exact h.2
          · rcases (ih i).mp (hsub i hi) with h | h
            · rcases List.mem_append.mp h with h | h
              · exact List.mem_append_left _ h
              · rw [List.mem_singleton.mp h]; simp
            · simp [h.1]
        exact ⟨m ^^^ 2 ^ k, hin.drop hmk, by rw [xr_xor, xr_pow, if_pos hk5, m3, Nat.zero_xor]⟩
      · rintro ⟨m, hm, hx⟩
        have hmk : m.testBit k = false := by
          cases c : m.testBit k with
          | false => rfl
          | true => exact absurd (hm k c) hkp
        have hb : ∀ i, (m ^^^ 2 ^ k).testBit i = true → i ∈ p ∨ k = i := fun i hi => by
          rw [Nat.testBit_xor, Nat.testBit_two_pow] at hi
          by_cases e : k = i
          · exact .inr e
          · exact .inl (hm i (by simpa [e] using hi))
        have hkk : (m ^^^ 2 ^ k).testBit k = true := by rw [Nat.testBit_xor, Nat.testBit_two_pow, hmk]; simp
        refine ⟨m ^^^ 2 ^ k, List.mem_filter.mpr ⟨(mem_ties hr).mpr ⟨bit_le hkk, ?_, ?_⟩, hkk⟩, ?_⟩
        · exact bits_lt fun i hi => (hb i hi).elim (hp5 i) fun e => e ▸ hk5
        · rw [xr_xor, xr_pow, if_pos hk5, hx, Nat.xor_self]
        · rw [and_eq]
          intro i hi
          rw [ih i]
          exact .inl ((hb i hi).elim (fun h => List.mem_append_left _ h) fun e => List.mem_append_right _ (List.mem_singleton.mpr e.symm))
    have hKk : K.testBit k = true := (ih k).mpr (.inl (by simp))
    rw [kstep]
    by_cases c : Sp (rs.getD · 0) p (rs.getD k 0)
    · rw [if_pos (key.mpr c), Nat.testBit_xor, Nat.testBit_two_pow]
      have hkg : k ∉ greedy (rs.getD · 0) q := fun h => hgm.mp h c
      by_cases ej : k = j
      · subst ej
        rw [hKk]; simp [hkp, hkg, -List.getD_eq_getElem?_getD]
      · have : (K.testBit j ^^ decide (k = j)) = K.testBit j := by simp [ej]
        rw [this, ih j]
        have ej' : ¬ j = k := fun e => ej e.symm
        simp [ej', -List.getD_eq_getElem?_getD]
    · rw [if_neg (fun h => c (key.mp h)), ih j]
      have hkg : k ∈ greedy (rs.getD · 0) q := hgm.mpr c
      by_cases ej : j = k
      · subst ej; simp [hkg, -List.getD_eq_getElem?_getD]
      · simp [ej, -List.getD_eq_getElem?_getD]
end
end Mine

-- part Mat3
set_option Elab.async false
set_option maxRecDepth 100000
namespace Mine
section
/-- down-closed tests on a list in order: first those that hold -/
theorem filter_split {α : Type} {P : α → Bool} : ∀ {l : List α}, l.Pairwise (fun a b => P b = true → P a = true) → l.filter P ++ l.filter (fun a => !P a) = l
  | [], _ => rfl
  | a :: l, h => by
    obtain ⟨h1, h2⟩ := List.pairwise_cons.mp h
    have ih := filter_split h2
    cases c : P a with
    | true => rw [List.filter_cons_of_pos c, List.filter_cons_of_neg (by simp [c]), List.cons_append, ih]
    | false =>
      have e : l.filter P = [] := List.filter_eq_nil_iff.mpr fun b hb q => by rw [h1 b hb q] at c; cases c
      rw [e] at ih
      rw [List.filter_cons_of_neg (by simp [c]), e, List.filter_cons_of_pos (by simp [c])]
      rw [List.nil_append] at ih ⊢
      rw [ih]
theorem count_reach {row : Nat → Nat} {P : Nat → Bool} {q js : List Nat} (h5 : ∀ k ∈ q, k < 5) (hj5 : ∀ k ∈ js, k < 5) (hs : q.Pairwise (fun a b => P b = true → P a = true)) (hjs : ∀ k, k ∈ js ↔ k ∈ q ∧ P k = true) :
    2 ^ ((greedy row q).countP P) = (reachN (js.map row)).length := by
  have hq : ∀ k ∈ q.filter P, k < 5 := fun k hk => h5 k (List.mem_filter.mp hk).1
  have e1 : (reachN (js.map row)).length = (reachN ((q.filter P).map row)).length := reach_len_congr hj5 hq fun k => by rw [hjs, List.mem_filter]
  have e2 := filter_split hs
  obtain ⟨l, e3, h3⟩ := greedy_app (row := row) (q.filter P) (q.filter fun a => !P a)
  rw [e2] at e3
  have e4 : (greedy row q).countP P = (greedy row (q.filter P)).length := by
    rw [e3, List.countP_append]
    have a1 : (greedy row (q.filter P)).countP P = (greedy row (q.filter P)).length := List.countP_eq_length.mpr fun k hk => (List.mem_filter.mp (greedy_sub _ k hk)).2
    have a2 : l.countP P = 0 := List.countP_eq_zero.mpr fun k hk q => by
      have := (List.mem_filter.mp (h3 k hk)).2
      rw [q] at this; cases this
    rw [a1, a2, Nat.add_zero]
  rw [e1, e4, ← greedy_len, reach_greedy]

/-- in order of price, like prices as they came -/
def Fo (ps : List Nat) (a b : Nat) : Prop := ps.getD a 0 < ps.getD b 0 ∨ (ps.getD a 0 = ps.getD b 0 ∧ a < b)
/-- in order of price, like prices the last ahead -/
def Ba (ps : List Nat) (a b : Nat) : Prop := ps.getD a 0 < ps.getD b 0 ∨ (ps.getD a 0 = ps.getD b 0 ∧ b < a)
theorem Fo.le {ps : List Nat} {a b : Nat} (h : Fo ps a b) : ps.getD a 0 ≤ ps.getD b 0 := h.elim Nat.le_of_lt fun h => Nat.le_of_eq h.1
theorem Ba.le {ps : List Nat} {a b : Nat} (h : Ba ps a b) : ps.getD a 0 ≤ ps.getD b 0 := h.elim Nat.le_of_lt fun h => Nat.le_of_eq h.1
/-- a queue that holds what lies below n, in the order R -/
structure Que (R : Nat → Nat → Prop) (l : List Nat) (n : Nat) : Prop where
  mem : ∀ k, k ∈ l ↔ k < n
  len : l.length = n
  ord : l.Pairwise R
theorem Que.nil {R : Nat → Nat → Prop} : Que R [] 0 := ⟨by simp, rfl, .nil⟩
theorem pre_le {l : List Nat} {P : Nat → Bool} (hs : l.Pairwise (fun a b => P b = true → P a = true)) : l.take (l.countP P) = l.filter P ∧ l.drop (l.countP P) = l.filter fun a => !P a := by
  have e := filter_split hs
  rw [List.countP_eq_length_filter]
  constructor
  · conv => lhs; rw [← e]
    rw [List.filter_append, List.filter_filter, List.filter_filter]
    simp
  · conv => lhs; rw [← e]
    simp
theorem que_ins {R : Nat → Nat → Prop} {l : List Nat} {n : Nat} {P : Nat → Bool} (h : Que R l n) (hs : l.Pairwise (fun a b => P b = true → P a = true)) (h1 : ∀ a, a < n → P a = true → R a n) (h2 : ∀ a, a < n → P a = false → R n a) :
    Que R (l.take (l.countP P) ++ n :: l.drop (l.countP P)) (n + 1) := by
  obtain ⟨e1, e2⟩ := pre_le hs
  have hp : (l.filter P ++ l.filter fun a => !P a) = l := filter_split hs
  rw [e1, e2]
  refine ⟨fun k => ?_, ?_, ?_⟩
  · rw [List.mem_append, List.mem_cons, List.mem_filter, List.mem_filter]
    have := h.mem k
    constructor
    · rintro (a | rfl | a)
      · exact Nat.lt_succ_of_lt (this.mp a.1)
      · exact Nat.lt_succ_self _
      · exact Nat.lt_succ_of_lt (this.mp a.1)
    · intro hk
      by_cases c : k = n
      · exact .inr (.inl c)
      · have hm := this.mpr (by omega)
        cases hP : P k with
        | true => exact .inl ⟨hm, rfl⟩
        | false => exact .inr (.inr ⟨hm, rfl⟩)
  · have := congrArg List.length hp
    rw [List.length_append] at this
    rw [List.length_append, List.length_cons, ← Nat.add_assoc, this, h.len]
  · have ho := h.ord
    rw [← hp, List.pairwise_append] at ho
    rw [List.pairwise_append, List.pairwise_cons]
    refine ⟨ho.1, ⟨fun a ha => ?_, ho.2.1⟩, fun a ha b hb => ?_⟩
    · obtain ⟨m1, m2⟩ := List.mem_filter.mp ha
      exact h2 a ((h.mem a).mp m1) (by simpa using m2)
    · rcases List.mem_cons.mp hb with rfl | hb
      · obtain ⟨m1, m2⟩ := List.mem_filter.mp ha
        exact h1 a ((h.mem a).mp m1) m2
      · exact ho.2.2 a ha b hb
theorem que_right {ps l : List Nat} {n : Nat} (h : Que (Fo ps) l n) :
    Que (Fo ps) (l.take ((l.map (ps.getD · 0)).countP (· ≤ ps.getD n 0)) ++ n :: l.drop ((l.map (ps.getD · 0)).countP (· ≤ ps.getD n 0))) (n + 1) := by
  rw [List.countP_map]
  refine que_ins (P := (fun x => decide (x ≤ ps.getD n 0)) ∘ (ps.getD · 0)) h (h.ord.imp fun {a b} q => ?_) (fun a ha q => ?_) fun a ha q => ?_
  · have := q.le
    simp only [Function.comp_apply, decide_eq_true_iff]
    omega
  · have q : ps.getD a 0 ≤ ps.getD n 0 := by simpa [-List.getD_eq_getElem?_getD] using q
    rcases Nat.lt_or_eq_of_le q with q | q
    · exact .inl q
    · exact .inr ⟨q, ha⟩
  · have q : ¬ ps.getD a 0 ≤ ps.getD n 0 := by simpa [-List.getD_eq_getElem?_getD] using q
    exact .inl (by omega)
theorem que_left {ps l : List Nat} {n : Nat} (h : Que (Ba ps) l n) :
    Que (Ba ps) (l.take ((l.map (ps.getD · 0)).countP (· < ps.getD n 0)) ++ n :: l.drop ((l.map (ps.getD · 0)).countP (· < ps.getD n 0))) (n + 1) := by
  rw [List.countP_map]
  refine que_ins (P := (fun x => decide (x < ps.getD n 0)) ∘ (ps.getD · 0)) h (h.ord.imp fun {a b} q => ?_) (fun a ha q => ?_) fun a ha q => ?_
  · have := q.le
    simp only [Function.comp_apply, decide_eq_true_iff]
    omega
  · have q : ps.getD a 0 < ps.getD n 0 := by simpa [-List.getD_eq_getElem?_getD] using q
    exact .inl q
  · have q : ¬ ps.getD a 0 < ps.getD n 0 := by simpa [-List.getD_eq_getElem?_getD] using q
    rcases Nat.lt_or_eq_of_le (Nat.le_of_not_lt q) with q | q
    · exact .inl q
    · exact .inr ⟨q, ha⟩
theorem Que.sorted {R : Nat → Nat → Prop} {ps l : List Nat} {n : Nat} (h : Que R l n) (hR : ∀ {a b}, R a b → ps.getD a 0 ≤ ps.getD b 0) : (l.map (ps.getD · 0)).Pairwise (· ≤ ·) := h.ord.map _ fun _ _ => hR
theorem Que.nodup {R : Nat → Nat → Prop} {l : List Nat} {n : Nat} (h : Que R l n) (hR : ∀ a, ¬ R a a) : l.Nodup := h.ord.imp fun {a b} r (e : a = b) => hR a (by rw [← e] at r; exact r)
theorem Fo.irr {ps : List Nat} (a : Nat) : ¬ Fo ps a a := fun h => by rcases h with h | h <;> omega
theorem Ba.irr {ps : List Nat} (a : Nat) : ¬ Ba ps a a := fun h => by rcases h with h | h <;> omega
theorem Que.uniq {R : Nat → Nat → Prop} {l l' : List Nat} {n : Nat} (h : Que R l n) (h' : Que R l' n) (irr : ∀ a, ¬ R a a) (asy : ∀ a b, R a b → R b a → False) : l = l' :=
  List.Perm.eq_of_pairwise (le := R) (fun a b _ _ x y => (asy a b x y).elim) h.ord h'.ord ((List.perm_ext_iff_of_nodup (h.nodup irr) (h'.nodup irr)).mpr fun k => by rw [h.mem, h'.mem])
theorem Fo.asy {ps : List Nat} (a b : Nat) : Fo ps a b → Fo ps b a → False := fun h h' => by
  rcases h with h | h <;> rcases h' with h' | h' <;> omega
theorem Ba.asy {ps : List Nat} (a b : Nat) : Ba ps a b → Ba ps b a → False := fun h h' => by
  rcases h with h | h <;> rcases h' with h' | h' <;> omega
end
end Mine

-- part Law9
open PySem PySem.W PyProof.Rows PySem.Calls PySem.Spec PyProof.Rows.LCg PyProof.Rows.LCt
set_option Elab.async false
set_option maxRecDepth 100000
set_option maxHeartbeats 8000000
namespace Mine
section
variable {prog : Program} {w : World} {s : Shared} {Q : Flow → Shared → Prop}
variable {p : Program} {loose : List Str} {mean : ExcName → Option Value} {mg mb : Str → Option Value} {h₀ h₁ : Heap} {L fa : Addr} {tk : Nat}
local macro_rules | `(tactic| walk_at "call ref") => `(tactic| refine Stop.out ?_)
local macro_rules | `(tactic| walk_at "eval ListComp") => `(tactic| refine Stop.out ?_)
local macro_rules | `(tactic| walk_at "CompSrc") => `(tactic| refine Stop.out ?_)
local macro_rules | `(tactic| walk_at "CompSrcT") => `(tactic| refine Stop.out ?_)
theorem filter_one {P : Nat → Bool} {a : Nat} (h : P a = true) : [a].filter P = [a] := List.filter_cons_of_pos h
theorem filter_none {P : Nat → Bool} {a : Nat} (h : ¬ P a = true) : [a].filter P = [] := List.filter_cons_of_neg h
theorem seg9 {SM PR RW : Addr} {ws pv rv : List Value} {n : Nat} {rs : List Nat} {m2 : Str → Option Value} {o1 o2 o3 o4 o5 o7 o8 o9 : Obj}
    (X : Frag.In (hd.heap_39 w.params) h₀) (T : Top p loose mean mg mb h₀) (h107 : @LT.lt Nat _ 107 L)
    (F : Fr h₀ L h₁ m2)
    (N : News h₀ L h₁ [(SM, W.listOf (List.toArray ws) n), (PR, lst pv), (RW, lst rv), (L + 10, o1), (L + 9, o2), (L + 8, o3), (L + 7, o4), (L + 6, o5), (L + 4, o7), (L + 3, o8), (L + 2, o9), (107, tabObj #[])])
    (offS : Off1 SM [(PR, lst pv), (RW, lst rv), (L + 10, o1), (L + 9, o2), (L + 8, o3), (L + 7, o4), (L + 6, o5), (L + 4, o7), (L + 3, o8), (L + 2, o9), (107, tabObj #[])])
    (offP : Off1 PR [(RW, lst rv), (L + 10, o1), (L + 9, o2), (L + 8, o3), (L + 7, o4), (L + 6, o5), (L + 4, o7), (L + 3, o8), (L + 2, o9), (107, tabObj #[])])
    (offR : Off1 RW [(L + 10, o1), (L + 9, o2), (L + 8, o3), (L + 7, o4), (L + 6, o5), (L + 4, o7), (L + 3, o8), (L + 2, o9), (107, tabObj #[])])
    (hw : IntsAre ws (nInts (sumsN rs))) (hl : rs.length = 5)
    (d4 : o4.data = .cell none) (d5 : o5.data = .cell none) (d7 : o7.data = .cell (some (.ref SM)))
    (rest : ∀ PT TI tv pts q4 q5 h2 tk2, Fr h₀ L h2 m2 → News h₀ L h2 [(PT, lst pts), (TI, lst tv), (PR, lst pv), (RW, lst rv), (L + 10, o1), (L + 9, o2), (L + 8, o3), (L + 7, q4), (L + 6, q5), (L + 3, o8), (L + 2, o9), (107, tabObj #[])] →
      Off1 PT [(TI, lst tv), (PR, lst pv), (RW, lst rv), (L + 10, o1), (L + 9, o2), (L + 8, o3), (L + 7, q4), (L + 6, q5), (L + 3, o8), (L + 2, o9), (107, tabObj #[])] →
      Off1 TI [(PR, lst pv), (RW, lst rv), (L + 10, o1), (L + 9, o2), (L + 8, o3), (L + 7, q4), (L + 6, q5), (L + 3, o8), (L + 2, o9), (107, tabObj #[])] →
      q4.data = .cell (some (.ref PT)) → q5.data = .cell (some (.ref TI)) → IntsAre tv (nInts (tiesN rs)) → StrsAre pts ((tiesN rs).map pat) →
      wpAny (model prog w) (lawA L fa) (execs (lawRest 11) (lawEnv L fa)) Q (fun _ _ => False) { s with heap := h2, toks := tk2 }) :
    wpAny (model prog w) (lawA L fa) (execs ((lawBody.drop 9).take 2 ++ lawRest 11) (lawEnv L fa)) Q (fun _ _ => False) { s with heap := h₁, toks := tk } := by
  dsimp only [Off1] at offP offR offS
  obtain ⟨s0, s1, s2, s3, s4, s5, s6, s7, s8, s9, s10, -⟩ := offS
  obtain ⟨p0, p1, p2, p3, p4, p5, p6, p7, p8, p9, -⟩ := offP
  obtain ⟨r1, r2, r3, r4, r5, r6, r7, r8, r9, -⟩ := offR
  have hnl : (nInts (sumsN rs)).length = 32 := by simp [nInts, sumsN_len, hl]
  have hwl : ws.length = 32 := by rw [hw.length, hnl]
  k_steps
  refine Stop.mk (ListComp_T F rfl (by decide) rfl (by decide) rfl ?_)
  k_steps
  rename Fr _ _ _ _ => F1
  rename News _ _ _ _ => N1
  rename IsRange _ _ _ _ _ _ _ _ => R1
  refine Stop.mk (CompSrcT.range (n := 31) rfl F1 N1 R1 rfl rfl (by decide) fun g => ?_)
  clear R1
  refine compT (n := 31) (fun j ys => IntsAre ys (nInts ((List.range' 1 j).filter fun m => (sumsN rs).getD m 0 == 0))) trivial ?_ ?_ _ 0 [] (by simp) .nil
  · clear F1 N1
    intro j ys v J oJ C oC D m₃ h tk hj hR hP hN hx F5 N5
    obtain ⟨t, rfl⟩ := hP
    k_steps
    · exact fun _ _ e => e
    · rename ((nInts (sumsN rs)).getD _ 0 = 0) => hz
      rw [show ((1 : Int) + (j : Int)).toNat = 1 + j by omega, nInts_getD] at hz
      rw [show List.range' 1 (j + 1) = List.range' 1 j ++ [1 + j] by rw [List.range'_concat, Nat.one_mul], List.filter_append, nInts_app]
      refine intsApp hR ?_
      have hz' : ((sumsN rs).getD (1 + j) 0 == 0) = true := by rw [beq_iff_eq]; omega
      rw [filter_one (P := fun m => (sumsN rs).getD m 0 == 0) hz']
      refine intsCast (.cons _ t .nil) ?_
      simp [nInts]
    · exact fun _ _ e => e
    · rename ((nInts (sumsN rs)).getD _ 0 ≠ 0) => hz
      rw [show ((1 : Int) + (j : Int)).toNat = 1 + j by omega, nInts_getD] at hz
      rw [show List.range' 1 (j + 1) = List.range' 1 j ++ [1 + j] by rw [List.range'_concat, Nat.one_mul], List.filter_append]
      have hz' : ¬ ((sumsN rs).getD (1 + j) 0 == 0) = true := by rw [beq_iff_eq]; omega
      rw [filter_none (P := fun m => (sumsN rs).getD m 0 == 0) hz', List.append_nil]
      exact hR
  · intro ys hys
    clear F1 N1
    k_steps
    rename Fr _ _ _ _ => F1
    rename News _ _ _ _ => N1
    rename (_ ≠ _ ∧ _) => ofd
    rename (Obj.data _ = Data.cell (some _)) => dT
    have hyl : ys.length = (tiesN rs).length := by rw [hys.length]; simp [nInts, tiesN]
    have htl : (tiesN rs).length ≤ 31 := Nat.le_trans (List.length_filter_le _ _) (by simp)
    rename_i TI _ _ h7 o5'
    obtain ⟨a0, a1, a2, a3, a4, a5, a6, a7, a8, a9, a10, a11⟩ := ofd
    have N2 : News h₀ L h7 [(TI, lst ys), (PR, lst pv), (RW, lst rv), (L + 10, o1), (L + 9, o2), (L + 8, o3), (L + 7, o4), (L + 6, o5'), (L + 3, o8), (L + 2, o9), (107, tabObj #[])] := fun q hq => N1 q
      (subI (l' := [(TI, lst ys), (PR, lst pv), (RW, lst rv), (L + 10, o1), (L + 9, o2), (L + 8, o3), (L + 7, o4), (L + 6, o5'), (L + 3, o8), (L + 2, o9), (107, tabObj #[])]) [0, 2, 3, 4, 5, 6, 7, 8, 10, 11, 12] rfl q hq)
    clear N1 d7 s0 s1 s2 s3 s4 s5 s6 s7 s8 s9 s10 a0 a8
    refine Stop.mk (ListComp_U F1 rfl (by decide) rfl (by decide) rfl ?_)
    k_steps
    rename Fr _ _ _ _ => F3
    rename News _ _ _ _ => N3
    refine Stop.mk (CompSrc.ledger rfl F3 N3 (.head _) (by rw [sizeLine_eq]; simp; omega) fun g => ?_)
    clear F3 N3
    refine compU (n := ys.length) (fun j zs => StrsAre zs (((tiesN rs).take j).map pat)) ?_ ?_ ?_ _ 0 [] (by simp) .nil
    · exact .inr ⟨_, .head _, rfl, _, rfl⟩
    · intro j zs v J oJ C oC D m₃ h tk hj hR hP hN hx F5 N5
      have hP' : ys[j]? = some v := by simpa using hP
      obtain ⟨x, hx1, tx, rfl⟩ := nInts_item hys hP'
      have hxt : x ∈ tiesN rs := List.mem_of_getElem? hx1
      have hxb := (mem_ties hl).mp hxt
      have et : (tiesN rs).take (j + 1) = (tiesN rs).take j ++ [x] := by rw [List.take_add_one, show (tiesN rs)[j]? = some x from hx1]; rfl
      k_steps
      refine Stop.mk (lp (X.keeps F5.keep) (T.keeps F5.keep) (Nat.le_of_ble_eq_true rfl) rfl x tx hxb.1 hxb.2.1 fun t' h' tk' kp => ?_)
      refine ⟨⟨h', tk', rfl, kp⟩, ?_⟩
      rw [et, List.map_append]
      exact StrsAre.append' hR (.cons _ _ .nil)
    · intro zs hzs
      rw [hyl, List.take_length] at hzs
      k_steps
      rename Fr _ _ _ _ => F6
      rename News _ _ _ _ => N6
      rename (_ ≠ _ ∧ _) => ofd
      obtain ⟨b0, b1, b2, b3, b4, b5, b6, b7, b8, b9, b10⟩ := ofd
      exact rest _ _ _ _ _ _ _ _ F6 N6 ⟨b0, b1, b2, b3, b4, b5, b6, b7, b8, b9, b10, trivial⟩ ⟨a1, a2, a3, a4, a5, a6, a7, a9, a10, a11, trivial⟩ (by assumption) dT hys hzs
end
end Mine

-- part Lam
open PySem PySem.W PyProof.Rows PySem.Calls PySem.Spec PyProof.Rows.LCg PyProof.Rows.LCt
set_option Elab.async false
set_option maxRecDepth 100000
set_option maxHeartbeats 8000000
namespace Mine
section
variable {prog : Program} {w : World} {A : Around} {s : Shared} {K : Frag}
variable {p : Program} {loose : List Str} {mean : ExcName → Option Value} {mg mb : Str → Option Value} {h₀ h₁ : Heap} {L fa : Addr} {tk : Nat}
/-- an object that is the code of a lambda of law -/
def CodeOb (qual : Str) (o : Obj) : Prop := ∃ vs t, o.data = .fields vs ∧ vs[1]? = some (.str qual t)
def LamAt (pos : Pos) (qual : Str) (ps : Array Value) (k : Addr) (o : Obj) : Prop := codeAmong pos ps.toList = none ∨ (codeAmong pos ps.toList = some (.ref k) ∧ CodeOb qual o)
theorem among_other {pos : Pos} {a b : Int} {c : Value} (hne : ¬ (a = pos.line ∧ b = pos.col)) : ∀ (l : List Value), TriplesOk l → codeAmong pos (l ++ [rawInt a, rawInt b, c]) = codeAmong pos l
  | [], _ => by
    show codeAmong pos [.int a 0, .int b 0, c] = none
    simp only [codeAmong]
    rw [if_neg (by simpa using hne)]
  | .int x _ :: .int y _ :: v :: r, h => by
    show codeAmong pos (.int x _ :: .int y _ :: v :: (r ++ [rawInt a, rawInt b, c])) = _
    simp only [codeAmong]
    rw [among_other hne r h]
theorem evalLam {E : Value → Shared → Prop} {Q : Value → Shared → Prop} {params : Arguments} {body : PySem.Expr} {scope : Scope} {pos : Pos} {clos : List (Str × Addr)} {ps : Array Value} {k : Addr} {o : Obj} {m : Str → Option Value} {news : List (Addr × Obj)} {g : Obj → List (Addr × Obj)}
    (F : Fr h₀ L s.heap m) (N : News h₀ L s.heap news) (T : Top p loose mean mg mb h₀) (C : CodeHd h₀ 109 107) (U : UpdF 107 (tabObj ps) news g) (hk : (k, o) ∈ news) (ht : TriplesOk ps.toList)
    (la : LamAt pos ((lawEnv L fa).qual ++ "<lambda>") ps k o) (hcl : closureFor scope (lawEnv L fa) = pure clos) (hdef : defaultsOf params (lawEnv L fa) = ([], []))
    (h : ∀ f c' oc ps' ctv h' tk', Fr h₀ L h' m → News h₀ L h' ((f, kla_obj "<lambda>" ((lawEnv L fa).qual ++ "<lambda>") params body scope clos ((mg "__name__").getD .none) c' ctv) :: (c', oc) :: g (tabObj ps')) → CodeOb ((lawEnv L fa).qual ++ "<lambda>") oc →
      TriplesOk ps'.toList → codeAmong pos ps'.toList = some (.ref c') → (∀ pos' : Pos, ¬ (pos.line = pos'.line ∧ pos.col = pos'.col) → codeAmong pos' ps'.toList = codeAmong pos' ps.toList) → (∀ q ∈ news, q.1 < f) → (c' = k ∨ ∀ q ∈ news, q.1 < c') → Q (.ref f) { s with heap := h', toks := tk' }) :
    wpAny (model prog w) A (eval (.Lambda params body scope pos) (lawEnv L fa)) Q E s := by
  have hm := U.split
  obtain ⟨own, rest, e0, hgr, h1, h2⟩ := hm
  have hgn : g (tabObj ps) = news := by rw [hgr, e0]
  refine kla_eval hdef ?_
  rcases la with la | ⟨la, co⟩
  · refine kla_nest F N T C rfl U ht la hcl fun f c' oc vs t ctv h' tk' F' N' dv hv l1 l2 => ?_
    refine h f c' oc _ ctv h' tk' F' N' ⟨vs, t, dv, hv⟩ ?_ ?_ (fun pos' hne => ?_) (fun q hq => Nat.lt_trans (l1 q hq) l2) (.inr l1)
    · rw [Array.toList_append]; exact TriplesOk_snoc _ _ _ _ ht
    · rw [Array.toList_append]; exact codeAmong_snoc _ ht la
    · rw [Array.toList_append]; exact among_other (fun q => hne ⟨by exact_mod_cast q.1, by exact_mod_cast q.2⟩) _ ht
  · refine kla_hit F N T C rfl (by rw [e0]; exact List.mem_append_right _ (.head _)) ht la hcl fun f ctv h' tk' F' N' l1 => ?_
    refine h f k o ps ctv h' tk' F' (fun q hq => ?_) co ht la (fun _ _ => rfl) l1 (.inl rfl)
    rw [hgn] at hq
    rcases List.mem_cons.mp hq with rfl | hq
    · exact N' _ (.head _)
    · rcases List.mem_cons.mp hq with rfl | hq
      · exact N' _ (.tail _ hk)
      · exact N' _ (.tail _ hq)
/-- a call of a lambda; some objects are known -/
theorem enterL {E : Value → Shared → Prop} {Q : Value → Shared → Prop} {hb : Heap} {name qual : Str} {params : Arguments} {body : PySem.Expr} {scope : Scope} {cl : List (Str × Addr)} {pm ctv : Value} {c' f : Addr} {pos : List Value} {kw : List (Str × Value)} {binds : List (Str × Value)} {news : List (Addr × Obj)}
    (X : K.In hb) (T : Top p loose mean mg mb hb) (k₀ : Kp hb s.heap) (hn : ∀ q ∈ news, s.heap.get? q.1 = some q.2 ∧ hb.get? q.1 = none)
    (ho : s.heap.get? f = some (kla_obj name qual params body scope cl pm c' ctv)) (hcd : s.heap.CodeRec (.ref c') qual) (hroom : A.depth < recursionLimit)
    (hbind : bindArgs (kla_fn name qual params body scope cl pm (.ref c') ctv) ⟨pos, kw⟩ = pure binds) (hloc : ∀ y ∈ binds, scope.names.lookup y.1 = some .local)
    (h : ∀ g L h₁ tk, K.In g → Top p loose mean mg mb g → Fr g L h₁ (fun y => binds.reverse.lookup y) → News g L h₁ news → Kp s.heap h₁ → (∀ b o, s.heap.get? b = some o → b ∉ news.map (·.1) → g.get? b = some o) →
      wpAny (model prog w) (A.deeper (envX qual scope L f (.ref c') cl)) (eval body (envX qual scope L f (.ref c') cl)) Q (fun _ _ => False) { s with heap := h₁, toks := tk })
    (hco : scope.isCoroutine = false) (hgen : scope.isGenerator = false) (hk : scope.kind = .function) (hcell : ∀ x ∈ scope.names, x.2 ≠ .cell) : wpAny (model prog w) A (call (.ref f) pos kw) Q E s := by
  have st : ∀ b o, hb.get? b = some o → (hideAll s.heap (news.map (·.1))).get? b = some o := fun b o e => hideAll_get _ (k₀ b o e) (fun q => by
    obtain ⟨x, hx, rfl⟩ := List.mem_map.mp q
    rw [(hn x hx).2] at e; cases e)
  refine wpAny_call (kla_callFunE hroom ho rfl hco hgen rfl hcd ?_)
  rw [hbind]
  refine wpAny_pure (wpAny_newFunctionEnv hcell hloc (fun h₁ hns hsb => ⟨(T.nolimit.keeps k₀).fresh _ hsb, ?_⟩) hk)
  have hk₁ : ∀ b o, s.heap.get? b = some o → h₁.get? b = some o := fun b o e => hsb.extBut b o (Nat.ne_of_lt (Heap.lt_size e)) (Heap.get?_push_of_some _ e)
  refine kla_codeExpr (wpAny_mono (h (hideAll s.heap (news.map (·.1))) s.heap.objs.size h₁ _ (X.keeps st) (T.keeps st) ⟨hns, fun b o e => hk₁ b o (of_hideAll _ e), Nat.le_of_eq (hideAll_size _ _)⟩ (fun q hq => ?_) hk₁ (fun b o e hb => hideAll_get _ e hb)) (fun v s' hq => hq) fun _ _ x => x.elim)
  exact ⟨hk₁ _ _ (hn q hq).1, Nat.ne_of_lt (Heap.lt_size (hn q hq).1), hideAll_none _ (List.mem_map_of_mem hq)⟩
theorem codeOb_rec {h : Heap} {c : Addr} {q : Str} {o : Obj} (ho : h.get? c = some o) (x : CodeOb q o) : h.CodeRec (.ref c) q := let ⟨vs, t, a, b⟩ := x; ⟨c, o, vs, t, rfl, ho, a, b⟩
local macro_rules | `(tactic| walk_at "eval Name") => `(tactic| refine Stop.out ?_)
/-- the key by price -/
theorem lamKey {kf c c' PR : Addr} {oc occ : Obj} {pv : List Value} {ps : List Nat} {name qual : Str} {pm ctv : Value} {hb hs : Heap} {pa p1 p2 p3 : Pos}
    (X : Frag.In (hd.heap_39 w.params) hb) (T : Top p loose mean mg mb hb) (k₀ : Kp hb hs) (hc : hs.get? c = some oc ∧ hb.get? c = none) (hP : hs.get? PR = some (lst pv) ∧ hb.get? PR = none) (dc : oc.data = .cell (some (.ref PR)))
    (hf : hs.get? kf = some (kla_obj name qual { posonlyargs := [], args := [{ arg := "j", annotation := none, pos := pa }], vararg := none, kwonlyargs := [], kw_defaults := [], kwarg := none, defaults := [] } (.Subscript (.Name "prices" p1) (.Name "j" p2) p3)
      { kind := .function, names := [(Str.ofString "j", .local), (Str.ofString "prices", .free)], isGenerator := false, isCoroutine := false, more := [] } [(Str.ofString "prices", c)] pm c' ctv))
    (hcc : hs.get? c' = some occ) (hco : CodeOb qual occ) (hi : IntsAre pv (nInts ps)) (hl : ps.length = 5) : KeyFn prog w hs (.ref kf) ps := by
  intro A s Q E j t kp hA hdep hj ret
  obtain ⟨ah, dp, fr, gd, un⟩ := A
  dsimp only at hA hdep
  subst hA
  refine enterL (binds := [(Str.ofString "j", .int (j : Int) t)]) (news := [(c, oc), (PR, lst pv)]) X T (k₀.trans kp) ?_ (kp _ _ hf) (codeOb_rec (kp _ _ hcc) hco) (by dsimp only; omega) rfl (locs rfl) ?_ rfl rfl rfl (by decide)
  · intro q hq
    simp only [List.mem_cons, List.not_mem_nil, or_false] at hq
    rcases hq with rfl | rfl
    · exact ⟨kp _ _ hc.1, hc.2⟩
    · exact ⟨kp _ _ hP.1, hP.2⟩
  intro g L h₁ tk X' T' F N kp' _
  have hnl : (nInts ps).length = 5 := by simpa [nInts] using hl
  have hpl : pv.length = 5 := by rw [hi.length, hnl]
  clear X T k₀
  k_steps
  refine Stop.mk (nameX_F N rfl (.head _) dc ?_ rfl rfl)
  k_steps
  refine Stop.mk (nameX_L F rfl ?_)
  k_steps
  rw [Int.toNat_natCast, nInts_getD]
  exact ret _ _ _ kp'
end
end Mine

-- part Lam2
open PySem PySem.W PyProof.Rows PySem.Calls PySem.Spec PyProof.Rows.LCg PyProof.Rows.LCt
set_option Elab.async false
set_option maxRecDepth 100000
set_option maxHeartbeats 8000000
namespace Mine
section
variable {prog : Program} {w : World} {A : Around} {s : Shared} {K : Frag}
variable {p : Program} {loose : List Str} {mean : ExcName → Option Value} {mg mb : Str → Option Value} {h₀ h₁ : Heap} {L fa : Addr} {tk : Nat}
local macro_rules | `(tactic| walk_at "eval Name") => `(tactic| refine Stop.out ?_)
local macro_rules | `(tactic| walk_at "spliced") => `(tactic| refine Stop.out ?_)
/-- a value that, called upon j, answers a new tuple of two ints and keeps all -/
def TupFn (prog : Program) (w : World) (h₀ : Heap) (v : Value) (a b : Nat → Int) : Prop :=
  ∀ (A : Around) (s : Shared) (Q E : Value → Shared → Prop) (j : Nat) (t : Tok), Kp h₀ s.heap → A.handled = none → A.depth + 1 < recursionLimit → j < 5 →
    (∀ D t1 t2 n h' tk', Kp s.heap h' → s.heap.get? D = none → h'.get? D = some { cls := .type "tuple", data := .seq #[.int (a j) t1, .int (b j) t2] n } → Q (.ref D) { s with heap := h', toks := tk' }) → wpAny (model prog w) A (call v [.int (j : Int) t]) Q E s
theorem tupRet {s g h' : Heap} {L c PR D : Addr} {m : Str → Option Value} {oc od : Obj} {pv : List Value} {P : Prop} (hg : ∀ b o, s.get? b = some o → b ∉ [(c, oc), (PR, lst pv)].map (·.1) → g.get? b = some o) (F : Fr g L h' m) (N : News g L h' [(D, od), (c, oc), (PR, lst pv)])
    (hc : s.get? c = some oc) (hP : s.get? PR = some (lst pv)) (l1 : @LT.lt Nat _ c D) (l2 : @LT.lt Nat _ PR D) (h : Kp s h' → s.get? D = none → h'.get? D = some od → P) : P := by
  have hD := N _ (.head _)
  refine h (fun b o e => ?_) ?_ hD.1
  · by_cases q1 : b = c
    · subst q1; rw [hc] at e; cases e; exact (N _ (.tail _ (.head _))).1
    · by_cases q2 : b = PR
      · subst q2; rw [hP] at e; cases e; exact (N _ (.tail _ (.tail _ (.head _)))).1
      · exact F.keep b o (hg b o e (by simp [q1, q2]))
  · cases e : s.get? D with
    | none => rfl
    | some o =>
      have := hg D o e (by simp; exact ⟨Nat.ne_of_gt l1, Nat.ne_of_gt l2⟩)
      rw [hD.2.2] at this; cases this
theorem lamTup1 {kf c c' PR : Addr} {oc occ : Obj} {pv : List Value} {ps : List Nat} {name qual : Str} {pm ctv : Value} {hb hs : Heap} {pa p1 p2 p3 p4 p5 : Pos}
    (X : Frag.In (hd.heap_39 w.params) hb) (T : Top p loose mean mg mb hb) (k₀ : Kp hb hs) (hc : hs.get? c = some oc ∧ hb.get? c = none) (hP : hs.get? PR = some (lst pv) ∧ hb.get? PR = none) (dc : oc.data = .cell (some (.ref PR)))
    (hf : hs.get? kf = some (kla_obj name qual { posonlyargs := [], args := [{ arg := "j", annotation := none, pos := pa }], vararg := none, kwonlyargs := [], kw_defaults := [], kwarg := none, defaults := [] } (.Tuple [.Subscript (.Name "prices" p1) (.Name "j" p2) p3, .Name "j" p4] 0 p5)
      { kind := .function, names := [(Str.ofString "j", .local), (Str.ofString "prices", .free)], isGenerator := false, isCoroutine := false, more := [] } [(Str.ofString "prices", c)] pm c' ctv))
    (hcc : hs.get? c' = some occ) (hco : CodeOb qual occ) (hi : IntsAre pv (nInts ps)) (hl : ps.length = 5) : TupFn prog w hs (.ref kf) (fun j => ((ps.getD j 0 : Nat) : Int)) (fun j => (j : Int)) := by
  intro A s Q E j t kp hA hdep hj ret
  obtain ⟨ah, dp, fr, gd, un⟩ := A
  dsimp only at hA hdep
  subst hA
  have hX := k₀.trans kp
  have hF := kp _ _ hf
  have hR := codeOb_rec (kp _ _ hcc) hco
  refine enterL (binds := [(Str.ofString "j", .int (j : Int) t)]) (news := [(c, oc), (PR, lst pv)]) X T hX ?_ hF hR ?_ ?_ ?_ ?_ ?_ ?_ ?_ ?_
  · intro q hq
    simp only [List.mem_cons, List.not_mem_nil, or_false] at hq
    rcases hq with rfl | rfl
    · exact ⟨kp _ _ hc.1, hc.2⟩
    · exact ⟨kp _ _ hP.1, hP.2⟩
  · dsimp only; omega
  · rfl
  · exact locs rfl
  · intro g L h₁ tk X' T' F N kp' hg
    clear X T k₀ hX hF hR
    have hnl : (nInts ps).length = 5 := by simpa [nInts] using hl
    have hpl : pv.length = 5 := by rw [hi.length, hnl]
    refine Tuple_ ?_
    refine spliced_more ?_
    k_steps
    refine Stop.mk (nameX_F N rfl (.head _) dc ?_ rfl rfl)
    k_steps
    refine Stop.mk (nameX_L F rfl ?_)
    k_steps
    refine spliced_more ?_
    k_steps
    refine Stop.mk (nameX_L F rfl ?_)
    refine spliced_none ?_
    k_steps
    rename Fr _ _ _ _ => F2
    rename News _ _ _ _ => N2
    rename (_ < _ ∧ _) => l2
    refine tupRet (c := c) (PR := PR) hg F2 N2 (kp _ _ hc.1) (kp _ _ hP.1) l2.1 l2.2 fun kp2 hD hD' => ?_
    rw [Int.toNat_natCast, nInts_getD] at hD'
    exact ret _ _ _ _ _ _ kp2 hD hD'
  · rfl
  · rfl
  · rfl
  · decide
theorem lamTup2 {kf c c' PR : Addr} {oc occ : Obj} {pv : List Value} {ps : List Nat} {name qual : Str} {pm ctv : Value} {hb hs : Heap} {pa p1 p2 p3 p4 p5 p6 : Pos}
    (X : Frag.In (hd.heap_39 w.params) hb) (T : Top p loose mean mg mb hb) (k₀ : Kp hb hs) (hc : hs.get? c = some oc ∧ hb.get? c = none) (hP : hs.get? PR = some (lst pv) ∧ hb.get? PR = none) (dc : oc.data = .cell (some (.ref PR)))
    (hf : hs.get? kf = some (kla_obj name qual { posonlyargs := [], args := [{ arg := "j", annotation := none, pos := pa }], vararg := none, kwonlyargs := [], kw_defaults := [], kwarg := none, defaults := [] } (.Tuple [.Subscript (.Name "prices" p1) (.Name "j" p2) p3, .UnaryOp .USub (.Name "j" p4) p6] 0 p5)
      { kind := .function, names := [(Str.ofString "j", .local), (Str.ofString "prices", .free)], isGenerator := false, isCoroutine := false, more := [] } [(Str.ofString "prices", c)] pm c' ctv))
    (hcc : hs.get? c' = some occ) (hco : CodeOb qual occ) (hi : IntsAre pv (nInts ps)) (hl : ps.length = 5) : TupFn prog w hs (.ref kf) (fun j => ((ps.getD j 0 : Nat) : Int)) (fun j => -(j : Int)) := by
  intro A s Q E j t kp hA hdep hj ret
  obtain ⟨ah, dp, fr, gd, un⟩ := A
  dsimp only at hA hdep
  subst hA
  have hX := k₀.trans kp
  have hF := kp _ _ hf
  have hR := codeOb_rec (kp _ _ hcc) hco
  refine enterL (binds := [(Str.ofString "j", .int (j : Int) t)]) (news := [(c, oc), (PR, lst pv)]) X T hX ?_ hF hR ?_ ?_ ?_ ?_ ?_ ?_ ?_ ?_
  · intro q hq
    simp only [List.mem_cons, List.not_mem_nil, or_false] at hq
    rcases hq with rfl | rfl
    · exact ⟨kp _ _ hc.1, hc.2⟩
    · exact ⟨kp _ _ hP.1, hP.2⟩
  · dsimp only; omega
  · rfl
  · exact locs rfl
  · intro g L h₁ tk X' T' F N kp' hg
    clear X T k₀ hX hF hR
    have hnl : (nInts ps).length = 5 := by simpa [nInts] using hl
    have hpl : pv.length = 5 := by rw [hi.length, hnl]
    refine Tuple_ ?_
    refine spliced_more ?_
    k_steps
    refine Stop.mk (nameX_F N rfl (.head _) dc ?_ rfl rfl)
    k_steps
    refine Stop.mk (nameX_L F rfl ?_)
    k_steps
    refine spliced_more ?_
    k_steps
    refine Stop.mk (nameX_L F rfl ?_)
    k_steps
    refine spliced_none ?_
    k_steps
    rename Fr _ _ _ _ => F2
    rename News _ _ _ _ => N2
    rename (_ < _ ∧ _) => l2
    refine tupRet (c := c) (PR := PR) hg F2 N2 (kp _ _ hc.1) (kp _ _ hP.1) l2.1 l2.2 fun kp2 hD hD' => ?_
    rw [Int.toNat_natCast, nInts_getD] at hD'
    exact ret _ _ _ _ _ _ kp2 hD hD'
  · rfl
  · rfl
  · rfl
  · decide
end
end Mine

-- part Srt
open PySem PySem.W PyProof.Rows PySem.Calls PySem.Spec PyProof.Rows.LCg PyProof.Rows.LCt
set_option Elab.async false
set_option maxRecDepth 100000
set_option maxHeartbeats 8000000
namespace Mine
section
variable {prog : Program} {w : World} {A : Around} {s : Shared} {E : Value → Shared → Prop} {h₀ h₁ : Heap} {L fa : Addr} {tk : Nat} {m : Str → Option Value}
def kasRun {α : Type} (lt : Nat → Nat → Bool) : KasT α → Option α
  | .ret a => some a
  | .ask i j k => if i < 5 ∧ j < 5 then kasRun lt (k (lt i j)) else none
theorem kas_run {α : Type} {ask : Nat → Nat → (Bool → Shared → Prop) → Shared → Prop} {lt : Nat → Nat → Bool} {G : α → Shared → Prop} {s : Shared} (ha : ∀ i j C, i < 5 → j < 5 → C (lt i j) s → ask i j C s) :
    ∀ (t : KasT α) (a : α), kasRun lt t = some a → G a s → t.kasWp ask G s
  | .ret a, b, e, h => by
    have : a = b := by simpa [kasRun] using e
    subst this; exact h
  | .ask i j k, b, e, h => by
    rw [kasRun] at e
    split at e
    · rename_i c
      exact ha i j _ c.1 c.2 (kas_run ha (k (lt i j)) b e h)
    · cases e
def lt5 (b01 b02 b12 b03 b13 b23 b04 b14 b24 b34 : Bool) (i j : Nat) : Bool :=
  if i < j then [b01, b02, b12, b03, b13, b23, b04, b14, b24, b34].getD (j * (j - 1) / 2 + i) false
  else if j < i then !([b01, b02, b12, b03, b13, b23, b04, b14, b24, b34].getD (i * (i - 1) / 2 + j) false) else false
def five : List Nat := [0, 1, 2, 3, 4]
def transOk (lt : Nat → Nat → Bool) : Bool := five.all fun i => five.all fun j => five.all fun k => !(lt i j && lt j k) || lt i k
def sortedOk (lt : Nat → Nat → Bool) (p : List Nat) : Bool := p.length == 5 && five.all p.contains && p.all (· < 5) && decide (p.Pairwise fun i j => lt i j = true)
def sortCheck (lt : Nat → Nat → Bool) : Bool := !transOk lt || (match kasRun lt (kas_sort 5) with | some p => sortedOk lt p.toList | none => false)
theorem sort_check : ∀ b01 b02 b12 b03 b13 b23 b04 b14 b24 b34 : Bool, sortCheck (lt5 b01 b02 b12 b03 b13 b23 b04 b14 b24 b34) = true := by decide +kernel
theorem lt5_is {lt : Nat → Nat → Bool} (irr : ∀ i, lt i i = false) (tot : ∀ i j, i < j → j < 5 → lt j i = !lt i j) : ∀ i j, i < 5 → j < 5 →
    lt5 (lt 0 1) (lt 0 2) (lt 1 2) (lt 0 3) (lt 1 3) (lt 2 3) (lt 0 4) (lt 1 4) (lt 2 4) (lt 3 4) i j = lt i j := by
  intro i j hi hj
  have a1 := five_cases i hi
  have a2 := five_cases j hj
  rcases a1 with rfl | rfl | rfl | rfl | rfl <;> rcases a2 with rfl | rfl | rfl | rfl | rfl <;> first | rfl | exact (irr _).symm | exact (tot _ _ (by decide) (by decide)).symm
theorem sort_is {lt : Nat → Nat → Bool} (irr : ∀ i, lt i i = false) (tot : ∀ i j, i < j → j < 5 → lt j i = !lt i j) (tr : ∀ i j k, lt i j = true → lt j k = true → lt i k = true) :
    ∃ lt' : Nat → Nat → Bool, (∀ i j, i < 5 → j < 5 → lt' i j = lt i j) ∧ ∃ p, kasRun lt' (kas_sort 5) = some p ∧ Que (fun i j => lt i j = true) p.toList 5 := by
  have hl := lt5_is irr tot
  have hc := sort_check (lt 0 1) (lt 0 2) (lt 1 2) (lt 0 3) (lt 1 3) (lt 2 3) (lt 0 4) (lt 1 4) (lt 2 4) (lt 3 4)
  generalize lt5 (lt 0 1) (lt 0 2) (lt 1 2) (lt 0 3) (lt 1 3) (lt 2 3) (lt 0 4) (lt 1 4) (lt 2 4) (lt 3 4) = lt' at hl hc
  have f5 : ∀ i, i ∈ five → i < 5 := by decide
  have ht : transOk lt' = true := by
    simp only [transOk, List.all_eq_true, Bool.or_eq_true, Bool.not_eq_true', Bool.and_eq_false_iff]
    intro i hi j hj k hk
    rw [hl i j (f5 i hi) (f5 j hj), hl j k (f5 j hj) (f5 k hk), hl i k (f5 i hi) (f5 k hk)]
    cases c1 : lt i j with
    | false => exact .inl (.inl rfl)
    | true =>
      cases c2 : lt j k with
      | false => exact .inl (.inr rfl)
      | true => exact .inr (tr i j k c1 c2)
  refine ⟨lt', hl, ?_⟩
  rw [sortCheck, ht] at hc
  cases e : kasRun lt' (kas_sort 5) with
  | none => rw [e] at hc; simp at hc
  | some q =>
    rw [e] at hc
    have hc : sortedOk lt' q.toList = true := by simpa using hc
    refine ⟨q, rfl, ?_⟩
    simp only [sortedOk, Bool.and_eq_true, beq_iff_eq, List.all_eq_true, decide_eq_true_iff] at hc
    obtain ⟨⟨⟨h1, h2⟩, h3⟩, h4⟩ := hc
    refine ⟨fun k => ⟨h3 k, fun hk => ?_⟩, h1, ?_⟩
    · have hm : k ∈ five := by
        have := five_cases k hk
        rcases this with rfl | rfl | rfl | rfl | rfl <;> decide
      simpa using h2 k hm
    · exact List.Pairwise.imp_of_mem (fun {a b} ha hb hab => by rw [← hl a b (h3 a ha) (h3 b hb)]; exact hab) h4

theorem collect_range {r : Addr} {a b c : Int} {t u v : Tok} {n : Nat} {Q : List Value → Shared → Prop} (hh : A.handled = none) (hr : IsRange s.heap r a b c t u v) (hsmall : Builtin.Range.small a b c = true) (hn : Builtin.Range.rangeSize a b c = n) (hlen : n ≤ 2 ^ 24)
    (hQ : ∀ h' tk acc, (∀ b o, s.heap.get? b = some o → h'.get? b = some o) → ItemsOf (fun i v => ∃ t, v = .int (a + i * c) t) acc n → Q acc.toList { s with heap := h', toks := tk }) : wpAny (model prog w) A (collect (.ref r)) Q E s := by
  unfold collect
  refine wpAny_bind (wpAny_runValue (codeAny_builtin F.entry_proto_collect ?_))
  rw [Around.under_plainId F.plain_proto_collect _]
  show wpAny _ A.in1 (newList [] >>= fun l => again (.builtin "list.__iadd__" ⟨[l, .ref r], []⟩)) _ _ s
  refine wpAny_bind (wpAny_newObj_type ?_)
  refine wpAny_pure ⟨plainId_quiet F.plain_list_iadd _, codeAny_builtin F.entry_list_iadd ?_⟩
  rw [Around.under_plainId F.plain_list_iadd _]
  have hS₁ : (s.heap.push { cls := .type "list", data := .seq ([] : List Value).toArray }).get? s.heap.objs.size = some { cls := .type "list", data := .seq ([] : List Value).toArray } := Heap.get?_push_size _ rfl
  show wpAny _ A.in1 (Builtin.List.listExtendWith (.ref s.heap.objs.size) (.ref r) (.ref s.heap.objs.size)) _ _ _
  have fin : ∀ s' : Shared, (∃ h' tk acc c', s' = { s with heap := h', toks := tk } ∧ (∀ b o, s.heap.get? b = some o → h'.get? b = some o) ∧ h'.get? s.heap.objs.size = some { cls := .type "list", dict := none, data := .seq acc c', slots := #[] } ∧ ItemsOf (fun i v => ∃ t, v = .int (a + i * c) t) acc n) →
      wpAny (model prog w) A (load s.heap.objs.size >>= fun o => match o.data with | .seq xs _ => pure xs.toList | _ => unsupported "internal:collect") Q E s' := by
    rintro s' ⟨h', tk, acc, c', rfl, hk, hS, hI⟩
    refine wpAny_bind (wpAny_load hS ?_)
    exact wpAny_pure (hQ h' tk acc hk hI)
  refine wpAny_mono (wpAny_extend_range (R := fun r s' => r = .ok (.ret (.ref s.heap.objs.size)) ∧ ∃ h' tk acc c', s' = { s with heap := h', toks := tk } ∧ (∀ b o, s.heap.get? b = some o → h'.get? b = some o) ∧ h'.get? s.heap.objs.size = some { cls := .type "list", dict := none, data := .seq acc c', slots := #[] } ∧ ItemsOf (fun i v => ∃ t, v = .int (a + i * c) t) acc n)
    (s := { s with heap := s.heap.push { cls := .type "list", data := .seq ([] : List Value).toArray } }) hh (Heap.get?_push_of_some _ hr) hsmall hn hlen _ _ _ hS₁ fun h' tk acc' c' hk hS' hacc => ⟨rfl, h', tk, acc', c', rfl, fun b o e => hk b o (Nat.ne_of_lt (Heap.lt_size e)) (Heap.get?_push_of_some _ e), hS', hacc⟩) (fun fn s' h => ?_) fun e s' h => by cases h.1
  cases fn with
  | done f =>
    obtain ⟨e, h⟩ := h
    cases e
    exact fin s' h
  | again c' =>
    refine ⟨h.1, codeAny_mono h.2 fun r s'' hr => ?_⟩
    obtain ⟨e, h⟩ := hr
    subst e
    exact fin s'' h
/-- the tuples that the keys are -/
def TupsAre (a b : Nat → Int) (led : List (Addr × Obj)) (ks : List Value) (done : List Nat) : Prop :=
  ks.length = done.length ∧ ∀ (i : Nat) k j, ks[i]? = some k → done[i]? = some j → ∃ D t1 t2 n, k = .ref D ∧ (D, ({ cls := .type "tuple", data := .seq #[.int (a j) t1, .int (b j) t2] n } : Obj)) ∈ led
theorem TupsAre.snoc {a b : Nat → Int} {led : List (Addr × Obj)} {ks : List Value} {done : List Nat} {D : Addr} {j : Nat} {t1 t2 : Tok} {n : Nat} (h : TupsAre a b led ks done) :
    TupsAre a b ((D, { cls := .type "tuple", data := .seq #[.int (a j) t1, .int (b j) t2] n }) :: led) (ks ++ [.ref D]) (done ++ [j]) := by
  refine ⟨by rw [List.length_append, List.length_append, h.1]; rfl, fun i k j' hk hj => ?_⟩
  by_cases c : i < ks.length
  · rw [List.getElem?_append_left c] at hk
    rw [List.getElem?_append_left (h.1 ▸ c)] at hj
    obtain ⟨D', t1', t2', n', e, hm⟩ := h.2 i k j' hk hj
    exact ⟨D', t1', t2', n', e, .tail _ hm⟩
  · rw [List.getElem?_append_right (by omega)] at hk
    rw [List.getElem?_append_right (by have := h.1; omega)] at hj
    have e1 : i - ks.length = 0 := by
      by_cases c : i - ks.length = 0
      · exact c
      · rw [List.getElem?_eq_none (by simp; omega)] at hk; cases hk
    rw [e1] at hk
    rw [← h.1, e1] at hj
    have hk' : Value.ref D = k := by simpa using hk
    have hj' : j = j' := by simpa using hj
    subst hk' hj'
    exact ⟨D, t1, t2, n, rfl, .head _⟩
theorem katKeysT {kS D : Addr} {e1 : Nat} {f : Value} {a b : Nat → Int} {news : List (Addr × Obj)} {Fin : List Value → Nat → Shared → Prop} (hA : A.handled = none) (hdep : A.depth + 1 < recursionLimit)
    (hT : ∀ h', Fr h₀ L h' m → News h₀ L h' news → TupFn prog w h' f a b) :
    ∀ (js : List Nat) (vs ks : List Value) (done : List Nat) (led : List (Addr × Obj)) (e : Nat) (s : Shared), IntsAre vs (nInts js) → (∀ j ∈ js, j < 5) → Fr h₀ L s.heap m → News h₀ L s.heap ((kS, seqObj "list" (List.toArray ks) e) :: (D, seqObj "list" #[] e1) :: led) →
      (∀ q ∈ news, q ∈ led) → @Ne Nat D kS → (∀ q ∈ led, q.1 ≠ kS) → (∀ q ∈ led, q.1 ≠ D) → TupsAre a b led ks done →
      (∀ led' ks' e' h' tk', Fr h₀ L h' m → News h₀ L h' ((kS, seqObj "list" (List.toArray ks') e') :: (D, seqObj "list" #[] e1) :: led') → (∀ q ∈ news, q ∈ led') → (∀ q ∈ led', q.1 ≠ kS) → (∀ q ∈ led', q.1 ≠ D) → TupsAre a b led' ks' (done ++ js) → Fin ks' e' { s with heap := h', toks := tk' }) →
      KatKeys prog w A h₀ L m kS f Fin vs ks e s
  | [], vs, ks, done, led, e, s, hi, hj, F, N, hn, hDk, o1, o2, tt, fin => by
    cases hi
    exact KatKeys.nil (fin led ks e s.heap s.toks F N hn o1 o2 (by rw [List.append_nil]; exact tt))
  | j :: js, vs, ks, done, led, e, s, hi, hj, F, N, hn, hDk, o1, o2, tt, fin => by
    cases hi with
    | cons x t hi =>
    rename_i vs
    refine KatKeys.cons ?_
    refine hT s.heap F (fun q hq => N q (.tail _ (.tail _ (hn q hq)))) A s _ _ j t (Kp.refl _) hA hdep (hj j List.mem_cons_self) fun T t1 t2 n h' tk' kp hT0 hT1 => ?_
    have oS := N _ (.head _)
    have oD := N _ (.tail _ (.head _))
    have N1 := newsAdd kp F N hT0 hT1
    have nT : ∀ q ∈ (kS, seqObj "list" (List.toArray ks) e) :: (D, seqObj "list" #[] e1) :: led, q.1 ≠ T := fun q hq c => by
      have := (N q hq).1
      rw [c, hT0] at this; cases this
    have N2 : News h₀ L h' ((kS, seqObj "list" (List.toArray ks) e) :: (D, seqObj "list" #[] e1) :: (T, { cls := .type "tuple", data := .seq #[.int (a j) t1, .int (b j) t2] n }) :: led) := fun q hq => by
      rcases List.mem_cons.mp hq with rfl | hq
      · exact N1 _ (.tail _ (.head _))
      · rcases List.mem_cons.mp hq with rfl | hq
        · exact N1 _ (.tail _ (.tail _ (.head _)))
        · rcases List.mem_cons.mp hq with rfl | hq
          · exact N1 _ (.head _)
          · exact N1 _ (.tail _ (.tail _ (.tail _ hq)))
    have o1' : ∀ q ∈ (T, ({ cls := .type "tuple", data := .seq #[.int (a j) t1, .int (b j) t2] n } : Obj)) :: led, q.1 ≠ kS := fun q hq => by
      rcases List.mem_cons.mp hq with rfl | hq
      · exact (nT _ (.head _)).symm
      · exact o1 q hq
    have o2' : ∀ q ∈ (T, ({ cls := .type "tuple", data := .seq #[.int (a j) t1, .int (b j) t2] n } : Obj)) :: led, q.1 ≠ D := fun q hq => by
      rcases List.mem_cons.mp hq with rfl | hq
      · exact (nT _ (.tail _ (.head _))).symm
      · exact o2 q hq
    refine KatBack.intro (kp.fr F) N2 (UpdF.head fun q hq => ?_) fun h'' c F'' N'' => ?_
    · rcases List.mem_cons.mp hq with rfl | hq
      · exact hDk
      · exact o1' q hq
    refine katKeysT hA hdep hT js vs _ (done ++ [j]) _ c _ hi (fun i hi => hj i (List.mem_cons_of_mem _ hi)) F'' N'' (fun q hq => .tail _ (hn q hq)) hDk o1' o2' tt.snoc fun led' ks' e' h3 tk3 F3 N3 a1 a2 a3 a4 => ?_
    exact fin led' ks' e' h3 tk3 F3 N3 a1 a2 a3 (by simpa using a4)
theorem intsRange : ∀ (l : List Value) (k : Nat), (∀ (j : Nat) v, l[j]? = some v → ∃ t, v = .int ((k + j : Nat) : Int) t) → IntsAre l (nInts (List.range' k l.length))
  | [], _, _ => .nil
  | v :: l, k, h => by
    obtain ⟨t, e⟩ := h 0 v rfl
    subst e
    refine .cons _ t (intsRange l (k + 1) fun j v hv => ?_)
    obtain ⟨t, e⟩ := h (j + 1) v hv
    exact ⟨t, by rw [e]; congr 2; omega⟩
theorem tups_firsts {a b : Nat → Int} {h : Heap} {led : List (Addr × Obj)} (N : ∀ q ∈ led, h.get? q.1 = some q.2) : ∀ (ks : List Value) (done : List Nat), ks.length = done.length →
    (∀ (i : Nat) k j, ks[i]? = some k → done[i]? = some j → ∃ D t1 t2 n, k = .ref D ∧ (D, ({ cls := .type "tuple", data := .seq #[.int (a j) t1, .int (b j) t2] n } : Obj)) ∈ led) →
    ∃ fs, KatTups h ks fs ∧ fs.length = ks.length ∧ ∀ v ∈ fs, ∃ x t, v = .int x t
  | [], _, _, _ => ⟨[], .nil, rfl, by simp⟩
  | k :: ks, [], e, _ => by simp at e
  | k :: ks, j :: done, e, hp => by
    obtain ⟨D, t1, t2, n, e1, hm⟩ := hp 0 k j rfl rfl
    subst e1
    obtain ⟨fs, a1, a2, a3⟩ := tups_firsts N ks done (by simpa using e) fun i k j hk hj => hp (i + 1) k j hk hj
    refine ⟨.int (a j) t1 :: fs, .cons (N _ hm) rfl rfl rfl a1, by simp [a2], fun v hv => ?_⟩
    rcases List.mem_cons.mp hv with rfl | hv
    · exact ⟨_, _, rfl⟩
    · exact a3 v hv
def lexLt (a b : Nat → Int) (i j : Nat) : Bool := decide (a i < a j ∨ (a i = a j ∧ b i < b j))
theorem cmpT {x y : Addr} {x1 x2 y1 y2 : Int} {t1 t2 u1 u2 : Tok} {n k : Nat} {C : Bool → Shared → Prop} (hx : s.heap.get? x = some { cls := .type "tuple", data := .seq #[.int x1 t1, .int x2 t2] n }) (hy : s.heap.get? y = some { cls := .type "tuple", data := .seq #[.int y1 u1, .int y2 u2] k })
    (h : C (decide (x1 < y1 ∨ (x1 = y1 ∧ x2 < y2))) s) : wpAny (model prog w) A (keyLt' (tuples' true) (.ref x) (.ref y)) C E s := by
  refine kat_lt hx rfl hy rfl ?_
  show KatLex prog w A true false C [(.int x1 t1, .int y1 u1), (.int x2 t2, .int y2 u2)] 0 s
  refine kat_cons (wpAny_eqBool_int ?_)
  by_cases c1 : x1 = y1
  · have e1 : (x1 == y1) = true := by simpa using c1
    rw [e1]
    refine kat_yes (kat_cons (wpAny_eqBool_int ?_))
    by_cases c2 : x2 = y2
    · have e2 : (x2 == y2) = true := by simpa using c2
      rw [e2]
      refine kat_yes (kat_nil ?_)
      have : decide (x1 < y1 ∨ (x1 = y1 ∧ x2 < y2)) = false := decide_eq_false (by omega)
      rwa [this] at h
    · have e2 : (x2 == y2) = false := by simpa using c2
      rw [e2]
      refine kat_no ?_
      show wpAny (model prog w) A (oneLt' false (.int x2 t2) (.int y2 u2)) C _ s
      refine kat_one _ _ (lt_int ?_)
      have : decide (x1 < y1 ∨ (x1 = y1 ∧ x2 < y2)) = decide (x2 < y2) := decide_eq_decide.mpr (by omega)
      rwa [this] at h
  · have e1 : (x1 == y1) = false := by simpa using c1
    rw [e1]
    refine kat_no ?_
    show wpAny (model prog w) A (oneLt' true (.int x1 t1) (.int y1 u1)) C _ s
    refine oneLt_int ?_
    have : decide (x1 < y1 ∨ (x1 = y1 ∧ x2 < y2)) = decide (x1 < y1) := decide_eq_decide.mpr (by omega)
    rwa [this] at h
theorem pickInts {vs : List Value} (hi : IntsAre vs (nInts [0, 1, 2, 3, 4])) : ∀ (p : List Nat), (∀ i ∈ p, i < 5) → IntsAre (p.map fun i => vs.getD i Value.none) (nInts p)
  | [], _ => .nil
  | i :: p, h => by
    have h5 := h i List.mem_cons_self
    have hl : vs.length = 5 := hi.length
    obtain ⟨r, hr, t, e⟩ := nInts_item hi (List.getElem?_eq_getElem (show i < vs.length by omega))
    have hr' : r = i := by
      have : ∀ i, i < 5 → ([0, 1, 2, 3, 4] : List Nat)[i]? = some i := by decide
      rw [this i h5] at hr
      exact (Option.some.inj hr).symm
    subst hr'
    have e2 : vs.getD r Value.none = .int (r : Int) t := by rw [List.getD_eq_getElem?_getD, List.getElem?_eq_getElem (show r < vs.length by omega), e]; rfl
    rw [List.map_cons, e2]
    exact .cons _ _ (pickInts hi p fun i hi => h i (List.mem_cons_of_mem _ hi))
theorem sortedT {r kf : Addr} {a b : Nat → Int} {t u v : Tok} {news : List (Addr × Obj)} {Q : Value → Shared → Prop} (F : Fr h₀ L s.heap m) (N : News h₀ L s.heap news) (hh : A.handled = none) (hdep : A.depth + 1 < recursionLimit) (hr : IsRange s.heap r 0 5 1 t u v)
    (hT : ∀ h', Fr h₀ L h' m → News h₀ L h' news → TupFn prog w h' (.ref kf) a b) (inj : ∀ i j, i < j → j < 5 → a i = a j → b i ≠ b j)
    (ret : ∀ D out p c h' tk', Fr h₀ L h' m → News h₀ L h' ((D, listOf (List.toArray out) c) :: news) → (∀ q ∈ news, q.1 ≠ D) → IntsAre out (nInts p) → Que (fun i j => lexLt a b i j = true) p 5 → Q (.ref D) { s with heap := h', toks := tk' }) :
    wpAny (model prog w) A (call (.builtin "sorted") [.ref r] [(Str.ofString "key", .ref kf)]) Q E s := by
  obtain ⟨lt', hlt, p, hp, hq⟩ := sort_is (lt := lexLt a b) (fun i => decide_eq_false (by omega)) (fun i j h1 h2 => by
      have := inj i j h1 h2
      unfold lexLt
      rw [← decide_not]
      refine decide_eq_decide.mpr ?_
      by_cases c : a i = a j
      · have := this c
        rw [c]; simp only [Int.lt_irrefl, false_or, true_and]; omega
      · have c' : ¬ a j = a i := fun e => c e.symm
        simp only [c, c', false_and, or_false]; omega) (fun i j k h1 h2 => by
      simp only [lexLt, decide_eq_true_iff] at h1 h2 ⊢
      rcases h1 with h1 | ⟨h1, h1'⟩ <;> rcases h2 with h2 | ⟨h2, h2'⟩
      · exact .inl (Int.lt_trans h1 h2)
      · exact .inl (h2 ▸ h1)
      · exact .inl (h1.symm ▸ h2)
      · exact .inr ⟨h1.trans h2, Int.lt_trans h1' h2'⟩)
  refine call_function_entry_kw kind_sorted plain_sorted entry_sorted (ksk_s1 _ _) ?_
  unfold Builtin.«sorted»
  refine wpAny_bind (m := checkCount "sorted" 1 1 _) (wpAny_pure ?_)
  refine wpAny_bind (collect_range (n := 5) hh hr rfl rfl (by decide) fun h1 tk1 acc k1 hI => ?_)
  have hl5 : acc.toList.length = 5 := by have := hI.1; simpa using this
  have hi : IntsAre acc.toList (nInts [0, 1, 2, 3, 4]) := by
    have := intsRange acc.toList 0 fun j v hv => by
      obtain ⟨t, e⟩ := hI.2 j v (by simpa using hv)
      exact ⟨t, by rw [e]; congr 1; omega⟩
    rwa [hl5] at this
  generalize acc.toList = vs at hl5 hi
  clear hI
  refine wpAny_bind (wpAny_newList ?_ (by rw [sizeLine_eq]; omega))
  have hoL : (h1.push (seqObj "list" vs.toArray 0)).get? h1.objs.size = some (seqObj "list" vs.toArray 0) := Heap.get?_push_size _ rfl
  have keep : ∀ b o, s.heap.get? b = some o → (h1.push (seqObj "list" vs.toArray 0)).get? b = some o := fun b o q => Heap.get?_push_of_some _ (k1 b o q)
  have hL : L < h1.objs.size := Heap.lt_size (k1 _ _ (F.ns.choose_spec.choose_spec.choose_spec.1))
  refine wpAny_bind (wpAny_holding (wpAny_call_entry_kw slot_list_sort ⟨_, hoL, rfl⟩ entry_list_sort ?body (ksk_l1 _ _)))
  case body =>
    show wpAny (model prog w) A.in1.in1 (Builtin.«list.sort» ⟨[.ref h1.objs.size], [(Str.ofString "key", .ref kf)]⟩) _ _ _
    rw [ksk_t1]
    refine kat_keyed (s := { s with heap := h1.push (seqObj "list" vs.toArray 0), toks := tk1 }) (F.kept keep) (N.grown keep) hoL (Nat.ne_of_gt hL) (Heap.get?_none_of_le (Nat.le_trans F.above (Nat.le_of_lt hL)))
      (fun p hp => Nat.ne_of_lt (Heap.lt_size (k1 _ _ (N p hp).1))) (by omega) (by omega) fun kS e1 h' F' N' l0 l1 => ?_
    refine katKeysT (A := A.in1.in1) hh hdep hT [0, 1, 2, 3, 4] vs [] [] news 0 { s with heap := h', toks := tk1 } hi (by decide) F' N' (fun q hq => hq) (Nat.ne_of_lt l0) (fun q hq => Nat.ne_of_lt (l1 q hq)) (fun q hq => Nat.ne_of_lt (Heap.lt_size (k1 _ _ (N q hq).1))) ⟨rfl, by simp⟩ fun led ks e h2 tk2 F2 N2 s1 s2 s3 tt => ?_
    have hd : ∀ i, i < 5 → ([] ++ [0, 1, 2, 3, 4] : List Nat)[i]? = some i := by decide
    have hkl : ks.length = 5 := tt.1
    obtain ⟨fs, ft, fl, fi⟩ := tups_firsts (fun q hq => (N2 q (.tail _ (.tail _ hq))).1) ks _ tt.1 tt.2
    refine kat_kind (T := .type "int") ft (by rw [fl, hkl]; decide) (fun v hv => ?_) rfl ?_
    · obtain ⟨x, t, rfl⟩ := fi v hv
      kas_ty
    rw [hl5, show (Value.type "int" != Value.type "tuple") = true by rfl]
    refine kas_run (lt := lt') (fun i j C hi hj hC => ?_) _ p hp ?_
    · have at5 : ∀ i, i < 5 → ∃ D t1 t2 n, ks.getD i Value.none = .ref D ∧ h2.get? D = some { cls := .type "tuple", data := .seq #[.int (a i) t1, .int (b i) t2] n } := fun i hi => by
        obtain ⟨D, t1, t2, n, e1, hm⟩ := tt.2 i ks[i] i (List.getElem?_eq_getElem _) (hd i hi)
        exact ⟨D, t1, t2, n, by rw [List.getD_eq_getElem?_getD, List.getElem?_eq_getElem (by omega), e1]; rfl, (N2 _ (.tail _ (.tail _ hm))).1⟩
      obtain ⟨D1, t1, t2, n1, e1, g1⟩ := at5 i hi
      obtain ⟨D2, u1, u2, n2, e2, g2⟩ := at5 j hj
      show wpAny (model prog w) A.in1.in1 (keyLt' (tuples' true) (ks.getD i Value.none) (ks.getD j Value.none)) C _ _
      rw [e1, e2]
      refine cmpT g1 g2 ?_
      rw [hlt i j hi hj] at hC
      exact hC
    · have hDk : @Ne Nat h1.objs.size kS := Nat.ne_of_lt l0
      refine KatFin.intro F2 N2 (UpdF.head fun q hq => ?_) fun h3 c F3 N3 => ?_
      · rcases List.mem_cons.mp hq with rfl | hq
        · exact hDk
        · exact s2 q hq
      refine KasFin.intro F3 N3 (UpdF.tail hDk.symm (UpdF.head s3)) fun h4 c4 F4 N4 => ?_
      refine ⟨_, rfl, wpAny_pure ⟨_, rfl, ?_⟩⟩
      refine ret h1.objs.size (p.toList.map fun i => vs.getD i Value.none) p.toList c4 _ _ F4 (fun q hq => N4 q ?_) (fun q hq => Nat.ne_of_lt (Heap.lt_size (k1 _ _ (N q hq).1))) (pickInts hi p.toList fun i h => (hq.mem i).mp h) hq
      rcases List.mem_cons.mp hq with rfl | hq
      · exact .tail _ (.head _)
      · exact .tail _ (.tail _ (s1 q hq))
end
end Mine

-- part Law11
open PySem PySem.W PyProof.Rows PySem.Calls PySem.Spec PyProof.Rows.LCg PyProof.Rows.LCt
set_option Elab.async false
set_option maxRecDepth 100000
set_option maxHeartbeats 8000000
namespace Mine
section
variable {prog : Program} {w : World} {s : Shared} {Q : Flow → Shared → Prop}
variable {p : Program} {loose : List Str} {mean : ExcName → Option Value} {mg mb : Str → Option Value} {h₀ h₁ : Heap} {L fa : Addr} {tk : Nat}
local macro_rules | `(tactic| walk_at "call ref") => `(tactic| refine Stop.out ?_)
local macro_rules | `(tactic| walk_at "eval Lambda") => `(tactic| refine Stop.out ?_)
local macro_rules | `(tactic| walk_at "exec For") => `(tactic| refine Stop.out ?_)
local macro_rules | `(tactic| walk_at "exec For Name Call cons nil") => `(tactic| refine Stop.out ?_)
theorem afterU {h h' : Heap} {m : Str → Option Value} {a : Addr} {o o' : Obj} {news : List (Addr × Obj)} {g : Obj → List (Addr × Obj)} (F : Fr h₀ L h m) (N : News h₀ L h news) (U : UpdF a o news g)
    (kp : ∀ b o, b ≠ a → h.get? b = some o → h'.get? b = some o) (ha : h'.get? a = some o') : Fr h₀ L h' m ∧ News h₀ L h' (g o') := by
  obtain ⟨pre, post, rfl, hg, x1, x2⟩ := U.split
  have hm := N (a, o) (List.mem_append_right _ (.head _))
  have kp' : ∀ b o, b ∉ [a] → h.get? b = some o → h'.get? b = some o := fun b o hb e => kp b o (by simpa using hb) e
  refine ⟨fr_but F kp' hm.2.1.symm hm.2.2, ?_⟩
  rw [hg]
  intro q hq
  rcases List.mem_append.mp hq with hq | hq
  · exact ⟨kp _ _ (x1 q hq) (N q (List.mem_append_left _ hq)).1, (N q (List.mem_append_left _ hq)).2⟩
  · rcases List.mem_cons.mp hq with rfl | hq
    · exact ⟨ha, hm.2⟩
    · exact ⟨kp _ _ (x2 q hq) (N q (List.mem_append_right _ (.tail _ hq))).1, (N q (List.mem_append_right _ (.tail _ hq))).2⟩
abbrev pos1 : Pos := ⟨155, 37, 155, 56⟩
abbrev pos2 : Pos := ⟨156, 37, 156, 56⟩
abbrev lamQ : Str := ((Str.ofString "law" ++ ".<locals>.") ++ "<lambda>")
def J13 (L FW BW : Addr) (ps : List Nat) (fix : Obj → Obj → List (Addr × Obj)) (i : Nat) (m : Str → Option Value) (news : List (Addr × Obj)) : Prop :=
  ∃ fv nf bv nb k1 c1 k2 c2 o9 tab vk fl bl, m (Str.ofString "forward") = some (.ref FW) ∧ m (Str.ofString "backward") = some (.ref BW) ∧
    news = (BW, W.listOf (List.toArray bv) nb) :: (FW, W.listOf (List.toArray fv) nf) :: (k1, c1) :: (k2, c2) :: fix o9 (tabObj tab) ∧ o9.data = .cell vk ∧
    IntsAre fv (nInts fl) ∧ Que (Fo ps) fl i ∧ IntsAre bv (nInts bl) ∧ Que (Ba ps) bl i ∧ TriplesOk tab.toList ∧ LamAt pos1 lamQ tab k1 c1 ∧ LamAt pos2 lamQ tab k2 c2 ∧
    (∀ q : Pos, 156 < q.line → codeAmong q tab.toList = none) ∧ @Ne Nat k1 BW ∧ @Ne Nat k1 FW ∧ @Ne Nat k1 (L + 2) ∧ @Ne Nat k1 107 ∧ @Ne Nat k2 BW ∧ @Ne Nat k2 FW ∧ @Ne Nat k2 (L + 2) ∧ @Ne Nat k2 107
theorem seg11 {PT TI PR RW : Addr} {pts tv pv rv : List Value} {ps : List Nat} {m2 : Str → Option Value} {o1 o2 o3 o4 o5 o8 o9 : Obj}
    (X : Frag.In (hd.heap_39 w.params) h₀) (T : Top p loose mean mg mb h₀) (C : CodeHd h₀ 109 107) (h107 : @LT.lt Nat _ 107 L)
    (F : Fr h₀ L h₁ m2)
    (N : News h₀ L h₁ [(PT, lst pts), (TI, lst tv), (PR, lst pv), (RW, lst rv), (L + 10, o1), (L + 9, o2), (L + 8, o3), (L + 7, o4), (L + 6, o5), (L + 3, o8), (L + 2, o9), (107, tabObj #[])])
    (offPT : Off1 PT [(L + 2, o9), (107, tabObj #[])]) (offTI : Off1 TI [(L + 2, o9), (107, tabObj #[])]) (offPR : Off1 PR [(L + 2, o9), (107, tabObj #[])]) (offRW : Off1 RW [(L + 2, o9), (107, tabObj #[])])
    (hi : IntsAre pv (nInts ps)) (hl : ps.length = 5) (d1 : o1.data = .cell (some (.ref PR))) (d9 : o9.data = .cell none)
    (rest : ∀ FW BW fv nf bv nb fl bl o9 vk tab h2 tk2 m', Fr h₀ L h2 m' → m' (Str.ofString "forward") = some (.ref FW) → m' (Str.ofString "backward") = some (.ref BW) → News h₀ L h2 [(BW, W.listOf (List.toArray bv) nb), (FW, W.listOf (List.toArray fv) nf), (PT, lst pts), (TI, lst tv), (PR, lst pv), (RW, lst rv), (L + 10, o1), (L + 9, o2), (L + 8, o3), (L + 7, o4), (L + 6, o5), (L + 3, o8), (L + 2, o9), (107, tabObj tab)] →
      Off1 FW [(L + 9, o2), (L + 8, o3), (L + 2, o9), (107, tabObj tab)] → Off1 BW [(L + 9, o2), (L + 8, o3), (L + 2, o9), (107, tabObj tab)] → o9.data = .cell vk → IntsAre fv (nInts fl) → Que (Fo ps) fl 5 → IntsAre bv (nInts bl) → Que (Ba ps) bl 5 →
      TriplesOk tab.toList → (∀ q : Pos, 156 < q.line → codeAmong q tab.toList = none) → wpAny (model prog w) (lawA L fa) (execs (lawRest 14) (lawEnv L fa)) Q (fun _ _ => False) { s with heap := h2, toks := tk2 }) :
    wpAny (model prog w) (lawA L fa) (execs ((lawBody.drop 11).take 3 ++ lawRest 14) (lawEnv L fa)) Q (fun _ _ => False) { s with heap := h₁, toks := tk } := by
  dsimp only [Off1] at offPT offTI offPR offRW
  obtain ⟨t1, t2, -⟩ := offPT
  obtain ⟨u1, u2, -⟩ := offTI
  obtain ⟨p1, p2, -⟩ := offPR
  obtain ⟨r1, r2, -⟩ := offRW
  k_steps
  refine Stop.mk (for_range (by k_asm) ?_)
  k_steps
  rename Fr _ _ _ _ => F1
  rename News _ _ _ _ => N1
  rename IsRange _ _ _ _ _ _ _ _ => R1
  rename_i FW _ lf _ BW _ lb _ _ _ _ _ _ _ _ _
  obtain ⟨f1, f2, f3, f4, f5, f6, f7, f8, f9, f10, f11, f12⟩ := lf
  obtain ⟨g0, g1, g2, g3, g4, g5, g6, g7, g8, g9, g10, g11, g12⟩ := lb
  refine ⟨_, _, _, _, _, _, 5, _, _, J13 L FW BW ps (fun o9 tb => [(PT, lst pts), (TI, lst tv), (PR, lst pv), (RW, lst rv), (L + 10, o1), (L + 9, o2), (L + 8, o3), (L + 7, o4), (L + 6, o5), (L + 3, o8), (L + 2, o9), (107, tb)]), rfl, rfl, F1,
    (fun q hq => N1 q (subI (l' := [(BW, W.listOf (List.toArray []) 0), (FW, W.listOf (List.toArray []) 0), (PR, lst pv), (PR, lst pv), (PT, lst pts), (TI, lst tv), (PR, lst pv), (RW, lst rv), (L + 10, o1), (L + 9, o2), (L + 8, o3), (L + 7, o4), (L + 6, o5), (L + 3, o8), (L + 2, o9), (107, tabObj #[])]) [0, 1, 4, 4, 2, 3, 4, 5, 6, 7, 8, 9, 10, 11, 12, 13] rfl q hq)), R1, rfl, rfl, ?_, ?_, ?_⟩
  · exact ⟨[], 0, [], 0, PR, lst pv, PR, lst pv, o9, #[], _, [], [], rfl, rfl, rfl, d9, .nil, .nil, .nil, .nil, trivial, .inl rfl, .inl rfl, fun _ _ => rfl, Nat.ne_of_lt g3, Nat.ne_of_lt f3, p1.symm, p2.symm, Nat.ne_of_lt g3, Nat.ne_of_lt f3, p1.symm, p2.symm⟩
  · clear F1 N1 R1
    rintro I i tv' m₁ news₁ h tk oI hlt hi' hJ hne F2 N2
    generalize hTE : TurnEnd _ _ _ _ _ _ _ = TE
    obtain ⟨fv, nf, bv, nb, k1, c1, k2, c2, o9', tab, vk, fl, bl, e1, e2, rfl, e3, hfv, qf, hbv, qb, htr, la1, la2, hno, a1, a2, a3, a4, b1, b2, b3, b4⟩ := hJ
    have F3 := frKnow2 F2 e1 e2
    clear F2
    have hne' := off1_ne hne
    dsimp only [Off1] at hne'
    obtain ⟨n0, n1, n2, n3, n4, n5, n6, n7, n8, n9, n10, n11, n12, n13, n14, n15, -⟩ := hne'
    rw [Int.zero_add]
    k_steps
    rename Fr _ _ _ _ => F4
    rename News _ _ _ _ => N4
    rename (Obj.data _ = Data.cell (some (Value.int _ _))) => dk
    rename_i h4 o9k
    replace N4 : News h₀ L h4 [(I, oI), (BW, W.listOf (List.toArray bv) nb), (FW, W.listOf (List.toArray fv) nf), (k1, c1), (k2, c2), (PT, lst pts), (TI, lst tv), (PR, lst pv), (RW, lst rv), (L + 10, o1), (L + 9, o2), (L + 8, o3), (L + 7, o4), (L + 6, o5), (L + 3, o8), (L + 2, o9k), (107, tabObj tab)] := N4
    refine Stop.mk (evalLam F4 N4 T C (by k_updF) (k := k1) (o := c1) (by k_mem) htr la1 rfl rfl fun kf c' oc tab' ctv h5 tk5 F5 N5 co tr' am' oth lf' lc' => ?_)
    have hc' : @Ne Nat c' BW ∧ @Ne Nat c' FW ∧ @Ne Nat c' (L + 2) ∧ @Ne Nat c' 107 ∧ @Ne Nat c' I := by
      rcases lc' with rfl | lc
      · exact ⟨a1, a2, a3, a4, n2⟩
      · exact ⟨Nat.ne_of_gt (lc (BW, _) (by k_mem)), Nat.ne_of_gt (lc (FW, _) (by k_mem)), Nat.ne_of_gt (lc (L + 2, _) (by k_mem)), Nat.ne_of_gt (lc (107, _) (by k_mem)), Nat.ne_of_gt (lc (I, _) (.head _))⟩
    have kfF : @LT.lt Nat _ FW kf := lf' (FW, _) (by k_mem)
    have kf7 : @LT.lt Nat _ 107 kf := lf' (107, _) (by k_mem)
    obtain ⟨c'B, c'F, c'2, c'7, c'I⟩ := hc'
    clear lf' lc' F4 N4
    have la2' : LamAt pos2 lamQ tab' k2 c2 := by
      unfold LamAt at la2 ⊢
      rw [oth pos2 (by decide)]; exact la2
    have hno' : ∀ q : Pos, 156 < q.line → codeAmong q tab'.toList = none := fun q hq => by rw [oth q (fun e => by have := e.1; dsimp only at this; omega)]; exact hno q hq
    k_steps
    generalize hlam : kla_obj _ _ _ _ _ _ _ _ _ = lam1 at N5
    replace N5 : News h₀ L h5 [(kf, lam1), (c', oc), (I, oI), (BW, W.listOf (List.toArray bv) nb), (FW, W.listOf (List.toArray fv) nf), (k2, c2), (PT, lst pts), (TI, lst tv), (PR, lst pv), (RW, lst rv), (L + 10, o1), (L + 9, o2), (L + 8, o3), (L + 7, o4), (L + 6, o5), (L + 3, o8), (L + 2, o9k), (107, tabObj tab')] := fun q hq => N5 q (subI (l' := [(kf, lam1), (c', oc), (I, oI), (BW, W.listOf (List.toArray bv) nb), (FW, W.listOf (List.toArray fv) nf), (k2, c2), (PT, lst pts), (TI, lst tv), (PR, lst pv), (RW, lst rv), (L + 10, o1), (L + 9, o2), (L + 8, o3), (L + 7, o4), (L + 6, o5), (L + 3, o8), (L + 2, o9k), (107, tabObj tab')]) [0, 1, 2, 3, 4, 6, 7, 8, 9, 10, 11, 12, 13, 14, 15, 16, 17, 18] rfl q hq)
    have oFW := N5 (FW, _) (by k_mem)
    have kk := lamKey (prog := prog) (w := w) X T F5.keep ⟨(N5 (L + 10, o1) (by k_mem)).1, (N5 (L + 10, o1) (by k_mem)).2.2⟩ ⟨(N5 (PR, lst pv) (by k_mem)).1, (N5 (PR, lst pv) (by k_mem)).2.2⟩ d1 (hlam ▸ (N5 (kf, lam1) (.head _)).1) (N5 (c', oc) (.tail _ (.head _))).1 co hi hl
    have fk : FnAt kf h5 := FnAt.of N5 (by rw [← hlam]; exact .head _)
    refine Stop.mk (insR (s := { s with heap := h5, toks := tk5 }) (ps := ps) X T (Nat.le_of_ble_eq_true rfl) rfl F5.keep FW kf fv nf fl i tv' oFW.2.2 oFW.1 hfv (fun j hj => by have := (qf.mem j).mp hj; omega) (by omega) kk fk (by rw [qf.len]; omega) (qf.sorted Fo.le) fun fv' nf' h6 tk6 kp6 hF6 hi6 => ?_)
    obtain ⟨F6, N6⟩ := afterU F5 N5 (by k_updF) kp6 hF6
    clear F5 N5 kk fk oFW kp6 hF6
    clear hlam
    replace N6 : News h₀ L h6 [(c', oc), (I, oI), (BW, W.listOf (List.toArray bv) nb), (FW, W.listOf (List.toArray fv') nf'), (k2, c2), (PT, lst pts), (TI, lst tv), (PR, lst pv), (RW, lst rv), (L + 10, o1), (L + 9, o2), (L + 8, o3), (L + 7, o4), (L + 6, o5), (L + 3, o8), (L + 2, o9k), (107, tabObj tab')] := fun q hq => N6 q (subI (l' := [(c', oc), (I, oI), (BW, W.listOf (List.toArray bv) nb), (FW, W.listOf (List.toArray fv') nf'), (k2, c2), (PT, lst pts), (TI, lst tv), (PR, lst pv), (RW, lst rv), (L + 10, o1), (L + 9, o2), (L + 8, o3), (L + 7, o4), (L + 6, o5), (L + 3, o8), (L + 2, o9k), (107, tabObj tab')]) [1, 2, 3, 4, 5, 6, 7, 8, 9, 10, 11, 12, 13, 14, 15, 16, 17] rfl q hq)
    k_steps
    refine Stop.mk (evalLam F6 N6 T C (by k_updF) (k := k2) (o := c2) (by k_mem) tr' la2' rfl rfl fun kg d' od tab2 ctv h7 tk7 F7 N7 do' tr2 am2 oth2 lf' lc' => ?_)
    have hd' : @Ne Nat d' BW ∧ @Ne Nat d' FW ∧ @Ne Nat d' (L + 2) ∧ @Ne Nat d' 107 ∧ @Ne Nat d' I := by
      rcases lc' with rfl | lc
      · exact ⟨b1, b2, b3, b4, n3⟩
      · exact ⟨Nat.ne_of_gt (lc (BW, _) (by k_mem)), Nat.ne_of_gt (lc (FW, _) (by k_mem)), Nat.ne_of_gt (lc (L + 2, _) (by k_mem)), Nat.ne_of_gt (lc (107, _) (by k_mem)), Nat.ne_of_gt (lc (I, _) (by k_mem))⟩
    have kgB : @LT.lt Nat _ BW kg := lf' (BW, _) (by k_mem)
    have kg7 : @LT.lt Nat _ 107 kg := lf' (107, _) (by k_mem)
    obtain ⟨d'B, d'F, d'2, d'7, d'I⟩ := hd'
    clear lf' lc' F6 N6
    have hno2 : ∀ q : Pos, 156 < q.line → codeAmong q tab2.toList = none := fun q hq => by rw [oth2 q (fun e => by have := e.1; dsimp only at this; omega)]; exact hno' q hq
    have am1 : codeAmong pos1 tab2.toList = some (.ref c') := (oth2 pos1 (by decide)).trans am'
    k_steps
    generalize hlam : kla_obj _ _ _ _ _ _ _ _ _ = lam2 at N7
    replace N7 : News h₀ L h7 [(kg, lam2), (d', od), (c', oc), (I, oI), (BW, W.listOf (List.toArray bv) nb), (FW, W.listOf (List.toArray fv') nf'), (PT, lst pts), (TI, lst tv), (PR, lst pv), (RW, lst rv), (L + 10, o1), (L + 9, o2), (L + 8, o3), (L + 7, o4), (L + 6, o5), (L + 3, o8), (L + 2, o9k), (107, tabObj tab2)] := fun q hq => N7 q (subI (l' := [(kg, lam2), (d', od), (c', oc), (I, oI), (BW, W.listOf (List.toArray bv) nb), (FW, W.listOf (List.toArray fv') nf'), (PT, lst pts), (TI, lst tv), (PR, lst pv), (RW, lst rv), (L + 10, o1), (L + 9, o2), (L + 8, o3), (L + 7, o4), (L + 6, o5), (L + 3, o8), (L + 2, o9k), (107, tabObj tab2)]) [0, 1, 2, 3, 4, 5, 7, 8, 9, 10, 11, 12, 13, 14, 15, 16, 17, 18] rfl q hq)
    have oBW := N7 (BW, _) (by k_mem)
    have kk := lamKey (prog := prog) (w := w) X T F7.keep ⟨(N7 (L + 10, o1) (by k_mem)).1, (N7 (L + 10, o1) (by k_mem)).2.2⟩ ⟨(N7 (PR, lst pv) (by k_mem)).1, (N7 (PR, lst pv) (by k_mem)).2.2⟩ d1 (hlam ▸ (N7 (kg, lam2) (.head _)).1) (N7 (d', od) (.tail _ (.head _))).1 do' hi hl
    have fk : FnAt kg h7 := FnAt.of N7 (by rw [← hlam]; exact .head _)
    refine Stop.mk (insL (s := { s with heap := h7, toks := tk7 }) (ps := ps) X T (Nat.le_of_ble_eq_true rfl) rfl F7.keep BW kg bv nb bl i tv' oBW.2.2 oBW.1 hbv (fun j hj => by have := (qb.mem j).mp hj; omega) (by omega) kk fk (by rw [qb.len]; omega) (qb.sorted Ba.le) fun bv' nb' h8 tk8 kp8 hB8 hi8 => ?_)
    obtain ⟨F8, N8⟩ := afterU F7 N7 (by k_updF) kp8 hB8
    clear F7 N7 kk fk oBW kp8 hB8
    k_steps
    subst hTE
    refine TurnEnd.next F8 N8 (news₂ := [(BW, W.listOf (List.toArray bv') nb'), (FW, W.listOf (List.toArray fv') nf'), (c', oc), (d', od), (PT, lst pts), (TI, lst tv), (PR, lst pv), (RW, lst rv), (L + 10, o1), (L + 9, o2), (L + 8, o3), (L + 7, o4), (L + 6, o5), (L + 3, o8), (L + 2, o9k), (107, tabObj tab2)]) ?_ ?_ ?_
    · exact subI (l' := (I, oI) :: [(BW, W.listOf (List.toArray bv') nb'), (FW, W.listOf (List.toArray fv') nf'), (c', oc), (d', od), (PT, lst pts), (TI, lst tv), (PR, lst pv), (RW, lst rv), (L + 10, o1), (L + 9, o2), (L + 8, o3), (L + 7, o4), (L + 6, o5), (L + 3, o8), (L + 2, o9k), (107, tabObj tab2)]) [3, 4, 5, 2, 1, 6, 7, 8, 9, 10, 11, 12, 13, 14, 15, 16, 17] rfl
    · repeat first | exact List.forall_mem_nil _ | refine List.forall_mem_cons.mpr ⟨by assumption, ?_⟩
    · exact ⟨fv', nf', bv', nb', c', oc, d', od, o9k, tab2, _, _, _, rfl, rfl, rfl, dk, hi6, que_right qf, hi8, que_left qb, tr2, .inr ⟨am1, co⟩, .inr ⟨am2, do'⟩, hno2, c'B, c'F, c'2, c'7, d'B, d'F, d'2, d'7⟩
  · rintro h tk m₁ news₁ ⟨fv, nf, bv, nb, k1, c1, k2, c2, o9', tab, vk, fl, bl, e1, e2, rfl, e3, hfv, qf, hbv, qb, htr, la1, la2, hno, a1, a2, a3, a4, b1, b2, b3, b4⟩ F2 N2
    k_steps
    exact rest FW BW fv nf bv nb fl bl o9' vk tab h tk m₁ F2 e1 e2 (fun q hq => N2 q (subI (l' := [(BW, W.listOf (List.toArray bv) nb), (FW, W.listOf (List.toArray fv) nf), (PT, lst pts), (TI, lst tv), (PR, lst pv), (RW, lst rv), (L + 10, o1), (L + 9, o2), (L + 8, o3), (L + 7, o4), (L + 6, o5), (L + 3, o8), (L + 2, o9'), (107, tabObj tab)]) [0, 1, 4, 5, 6, 7, 8, 9, 10, 11, 12, 13, 14, 15] rfl q hq))
      ⟨Nat.ne_of_lt f6, Nat.ne_of_lt f7, Nat.ne_of_lt f11, Nat.ne_of_lt f12, trivial⟩ ⟨Nat.ne_of_lt g6, Nat.ne_of_lt g7, Nat.ne_of_lt g11, Nat.ne_of_lt g12, trivial⟩ e3 hfv qf hbv qb htr hno
end
end Mine

-- part Law14
open PySem PySem.W PyProof.Rows PySem.Calls PySem.Spec PyProof.Rows.LCg PyProof.Rows.LCt
set_option Elab.async false
set_option maxRecDepth 100000
set_option maxHeartbeats 8000000
namespace Mine
section
local macro_rules | `(tactic| walk_at "pad0") => `(tactic| skip)
variable {prog : Program} {w : World} {s : Shared} {Q : Flow → Shared → Prop}
variable {p : Program} {loose : List Str} {mean : ExcName → Option Value} {mg mb : Str → Option Value} {h₀ h₁ : Heap} {L fa : Addr} {tk : Nat}
local macro_rules | `(tactic| walk_at "call ref") => `(tactic| refine Stop.out ?_)
local macro_rules | `(tactic| walk_at "call builtin:sorted") => `(tactic| refine Stop.out ?_)
local macro_rules | `(tactic| walk_at "call type:range") => `(tactic| refine Stop.out ?_)
local macro_rules | `(tactic| walk_at "eval Lambda") => `(tactic| refine Stop.out ?_)
theorem que_fo {ps p : List Nat} (h : Que (fun i j => lexLt (fun j => ((ps.getD j 0 : Nat) : Int)) (fun j => (j : Int)) i j = true) p 5) : Que (Fo ps) p 5 :=
  ⟨h.mem, h.len, h.ord.imp fun {a b} q => by have := of_decide_eq_true q; dsimp only at this; unfold Fo; omega⟩
theorem que_ba {ps p : List Nat} (h : Que (fun i j => lexLt (fun j => ((ps.getD j 0 : Nat) : Int)) (fun j => -(j : Int)) i j = true) p 5) : Que (Ba ps) p 5 :=
  ⟨h.mem, h.len, h.ord.imp fun {a b} q => by have := of_decide_eq_true q; dsimp only at this; unfold Ba; omega⟩
theorem range1_led {A : Around} {m : Str → Option Value} {E Q : Value → Shared → Prop} {n : Int} {t : Tok} {news : List (Addr × Obj)} (F : Fr h₀ L s.heap m) (N : News h₀ L s.heap news)
    (h : ∀ r h' tk t u v, Fr h₀ L h' m → News h₀ L h' ((r, ({ cls := .type "range", dict := none, data := .fields #[.int 0 t, .int n u, .int 1 v], slots := #[] } : Obj)) :: news) → (∀ q ∈ news, q.1 < r) → Q (.ref r) { s with heap := h', toks := tk }) :
    wpAny (model prog w) A (call (.type "range") [.int n t]) Q E s :=
  range1_rows F N fun h' tk t u v R F' _ kp => h s.heap.objs.size h' tk t u v F' (newsAdd kp F N (Heap.get?_none_of_le (Nat.le_refl _)) R) fun q hq => Heap.lt_size (N q hq).1
theorem seg14 {FW BW PT TI PR RW : Addr} {fv bv pts tv pv rv : List Value} {nf nb : Nat} {ps fl bl : List Nat} {m2 : Str → Option Value} {tab : Array Value} {o1 o2 o3 o4 o5 o8 o9 : Obj}
    (X : Frag.In (hd.heap_39 w.params) h₀) (T : Top p loose mean mg mb h₀) (C : CodeHd h₀ 109 107) (h107 : @LT.lt Nat _ 107 L)
    (F : Fr h₀ L h₁ m2) (e1 : m2 (Str.ofString "forward") = some (.ref FW)) (e2 : m2 (Str.ofString "backward") = some (.ref BW))
    (N : News h₀ L h₁ [(BW, W.listOf (List.toArray bv) nb), (FW, W.listOf (List.toArray fv) nf), (PT, lst pts), (TI, lst tv), (PR, lst pv), (RW, lst rv), (L + 10, o1), (L + 9, o2), (L + 8, o3), (L + 7, o4), (L + 6, o5), (L + 3, o8), (L + 2, o9), (107, tabObj tab)])
    (t1 : @Ne Nat 107 PT) (t2 : @Ne Nat 107 TI) (t3 : @Ne Nat 107 PR) (t4 : @Ne Nat 107 RW) (t5 : @Ne Nat 107 FW) (t6 : @Ne Nat 107 BW)
    (hi : IntsAre pv (nInts ps)) (hl : ps.length = 5) (d1 : o1.data = .cell (some (.ref PR))) (hfv : IntsAre fv (nInts fl)) (qf : Que (Fo ps) fl 5) (hbv : IntsAre bv (nInts bl)) (qb : Que (Ba ps) bl 5)
    (htr : TriplesOk tab.toList) (hno : ∀ q : Pos, 156 < q.line → codeAmong q tab.toList = none)
    (rest : ∀ tab h2 tk2, Fr h₀ L h2 m2 → News h₀ L h2 [(BW, W.listOf (List.toArray bv) nb), (FW, W.listOf (List.toArray fv) nf), (PT, lst pts), (TI, lst tv), (PR, lst pv), (RW, lst rv), (L + 10, o1), (L + 9, o2), (L + 8, o3), (L + 7, o4), (L + 6, o5), (L + 3, o8), (L + 2, o9), (107, tabObj tab)] → TriplesOk tab.toList → (∀ q : Pos, 159 < q.line → codeAmong q tab.toList = none) →
      wpAny (model prog w) (lawA L fa) (execs (lawRest 16) (lawEnv L fa)) Q (fun _ _ => False) { s with heap := h2, toks := tk2 }) :
    wpAny (model prog w) (lawA L fa) (execs ((lawBody.drop 14).take 2 ++ lawRest 16) (lawEnv L fa)) Q (fun _ _ => False) { s with heap := h₁, toks := tk } := by
  have F0 := F
  replace F := frKnow2 F e1 e2
  clear F0
  k_steps
  rename Fr _ _ _ _ => F1
  rename News _ _ _ _ => N1
  replace N1 : News h₀ L _ [(BW, W.listOf (List.toArray bv) nb), (FW, W.listOf (List.toArray fv) nf), (PT, lst pts), (TI, lst tv), (PR, lst pv), (RW, lst rv), (L + 10, o1), (L + 9, o2), (L + 8, o3), (L + 7, o4), (L + 6, o5), (L + 3, o8), (L + 2, o9), (107, tabObj tab)] := fun q hq => N1 q (subI (l' := [(BW, W.listOf (List.toArray bv) nb), (FW, W.listOf (List.toArray fv) nf), (PT, lst pts), (TI, lst tv), (PR, lst pv), (RW, lst rv), (L + 10, o1), (L + 9, o2), (L + 8, o3), (L + 7, o4), (L + 6, o5), (L + 3, o8), (L + 2, o9), (107, tabObj tab)]) [0, 1, 2, 3, 4, 5, 6, 7, 8, 9, 10, 11, 12, 13] rfl q hq)
  refine Stop.mk (range1_led F1 N1 fun r h4 tk4 t u v F2 N2 l2 => ?_)
  have r7 : @LT.lt Nat _ 107 r := l2 (107, _) (by k_mem)
  clear F1 N1
  k_steps
  refine Stop.mk (evalLam F2 N2 T C (by k_updF) (k := PR) (o := lst pv) (by k_mem) htr (.inl (hno _ (by decide))) rfl rfl fun kf c' oc tab1 ctv h5 tk5 F5 N5 co tr1 am' oth lf' _ => ?_)
  have kf7 : @LT.lt Nat _ 107 kf := lf' (107, _) (by k_mem)
  have hno1 : ∀ q : Pos, 157 < q.line → codeAmong q tab1.toList = none := fun q hq => by rw [oth q (fun e => by have := e.1; dsimp only at this; omega)]; exact hno q (by omega)
  clear F2 N2 lf' oth am'
  k_steps
  generalize hlam : kla_obj _ _ _ _ _ _ _ _ _ = lam1 at N5
  replace N5 : News h₀ L h5 [(kf, lam1), (c', oc), (r, ({ cls := .type "range", dict := none, data := .fields #[.int 0 t, .int 5 u, .int 1 v], slots := #[] } : Obj)), (BW, W.listOf (List.toArray bv) nb), (FW, W.listOf (List.toArray fv) nf), (PT, lst pts), (TI, lst tv), (PR, lst pv), (RW, lst rv), (L + 10, o1), (L + 9, o2), (L + 8, o3), (L + 7, o4), (L + 6, o5), (L + 3, o8), (L + 2, o9), (107, tabObj tab1)] := fun q hq => N5 q (subI (l' := [(kf, lam1), (c', oc), (r, ({ cls := .type "range", dict := none, data := .fields #[.int 0 t, .int 5 u, .int 1 v], slots := #[] } : Obj)), (BW, W.listOf (List.toArray bv) nb), (FW, W.listOf (List.toArray fv) nf), (PT, lst pts), (TI, lst tv), (PR, lst pv), (RW, lst rv), (L + 10, o1), (L + 9, o2), (L + 8, o3), (L + 7, o4), (L + 6, o5), (L + 3, o8), (L + 2, o9), (107, tabObj tab1)]) [0, 1, 2, 3, 4, 5, 6, 7, 8, 9, 10, 11, 12, 13, 14, 15, 16] rfl q hq)
  refine Stop.mk (sortedT (s := { s with heap := h5, toks := tk5 }) F5 N5 rfl (Nat.le_of_ble_eq_true rfl) (N5 (r, _) (.tail _ (.tail _ (.head _)))).1 (fun h' F' N' => lamTup1 (prog := prog) (w := w) X T F'.keep ⟨(N' (L + 10, o1) (by k_mem)).1, (N' (L + 10, o1) (by k_mem)).2.2⟩ ⟨(N' (PR, lst pv) (by k_mem)).1, (N' (PR, lst pv) (by k_mem)).2.2⟩ d1 (hlam ▸ (N' (kf, lam1) (.head _)).1) (N' (c', oc) (.tail _ (.head _))).1 co hi hl)
    (fun i j h1 h2 _ => by first | omega | (dsimp only; omega)) fun D out p cD h6 tk6 F6 N6 oD hout qo => ?_)
  have ep : p = fl := Que.uniq (que_fo qo) qf Fo.irr Fo.asy
  subst ep
  clear F5 N5 hlam
  replace N6 : News h₀ L h6 ((D, listOf (List.toArray out) cD) :: [(BW, W.listOf (List.toArray bv) nb), (FW, W.listOf (List.toArray fv) nf), (PT, lst pts), (TI, lst tv), (PR, lst pv), (RW, lst rv), (L + 10, o1), (L + 9, o2), (L + 8, o3), (L + 7, o4), (L + 6, o5), (L + 3, o8), (L + 2, o9), (107, tabObj tab1)]) := fun q hq => N6 q (subI (l' := ((D, listOf (List.toArray out) cD) :: [(BW, W.listOf (List.toArray bv) nb), (FW, W.listOf (List.toArray fv) nf), (PT, lst pts), (TI, lst tv), (PR, lst pv), (RW, lst rv), (L + 10, o1), (L + 9, o2), (L + 8, o3), (L + 7, o4), (L + 6, o5), (L + 3, o8), (L + 2, o9), (107, tabObj tab1)])) [0, 4, 5, 6, 7, 8, 9, 10, 11, 12, 13, 14, 15, 16, 17] rfl q hq)
  k_steps

  k_steps
  rename Fr _ _ _ _ => F1
  rename News _ _ _ _ => N1
  replace N1 : News h₀ L _ [(BW, W.listOf (List.toArray bv) nb), (FW, W.listOf (List.toArray fv) nf), (PT, lst pts), (TI, lst tv), (PR, lst pv), (RW, lst rv), (L + 10, o1), (L + 9, o2), (L + 8, o3), (L + 7, o4), (L + 6, o5), (L + 3, o8), (L + 2, o9), (107, tabObj tab1)] := fun q hq => N1 q (subI (l' := [(BW, W.listOf (List.toArray bv) nb), (FW, W.listOf (List.toArray fv) nf), (PT, lst pts), (TI, lst tv), (PR, lst pv), (RW, lst rv), (L + 10, o1), (L + 9, o2), (L + 8, o3), (L + 7, o4), (L + 6, o5), (L + 3, o8), (L + 2, o9), (107, tabObj tab1)]) [1, 2, 3, 4, 5, 6, 7, 8, 9, 10, 11, 12, 13, 14] rfl q hq)
  refine Stop.mk (range1_led F1 N1 fun r h4 tk4 t u v F2 N2 l2 => ?_)
  have r7 : @LT.lt Nat _ 107 r := l2 (107, _) (by k_mem)
  clear F1 N1
  k_steps
  refine Stop.mk (evalLam F2 N2 T C (by k_updF) (k := PR) (o := lst pv) (by k_mem) tr1 (.inl (hno1 _ (by decide))) rfl rfl fun kf c' oc tab2 ctv h5 tk5 F5 N5 co tr2 am' oth lf' _ => ?_)
  have kf7 : @LT.lt Nat _ 107 kf := lf' (107, _) (by k_mem)
  have hno2 : ∀ q : Pos, 159 < q.line → codeAmong q tab2.toList = none := fun q hq => by rw [oth q (fun e => by have := e.1; dsimp only at this; omega)]; exact hno1 q (by omega)
  clear F2 N2 lf' oth am'
  k_steps
  generalize hlam : kla_obj _ _ _ _ _ _ _ _ _ = lam1 at N5
  replace N5 : News h₀ L h5 [(kf, lam1), (c', oc), (r, ({ cls := .type "range", dict := none, data := .fields #[.int 0 t, .int 5 u, .int 1 v], slots := #[] } : Obj)), (BW, W.listOf (List.toArray bv) nb), (FW, W.listOf (List.toArray fv) nf), (PT, lst pts), (TI, lst tv), (PR, lst pv), (RW, lst rv), (L + 10, o1), (L + 9, o2), (L + 8, o3), (L + 7, o4), (L + 6, o5), (L + 3, o8), (L + 2, o9), (107, tabObj tab2)] := fun q hq => N5 q (subI (l' := [(kf, lam1), (c', oc), (r, ({ cls := .type "range", dict := none, data := .fields #[.int 0 t, .int 5 u, .int 1 v], slots := #[] } : Obj)), (BW, W.listOf (List.toArray bv) nb), (FW, W.listOf (List.toArray fv) nf), (PT, lst pts), (TI, lst tv), (PR, lst pv), (RW, lst rv), (L + 10, o1), (L + 9, o2), (L + 8, o3), (L + 7, o4), (L + 6, o5), (L + 3, o8), (L + 2, o9), (107, tabObj tab2)]) [0, 1, 2, 3, 4, 5, 6, 7, 8, 9, 10, 11, 12, 13, 14, 15, 16] rfl q hq)
  refine Stop.mk (sortedT (s := { s with heap := h5, toks := tk5 }) F5 N5 rfl (Nat.le_of_ble_eq_true rfl) (N5 (r, _) (.tail _ (.tail _ (.head _)))).1 (fun h' F' N' => lamTup2 (prog := prog) (w := w) X T F'.keep ⟨(N' (L + 10, o1) (by k_mem)).1, (N' (L + 10, o1) (by k_mem)).2.2⟩ ⟨(N' (PR, lst pv) (by k_mem)).1, (N' (PR, lst pv) (by k_mem)).2.2⟩ d1 (hlam ▸ (N' (kf, lam1) (.head _)).1) (N' (c', oc) (.tail _ (.head _))).1 co hi hl)
    (fun i j h1 h2 _ => by first | omega | (dsimp only; omega)) fun D out p cD h6 tk6 F6 N6 oD hout qo => ?_)
  have ep : p = bl := Que.uniq (que_ba qo) qb Ba.irr Ba.asy
  subst ep
  clear F5 N5 hlam
  replace N6 : News h₀ L h6 ((D, listOf (List.toArray out) cD) :: [(BW, W.listOf (List.toArray bv) nb), (FW, W.listOf (List.toArray fv) nf), (PT, lst pts), (TI, lst tv), (PR, lst pv), (RW, lst rv), (L + 10, o1), (L + 9, o2), (L + 8, o3), (L + 7, o4), (L + 6, o5), (L + 3, o8), (L + 2, o9), (107, tabObj tab2)]) := fun q hq => N6 q (subI (l' := ((D, listOf (List.toArray out) cD) :: [(BW, W.listOf (List.toArray bv) nb), (FW, W.listOf (List.toArray fv) nf), (PT, lst pts), (TI, lst tv), (PR, lst pv), (RW, lst rv), (L + 10, o1), (L + 9, o2), (L + 8, o3), (L + 7, o4), (L + 6, o5), (L + 3, o8), (L + 2, o9), (107, tabObj tab2)])) [0, 4, 5, 6, 7, 8, 9, 10, 11, 12, 13, 14, 15, 16, 17] rfl q hq)
  k_steps
  exact rest tab2 h6 tk6 (frBack2 F6 e1 e2) (fun q hq => N6 q (.tail _ hq)) tr2 hno2
end
end Mine

-- part Q0
open PySem PySem.W PyProof.Rows PySem.Calls PySem.Spec PyProof.Rows.LCg PyProof.Rows.LCt
set_option Elab.async false
set_option maxRecDepth 100000
set_option maxHeartbeats 8000000
namespace Mine
section
variable {prog : Program} {w : World} {s : Shared} {Q : Flow → Shared → Prop}
variable {p : Program} {loose : List Str} {mean : ExcName → Option Value} {mg mb : Str → Option Value} {h₀ h₁ : Heap} {L fa : Addr} {tk : Nat}
local macro_rules | `(tactic| walk_at "call ref") => `(tactic| refine Stop.out ?_)
local macro_rules | `(tactic| walk_at "exec For") => `(tactic| refine Stop.out ?_)
local macro_rules | `(tactic| walk_at "exec For Name Name cons nil") => `(tactic| refine Stop.out ?_)
/-- an address that law writes nothing to from the queues on -/
def Off4 (L a : Addr) : Prop := @Ne Nat a (L + 9) ∧ @Ne Nat a (L + 8) ∧ @Ne Nat a (L + 2) ∧ @Ne Nat a 107
def OffA (L : Addr) : List Addr → Prop
  | [] => True
  | a :: r => Off4 L a ∧ OffA L r
def qFor : Stmt := (lawBody.drop 16).headD (.Pass default)
def qBody : List Stmt := match qFor with | .For _ _ b _ _ => b | _ => []
@[irreducible] def qRest (k : Nat) : List Stmt := qBody.drop k
theorem qRest_eq (k : Nat) : qRest k = qBody.drop k := by unfold qRest; rfl
theorem shl_nat (a r : Nat) : Builtin.bitOr (a : Int) (1 * 2 ^ r) = ((a ||| 2 ^ r : Nat) : Int) := by
  rw [show (1 : Int) * 2 ^ r = ((2 ^ r : Nat) : Int) by simp, bitOr_nat]
/-- what a queue is -/
structure QL (ps ql : List Nat) : Prop where
  mem : ∀ k, k ∈ ql ↔ k < 5
  len : ql.length = 5
  nd : ql.Nodup
  ord : (ql.map (ps.getD · 0)).Pairwise (· ≤ ·)
theorem taken_lt {rs q : List Nat} (hr : rs.length = 5) (h5 : ∀ k ∈ q, k < 5) (nd : q.Nodup) : takenN (tiesN rs) q < 32 := bits_lt fun j hj => h5 j (greedy_sub q j ((taken_bits hr q h5 nd j).mp hj))
theorem or_lt {t k : Nat} (ht : t < 32) (hk : k < 5) : 1 ≤ t ||| 2 ^ k ∧ t ||| 2 ^ k < 32 := by
  refine ⟨bit_le (k := k) (by rw [or_bit]; simp), Nat.or_lt_two_pow (n := 5) ht ?_⟩
  exact Nat.pow_lt_pow_right (by decide) hk
theorem frBack1 {h₀ h : Heap} {L : Addr} {m : Str → Option Value} {x : Str} {v : Value} (F : Fr h₀ L h (fun z => if z = x then some v else m z)) (e : m x = some v) : Fr h₀ L h m := mset e ▸ F
theorem q0 {QA I0 Z FW BW PT TI PR RW k5 k6 : Addr} {qv pts tv pv rv : List Value} {qn : Nat} {ps rs ql : List Nat} {m : Str → Option Value} {tab : Array Value} {oI0 oZ oF oB o1 o2 o3 o4 o5 o8 o9 c5 c6 : Obj}
    (X : Frag.In (hd.heap_39 w.params) h₀) (T : Top p loose mean mg mb h₀) (h107 : @LT.lt Nat _ 107 L)
    (off : OffA L [QA, I0, Z, FW, BW, PT, TI, PR, RW, k5, k6])
    (F : Fr h₀ L h₁ m) (hm : m (Str.ofString "queue") = some (.ref QA))
    (N : News h₀ L h₁ [(QA, W.listOf (List.toArray qv) qn), (I0, oI0), (Z, oZ), (FW, oF), (BW, oB), (PT, lst pts), (TI, lst tv), (PR, lst pv), (RW, lst rv), (L + 10, o1), (L + 9, o2), (L + 8, o3), (L + 7, o4), (L + 6, o5), (L + 3, o8), (L + 2, o9), (k5, c5), (k6, c6), (107, tabObj tab)])
    (hq : IntsAre qv (nInts ql)) (ql5 : QL ps ql) (hpt : StrsAre pts ((tiesN rs).map pat)) (hrl : rs.length = 5) (d4 : o4.data = .cell (some (.ref PT))) {v3 v9 : Option Value} (d3 : o3.data = .cell v3) (d9 : o9.data = .cell v9)
    (rest : ∀ o3 o9 t3 v9 h2 tk2, Fr h₀ L h2 m → News h₀ L h2 [(QA, W.listOf (List.toArray qv) qn), (I0, oI0), (Z, oZ), (FW, oF), (BW, oB), (PT, lst pts), (TI, lst tv), (PR, lst pv), (RW, lst rv), (L + 10, o1), (L + 9, o2), (L + 8, o3), (L + 7, o4), (L + 6, o5), (L + 3, o8), (L + 2, o9), (k5, c5), (k6, c6), (107, tabObj tab)] → o3.data = .cell (some (.int ((takenN (tiesN rs) ql : Nat) : Int) t3)) → o9.data = .cell v9 →
      wpAny (model prog w) (lawA L fa) (execs (qRest 2) (lawEnv L fa)) Q (fun _ _ => False) { s with heap := h2, toks := tk2 }) :
    wpAny (model prog w) (lawA L fa) (execs (qBody.take 2 ++ qRest 2) (lawEnv L fa)) Q (fun _ _ => False) { s with heap := h₁, toks := tk } := by
  have xq1 : @Ne Nat QA (L + 8) := off.1.2.1
  have xq2 : @Ne Nat QA (L + 2) := off.1.2.2.1
  have xi1 : @Ne Nat I0 (L + 8) := off.2.1.2.1
  have xi2 : @Ne Nat I0 (L + 2) := off.2.1.2.2.1
  have xz1 : @Ne Nat Z (L + 8) := off.2.2.1.2.1
  have xz2 : @Ne Nat Z (L + 2) := off.2.2.1.2.2.1
  have xf1 : @Ne Nat FW (L + 8) := off.2.2.2.1.2.1
  have xf2 : @Ne Nat FW (L + 2) := off.2.2.2.1.2.2.1
  have xb1 : @Ne Nat BW (L + 8) := off.2.2.2.2.1.2.1
  have xb2 : @Ne Nat BW (L + 2) := off.2.2.2.2.1.2.2.1
  have xp1 : @Ne Nat PT (L + 8) := off.2.2.2.2.2.1.2.1
  have xp2 : @Ne Nat PT (L + 2) := off.2.2.2.2.2.1.2.2.1
  have xt1 : @Ne Nat TI (L + 8) := off.2.2.2.2.2.2.1.2.1
  have xt2 : @Ne Nat TI (L + 2) := off.2.2.2.2.2.2.1.2.2.1
  have xr1 : @Ne Nat PR (L + 8) := off.2.2.2.2.2.2.2.1.2.1
  have xr2 : @Ne Nat PR (L + 2) := off.2.2.2.2.2.2.2.1.2.2.1
  have xw1 : @Ne Nat RW (L + 8) := off.2.2.2.2.2.2.2.2.1.2.1
  have xw2 : @Ne Nat RW (L + 2) := off.2.2.2.2.2.2.2.2.1.2.2.1
  have xk1 : @Ne Nat k5 (L + 8) := off.2.2.2.2.2.2.2.2.2.1.2.1
  have xk2 : @Ne Nat k5 (L + 2) := off.2.2.2.2.2.2.2.2.2.1.2.2.1
  have xl1 : @Ne Nat k6 (L + 8) := off.2.2.2.2.2.2.2.2.2.2.1.2.1
  have xl2 : @Ne Nat k6 (L + 2) := off.2.2.2.2.2.2.2.2.2.2.1.2.2.1
  have F0 := F
  replace F := frKnow F hm
  clear F0
  k_steps
  refine Stop.mk (for_list (by k_asm) ?_)
  k_steps
  rename Fr _ _ _ _ => F1
  rename News _ _ _ _ => N1
  rename (Obj.data _ = Data.cell (some (Value.int 0 _))) => d3'
  rename_i h2 o3'
  clear d3
  refine ⟨_, List.toArray qv, _, _, fun i m' news => ∃ o3 o9 t3 v9, m' = (fun y => if y = Str.ofString "queue" then some (.ref QA) else m y) ∧ news = [(QA, W.listOf (List.toArray qv) qn), (I0, oI0), (Z, oZ), (FW, oF), (BW, oB), (PT, lst pts), (TI, lst tv), (PR, lst pv), (RW, lst rv), (L + 10, o1), (L + 9, o2), (L + 8, o3), (L + 7, o4), (L + 6, o5), (L + 3, o8), (L + 2, o9), (k5, c5), (k6, c6), (107, tabObj tab)] ∧ o3.data = .cell (some (.int ((takenN (tiesN rs) (ql.take i) : Nat) : Int) t3)) ∧ o9.data = .cell v9, rfl, rfl, F1, N1, .inr ⟨_, .head _, rfl, _, rfl⟩, ?_, ?_, ?_, ?_⟩
  · exact ⟨_, _, _, _, rfl, rfl, d3', d9⟩
  · rintro i m nw ⟨o3, o9, t3, v9, -, rfl, -⟩
    exact .inr ⟨_, .head _, rfl, _, rfl⟩
  · rintro I i v m₁ news₁ h tk oI hlt hi' hv ⟨o3, o9, t3, v9, rfl, rfl, e3, e9⟩ hne F2 N2
    have hv' : qv[i]? = some v := by simpa using hv
    clear d3' d9 F1 N1 hlt
    have n14 : @Ne Nat (L + 2) I := hne (L + 2, o9) (by k_mem)
    have n10 : @Ne Nat (L + 8) I := hne (L + 8, o3) (by k_mem)
    obtain ⟨r, hr1, t, rfl⟩ := nInts_item hq hv'
    have hr5 : r < 5 := (ql5.mem r).mp (List.mem_of_getElem? hr1)
    have htk : ql.take (i + 1) = ql.take i ++ [r] := by rw [List.take_add_one, hr1]; rfl
    have htn : takenN (tiesN rs) (ql.take (i + 1)) = tstep (tiesN rs) (takenN (tiesN rs) (ql.take i)) r := by rw [htk, taken_snoc]
    have htl : takenN (tiesN rs) (ql.take i) < 32 := taken_lt hrl (fun k hk => (ql5.mem k).mp (List.mem_of_mem_take hk)) (ql5.nd.sublist (List.take_sublist _ _))
    generalize takenN (tiesN rs) (ql.take i) = tn at htn htl e3
    generalize hTE : TurnEnd _ _ _ _ _ _ _ = TE
    k_steps
    rename Fr _ _ _ _ => F3
    rename News _ _ _ _ => N3
    rename (Obj.data _ = Data.cell (some (Value.int (r : Int) _))) => dk
    rename_i h3 o9k
    replace N3 : News h₀ L h3 ((I, oI) :: [(QA, W.listOf (List.toArray qv) qn), (I0, oI0), (Z, oZ), (FW, oF), (BW, oB), (PT, lst pts), (TI, lst tv), (PR, lst pv), (RW, lst rv), (L + 10, o1), (L + 9, o2), (L + 8, o3), (L + 7, o4), (L + 6, o5), (L + 3, o8), (L + 2, o9k), (k5, c5), (k6, c6), (107, tabObj tab)]) := N3
    rw [Int.toNat_natCast, shl_nat]
    obtain ⟨hf1, hf2⟩ := or_lt htl hr5
    refine Stop.mk (pf (X.keeps F3.keep) (T.keeps F3.keep) (Nat.le_of_ble_eq_true rfl) rfl _ _ hf1 hf2 fun tx h4 tk4 kp => ?_)
    have F4 := kp.fr F3
    have N4 := kp.news N3
    clear F3 N3 F2 N2
    k_steps
    refine Stop.mk (tied (X.keeps F4.keep) (T.keeps F4.keep) (Nat.le_of_ble_eq_true rfl) rfl _ _ hf1 hf2 PT pts (tiesN rs) (News.isList N4 (by k_mem)) hpt (fun k hk => ⟨((mem_ties hrl).mp hk).1, ((mem_ties hrl).mp hk).2.1⟩) fun h5 tk5 kp => ?_)
    have F5 := kp.fr F4
    have N5 := kp.news N4
    clear F4 N4
    have hts : tstep (tiesN rs) tn r = if ((tiesN rs).any fun m => m &&& (tn ||| 2 ^ r) == m) = true then tn else tn ||| 2 ^ r := rfl
    cases hb : ((tiesN rs).any fun m => m &&& (tn ||| 2 ^ r) == m) with
    | true =>
      rw [hb, if_pos rfl] at hts
      k_steps
      subst hTE
      refine TurnEnd.next F5 N5 (fun _ q => q) ?_ ?_
      · exact neI hne rfl
      exact ⟨_, _, _, _, rfl, rfl, by rw [htn, hts]; exact e3, dk⟩
    | false =>
      rw [hb, if_neg (by simp)] at hts
      k_steps
      rename Fr _ _ _ _ => F6
      rename News _ _ _ _ => N6
      rename (Obj.data _ = Data.cell (some (Value.int (Builtin.bitOr _ _) _))) => dt
      rw [Int.toNat_natCast, shl_nat] at dt
      subst hTE
      refine TurnEnd.next F6 N6 (fun _ q => q) ?_ ?_
      · exact neI hne rfl
      exact ⟨_, _, _, _, rfl, rfl, by rw [htn, hts]; exact dt, dk⟩
  · rintro h tk m₁ news₁ ⟨o3, o9, t3, v9, rfl, rfl, e3, e9⟩ F2 N2
    have hsz : (List.toArray qv).size = 5 := by
      have := hq.length
      have h2 := ql5.len
      simpa [nInts, h2] using this
    rw [hsz, List.take_of_length_le (Nat.le_of_eq ql5.len)] at e3
    k_steps
    exact rest _ _ _ _ _ _ (frBack1 F2 hm) N2 e3 e9
end
end Mine

-- part Q1
open PySem PySem.W PyProof.Rows PySem.Calls PySem.Spec PyProof.Rows.LCg PyProof.Rows.LCt
set_option Elab.async false
set_option maxRecDepth 100000
set_option maxHeartbeats 8000000
namespace Mine
section
variable {prog : Program} {w : World} {s : Shared} {Q : Flow → Shared → Prop}
variable {p : Program} {loose : List Str} {mean : ExcName → Option Value} {mg mb : Str → Option Value} {h₀ h₁ : Heap} {L fa : Addr} {tk : Nat}
local macro_rules | `(tactic| walk_at "call ref") => `(tactic| refine Stop.out ?_)
local macro_rules | `(tactic| walk_at "exec For") => `(tactic| refine Stop.out ?_)
local macro_rules | `(tactic| walk_at "exec For Name Name cons nil") => `(tactic| refine Stop.out ?_)
local macro_rules | `(tactic| walk_at "exec Assign cons ListComp") => `(tactic| refine Stop.out ?_)
local macro_rules | `(tactic| walk_at "CompSrcT") => `(tactic| refine Stop.out ?_)
theorem shr_bit : ∀ (t : Fin 32) (r : Fin 5), Builtin.bitAnd ((t.val : Int).fdiv (2 ^ r.val)) 1 = if t.val.testBit r.val then 1 else 0 := by decide +kernel
theorem q2 {QA I0 Z FW BW PT TI PR RW k5 k6 : Addr} {qv pts tv pv rv : List Value} {qn : Nat} {ps rs ql : List Nat} {m : Str → Option Value} {tab : Array Value} {oI0 oZ oF oB o1 o2 o3 o4 o5 o8 o9 c5 c6 : Obj}
    (X : Frag.In (hd.heap_39 w.params) h₀) (T : Top p loose mean mg mb h₀) (h107 : @LT.lt Nat _ 107 L)
    (off : OffA L [QA, I0, Z, FW, BW, PT, TI, PR, RW, k5, k6])
    (F : Fr h₀ L h₁ m) (hm : m (Str.ofString "queue") = some (.ref QA))
    (N : News h₀ L h₁ [(QA, W.listOf (List.toArray qv) qn), (I0, oI0), (Z, oZ), (FW, oF), (BW, oB), (PT, lst pts), (TI, lst tv), (PR, lst pv), (RW, lst rv), (L + 10, o1), (L + 9, o2), (L + 8, o3), (L + 7, o4), (L + 6, o5), (L + 3, o8), (L + 2, o9), (k5, c5), (k6, c6), (107, tabObj tab)])
    (hq : IntsAre qv (nInts ql)) (ql5 : QL ps ql) {tn : Nat} {t3 : Tok} (htn : tn < 32) (d3 : o3.data = .cell (some (.int (tn : Int) t3)))
    (rest : ∀ PK pk h2 tk2 m, Fr h₀ L h2 m → m (Str.ofString "queue") = some (.ref QA) → m (Str.ofString "picked") = some (.ref PK) → News h₀ L h2 ((PK, lst pk) :: [(QA, W.listOf (List.toArray qv) qn), (I0, oI0), (Z, oZ), (FW, oF), (BW, oB), (PT, lst pts), (TI, lst tv), (PR, lst pv), (RW, lst rv), (L + 10, o1), (L + 9, o2), (L + 8, o3), (L + 7, o4), (L + 6, o5), (L + 3, o8), (L + 2, o9), (k5, c5), (k6, c6), (107, tabObj tab)]) → Off4 L PK → IntsAre pk (nInts (ql.filter fun k => tn.testBit k)) →
      wpAny (model prog w) (lawA L fa) (execs (qRest 3) (lawEnv L fa)) Q (fun _ _ => False) { s with heap := h2, toks := tk2 }) :
    wpAny (model prog w) (lawA L fa) (execs ((qBody.drop 2).take 1 ++ qRest 3) (lawEnv L fa)) Q (fun _ _ => False) { s with heap := h₁, toks := tk } := by
  replace F := frKnow F hm
  have hql := ql5.len
  have hnl : (nInts ql).length = 5 := by simp [nInts, hql]
  have hvl : qv.length = 5 := by rw [hq.length, hnl]
  k_steps
  refine Stop.mk (Assign_ListComp_T F rfl rfl rfl (by decide) rfl (by decide) rfl rfl rfl ?_)
  k_steps
  rename Fr _ _ _ _ => F1
  rename News _ _ _ _ => N1
  refine Stop.mk (CompSrcT.ledger rfl F1 N1 (.head _) (by rw [sizeLine_eq]; simp; omega) fun g => ?_)
  refine compT (n := qv.length) (fun j ys => IntsAre ys (nInts ((ql.take j).filter fun k => tn.testBit k))) ?_ ?_ ?_ _ 0 [] (by simp) .nil
  · exact .inr ⟨_, .head _, rfl, _, rfl⟩
  · clear F1 N1
    intro j ys v J oJ C oC D m₃ h tk hj hR hP hN hx F5 N5
    have hP' : qv[j]? = some v := by simpa using hP
    obtain ⟨r, hr1, t, rfl⟩ := nInts_item hq hP'
    have hr5 : r < 5 := (ql5.mem r).mp (List.mem_of_getElem? hr1)
    have et : ql.take (j + 1) = ql.take j ++ [r] := by rw [List.take_add_one, hr1]; rfl
    have hsb := shr_bit ⟨tn, htn⟩ ⟨r, hr5⟩
    dsimp only at hsb
    k_steps
    · exact fun _ _ e => e
    · rename (Builtin.bitAnd _ 1 ≠ 0) => hz
      rw [Int.toNat_natCast, hsb] at hz
      have hz' : tn.testBit r = true := by
        cases c : tn.testBit r with
        | true => rfl
        | false => rw [c] at hz; exact absurd rfl hz
      rw [et, List.filter_append, nInts_app, filter_one (P := fun k => tn.testBit k) hz']
      exact intsApp hR (.cons _ t .nil)
    · exact fun _ _ e => e
    · rename (Builtin.bitAnd _ 1 = 0) => hz
      rw [Int.toNat_natCast, hsb] at hz
      have hz' : ¬ tn.testBit r = true := fun c => by rw [c] at hz; exact absurd hz (by decide)
      rw [et, List.filter_append, filter_none (P := fun k => tn.testBit k) hz', List.append_nil]
      exact hR
  · intro ys hys
    rw [hvl, ← hql, List.take_length] at hys
    clear F1 N1
    k_steps
    rename Fr _ _ _ _ => F6
    rename News _ _ _ _ => N6
    rename (_ ≠ _ ∧ _) => ofd
    obtain ⟨w0, w1, w2, w3, w4, w5, w6, w7, w8, w9, w10, w11, w12, w13, w14, w15, w16, w17, w18⟩ := ofd
    exact rest _ _ _ _ _ F6 rfl rfl N6 ⟨Ne.symm w10, Ne.symm w11, Ne.symm w15, Ne.symm w18⟩ hys
end
end Mine

-- part Q2
open PySem PySem.W PyProof.Rows PySem.Calls PySem.Spec PyProof.Rows.LCg PyProof.Rows.LCt
set_option Elab.async false
set_option maxRecDepth 100000
set_option maxHeartbeats 8000000
namespace Mine
section
local macro_rules | `(tactic| walk_at "pad0") => `(tactic| skip)
variable {prog : Program} {w : World} {s : Shared} {Q : Flow → Shared → Prop}
variable {p : Program} {loose : List Str} {mean : ExcName → Option Value} {mg mb : Str → Option Value} {h₀ h₁ : Heap} {L fa : Addr} {tk : Nat}
local macro_rules | `(tactic| walk_at "call ref") => `(tactic| refine Stop.out ?_)
local macro_rules | `(tactic| walk_at "exec For") => `(tactic| refine Stop.out ?_)
local macro_rules | `(tactic| walk_at "exec For Name Name cons nil") => `(tactic| refine Stop.out ?_)
local macro_rules | `(tactic| walk_at "eval ListComp") => `(tactic| refine Stop.out ?_)
local macro_rules | `(tactic| walk_at "CompSrc") => `(tactic| refine Stop.out ?_)
theorem greedy_le {row : Nat → Nat} (js : List Nat) : (greedy row js).length ≤ js.length := by
  induction js using snoc_ind with | h0 => exact Nat.le_refl _ | h1 js k ih => ?_
  rw [greedy_snoc, gstep, List.length_append, List.length_singleton]
  split
  · omega
  · rw [List.length_append, List.length_singleton]; omega
theorem q3 {QA I0 Z FW BW PT TI PR RW k5 k6 : Addr} {qv pts tv pv rv : List Value} {qn : Nat} {ps rs ql : List Nat} {m : Str → Option Value} {tab : Array Value} {oI0 oZ oF oB o1 o2 o3 o4 o5 o8 o9 c5 c6 : Obj} {PK : Addr} {pk : List Value}
    (X : Frag.In (hd.heap_39 w.params) h₀) (T : Top p loose mean mg mb h₀) (h107 : @LT.lt Nat _ 107 L)
    (off : OffA L [QA, I0, Z, FW, BW, PT, TI, PR, RW, k5, k6]) (offK : Off4 L PK)
    (F : Fr h₀ L h₁ m) (hm : m (Str.ofString "queue") = some (.ref QA)) (hm2 : m (Str.ofString "picked") = some (.ref PK))
    (N : News h₀ L h₁ ((PK, lst pk) :: [(QA, W.listOf (List.toArray qv) qn), (I0, oI0), (Z, oZ), (FW, oF), (BW, oB), (PT, lst pts), (TI, lst tv), (PR, lst pv), (RW, lst rv), (L + 10, o1), (L + 9, o2), (L + 8, o3), (L + 7, o4), (L + 6, o5), (L + 3, o8), (L + 2, o9), (k5, c5), (k6, c6), (107, tabObj tab)]))
    (hq : IntsAre qv (nInts ql)) (ql5 : QL ps ql) (hw : IntsAre rv (nInts rs)) (hrl : rs.length = 5) (hrb : ∀ r ∈ rs, r < 16) (d8 : o8.data = .cell (some (.ref RW))) {v9 : Option Value} (d9 : o9.data = .cell v9)
    (rest : ∀ DU dv dn o9 v9 h2 tk2 m, Fr h₀ L h2 m → m (Str.ofString "queue") = some (.ref QA) → m (Str.ofString "picked") = some (.ref PK) → m (Str.ofString "due") = some (.ref DU) → News h₀ L h2 ((DU, W.listOf (List.toArray dv) dn) :: (PK, lst pk) :: [(QA, W.listOf (List.toArray qv) qn), (I0, oI0), (Z, oZ), (FW, oF), (BW, oB), (PT, lst pts), (TI, lst tv), (PR, lst pv), (RW, lst rv), (L + 10, o1), (L + 9, o2), (L + 8, o3), (L + 7, o4), (L + 6, o5), (L + 3, o8), (L + 2, o9), (k5, c5), (k6, c6), (107, tabObj tab)]) → Off4 L DU → IntsAre dv (nInts (greedy (rs.getD · 0) ql)) → o9.data = .cell v9 →
      wpAny (model prog w) (lawA L fa) (execs (qRest 5) (lawEnv L fa)) Q (fun _ _ => False) { s with heap := h2, toks := tk2 }) :
    wpAny (model prog w) (lawA L fa) (execs ((qBody.drop 3).take 2 ++ qRest 5) (lawEnv L fa)) Q (fun _ _ => False) { s with heap := h₁, toks := tk } := by
  have xq2 : @Ne Nat QA (L + 2) := off.1.2.2.1
  have xi2 : @Ne Nat I0 (L + 2) := off.2.1.2.2.1
  have xz2 : @Ne Nat Z (L + 2) := off.2.2.1.2.2.1
  have xf2 : @Ne Nat FW (L + 2) := off.2.2.2.1.2.2.1
  have xb2 : @Ne Nat BW (L + 2) := off.2.2.2.2.1.2.2.1
  have xp2 : @Ne Nat PT (L + 2) := off.2.2.2.2.2.1.2.2.1
  have xt2 : @Ne Nat TI (L + 2) := off.2.2.2.2.2.2.1.2.2.1
  have xr2 : @Ne Nat PR (L + 2) := off.2.2.2.2.2.2.2.1.2.2.1
  have xw2 : @Ne Nat RW (L + 2) := off.2.2.2.2.2.2.2.2.1.2.2.1
  have xk2 : @Ne Nat k5 (L + 2) := off.2.2.2.2.2.2.2.2.2.1.2.2.1
  have xl2 : @Ne Nat k6 (L + 2) := off.2.2.2.2.2.2.2.2.2.2.1.2.2.1
  obtain ⟨y0, y1, y2, y3⟩ := offK
  replace F := frKnow2 F hm hm2
  have hql := ql5.len
  have hnl : (nInts ql).length = 5 := by simp [nInts, hql]
  have hvl : qv.length = 5 := by rw [hq.length, hnl]
  k_steps
  refine Stop.mk (for_list (by k_asm) ?_)
  k_steps
  rename Fr _ _ _ _ => F1
  rename News _ _ _ _ => N1
  rename (_ < _ ∧ _) => l1
  rename_i DU _ _
  have hDQ : ∀ q ∈ ((PK, lst pk) :: [(QA, W.listOf (List.toArray qv) qn), (I0, oI0), (Z, oZ), (FW, oF), (BW, oB), (PT, lst pts), (TI, lst tv), (PR, lst pv), (RW, lst rv), (L + 10, o1), (L + 9, o2), (L + 8, o3), (L + 7, o4), (L + 6, o5), (L + 3, o8), (L + 2, o9), (k5, c5), (k6, c6), (107, tabObj tab)]), q.1 < DU := by
    obtain ⟨w0, w1, w2, w3, w4, w5, w6, w7, w8, w9, w10, w11, w12, w13, w14, w15, w16, w17, w18, w19⟩ := l1
    repeat first | exact List.forall_mem_nil _ | refine List.forall_mem_cons.mpr ⟨by assumption, ?_⟩
  have oDU : Off4 L DU := ⟨Nat.ne_of_gt (hDQ (L + 9, o2) (by k_mem)), Nat.ne_of_gt (hDQ (L + 8, o3) (by k_mem)), Nat.ne_of_gt (hDQ (L + 2, o9) (by k_mem)), Nat.ne_of_gt (hDQ (107, tabObj tab) (by k_mem))⟩
  have hDK : @LT.lt Nat _ PK DU := hDQ (PK, lst pk) (by k_mem)
  clear l1
  refine ⟨_, List.toArray qv, _, _, fun i m' news => ∃ dv dn o9 v9, m' = (fun y => if y = Str.ofString "due" then some (.ref DU) else if y = Str.ofString "queue" then some (.ref QA) else if y = Str.ofString "picked" then some (.ref PK) else m y) ∧ news = ((DU, W.listOf (List.toArray dv) dn) :: (PK, lst pk) :: [(QA, W.listOf (List.toArray qv) qn), (I0, oI0), (Z, oZ), (FW, oF), (BW, oB), (PT, lst pts), (TI, lst tv), (PR, lst pv), (RW, lst rv), (L + 10, o1), (L + 9, o2), (L + 8, o3), (L + 7, o4), (L + 6, o5), (L + 3, o8), (L + 2, o9), (k5, c5), (k6, c6), (107, tabObj tab)]) ∧ IntsAre dv (nInts (greedy (rs.getD · 0) (ql.take i))) ∧ o9.data = .cell v9, rfl, rfl, F1, N1, .inr ⟨_, .tail _ (.tail _ (.head _)), rfl, _, rfl⟩, ?_, ?_, ?_, ?_⟩
  · exact ⟨[], 0, _, _, rfl, rfl, .nil, d9⟩
  · rintro i m nw ⟨dv, dn, o9, v9, -, rfl, -⟩
    exact .inr ⟨_, .tail _ (.tail _ (.head _)), rfl, _, rfl⟩
  · rintro I i v m₁ news₁ h tk oI hlt hi' hv ⟨dv, dn, o9, v9, rfl, rfl, hdv, e9⟩ hne F2 N2
    have hv' : qv[i]? = some v := by simpa using hv
    clear d9 F1 N1 hlt
    obtain ⟨z0, z1, z2, z3⟩ := oDU
    have n14 : @Ne Nat (L + 2) I := hne (L + 2, o9) (by k_mem)
    have nu : @Ne Nat DU I := hne (DU, _) (.head _)
    obtain ⟨r, hr1, t, rfl⟩ := nInts_item hq hv'
    have hr5 : r < 5 := (ql5.mem r).mp (List.mem_of_getElem? hr1)
    have htk : ql.take (i + 1) = ql.take i ++ [r] := by rw [List.take_add_one, hr1]; rfl
    have hgn : greedy (rs.getD · 0) (ql.take (i + 1)) = gstep (rs.getD · 0) (greedy (rs.getD · 0) (ql.take i)) r := by rw [htk, greedy_snoc]
    have hg5 : ∀ k ∈ greedy (rs.getD · 0) (ql.take i), k < 5 := fun k hk => (ql5.mem k).mp (List.mem_of_mem_take (greedy_sub _ k hk))
    have hgl : (greedy (rs.getD · 0) (ql.take i)).length ≤ 5 := Nat.le_trans (greedy_le _) (by rw [List.length_take]; omega)
    generalize greedy (rs.getD · 0) (ql.take i) = gr at hgn hg5 hgl hdv
    have hdl : dv.length = gr.length := by rw [hdv.length]; simp [nInts]
    have hrn : (nInts rs).length = 5 := by simp [nInts, hrl]
    have hrv : rv.length = 5 := by rw [hw.length, hrn]
    generalize hTE : TurnEnd _ _ _ _ _ _ _ = TE
    k_steps
    rename Fr _ _ _ _ => F3
    rename News _ _ _ _ => N3
    rename (Obj.data _ = Data.cell (some (Value.int (r : Int) _))) => dk
    rename_i h3 o9k _
    replace N3 : News h₀ L h3 ((I, oI) :: ((DU, W.listOf (List.toArray dv) dn) :: (PK, lst pk) :: [(QA, W.listOf (List.toArray qv) qn), (I0, oI0), (Z, oZ), (FW, oF), (BW, oB), (PT, lst pts), (TI, lst tv), (PR, lst pv), (RW, lst rv), (L + 10, o1), (L + 9, o2), (L + 8, o3), (L + 7, o4), (L + 6, o5), (L + 3, o8), (L + 2, o9k), (k5, c5), (k6, c6), (107, tabObj tab)])) := N3
    refine Stop.mk (ListComp_U F3 rfl (by decide) rfl (by decide) rfl ?_)
    k_steps
    refine Stop.mk (CompSrc.ledger rfl F3 N3 (.tail _ (.head _)) (by rw [sizeLine_eq]; simp; omega) fun g => ?_)
    refine compU (n := dv.length) (fun j zs => IntsAre zs (nInts ((gr.take j).map (rs.getD · 0)))) ?_ ?_ ?_ _ 0 [] (by simp) .nil
    · exact .inr ⟨_, .tail _ (.head _), rfl, _, rfl⟩
    · clear F3 N3 F2 N2
      intro j zs v J oJ C oC D m₃ h tk hj hR hP hN hx F5 N5
      have hP' : dv[j]? = some v := by simpa using hP
      obtain ⟨x, hx1, tx, rfl⟩ := nInts_item hdv hP'
      have hx5 : x < 5 := hg5 x (List.mem_of_getElem? hx1)
      have et : gr.take (j + 1) = gr.take j ++ [x] := by rw [List.take_add_one, hx1]; rfl
      k_steps
      · exact fun _ _ e => e
      · rw [et, List.map_append, nInts_app]
        refine intsApp hR (intsCast (.cons _ _ .nil) ?_)
        rw [Int.toNat_natCast, nInts_getD]; rfl
    · intro zs hzs
      rw [hdl, List.take_length] at hzs
      clear F3 N3 F2 N2
      k_steps
      rename Fr _ _ _ _ => F5
      rename News _ _ _ _ => N5
      have rb : ∀ k ∈ gr.map (rs.getD · 0), k < 16 := fun k hk => by
        obtain ⟨x, hx, rfl⟩ := List.mem_map.mp hk
        exact hrb _ (getD_mem (by have := hg5 x hx; omega))
      refine Stop.mk (reach (X.keeps F5.keep) (T.keeps F5.keep) (Nat.le_of_ble_eq_true rfl) rfl _ zs (gr.map (rs.getD · 0)) (News.isList N5 (.head _)) hzs rb (by rw [List.length_map]; exact hgl) fun R ws rn h6 tk6 kp hR0 hR1 hRI => ?_)
      have F6 := kp.fr F5
      have N6 := newsAdd kp F5 N5 hR0 hR1
      have hRD : @Ne Nat DU R := newsNe N5 hR0 (DU, _) (by k_mem)
      clear F5 N5
      replace N6 : News h₀ L h6 ((R, W.listOf (List.toArray ws) rn) :: (I, oI) :: ((DU, W.listOf (List.toArray dv) dn) :: (PK, lst pk) :: [(QA, W.listOf (List.toArray qv) qn), (I0, oI0), (Z, oZ), (FW, oF), (BW, oB), (PT, lst pts), (TI, lst tv), (PR, lst pv), (RW, lst rv), (L + 10, o1), (L + 9, o2), (L + 8, o3), (L + 7, o4), (L + 6, o5), (L + 3, o8), (L + 2, o9k), (k5, c5), (k6, c6), (107, tabObj tab)])) := fun q hq => N6 q (subI (l' := ((R, W.listOf (List.toArray ws) rn) :: (I, oI) :: ((DU, W.listOf (List.toArray dv) dn) :: (PK, lst pk) :: [(QA, W.listOf (List.toArray qv) qn), (I0, oI0), (Z, oZ), (FW, oF), (BW, oB), (PT, lst pts), (TI, lst tv), (PR, lst pv), (RW, lst rv), (L + 10, o1), (L + 9, o2), (L + 8, o3), (L + 7, o4), (L + 6, o5), (L + 3, o8), (L + 2, o9k), (k5, c5), (k6, c6), (107, tabObj tab)]))) [0, 2, 3, 4, 5, 6, 7, 8, 9, 10, 11, 12, 13, 14, 15, 16, 17, 18, 19, 20, 21, 22, 23] rfl q hq)
      have hwsl : ws.length ≤ 32 := by
        have e : (nInts (reachN (gr.map (rs.getD · 0)))).length = (reachN (gr.map (rs.getD · 0))).length := by simp [nInts]
        have h3 : 2 ^ (gr.map (rs.getD · 0)).length ≤ 2 ^ 5 := Nat.pow_le_pow_right (by decide) (by rw [List.length_map]; exact hgl)
        rw [hRI.length, e]
        exact Nat.le_trans (reachN_len _) h3
      have u0 : @LT.lt Nat _ QA DU := hDQ (QA, _) (by k_mem)
      have u1 : @LT.lt Nat _ I0 DU := hDQ (I0, _) (by k_mem)
      have u2 : @LT.lt Nat _ Z DU := hDQ (Z, _) (by k_mem)
      have u3 : @LT.lt Nat _ FW DU := hDQ (FW, _) (by k_mem)
      have u4 : @LT.lt Nat _ BW DU := hDQ (BW, _) (by k_mem)
      have u5 : @LT.lt Nat _ PT DU := hDQ (PT, _) (by k_mem)
      have u6 : @LT.lt Nat _ TI DU := hDQ (TI, _) (by k_mem)
      have u7 : @LT.lt Nat _ PR DU := hDQ (PR, _) (by k_mem)
      have u8 : @LT.lt Nat _ RW DU := hDQ (RW, _) (by k_mem)
      have u9 : @LT.lt Nat _ (L+10) DU := hDQ ((L+10), _) (by k_mem)
      have u10 : @LT.lt Nat _ (L+9) DU := hDQ ((L+9), _) (by k_mem)
      have u11 : @LT.lt Nat _ (L+8) DU := hDQ ((L+8), _) (by k_mem)
      have u12 : @LT.lt Nat _ (L+7) DU := hDQ ((L+7), _) (by k_mem)
      have u13 : @LT.lt Nat _ (L+6) DU := hDQ ((L+6), _) (by k_mem)
      have u14 : @LT.lt Nat _ (L+3) DU := hDQ ((L+3), _) (by k_mem)
      have u15 : @LT.lt Nat _ (L+2) DU := hDQ ((L+2), _) (by k_mem)
      have u16 : @LT.lt Nat _ k5 DU := hDQ (k5, _) (by k_mem)
      have u17 : @LT.lt Nat _ k6 DU := hDQ (k6, _) (by k_mem)
      have u18 : @LT.lt Nat _ 107 DU := hDQ (107, _) (by k_mem)
      have hgs : gstep (rs.getD · 0) gr r = if rs.getD r 0 ∈ reachN (gr.map (rs.getD · 0)) then gr else gr ++ [r] := rfl
      k_steps
      · rename (List.any _ _ = true) => ha
        rw [Int.toNat_natCast, nInts_getD] at ha
        rw [if_pos (nInts_any.mp ha)] at hgs
        subst hTE
        refine TurnEnd.next F6 N6 (fun q hq => .tail _ hq) ?_ ?_
        · exact neI hne rfl
        · exact ⟨_, _, _, _, rfl, rfl, by rw [hgn, hgs]; exact hdv, dk⟩
      · rename (List.any _ _ = false) => ha
        rename Fr _ _ _ _ => F7
        rename News _ _ _ _ => N7
        rw [Int.toNat_natCast, nInts_getD] at ha
        rw [if_neg (fun c => by rw [nInts_any.mpr c] at ha; cases ha)] at hgs
        try simp only [List.push_toArray] at N7
        subst hTE
        refine TurnEnd.next F7 N7 (fun q hq => .tail _ hq) ?_ ?_
        · exact neI hne rfl
        · exact ⟨dv ++ [.int (r : Int) t], _, _, _, rfl, rfl, by rw [hgn, hgs, nInts_app]; exact intsApp hdv (.cons _ _ .nil), dk⟩
  · rintro h tk m₁ news₁ ⟨dv, dn, o9, v9, rfl, rfl, hdv, e9⟩ F2 N2
    have hsz : (List.toArray qv).size = 5 := by simpa using hvl
    rw [hsz, List.take_of_length_le (Nat.le_of_eq ql5.len)] at hdv
    k_steps
    exact rest _ _ _ _ _ _ _ _ F2 rfl rfl rfl N2 oDU hdv e9
end
end Mine

-- part Q3
open PySem PySem.W PyProof.Rows PySem.Calls PySem.Spec PyProof.Rows.LCg PyProof.Rows.LCt
set_option Elab.async false
set_option maxRecDepth 100000
set_option maxHeartbeats 8000000
namespace Mine
section
local macro_rules | `(tactic| walk_at "pad0") => `(tactic| skip)
variable {prog : Program} {w : World} {s : Shared} {Q : Flow → Shared → Prop}
variable {p : Program} {loose : List Str} {mean : ExcName → Option Value} {mg mb : Str → Option Value} {h₀ h₁ : Heap} {L fa : Addr} {tk : Nat}
local macro_rules | `(tactic| walk_at "call ref") => `(tactic| refine Stop.out ?_)
local macro_rules | `(tactic| walk_at "exec For") => `(tactic| refine Stop.out ?_)
local macro_rules | `(tactic| walk_at "exec For Name Subscript cons nil") => `(tactic| refine Stop.out ?_)
local macro_rules | `(tactic| walk_at "exec Assign cons ListComp") => `(tactic| refine Stop.out ?_)
local macro_rules | `(tactic| walk_at "CompSrcT") => `(tactic| refine Stop.out ?_)
local macro_rules | `(tactic| walk_at "call type:range") => `(tactic| refine Stop.out ?_)
theorem q5 {QA I0 Z FW BW PT TI PR RW k5 k6 : Addr} {qv pts tv pv rv : List Value} {qn : Nat} {ps rs ql : List Nat} {m : Str → Option Value} {tab : Array Value} {oI0 oZ oF oB o1 o2 o3 o4 o5 o8 o9 c5 c6 : Obj} {PK DU : Addr} {pk dv : List Value} {dn : Nat} {gl : List Nat}
    (X : Frag.In (hd.heap_39 w.params) h₀) (T : Top p loose mean mg mb h₀) (h107 : @LT.lt Nat _ 107 L)
    (off : OffA L [QA, I0, Z, FW, BW, PT, TI, PR, RW, k5, k6]) (offK : Off4 L PK) (offD : Off4 L DU)
    (F : Fr h₀ L h₁ m) (hm : m (Str.ofString "queue") = some (.ref QA)) (hm2 : m (Str.ofString "picked") = some (.ref PK)) (hm3 : m (Str.ofString "due") = some (.ref DU))
    (N : News h₀ L h₁ ((DU, W.listOf (List.toArray dv) dn) :: (PK, lst pk) :: [(QA, W.listOf (List.toArray qv) qn), (I0, oI0), (Z, oZ), (FW, oF), (BW, oB), (PT, lst pts), (TI, lst tv), (PR, lst pv), (RW, lst rv), (L + 10, o1), (L + 9, o2), (L + 8, o3), (L + 7, o4), (L + 6, o5), (L + 3, o8), (L + 2, o9), (k5, c5), (k6, c6), (107, tabObj tab)]))
    (hpk : IntsAre pk (nInts gl)) (hdv : IntsAre dv (nInts gl))
    (rest : ∀ h2 tk2 m t, Fr h₀ L h2 m → m (Str.ofString "queue") = some (.ref QA) → m (Str.ofString "picked") = some (.ref PK) → m (Str.ofString "kept") = some (.int 31 t) → News h₀ L h2 ((PK, lst pk) :: [(QA, W.listOf (List.toArray qv) qn), (I0, oI0), (Z, oZ), (FW, oF), (BW, oB), (PT, lst pts), (TI, lst tv), (PR, lst pv), (RW, lst rv), (L + 10, o1), (L + 9, o2), (L + 8, o3), (L + 7, o4), (L + 6, o5), (L + 3, o8), (L + 2, o9), (k5, c5), (k6, c6), (107, tabObj tab)]) →
      wpAny (model prog w) (lawA L fa) (execs (qRest 7) (lawEnv L fa)) Q (fun _ _ => False) { s with heap := h2, toks := tk2 }) :
    wpAny (model prog w) (lawA L fa) (execs ((qBody.drop 5).take 2 ++ qRest 7) (lawEnv L fa)) Q (fun _ _ => False) { s with heap := h₁, toks := tk } := by
  replace F := frKnow3 F hm hm2 hm3
  k_steps
  rename Fr _ _ _ _ => F1
  rename News _ _ _ _ => N1
  exact rest _ _ _ _ F1 rfl rfl rfl (fun q hq => N1 q (.tail _ hq))
theorem kept_at {rs ps ql : List Nat} (hr : rs.length = 5) (ql5 : QL ps ql) {i r : Nat} (h : ql.reverse[i]? = some r) : ((ql.reverse.take i).foldl (kstep (tiesN rs)) 31).testBit r = true ∧ (ql.reverse.take i).foldl (kstep (tiesN rs)) 31 < 32 := by
  have e : ql = (ql.reverse.drop i).reverse ++ (ql.reverse.take i).reverse := by rw [← List.reverse_append, List.take_append_drop, List.reverse_reverse]
  have kb := kept_bits hr ql (fun k hk => (ql5.mem k).mp hk) (fun k hk => (ql5.mem k).mpr hk) ql5.nd _ _ e
  rw [List.reverse_reverse] at kb
  refine ⟨(kb r).mpr (.inl ?_), bits_lt fun j hj => (ql5.mem j).mp ?_⟩
  · rw [List.mem_reverse]
    obtain ⟨hl, he⟩ := List.getElem?_eq_some_iff.mp h
    rw [List.drop_eq_getElem_cons hl, he]; exact List.mem_cons_self
  · have := (kb j).mp hj
    rw [e, List.mem_append]
    exact this.imp id And.left
theorem kept_end {rs ps ql : List Nat} (hr : rs.length = 5) (ql5 : QL ps ql) : ql.reverse.foldl (kstep (tiesN rs)) 31 = takenN (tiesN rs) ql := by
  have h5 : ∀ k ∈ ql, k < 5 := fun k hk => (ql5.mem k).mp hk
  have kb := kept_bits hr ql h5 (fun k hk => (ql5.mem k).mpr hk) ql5.nd ql [] rfl
  refine Nat.eq_of_testBit_eq fun j => Bool.eq_iff_iff.mpr ?_
  rw [kb j, taken_bits hr ql h5 ql5.nd j]
  exact ⟨fun h => h.elim (fun h => by cases h) And.right, fun h => .inr ⟨greedy_sub ql j h, h⟩⟩
theorem xor_nat5 (a r : Nat) (ha : a < 32) (hr : r < 5) : Builtin.bitXor (a : Int) (1 * 2 ^ r) = ((a ^^^ 2 ^ r : Nat) : Int) := by
  have : ∀ (a : Fin 32) (r : Fin 5), Builtin.bitXor (a.val : Int) (1 * 2 ^ r.val) = ((a.val ^^^ 2 ^ r.val : Nat) : Int) := by decide +kernel
  exact this ⟨a, ha⟩ ⟨r, hr⟩
theorem q7 {QA I0 Z FW BW PT TI PR RW k5 k6 : Addr} {qv pts tv pv rv : List Value} {qn : Nat} {ps rs ql : List Nat} {m : Str → Option Value} {tab : Array Value} {oI0 oZ oF oB o1 o2 o3 o4 o5 o8 o9 c5 c6 : Obj} {PK : Addr} {pk : List Value} {t31 : Tok}
    (X : Frag.In (hd.heap_39 w.params) h₀) (T : Top p loose mean mg mb h₀) (h107 : @LT.lt Nat _ 107 L)
    (off : OffA L [QA, I0, Z, FW, BW, PT, TI, PR, RW, k5, k6]) (offK : Off4 L PK)
    (F : Fr h₀ L h₁ m) (hm : m (Str.ofString "queue") = some (.ref QA)) (hm2 : m (Str.ofString "picked") = some (.ref PK)) (hm3 : m (Str.ofString "kept") = some (.int 31 t31))
    (N : News h₀ L h₁ ((PK, lst pk) :: [(QA, W.listOf (List.toArray qv) qn), (I0, oI0), (Z, oZ), (FW, oF), (BW, oB), (PT, lst pts), (TI, lst tv), (PR, lst pv), (RW, lst rv), (L + 10, o1), (L + 9, o2), (L + 8, o3), (L + 7, o4), (L + 6, o5), (L + 3, o8), (L + 2, o9), (k5, c5), (k6, c6), (107, tabObj tab)]))
    (hq : IntsAre qv (nInts ql)) (ql5 : QL ps ql) (hrl : rs.length = 5) (hpt : StrsAre pts ((tiesN rs).map pat)) (hti : IntsAre tv (nInts (tiesN rs))) (d4 : o4.data = .cell (some (.ref PT))) (d5 : o5.data = .cell (some (.ref TI))) {v9 : Option Value} (d9 : o9.data = .cell v9)
    {t3 : Tok} (d3 : o3.data = .cell (some (.int ((takenN (tiesN rs) ql : Nat) : Int) t3)))
    (rest : ∀ o9 v9 h2 tk2 m, Fr h₀ L h2 m → m (Str.ofString "picked") = some (.ref PK) → News h₀ L h2 ((PK, lst pk) :: [(QA, W.listOf (List.toArray qv) qn), (I0, oI0), (Z, oZ), (FW, oF), (BW, oB), (PT, lst pts), (TI, lst tv), (PR, lst pv), (RW, lst rv), (L + 10, o1), (L + 9, o2), (L + 8, o3), (L + 7, o4), (L + 6, o5), (L + 3, o8), (L + 2, o9), (k5, c5), (k6, c6), (107, tabObj tab)]) → o9.data = .cell v9 →
      wpAny (model prog w) (lawA L fa) (execs (qRest 9) (lawEnv L fa)) Q (fun _ _ => False) { s with heap := h2, toks := tk2 }) :
    wpAny (model prog w) (lawA L fa) (execs ((qBody.drop 7).take 2 ++ qRest 9) (lawEnv L fa)) Q (fun _ _ => False) { s with heap := h₁, toks := tk } := by
  have xq2 : @Ne Nat QA (L + 2) := off.1.2.2.1
  have xi2 : @Ne Nat I0 (L + 2) := off.2.1.2.2.1
  have xz2 : @Ne Nat Z (L + 2) := off.2.2.1.2.2.1
  have xf2 : @Ne Nat FW (L + 2) := off.2.2.2.1.2.2.1
  have xb2 : @Ne Nat BW (L + 2) := off.2.2.2.2.1.2.2.1
  have xp2 : @Ne Nat PT (L + 2) := off.2.2.2.2.2.1.2.2.1
  have xt2 : @Ne Nat TI (L + 2) := off.2.2.2.2.2.2.1.2.2.1
  have xr2 : @Ne Nat PR (L + 2) := off.2.2.2.2.2.2.2.1.2.2.1
  have xw2 : @Ne Nat RW (L + 2) := off.2.2.2.2.2.2.2.2.1.2.2.1
  have xk2 : @Ne Nat k5 (L + 2) := off.2.2.2.2.2.2.2.2.2.1.2.2.1
  have xl2 : @Ne Nat k6 (L + 2) := off.2.2.2.2.2.2.2.2.2.2.1.2.2.1
  obtain ⟨y0, y1, y2, y3⟩ := offK
  replace F := frKnow3 F hm hm2 hm3
  have hql := ql5.len
  have hnl : (nInts ql).length = 5 := by simp [nInts, hql]
  have hvl : qv.length = 5 := by rw [hq.length, hnl]
  k_steps
  refine Stop.mk (for_list (by k_asm) ?_)
  k_steps
  rename Fr _ _ _ _ => F1
  rename News _ _ _ _ => N1
  rename (_ < _ ∧ _) => l1
  rename IntsAre _ (nInts ql).reverse => huv0
  rename_i RV uv _ _
  have huv : IntsAre uv (nInts ql.reverse) := intsCast huv0 (by simp [nInts])
  clear huv0
  obtain ⟨w0, w1, w2, w3, w4, w5, w6, w7, w8, w9, w10, w11, w12, w13, w14, w15, w16, w17, w18, w19⟩ := l1
  have oRV : Off4 L RV := ⟨Nat.ne_of_gt w11, Nat.ne_of_gt w12, Nat.ne_of_gt w16, Nat.ne_of_gt w19⟩
  clear w0 w1 w2 w3 w4 w5 w6 w7 w8 w9 w10 w11 w12 w13 w14 w15 w16 w17 w18 w19
  refine ⟨_, List.toArray uv, _, _, fun i m' news => ∃ un o9 v9 tk, m' (Str.ofString "queue") = some (.ref QA) ∧ m' (Str.ofString "picked") = some (.ref PK) ∧ m' (Str.ofString "kept") = some (.int (((ql.reverse.take i).foldl (kstep (tiesN rs)) 31 : Nat) : Int) tk) ∧ news = ((RV, W.listOf (List.toArray uv) un) :: (PK, lst pk) :: [(QA, W.listOf (List.toArray qv) qn), (I0, oI0), (Z, oZ), (FW, oF), (BW, oB), (PT, lst pts), (TI, lst tv), (PR, lst pv), (RW, lst rv), (L + 10, o1), (L + 9, o2), (L + 8, o3), (L + 7, o4), (L + 6, o5), (L + 3, o8), (L + 2, o9), (k5, c5), (k6, c6), (107, tabObj tab)]) ∧ o9.data = .cell v9, rfl, rfl, F1, N1, .inr ⟨_, .head _, rfl, _, rfl⟩, ?_, ?_, ?_, ?_⟩
  · exact ⟨_, _, _, _, rfl, rfl, rfl, rfl, d9⟩
  · rintro i m nw ⟨un, o9, v9, tk, -, -, -, rfl, -⟩
    exact .inr ⟨_, .head _, rfl, _, rfl⟩
  · rintro I i v m₁ news₁ h tk oI hlt hi' hv ⟨un, o9, v9, t9, e1, e2, e3, rfl, e9⟩ hne F2 N2
    have hv' : uv[i]? = some v := by simpa using hv
    clear d9 F1 N1 hlt
    obtain ⟨z0, z1, z2, z3⟩ := oRV
    have n14 : @Ne Nat (L + 2) I := hne (L + 2, o9) (by k_mem)
    obtain ⟨r, hr1, t, rfl⟩ := nInts_item huv hv'
    have hr5 : r < 5 := (ql5.mem r).mp (List.mem_reverse.mp (List.mem_of_getElem? hr1))
    have htk : ql.reverse.take (i + 1) = ql.reverse.take i ++ [r] := by rw [List.take_add_one, hr1]; rfl
    have hkn : (ql.reverse.take (i + 1)).foldl (kstep (tiesN rs)) 31 = kstep (tiesN rs) ((ql.reverse.take i).foldl (kstep (tiesN rs)) 31) r := by rw [htk, List.foldl_append]; rfl
    obtain ⟨hkb, hkl⟩ := kept_at hrl ql5 hr1
    generalize (ql.reverse.take i).foldl (kstep (tiesN rs)) 31 = kn at hkn hkb hkl e3
    have hk1 : 1 ≤ kn := bit_le hkb
    have htl : (tiesN rs).length ≤ 31 := Nat.le_trans (List.length_filter_le _ _) (by simp)
    have htn : (nInts (tiesN rs)).length = (tiesN rs).length := by simp [nInts]
    have htv : tv.length = (tiesN rs).length := by rw [hti.length, htn]
    have hpl : pts.length = (tiesN rs).length := by have := hpt.length; simpa using this
    replace F2 := frKnow3 F2 e1 e2 e3
    generalize hTE : TurnEnd _ _ _ _ _ _ _ = TE
    k_steps
    rename Fr _ _ _ _ => F3
    rename News _ _ _ _ => N3
    rename (Obj.data _ = Data.cell (some (Value.int (r : Int) _))) => dk
    rename_i h3 o9k
    replace N3 : News h₀ L h3 ((I, oI) :: ((RV, W.listOf (List.toArray uv) un) :: (PK, lst pk) :: [(QA, W.listOf (List.toArray qv) qn), (I0, oI0), (Z, oZ), (FW, oF), (BW, oB), (PT, lst pts), (TI, lst tv), (PR, lst pv), (RW, lst rv), (L + 10, o1), (L + 9, o2), (L + 8, o3), (L + 7, o4), (L + 6, o5), (L + 3, o8), (L + 2, o9k), (k5, c5), (k6, c6), (107, tabObj tab)])) := N3
    refine Stop.mk (Assign_ListComp_T F3 rfl rfl rfl (by decide) rfl (by decide) rfl rfl rfl ?_)
    clear F2 N2
    k_steps
    refine Stop.mk (range1_rows F3 N3 fun h4 tk4 ta tb tc R4 F4 N4 kp => ?_)
    clear F3 N3 kp
    rw [htn] at R4
    refine CompSrcT.range (n := (tiesN rs).length) rfl F4 N4 R4 (range_small (by omega)) (range_size _) (by rw [sizeLine_eq]; omega) fun g => ?_
    clear R4
    refine compT (n := (tiesN rs).length) (fun j ys => StrsAre ys ((((tiesN rs).take j).filter fun m => m.testBit r).map pat)) trivial ?_ ?_ _ 0 [] (by simp) .nil
    · clear F4 N4
      intro j ys v J oJ C oC D m₃ h tk hj hR hP hN hx F5 N5
      obtain ⟨t, rfl⟩ := hP
      rw [Int.zero_add] at hx
      have hjx := List.getElem?_eq_getElem hj
      generalize (tiesN rs)[j] = x at hjx
      have hxm := (mem_ties hrl).mp (List.mem_of_getElem? hjx)
      have et : (tiesN rs).take (j + 1) = (tiesN rs).take j ++ [x] := by rw [List.take_add_one, hjx]; rfl
      have ex : (tiesN rs).getD j 0 = x := by rw [List.getD_eq_getElem?_getD, hjx]; rfl
      have ep : ((tiesN rs).map pat).getD j Str.empty = pat x := by rw [List.getD_eq_getElem?_getD, List.getElem?_map, hjx]; rfl
      have hsb := shr_bit ⟨x, hxm.2.1⟩ ⟨r, hr5⟩
      dsimp only at hsb
      k_steps
      · exact fun _ _ e => e
      · rename (Builtin.bitAnd _ 1 ≠ 0) => hz
        rw [Int.toNat_natCast, Int.toNat_natCast, nInts_getD, ex, hsb] at hz
        have hz' : x.testBit r = true := by
          cases c : x.testBit r with
          | true => rfl
          | false => rw [c] at hz; exact absurd rfl hz
        rw [et, List.filter_append, filter_one (P := fun m => m.testBit r) hz', List.map_append]
        rw [Int.toNat_natCast, ep]
        exact StrsAre.append' hR (.cons _ _ .nil)
      · exact fun _ _ e => e
      · rename (Builtin.bitAnd _ 1 = 0) => hz
        rw [Int.toNat_natCast, Int.toNat_natCast, nInts_getD, ex, hsb] at hz
        have hz' : ¬ x.testBit r = true := fun c => by rw [c] at hz; exact absurd hz (by decide)
        rw [et, List.filter_append, filter_none (P := fun m => m.testBit r) hz', List.append_nil]
        exact hR
    · intro ys hys
      rw [List.take_length] at hys
      clear F4 N4
      k_steps
      rename Fr _ _ _ _ => F5
      rename News _ _ _ _ => N5
      refine Stop.mk (pf (X.keeps F5.keep) (T.keeps F5.keep) (Nat.le_of_ble_eq_true rfl) rfl _ _ hk1 hkl fun tx h6 tk6 kp => ?_)
      have F6 := kp.fr F5
      have N6 := kp.news N5
      clear F5 N5
      k_steps
      have hmk : ∀ k ∈ (tiesN rs).filter fun m => m.testBit r, 1 ≤ k ∧ k < 32 := fun k hk => by
        have := (mem_ties hrl).mp (List.mem_filter.mp hk).1
        exact ⟨this.1, this.2.1⟩
      refine Stop.mk (tied (X.keeps F6.keep) (T.keeps F6.keep) (Nat.le_of_ble_eq_true rfl) rfl _ _ hk1 hkl _ ys ((tiesN rs).filter fun m => m.testBit r) (News.isList N6 (.head _)) hys hmk fun h7 tk7 kp => ?_)
      have F7 := kp.fr F6
      have N7 := kp.news N6
      clear F6 N6
      replace N7 : News h₀ L h7 ((I, oI) :: ((RV, W.listOf (List.toArray uv) un) :: (PK, lst pk) :: [(QA, W.listOf (List.toArray qv) qn), (I0, oI0), (Z, oZ), (FW, oF), (BW, oB), (PT, lst pts), (TI, lst tv), (PR, lst pv), (RW, lst rv), (L + 10, o1), (L + 9, o2), (L + 8, o3), (L + 7, o4), (L + 6, o5), (L + 3, o8), (L + 2, o9k), (k5, c5), (k6, c6), (107, tabObj tab)])) := fun q hq => N7 q (.tail _ hq)
      have hks : kstep (tiesN rs) kn r = if (((tiesN rs).filter fun m => m.testBit r).any fun m => m &&& kn == m) = true then kn ^^^ 2 ^ r else kn := rfl
      cases hb : (((tiesN rs).filter fun m => m.testBit r).any fun m => m &&& kn == m) with
      | true =>
        rw [hb, if_pos rfl] at hks
        k_steps
        rename Fr _ _ _ _ => F8
        rename News _ _ _ _ => N8
        rw [Int.toNat_natCast, xor_nat5 _ _ hkl hr5] at F8
        subst hTE
        refine TurnEnd.next F8 N8 (fun _ q => q) ?_ ?_
        · exact neI hne rfl
        · exact ⟨_, _, _, _, rfl, rfl, by rw [hkn, hks]; rfl, rfl, dk⟩
      | false =>
        rw [hb, if_neg (by simp)] at hks
        k_steps
        subst hTE
        refine TurnEnd.next F7 N7 (fun _ q => q) ?_ ?_
        · exact neI hne rfl
        · exact ⟨_, _, _, _, rfl, rfl, by rw [hkn, hks]; rfl, rfl, dk⟩
  · rintro h tk m₁ news₁ ⟨un, o9, v9, t9, e1, e2, e3, rfl, e9⟩ F2 N2
    have hul : uv.length = 5 := by rw [huv.length]; simp [nInts, hql]
    have hsz : (List.toArray uv).size = 5 := by simpa using hul
    rw [hsz, List.take_of_length_le (by rw [List.length_reverse, hql]; exact Nat.le_refl _), kept_end hrl ql5] at e3
    have F3 := frKnow3 F2 e1 e2 e3
    clear F1 N1
    k_steps
    · rename (((takenN (tiesN rs) ql : Nat) : Int) ≠ _) => hx
      exact absurd rfl hx
    · exact rest _ _ _ _ _ F3 rfl (fun q hq => N2 q (.tail _ hq)) e9
end
end Mine

-- part Q4
open PySem PySem.W PyProof.Rows PySem.Calls PySem.Spec PyProof.Rows.LCg PyProof.Rows.LCt
set_option Elab.async false
set_option maxRecDepth 100000
set_option maxHeartbeats 8000000
namespace Mine
section
variable {prog : Program} {w : World} {s : Shared} {Q : Flow → Shared → Prop}
variable {p : Program} {loose : List Str} {mean : ExcName → Option Value} {mg mb : Str → Option Value} {h₀ h₁ : Heap} {L fa : Addr} {tk : Nat}
local macro_rules | `(tactic| walk_at "call ref") => `(tactic| refine Stop.out ?_)
local macro_rules | `(tactic| walk_at "exec For") => `(tactic| refine Stop.out ?_)
local macro_rules | `(tactic| walk_at "exec For Name Name cons nil") => `(tactic| refine Stop.out ?_)
local macro_rules | `(tactic| walk_at "eval Lambda") => `(tactic| refine Stop.out ?_)
local macro_rules | `(tactic| walk_at "eval ListComp") => `(tactic| refine Stop.out ?_)
local macro_rules | `(tactic| walk_at "CompSrcT") => `(tactic| refine Stop.out ?_)
local macro_rules | `(tactic| k_all) => `(tactic| with_reducible assumption)
abbrev pos5 : Pos := ⟨181, 51, 181, 70⟩
abbrev pos6 : Pos := ⟨182, 51, 182, 70⟩
theorem glOrd {ps ql : List Nat} {row : Nat → Nat} (ql5 : QL ps ql) : ((greedy row ql).map (ps.getD · 0)).Pairwise (· ≤ ·) := by
  rw [← picked_is (row := row) ql5.nd]
  exact List.pairwise_map.mpr ((List.pairwise_map.mp ql5.ord).filter _)
theorem off4_lt {L c : Addr} (h : @LT.lt Nat _ (L + 10) c) (h' : @LT.lt Nat _ 107 c) : Off4 L c := ⟨Nat.ne_of_gt (Nat.lt_of_le_of_lt (Nat.add_le_add_left (by decide) L) h), Nat.ne_of_gt (Nat.lt_of_le_of_lt (Nat.add_le_add_left (by decide) L) h), Nat.ne_of_gt (Nat.lt_of_le_of_lt (Nat.add_le_add_left (by decide) L) h), Nat.ne_of_gt h'⟩
theorem js_lt {rs : List Nat} (hrl : rs.length = 5) (hrb : ∀ r ∈ rs, r < 16) (P : Nat → Bool) : ∀ x ∈ ((List.range' 0 5).filter P).map (rs.getD · 0), x < 16 := fun x hx => by
  obtain ⟨k, hk, rfl⟩ := List.mem_map.mp hx
  have := (List.mem_range'_1.mp (List.mem_filter.mp hk).1).2
  exact hrb _ (getD_mem (by omega))
theorem js_len (rs : List Nat) (P : Nat → Bool) : (((List.range' 0 5).filter P).map (rs.getD · 0)).length ≤ 5 := by
  rw [List.length_map]
  exact Nat.le_trans (List.length_filter_le _ _) (by simp)
theorem cnt_of {ps ql : List Nat} {row : Nat → Nat} {P : Nat → Bool} (ql5 : QL ps ql) (mono : ∀ a b, a ≤ b → P b = true → P a = true) :
    2 ^ ((greedy row ql).map (ps.getD · 0)).countP P = (reachN (((List.range' 0 5).filter fun k => P (ps.getD k 0)).map row)).length := by
  rw [List.countP_map]
  refine count_reach (P := P ∘ (ps.getD · 0)) (fun k hk => (ql5.mem k).mp hk) (fun k hk => ?_) ((List.pairwise_map.mp ql5.ord).imp fun {a b} h q => mono _ _ h q) fun k => ?_
  · have := (List.mem_range'_1.mp (List.mem_filter.mp hk).1).2; omega
  · rw [List.mem_filter, ql5.mem, List.mem_range'_1]
    exact and_congr (by omega) Iff.rfl
theorem cnt_le {ps ql : List Nat} {row : Nat → Nat} (ql5 : QL ps ql) (b : Nat) : 2 ^ ((greedy row ql).map (ps.getD · 0)).countP (· ≤ b) = (reachN (((List.range' 0 5).filter fun k => decide (ps.getD k 0 ≤ b)).map row)).length :=
  cnt_of (P := fun x => decide (x ≤ b)) ql5 fun x y h q => decide_eq_true (Nat.le_trans h (of_decide_eq_true q))
theorem cnt_lt {ps ql : List Nat} {row : Nat → Nat} (ql5 : QL ps ql) (b : Nat) : 2 ^ ((greedy row ql).map (ps.getD · 0)).countP (· < b) = (reachN (((List.range' 0 5).filter fun k => decide (ps.getD k 0 < b)).map row)).length :=
  cnt_of (P := fun x => decide (x < b)) ql5 fun x y h q => decide_eq_true (Nat.lt_of_le_of_lt h (of_decide_eq_true q))
theorem q9 {PK PR RW k5 k6 : Addr} {pk pv rv : List Value} {ps rs ql gl : List Nat} {m : Str → Option Value} {tab : Array Value} {o1 o2 o8 c5 c6 : Obj} {ex : List (Addr × Obj)}
    (X : Frag.In (hd.heap_39 w.params) h₀) (T : Top p loose mean mg mb h₀) (C : CodeHd h₀ 109 107) (h107 : @LT.lt Nat _ 107 L)
    (x1 : @Ne Nat PK (L + 9)) (x2 : @Ne Nat PR (L + 9)) (x3 : @Ne Nat RW (L + 9)) (z5 : Off4 L k5) (z6 : Off4 L k6) {P : Addr → Prop} (hP : ∀ c : Addr, (∀ q ∈ ex, q.1 < c) → P c) (n5 : P k5) (n6 : P k6) (x6 : ∀ q ∈ ex, q.1 ≠ L + 9)
    (y1 : @Ne Nat PK 107) (y2 : @Ne Nat PR 107) (y3 : @Ne Nat RW 107) (y6 : ∀ q ∈ ex, q.1 ≠ 107)
    (F : Fr h₀ L h₁ m) (hm : m (Str.ofString "picked") = some (.ref PK))
    (N : News h₀ L h₁ ((PK, lst pk) :: (PR, lst pv) :: (RW, lst rv) :: (L + 10, o1) :: (L + 9, o2) :: (L + 3, o8) :: (k5, c5) :: (k6, c6) :: (107, tabObj tab) :: ex))
    (hpk : IntsAre pk (nInts gl)) (hgl : gl = greedy (rs.getD · 0) ql) (ql5 : QL ps ql) (hi : IntsAre pv (nInts ps)) (hl : ps.length = 5) (hw : IntsAre rv (nInts rs)) (hrl : rs.length = 5) (hrb : ∀ r ∈ rs, r < 16)
    (d1 : o1.data = .cell (some (.ref PR))) (d8 : o8.data = .cell (some (.ref RW))) {v2 : Option Value} (d2 : o2.data = .cell v2) (htr : TriplesOk tab.toList) (la5 : LamAt pos5 lamQ tab k5 c5) (la6 : LamAt pos6 lamQ tab k6 c6)
    (rest : ∀ o2 k5 c5 k6 c6 tab v2 h2 tk2 m, Fr h₀ L h2 m → News h₀ L h2 ((PK, lst pk) :: (PR, lst pv) :: (RW, lst rv) :: (L + 10, o1) :: (L + 9, o2) :: (L + 3, o8) :: (k5, c5) :: (k6, c6) :: (107, tabObj tab) :: ex) → o2.data = .cell v2 → TriplesOk tab.toList → LamAt pos5 lamQ tab k5 c5 → LamAt pos6 lamQ tab k6 c6 →
      Off4 L k5 → Off4 L k6 → P k5 → P k6 →
      Q .next { s with heap := h2, toks := tk2 }) :
    wpAny (model prog w) (lawA L fa) (execs (qBody.drop 9) (lawEnv L fa)) Q (fun _ _ => False) { s with heap := h₁, toks := tk } := by
  replace F := frKnow F hm
  have hg5 : ∀ j ∈ gl, j < 5 := fun j hj => (ql5.mem j).mp (greedy_sub ql j (hgl ▸ hj))
  have hgl5 : gl.length ≤ 5 := by rw [hgl]; exact Nat.le_trans (greedy_le ql) (Nat.le_of_eq ql5.len)
  have hgo : (gl.map (ps.getD · 0)).Pairwise (· ≤ ·) := by rw [hgl]; exact glOrd ql5
  have hnl : (nInts ps).length = 5 := by simp [nInts, hl]
  have hpl : pv.length = 5 := by rw [hi.length, hnl]
  have hrn : (nInts rs).length = 5 := by simp [nInts, hrl]
  have hrv : rv.length = 5 := by rw [hw.length, hrn]
  k_steps
  refine Stop.mk (for_list (by k_asm) ?_)
  k_steps
  refine ⟨_, List.toArray pv, _, _, fun i m' news => ∃ o2 k5 c5 k6 c6 tab v2, m' (Str.ofString "picked") = some (.ref PK) ∧ news = ((PK, lst pk) :: (PR, lst pv) :: (RW, lst rv) :: (L + 10, o1) :: (L + 9, o2) :: (L + 3, o8) :: (k5, c5) :: (k6, c6) :: (107, tabObj tab) :: ex) ∧ o2.data = .cell v2 ∧ TriplesOk tab.toList ∧ LamAt pos5 lamQ tab k5 c5 ∧ LamAt pos6 lamQ tab k6 c6 ∧
    Off4 L k5 ∧ Off4 L k6 ∧ P k5 ∧ P k6, rfl, rfl, F, N, .inr ⟨_, .tail _ (.head _), rfl, _, rfl⟩, ?_, ?_, ?_, ?_⟩
  · exact ⟨_, _, _, _, _, _, _, rfl, rfl, d2, htr, la5, la6, z5, z6, n5, n6⟩
  · rintro i m nw ⟨o2, k5, c5, k6, c6, tab, v2, -, rfl, -⟩
    exact .inr ⟨_, .tail _ (.head _), rfl, _, rfl⟩
  · clear d2 htr la5 la6 z5 z6 n5 n6 F N
    rintro I i v m₁ news₁ h tk oI hlt hi' hv ⟨o2, k5, c5, k6, c6, tab, v2, e1, rfl, e2, htr, la5, la6, z5, z6, n5, n6⟩ hne F2 N2
    have x4 := z5.1
    have x5 := z6.1
    have y4 := z5.2.2.2
    have y5 := z6.2.2.2
    have hv' : pv[i]? = some v := by simpa using hv
    clear hlt
    have i9 : @Ne Nat (L + 9) I := hne (L + 9, o2) (by k_mem)
    have i7 : @Ne Nat 107 I := hne (107, tabObj tab) (by k_mem)
    obtain ⟨b, hb1, t, rfl⟩ := nInts_item hi hv'
    replace F2 := frKnow F2 e1
    generalize hTE : TurnEnd _ _ _ _ _ _ _ = TE
    k_steps
    rename Fr _ _ _ _ => F3
    rename News _ _ _ _ => N3
    rename (Obj.data _ = Data.cell (some (Value.int (b : Int) _))) => db
    rename_i h3 o9k
    replace N3 : News h₀ L h3 ((I, oI) :: ((PK, lst pk) :: (PR, lst pv) :: (RW, lst rv) :: (L + 10, o1) :: (L + 9, o9k) :: (L + 3, o8) :: (k5, c5) :: (k6, c6) :: (107, tabObj tab) :: ex)) := N3
    refine Stop.mk (evalLam F3 N3 T C (by k_updF) (k := k5) (o := c5) (by k_mem) htr la5 rfl rfl fun kf c' oc tab1 ctv h5 tk5 F5 N5 co1 tr1 am' oth lf' lc' => ?_)
    have kf7 : @LT.lt Nat _ 107 kf := lf' (107, _) (by k_mem)
    have zc : Off4 L c' := by
      rcases lc' with rfl | lc
      · assumption
      · exact off4_lt (lc (L + 10, o1) (by k_mem)) (lc (107, _) (by k_mem))
    have nc : P c' := by
      rcases lc' with rfl | lc
      · assumption
      · exact hP _ fun q hq => lc q (.tail _ (.tail _ (.tail _ (.tail _ (.tail _ (.tail _ (.tail _ (.tail _ (.tail _ (.tail _ hq))))))))))
    have c59 := zc.1
    have c57 := zc.2.2.2
    have la6' : LamAt pos6 lamQ tab1 k6 c6 := by
      unfold LamAt at la6 ⊢
      rw [oth pos6 (by decide)]; exact la6
    have am5 := am'

    have c5I : @Ne Nat c' I := by
      rcases lc' with rfl | lc
      · exact hne (c', _) (by k_mem)
      · exact Nat.ne_of_gt (lc (I, oI) (.head _))
    clear lf' lc' oth F3 N3
    k_steps
    generalize hlam : kla_obj _ _ _ _ _ _ _ _ _ = lam1 at N5
    have kk := lamKey (prog := prog) (w := w) X T F5.keep ⟨(N5 (L + 10, o1) (by k_mem)).1, (N5 (L + 10, o1) (by k_mem)).2.2⟩ ⟨(N5 (PR, lst pv) (by k_mem)).1, (N5 (PR, lst pv) (by k_mem)).2.2⟩ d1 (hlam ▸ (N5 (kf, lam1) (.head _)).1) (N5 (c', oc) (.tail _ (.head _))).1 co1 hi hl
    have fk : FnAt kf h5 := FnAt.of N5 (by rw [← hlam]; exact .head _)
    refine Stop.mk (bisRd (s := { s with heap := h5, toks := tk5 }) (X.keeps F5.keep) (T.keeps F5.keep) (Nat.le_of_ble_eq_true rfl) rfl PK kf pk gl ps b t (News.isList N5 (by k_mem)) hpk (fun j hj => by rw [hl]; exact hg5 j hj) kk fk hgl5 hgo fun tx h6 tk6 kp => ?_)
    generalize hU : List.countP _ _ = up
    have hup : up ≤ 5 := by rw [← hU]; exact Nat.le_trans List.countP_le_length (by rw [List.length_map]; exact hgl5)
    have F6 := kp.fr F5
    have N6 := kp.news N5
    clear F5 N5 kk fk
    clear hlam
    replace N6 : News h₀ L h6 ((I, oI) :: ((PK, lst pk) :: (PR, lst pv) :: (RW, lst rv) :: (L + 10, o1) :: (L + 9, o9k) :: (L + 3, o8) :: (c', oc) :: (k6, c6) :: (107, tabObj tab1) :: ex)) := fun q hq => N6 q (subE (l' := [(I, oI), (PK, lst pk), (PR, lst pv), (RW, lst rv), (L + 10, o1), (L + 9, o9k), (L + 3, o8), (c', oc), (k6, c6), (107, tabObj tab1)]) 12 [2, 3, 4, 5, 6, 7, 8, 1, 10, 11] rfl q hq)
    k_steps
    rename Fr _ _ _ _ => F3
    rename News _ _ _ _ => N3
    refine Stop.mk (evalLam F3 N3 T C (by k_updF) (k := k6) (o := c6) (by k_mem) tr1 la6' rfl rfl fun kf d' od tab2 ctv h7 tk7 F5 N5 co2 tr2 am6 oth lf' lc' => ?_)
    have kf7' : @LT.lt Nat _ 107 kf := lf' (107, _) (by k_mem)
    have zd : Off4 L d' := by
      rcases lc' with rfl | lc
      · assumption
      · exact off4_lt (lc (L + 10, o1) (by k_mem)) (lc (107, _) (by k_mem))
    have nd : P d' := by
      rcases lc' with rfl | lc
      · assumption
      · exact hP _ fun q hq => lc q (.tail _ (.tail _ (.tail _ (.tail _ (.tail _ (.tail _ (.tail _ (.tail _ (.tail _ (.tail _ hq))))))))))
    have d69 := zd.1
    have d67 := zd.2.2.2
    have d6I : @Ne Nat d' I := by
      rcases lc' with rfl | lc
      · exact hne (d', _) (by k_mem)
      · exact Nat.ne_of_gt (lc (I, oI) (.head _))
    have am5' : codeAmong pos5 tab2.toList = some (.ref c') := (oth pos5 (by decide)).trans am5
    clear lf' lc' oth F3 N3
    k_steps
    generalize hlam : kla_obj _ _ _ _ _ _ _ _ _ = lam1 at N5
    have kk := lamKey (prog := prog) (w := w) X T F5.keep ⟨(N5 (L + 10, o1) (by k_mem)).1, (N5 (L + 10, o1) (by k_mem)).2.2⟩ ⟨(N5 (PR, lst pv) (by k_mem)).1, (N5 (PR, lst pv) (by k_mem)).2.2⟩ d1 (hlam ▸ (N5 (kf, lam1) (.head _)).1) (N5 (d', od) (.tail _ (.head _))).1 co2 hi hl
    have fk : FnAt kf h7 := FnAt.of N5 (by rw [← hlam]; exact .head _)
    refine Stop.mk (bisLd (s := { s with heap := h7, toks := tk7 }) (X.keeps F5.keep) (T.keeps F5.keep) (Nat.le_of_ble_eq_true rfl) rfl PK kf pk gl ps b t (News.isList N5 (by k_mem)) hpk (fun j hj => by rw [hl]; exact hg5 j hj) kk fk hgl5 hgo fun ty h8 tk8 kp => ?_)
    generalize hV : List.countP _ _ = be
    have hbe : be ≤ 5 := by rw [← hV]; exact Nat.le_trans List.countP_le_length (by rw [List.length_map]; exact hgl5)
    have F8 := kp.fr F5
    have N8 := kp.news N5
    clear F5 N5 kk fk hlam
    replace N8 : News h₀ L h8 ((I, oI) :: ((PK, lst pk) :: (PR, lst pv) :: (RW, lst rv) :: (L + 10, o1) :: (L + 9, o9k) :: (L + 3, o8) :: (c', oc) :: (d', od) :: (107, tabObj tab2) :: ex)) := fun q hq => N8 q (subE (l' := [(I, oI), (PK, lst pk), (PR, lst pv), (RW, lst rv), (L + 10, o1), (L + 9, o9k), (L + 3, o8), (c', oc), (d', od), (107, tabObj tab2)]) 12 [2, 3, 4, 5, 6, 7, 8, 9, 1, 11] rfl q hq)
    k_steps
    rename Fr _ _ _ _ => F3
    rename News _ _ _ _ => N3
    refine Stop.mk (ListComp_T F3 rfl (by decide) rfl (by decide) rfl ?_)
    k_steps
    rename Fr _ _ _ _ => F4
    rename News _ _ _ _ => N4
    rename IsRange _ _ _ _ _ _ _ _ => R4
    refine Stop.mk (CompSrcT.range (n := 5) rfl F4 N4 R4 rfl rfl (by decide) fun g => ?_)
    clear R4
    refine compT (n := 5) (fun j ys => IntsAre ys (nInts (((List.range' 0 j).filter fun k => decide (ps.getD k 0 ≤ b)).map (rs.getD · 0)))) trivial ?_ ?_ _ 0 [] (by simp) .nil
    · clear F4 N4
      intro j ys v J oJ C oC D m₃ h tk hj hR hP hN hx F5 N5
      obtain ⟨t, rfl⟩ := hP
      rw [Int.zero_add] at hx
      have er : List.range' 0 (j + 1) = List.range' 0 j ++ [j] := by rw [List.range'_concat, Nat.one_mul, Nat.zero_add]
      k_steps
      · exact fun _ _ e => e
      · rename ((nInts ps).getD _ 0 ≤ _) => hz
        rw [Int.toNat_natCast, nInts_getD] at hz
        have hz' : decide (ps.getD j 0 ≤ b) = true := decide_eq_true (by omega)
        rw [er, List.filter_append, filter_one (P := fun k => decide (ps.getD k 0 ≤ b)) hz', List.map_append, nInts_app]
        refine intsApp hR (intsCast (.cons _ _ .nil) ?_)
        rw [Int.toNat_natCast, nInts_getD]; rfl
      · exact fun _ _ e => e
      · rename (¬ (nInts ps).getD _ 0 ≤ _) => hz
        rw [Int.toNat_natCast, nInts_getD] at hz
        have hz' : ¬ decide (ps.getD j 0 ≤ b) = true := fun q => by have := of_decide_eq_true q; omega
        rw [er, List.filter_append, filter_none (P := fun k => decide (ps.getD k 0 ≤ b)) hz', List.append_nil]
        exact hR
    intro ys hys
    clear F4 N4
    k_steps
    rename Fr _ _ _ _ => F5
    rename News _ _ _ _ => N5
    refine Stop.mk (reach (X.keeps F5.keep) (T.keeps F5.keep) (Nat.le_of_ble_eq_true rfl) rfl _ ys _ (News.isList N5 (.head _)) hys (js_lt hrl hrb _) (js_len _ _) fun R1 ws1 rn1 h91 tk91 kp hR0 hR1 hRI => ?_)
    have F61 := kp.fr F5
    have N61 := newsAdd kp F5 N5 hR0 hR1
    clear F5 N5 hR0 hR1 kp
    have hcnt := cnt_le (row := (rs.getD · 0)) ql5 b
    rw [← hgl, hU] at hcnt
    generalize reachN _ = RL1 at hRI hcnt
    have hrll : (nInts RL1).length = 2 ^ up := by rw [hcnt]; simp [nInts]
    have h32 : 2 ^ up ≤ 2 ^ 5 := Nat.pow_le_pow_right (by decide) hup
    have h33 : (nInts RL1).length ≤ 32 := by rw [hrll]; exact h32
    have h34 : ws1.length ≤ 32 := by rw [hRI.length]; exact h33
    k_steps
    · rename (_ ≠ (((nInts RL1).length : Nat) : Int)) => hx
      exact absurd (by rw [Int.toNat_natCast, hrll]; simp) hx
    rename (_ = (((nInts RL1).length : Nat) : Int)) => hx
    clear hx hrll h33 h34 hRI hcnt
    rename Fr _ _ _ _ => F3
    rename News _ _ _ _ => N3
    replace N3 : News h₀ L h91 ((I, oI) :: ((PK, lst pk) :: (PR, lst pv) :: (RW, lst rv) :: (L + 10, o1) :: (L + 9, o9k) :: (L + 3, o8) :: (c', oc) :: (d', od) :: (107, tabObj tab2) :: ex)) := fun q hq => N3 q (.tail _ (.tail _ hq))
    refine Stop.mk (ListComp_T F3 rfl (by decide) rfl (by decide) rfl ?_)
    k_steps
    rename Fr _ _ _ _ => F4
    rename News _ _ _ _ => N4
    rename IsRange _ _ _ _ _ _ _ _ => R4
    refine Stop.mk (CompSrcT.range (n := 5) rfl F4 N4 R4 rfl rfl (by decide) fun g => ?_)
    clear R4
    refine compT (n := 5) (fun j ys => IntsAre ys (nInts (((List.range' 0 j).filter fun k => decide (ps.getD k 0 < b)).map (rs.getD · 0)))) trivial ?_ ?_ _ 0 [] (by simp) .nil
    · clear F4 N4
      intro j ys v J oJ C oC D m₃ h tk hj hR hP hN hx F5 N5
      obtain ⟨t, rfl⟩ := hP
      rw [Int.zero_add] at hx
      have er : List.range' 0 (j + 1) = List.range' 0 j ++ [j] := by rw [List.range'_concat, Nat.one_mul, Nat.zero_add]
      k_steps
      · exact fun _ _ e => e
      · rename ((nInts ps).getD _ 0 < _) => hz
        rw [Int.toNat_natCast, nInts_getD] at hz
        have hz' : decide (ps.getD j 0 < b) = true := decide_eq_true (by omega)
        rw [er, List.filter_append, filter_one (P := fun k => decide (ps.getD k 0 < b)) hz', List.map_append, nInts_app]
        refine intsApp hR (intsCast (.cons _ _ .nil) ?_)
        rw [Int.toNat_natCast, nInts_getD]; rfl
      · exact fun _ _ e => e
      · rename (¬ (nInts ps).getD _ 0 < _) => hz
        rw [Int.toNat_natCast, nInts_getD] at hz
        have hz' : ¬ decide (ps.getD j 0 < b) = true := fun q => by have := of_decide_eq_true q; omega
        rw [er, List.filter_append, filter_none (P := fun k => decide (ps.getD k 0 < b)) hz', List.append_nil]
        exact hR
    intro ys hys
    clear F4 N4
    k_steps
    rename Fr _ _ _ _ => F5
    rename News _ _ _ _ => N5
    refine Stop.mk (reach (X.keeps F5.keep) (T.keeps F5.keep) (Nat.le_of_ble_eq_true rfl) rfl _ ys _ (News.isList N5 (.head _)) hys (js_lt hrl hrb _) (js_len _ _) fun R2 ws2 rn2 h10 tk10 kp hR0 hR1 hRI => ?_)
    have F62 := kp.fr F5
    have N62 := newsAdd kp F5 N5 hR0 hR1
    clear F5 N5 hR0 hR1 kp
    have hcnt := cnt_lt (row := (rs.getD · 0)) ql5 b
    rw [← hgl, hV] at hcnt
    generalize reachN _ = RL2 at hRI hcnt
    have hrll : (nInts RL2).length = 2 ^ be := by rw [hcnt]; simp [nInts]
    have h32 : 2 ^ be ≤ 2 ^ 5 := Nat.pow_le_pow_right (by decide) hbe
    have h33 : (nInts RL2).length ≤ 32 := by rw [hrll]; exact h32
    have h34 : ws2.length ≤ 32 := by rw [hRI.length]; exact h33
    k_steps
    · rename (_ ≠ (((nInts RL2).length : Nat) : Int)) => hx
      exact absurd (by rw [Int.toNat_natCast, hrll]; simp) hx
    subst hTE
    refine TurnEnd.next (news₂ := ((PK, lst pk) :: (PR, lst pv) :: (RW, lst rv) :: (L + 10, o1) :: (L + 9, o9k) :: (L + 3, o8) :: (c', oc) :: (d', od) :: (107, tabObj tab2) :: ex)) F62 N62 (fun q hq => .tail _ (.tail _ hq)) ?_ ?_
    · refine List.forall_mem_cons.mpr ⟨hne _ (.head _), List.forall_mem_cons.mpr ⟨hne _ (.tail _ (.head _)), List.forall_mem_cons.mpr ⟨hne _ (.tail _ (.tail _ (.head _))), List.forall_mem_cons.mpr ⟨hne (L + 10, o1) (by k_mem), List.forall_mem_cons.mpr ⟨i9, List.forall_mem_cons.mpr ⟨hne (L + 3, o8) (by k_mem), List.forall_mem_cons.mpr ⟨c5I, List.forall_mem_cons.mpr ⟨d6I, List.forall_mem_cons.mpr ⟨i7, fun q hq => hne q (.tail _ (.tail _ (.tail _ (.tail _ (.tail _ (.tail _ (.tail _ (.tail _ (.tail _ hq))))))))) ⟩⟩⟩⟩⟩⟩⟩⟩⟩
    · exact ⟨_, _, _, _, _, _, _, rfl, rfl, db, tr2, .inr ⟨am5', co1⟩, .inr ⟨am6, co2⟩, zc, zd, nc, nd⟩
  · rintro h tk m₁ news₁ ⟨o2, k5, c5, k6, c6, tab, v2, e1, rfl, e2, htr, la5, la6, z5, z6, n5, n6⟩ F2 N2
    k_steps
    exact rest _ _ _ _ _ _ _ _ _ _ F2 N2 e2 htr la5 la6 z5 z6 n5 n6
end
end Mine

-- part R0
open PySem PySem.W PyProof.Rows PySem.Calls PySem.Spec PyProof.Rows.LCg PyProof.Rows.LCt
set_option Elab.async false
set_option maxRecDepth 100000
set_option maxHeartbeats 8000000
namespace Mine
section
variable {prog : Program} {w : World} {s : Shared} {Q : Flow → Shared → Prop}
variable {p : Program} {loose : List Str} {mean : ExcName → Option Value} {mg mb : Str → Option Value} {h₀ h₁ : Heap} {L fa : Addr} {tk : Nat}
theorem q_cut (k j : Nat) : qRest k = (qBody.drop k).take j ++ qRest (k + j) := by
  rw [qRest_eq, qRest_eq, ← List.drop_drop, List.take_append_drop]
theorem qall {QA I0 Z FW BW PT TI PR RW k5 k6 : Addr} {qv pts tv pv rv : List Value} {qn : Nat} {ps rs ql : List Nat} {m : Str → Option Value} {tab : Array Value} {oI0 oZ oF oB o1 o2 o3 o4 o5 o8 o9 c5 c6 : Obj}
    (X : Frag.In (hd.heap_39 w.params) h₀) (T : Top p loose mean mg mb h₀) (h107 : @LT.lt Nat _ 107 L)
    (off : OffA L [QA, I0, Z, FW, BW, PT, TI, PR, RW, k5, k6]) (C : CodeHd h₀ 109 107)
    (F : Fr h₀ L h₁ m) (hm : m (Str.ofString "queue") = some (.ref QA))
    (N : News h₀ L h₁ [(QA, W.listOf (List.toArray qv) qn), (I0, oI0), (Z, oZ), (FW, oF), (BW, oB), (PT, lst pts), (TI, lst tv), (PR, lst pv), (RW, lst rv), (L + 10, o1), (L + 9, o2), (L + 8, o3), (L + 7, o4), (L + 6, o5), (L + 3, o8), (L + 2, o9), (k5, c5), (k6, c6), (107, tabObj tab)])
    (hq : IntsAre qv (nInts ql)) (ql5 : QL ps ql) (hpt : StrsAre pts ((tiesN rs).map pat)) (hti : IntsAre tv (nInts (tiesN rs))) (hi : IntsAre pv (nInts ps)) (hl : ps.length = 5) (hw : IntsAre rv (nInts rs)) (hrl : rs.length = 5) (hrb : ∀ r ∈ rs, r < 16)
    (d1 : o1.data = .cell (some (.ref PR))) (d4 : o4.data = .cell (some (.ref PT))) (d5 : o5.data = .cell (some (.ref TI))) (d8 : o8.data = .cell (some (.ref RW))) {v2 v3 v9 : Option Value} (d2 : o2.data = .cell v2) (d3 : o3.data = .cell v3) (d9 : o9.data = .cell v9) (htr : TriplesOk tab.toList) (la5 : LamAt pos5 lamQ tab k5 c5) (la6 : LamAt pos6 lamQ tab k6 c6) (n5 : @Ne Nat k5 I0) (n6 : @Ne Nat k6 I0)
    (rest : ∀ o2 o3 o9 k5 c5 k6 c6 tab v2 v3 v9 h2 tk2 m, Fr h₀ L h2 m → News h₀ L h2 [(QA, W.listOf (List.toArray qv) qn), (I0, oI0), (Z, oZ), (FW, oF), (BW, oB), (PT, lst pts), (TI, lst tv), (PR, lst pv), (RW, lst rv), (L + 10, o1), (L + 9, o2), (L + 8, o3), (L + 7, o4), (L + 6, o5), (L + 3, o8), (L + 2, o9), (k5, c5), (k6, c6), (107, tabObj tab)] → o2.data = .cell v2 → o3.data = .cell v3 → o9.data = .cell v9 → TriplesOk tab.toList → LamAt pos5 lamQ tab k5 c5 → LamAt pos6 lamQ tab k6 c6 → Off4 L k5 → Off4 L k6 → @Ne Nat k5 I0 → @Ne Nat k6 I0 →
      Q .next { s with heap := h2, toks := tk2 }) :
    wpAny (model prog w) (lawA L fa) (execs qBody (lawEnv L fa)) Q (fun _ _ => False) { s with heap := h₁, toks := tk } := by
  have h5 : ∀ k ∈ ql, k < 5 := fun k hk => (ql5.mem k).mp hk
  have e0 : qBody = qBody.take 2 ++ qRest 2 := by rw [qRest_eq, List.take_append_drop]
  rw [e0]
  refine q0 X T h107 off F hm N hq ql5 hpt hrl d4 d3 d9 fun o3 o9 t3 v9 h2 tk2 F N d3 d9 => ?_
  rw [q_cut 2 1]
  refine q2 (rs := rs) X T h107 off F hm N hq ql5 (taken_lt hrl h5 ql5.nd) d3 fun PK pk h2 tk2 m F hm hm2 N offK hpk => ?_
  have epk : (ql.filter fun k => (takenN (tiesN rs) ql).testBit k) = greedy (rs.getD · 0) ql := by
    refine Eq.trans (List.filter_congr fun k hk => ?_) (picked_is (row := (rs.getD · 0)) ql5.nd)
    rw [Bool.eq_iff_iff, taken_bits hrl ql h5 ql5.nd k, decide_eq_true_iff]
  rw [epk] at hpk
  rw [q_cut 3 2]
  refine q3 X T h107 off offK F hm hm2 N hq ql5 hw hrl hrb d8 d9 fun DU dv dn o9 v9 h2 tk2 m F hm hm2 hm3 N offD hdv d9 => ?_
  rw [q_cut 5 2]
  refine q5 (ps := ps) (rs := rs) (ql := ql) X T h107 off offK offD F hm hm2 hm3 N hpk hdv fun h2 tk2 m t F hm hm2 hm3 N => ?_
  rw [q_cut 7 2]
  refine q7 X T h107 off offK F hm hm2 hm3 N hq ql5 hrl hpt hti d4 d5 d9 d3 fun o9 v9 h2 tk2 m F hm2 N d9 => ?_
  rw [qRest_eq]
  obtain ⟨⟨q0, q1, q2', q3'⟩, ⟨i0, i1, i2, i3⟩, ⟨z0, z1, z2, z3⟩, ⟨f0, f1, f2, f3⟩, ⟨b0, b1, b2, b3⟩, ⟨p0, p1, p2, p3⟩, ⟨t0, t1, t2, t3'⟩, ⟨r0, r1, r2, r3⟩, ⟨w0, w1, w2, w3⟩, k5o, k6o, -⟩ := off
  refine q9 (ex := [(QA, W.listOf (List.toArray qv) qn), (I0, oI0), (Z, oZ), (FW, oF), (BW, oB), (PT, lst pts), (TI, lst tv), (L + 8, o3), (L + 7, o4), (L + 6, o5), (L + 2, o9)]) (ql := ql) X T C h107 offK.1 r0 w0 k5o k6o (P := fun c => @Ne Nat c I0) (fun c hc => Nat.ne_of_gt (hc (I0, oI0) (.tail _ (.head _)))) n5 n6 ?_ offK.2.2.2 r3 w3 ?_ F hm2 (fun q hq => N q (subI (l := ((PK, lst pk) :: [(QA, W.listOf (List.toArray qv) qn), (I0, oI0), (Z, oZ), (FW, oF), (BW, oB), (PT, lst pts), (TI, lst tv), (PR, lst pv), (RW, lst rv), (L + 10, o1), (L + 9, o2), (L + 8, o3), (L + 7, o4), (L + 6, o5), (L + 3, o8), (L + 2, o9), (k5, c5), (k6, c6), (107, tabObj tab)])) [0, 8, 9, 10, 11, 15, 17, 18, 19, 1, 2, 3, 4, 5, 6, 7, 12, 13, 14, 16] rfl q hq)) hpk rfl ql5 hi hl hw hrl hrb d1 d8 d2 htr la5 la6
    fun o2 k5 c5 k6 c6 tab v2 h2 tk2 m F N d2 htr la5 la6 z5 z6 n5 n6 => rest o2 o3 o9 k5 c5 k6 c6 tab v2 _ v9 h2 tk2 m F (fun q hq => N q (subI (l := [(PK, lst pk), (PR, lst pv), (RW, lst rv), (L + 10, o1), (L + 9, o2), (L + 3, o8), (k5, c5), (k6, c6), (107, tabObj tab), (QA, W.listOf (List.toArray qv) qn), (I0, oI0), (Z, oZ), (FW, oF), (BW, oB), (PT, lst pts), (TI, lst tv), (L + 8, o3), (L + 7, o4), (L + 6, o5), (L + 2, o9)]) [9, 10, 11, 12, 13, 14, 15, 1, 2, 3, 4, 16, 17, 18, 5, 19, 6, 7, 8] rfl q hq)) d2 d3 d9 htr la5 la6 z5 z6 n5 n6
  · repeat first | exact List.forall_mem_nil _ | refine List.forall_mem_cons.mpr ⟨by first | assumption | exact cellNe rfl, ?_⟩
  · repeat first | exact List.forall_mem_nil _ | refine List.forall_mem_cons.mpr ⟨by first | assumption | exact Ne.symm (tabNe h107), ?_⟩
end
end Mine

-- part R1
open PySem PySem.W PyProof.Rows PySem.Calls PySem.Spec PyProof.Rows.LCg PyProof.Rows.LCt
set_option Elab.async false
set_option maxRecDepth 100000
set_option maxHeartbeats 8000000
namespace Mine
section
variable {prog : Program} {w : World} {s : Shared} {Q : Flow → Shared → Prop}
variable {p : Program} {loose : List Str} {mean : ExcName → Option Value} {mg mb : Str → Option Value} {h₀ h₁ : Heap} {L fa : Addr} {tk : Nat}
local macro_rules | `(tactic| walk_at "exec For") => `(tactic| refine Stop.out ?_)
local macro_rules | `(tactic| walk_at "exec For Name List cons nil") => `(tactic| refine Stop.out ?_)
/-- how law ends -/
def Done (h₀ : Heap) (L : Addr) (s : Shared) (f : Flow) (s' : Shared) : Prop := f = .ret (.bool true) ∧ ∃ h' tk' m' ps, s' = { s with heap := h', toks := tk' } ∧ Fr h₀ L h' m' ∧ h'.get? 107 = some (tabObj ps)
theorem asgName {M : Model} {A : Around} {E : Value → Shared → Prop} {Q : Unit → Shared → Prop} {env : Env} {m : Str → Option Value} {news : List (Addr × Obj)} {x : Str} {pos : Pos} {v : Value} (F : Fr h₀ env.locals s.heap m) (N : News h₀ env.locals s.heap news) (hy : env.kindOf x = some .local)
    (hp : (env.scope.kind == .class || (env.scope.kind == .module && env.locals != env.globals)) = false)
    (h : ∀ h₂ tk, Fr h₀ env.locals h₂ (fun z => if z = x then some v else m z) → News h₀ env.locals h₂ news → Q () { s with heap := h₂, toks := tk }) : wpAny M A (assign (.Name x pos) env v) Q E s := by
  refine wpAny_assign_Name (wpAny_storeName_local hy F.ns (fun h₂ hn₂ hs₂ => ?_) hp)
  have hL₀ : h₀.get? env.locals = none := Heap.get?_none_of_le F.above
  exact h h₂ _ ⟨hn₂, fun b o e => hs₂.extBut b o (fun q => by rw [q, hL₀] at e; cases e) (F.keep b o e), F.above⟩ fun p hp => ⟨hs₂.extBut _ _ (N p hp).2.1 (N p hp).1, (N p hp).2⟩
theorem seg16 {FW BW PT TI PR RW : Addr} {fv bv pts tv pv rv : List Value} {nf nb : Nat} {ps rs fl bl : List Nat} {m2 : Str → Option Value} {tab : Array Value} {o1 o2 o3 o4 o5 o8 o9 : Obj}
    (X : Frag.In (hd.heap_39 w.params) h₀) (T : Top p loose mean mg mb h₀) (C : CodeHd h₀ 109 107) (h107 : @LT.lt Nat _ 107 L)
    (F : Fr h₀ L h₁ m2) (e1 : m2 (Str.ofString "forward") = some (.ref FW)) (e2 : m2 (Str.ofString "backward") = some (.ref BW))
    (N : News h₀ L h₁ [(BW, W.listOf (List.toArray bv) nb), (FW, W.listOf (List.toArray fv) nf), (PT, lst pts), (TI, lst tv), (PR, lst pv), (RW, lst rv), (L + 10, o1), (L + 9, o2), (L + 8, o3), (L + 7, o4), (L + 6, o5), (L + 3, o8), (L + 2, o9), (107, tabObj tab)])
    (zF : Off4 L FW) (zB : Off4 L BW) (zPT : Off4 L PT) (zTI : Off4 L TI) (zPR : Off4 L PR) (zRW : Off4 L RW)
    (hfv : IntsAre fv (nInts fl)) (qf : QL ps fl) (hbv : IntsAre bv (nInts bl)) (qb : QL ps bl)
    (hpt : StrsAre pts ((tiesN rs).map pat)) (hti : IntsAre tv (nInts (tiesN rs))) (hi : IntsAre pv (nInts ps)) (hl : ps.length = 5) (hw : IntsAre rv (nInts rs)) (hrl : rs.length = 5) (hrb : ∀ r ∈ rs, r < 16)
    (d1 : o1.data = .cell (some (.ref PR))) (d4 : o4.data = .cell (some (.ref PT))) (d5 : o5.data = .cell (some (.ref TI))) (d8 : o8.data = .cell (some (.ref RW))) {v2 v3 v9 : Option Value} (d2 : o2.data = .cell v2) (d3 : o3.data = .cell v3) (d9 : o9.data = .cell v9)
    (htr : TriplesOk tab.toList) (hno : ∀ q : Pos, 159 < q.line → codeAmong q tab.toList = none) :
    wpAny (model prog w) (lawA L fa) (execs (lawBody.drop 16) (lawEnv L fa)) (Done h₀ L s) (fun _ _ => False) { s with heap := h₁, toks := tk } := by
  replace F := frKnow2 F e1 e2
  k_steps
  refine Stop.mk (for_list (by k_asm) ?_)
  k_steps
  rename Fr _ _ _ _ => F1
  rename News _ _ _ _ => N1
  rename (_ < _ ∧ _) => l1
  rename_i Z _
  obtain ⟨g0, g1, g2, g3, g4, g5, g6, g7, g8, g9, g10, g11, g12, g13⟩ := l1
  have zZ : Off4 L Z := off4_lt g6 g13
  refine ⟨_, List.toArray [.ref FW, .ref BW], _, _, fun i m' news => ∃ o2 o3 o9 k5 c5 k6 c6 tab v2 v3 v9, news = (Z, W.listOf (List.toArray [.ref FW, .ref BW]) 0) :: (BW, W.listOf (List.toArray bv) nb) :: (FW, W.listOf (List.toArray fv) nf) :: (PT, lst pts) :: (TI, lst tv) :: (PR, lst pv) :: (RW, lst rv) :: (L + 10, o1) :: (L + 9, o2) :: (L + 8, o3) :: (L + 7, o4) :: (L + 6, o5) :: (L + 3, o8) :: (L + 2, o9) :: (k5, c5) :: (k6, c6) :: (107, tabObj tab) :: [] ∧ o2.data = .cell v2 ∧ o3.data = .cell v3 ∧ o9.data = .cell v9 ∧ TriplesOk tab.toList ∧ LamAt pos5 lamQ tab k5 c5 ∧ LamAt pos6 lamQ tab k6 c6 ∧ Off4 L k5 ∧ Off4 L k6,
    rfl, rfl, F1, (fun q hq => N1 q (subI (l := (Z, W.listOf (List.toArray [.ref FW, .ref BW]) 0) :: [(BW, W.listOf (List.toArray bv) nb), (FW, W.listOf (List.toArray fv) nf), (PT, lst pts), (TI, lst tv), (PR, lst pv), (RW, lst rv), (L + 10, o1), (L + 9, o2), (L + 8, o3), (L + 7, o4), (L + 6, o5), (L + 3, o8), (L + 2, o9), (107, tabObj tab)]) [0, 1, 2, 3, 4, 5, 6, 7, 8, 9, 10, 11, 12, 13, 5, 5, 14] rfl q hq) : News h₀ L _ (((Z, W.listOf (List.toArray [.ref FW, .ref BW]) 0) :: (BW, W.listOf (List.toArray bv) nb) :: (FW, W.listOf (List.toArray fv) nf) :: (PT, lst pts) :: (TI, lst tv) :: (PR, lst pv) :: (RW, lst rv) :: (L + 10, o1) :: (L + 9, o2) :: (L + 8, o3) :: (L + 7, o4) :: (L + 6, o5) :: (L + 3, o8) :: (L + 2, o9) :: (PR, lst pv) :: (PR, lst pv) :: (107, tabObj tab) :: []))), .inr ⟨_, .head _, rfl, _, rfl⟩, ?_, ?_, ?_, ?_⟩
  · exact ⟨_, _, _, _, _, _, _, _, _, _, _, rfl, d2, d3, d9, htr, .inl (hno _ (by decide)), .inl (hno _ (by decide)), zPR, zPR⟩
  · rintro i m nw ⟨o2, o3, o9, k5, c5, k6, c6, tab, v2, v3, v9, rfl, -⟩
    exact .inr ⟨_, .head _, rfl, _, rfl⟩
  · clear d2 d3 d9 htr hno F1 N1 g0 g1 g2 g3 g4 g5 g6 g7 g8 g9 g10 g11 g12 g13
    rintro I i v m₁ news₁ h tk oI hlt hi' hv ⟨o2, o3, o9, k5, c5, k6, c6, tab, v2, v3, v9, rfl, d2, d3, d9, htr, la5, la6, z5, z6⟩ hne F2 N2
    have zI : Off4 L I := ⟨(hne (L + 9, o2) (by k_mem)).symm, (hne (L + 8, o3) (by k_mem)).symm, (hne (L + 2, o9) (by k_mem)).symm, (hne (107, tabObj tab) (by k_mem)).symm⟩
    have n5 : @Ne Nat k5 I := hne (k5, c5) (by k_mem)
    have n6 : @Ne Nat k6 I := hne (k6, c6) (by k_mem)
    have hi2 : i = 0 ∨ i = 1 := by
      have : i < 2 := hi'
      omega
    rcases hi2 with rfl | rfl
    · have ev : v = .ref FW := by simpa using hv.symm
      subst ev
      refine asgName F2 N2 rfl rfl fun h4 tk4 F4 N4 => ?_
      refine qall (QA := FW) (qv := fv) (qn := nf) (ql := fl) (I0 := I) (oI0 := oI) (oZ := W.listOf (List.toArray [.ref FW, .ref BW]) 0) (oF := W.listOf (List.toArray fv) nf) (oB := W.listOf (List.toArray bv) nb) X T h107 ⟨zF, zI, zZ, zF, zB, zPT, zTI, zPR, zRW, z5, z6, trivial⟩ C F4 rfl (fun q hq => N4 q (subI (l := (I, oI) :: (Z, W.listOf (List.toArray [.ref FW, .ref BW]) 0) :: (BW, W.listOf (List.toArray bv) nb) :: (FW, W.listOf (List.toArray fv) nf) :: (PT, lst pts) :: (TI, lst tv) :: (PR, lst pv) :: (RW, lst rv) :: (L + 10, o1) :: (L + 9, o2) :: (L + 8, o3) :: (L + 7, o4) :: (L + 6, o5) :: (L + 3, o8) :: (L + 2, o9) :: (k5, c5) :: (k6, c6) :: (107, tabObj tab) :: []) [3, 0, 1, 3, 2, 4, 5, 6, 7, 8, 9, 10, 11, 12, 13, 14, 15, 16, 17] rfl q hq)) hfv qf hpt hti hi hl hw hrl hrb d1 d4 d5 d8 d2 d3 d9 htr la5 la6 n5 n6 ?_
      intro o2 o3 o9 k5 c5 k6 c6 tab v2 v3 v9 h6 tk6 m6 F6 N6 d2 d3 d9 htr la5 la6 z5 z6 n5 n6
      refine TurnEnd.next (news₂ := (Z, W.listOf (List.toArray [.ref FW, .ref BW]) 0) :: (BW, W.listOf (List.toArray bv) nb) :: (FW, W.listOf (List.toArray fv) nf) :: (PT, lst pts) :: (TI, lst tv) :: (PR, lst pv) :: (RW, lst rv) :: (L + 10, o1) :: (L + 9, o2) :: (L + 8, o3) :: (L + 7, o4) :: (L + 6, o5) :: (L + 3, o8) :: (L + 2, o9) :: (k5, c5) :: (k6, c6) :: (107, tabObj tab) :: []) F6 N6 (fun q hq => subI (l := [(FW, W.listOf (List.toArray fv) nf), (I, oI), (Z, W.listOf (List.toArray [.ref FW, .ref BW]) 0), (FW, W.listOf (List.toArray fv) nf), (BW, W.listOf (List.toArray bv) nb), (PT, lst pts), (TI, lst tv), (PR, lst pv), (RW, lst rv), (L + 10, o1), (L + 9, o2), (L + 8, o3), (L + 7, o4), (L + 6, o5), (L + 3, o8), (L + 2, o9), (k5, c5), (k6, c6), (107, tabObj tab)]) [1, 2, 4, 3, 5, 6, 7, 8, 9, 10, 11, 12, 13, 14, 15, 16, 17, 18] rfl q hq) ?_ ?_
      · repeat first | exact List.forall_mem_nil _ | refine List.forall_mem_cons.mpr ⟨by first | exact zI.1.symm | exact zI.2.1.symm | exact zI.2.2.1.symm | exact zI.2.2.2.symm | exact n5 | exact n6 | exact hne _ (by k_mem), ?_⟩
      · exact ⟨_, _, _, _, _, _, _, _, _, _, _, rfl, d2, d3, d9, htr, la5, la6, z5, z6⟩
    · have ev : v = .ref BW := by simpa using hv.symm
      subst ev
      refine asgName F2 N2 rfl rfl fun h4 tk4 F4 N4 => ?_
      refine qall (QA := BW) (qv := bv) (qn := nb) (ql := bl) (I0 := I) (oI0 := oI) (oZ := W.listOf (List.toArray [.ref FW, .ref BW]) 0) (oF := W.listOf (List.toArray fv) nf) (oB := W.listOf (List.toArray bv) nb) X T h107 ⟨zB, zI, zZ, zF, zB, zPT, zTI, zPR, zRW, z5, z6, trivial⟩ C F4 rfl (fun q hq => N4 q (subI (l := (I, oI) :: (Z, W.listOf (List.toArray [.ref FW, .ref BW]) 0) :: (BW, W.listOf (List.toArray bv) nb) :: (FW, W.listOf (List.toArray fv) nf) :: (PT, lst pts) :: (TI, lst tv) :: (PR, lst pv) :: (RW, lst rv) :: (L + 10, o1) :: (L + 9, o2) :: (L + 8, o3) :: (L + 7, o4) :: (L + 6, o5) :: (L + 3, o8) :: (L + 2, o9) :: (k5, c5) :: (k6, c6) :: (107, tabObj tab) :: []) [2, 0, 1, 3, 2, 4, 5, 6, 7, 8, 9, 10, 11, 12, 13, 14, 15, 16, 17] rfl q hq)) hbv qb hpt hti hi hl hw hrl hrb d1 d4 d5 d8 d2 d3 d9 htr la5 la6 n5 n6 ?_
      intro o2 o3 o9 k5 c5 k6 c6 tab v2 v3 v9 h6 tk6 m6 F6 N6 d2 d3 d9 htr la5 la6 z5 z6 n5 n6
      refine TurnEnd.next (news₂ := (Z, W.listOf (List.toArray [.ref FW, .ref BW]) 0) :: (BW, W.listOf (List.toArray bv) nb) :: (FW, W.listOf (List.toArray fv) nf) :: (PT, lst pts) :: (TI, lst tv) :: (PR, lst pv) :: (RW, lst rv) :: (L + 10, o1) :: (L + 9, o2) :: (L + 8, o3) :: (L + 7, o4) :: (L + 6, o5) :: (L + 3, o8) :: (L + 2, o9) :: (k5, c5) :: (k6, c6) :: (107, tabObj tab) :: []) F6 N6 (fun q hq => subI (l := [(BW, W.listOf (List.toArray bv) nb), (I, oI), (Z, W.listOf (List.toArray [.ref FW, .ref BW]) 0), (FW, W.listOf (List.toArray fv) nf), (BW, W.listOf (List.toArray bv) nb), (PT, lst pts), (TI, lst tv), (PR, lst pv), (RW, lst rv), (L + 10, o1), (L + 9, o2), (L + 8, o3), (L + 7, o4), (L + 6, o5), (L + 3, o8), (L + 2, o9), (k5, c5), (k6, c6), (107, tabObj tab)]) [1, 2, 4, 3, 5, 6, 7, 8, 9, 10, 11, 12, 13, 14, 15, 16, 17, 18] rfl q hq) ?_ ?_
      · repeat first | exact List.forall_mem_nil _ | refine List.forall_mem_cons.mpr ⟨by first | exact zI.1.symm | exact zI.2.1.symm | exact zI.2.2.1.symm | exact zI.2.2.2.symm | exact n5 | exact n6 | exact hne _ (by k_mem), ?_⟩
      · exact ⟨_, _, _, _, _, _, _, _, _, _, _, rfl, d2, d3, d9, htr, la5, la6, z5, z6⟩
  · rintro h tk m₁ news₁ ⟨o2, o3, o9, k5, c5, k6, c6, tab, v2, v3, v9, rfl, d2, d3, d9, htr, la5, la6, z5, z6⟩ F2 N2
    clear F1 N1
    k_steps
    exact ⟨rfl, h, _, m₁, tab, rfl, F2, (N2 (107, tabObj tab) (by k_mem)).1⟩
end
end Mine

-- part Law0
open PySem PySem.W PyProof.Rows PySem.Calls PySem.Spec PyProof.Rows.LCg PyProof.Rows.LCt
set_option Elab.async false
set_option maxRecDepth 100000
set_option maxHeartbeats 8000000
namespace Mine
theorem top (hbody : ∀ (prog : Program) (w : World) (mg mb : Str → Option Value) (p : Program) (loose : List Str) (mean : ExcName → Option Value) (h₀ : Heap) (L fa a : Addr) (vs : List Value) (ns : List Int) (s : Shared) (h₁ : Heap) (tk : Nat) (o1 o2 o3 o4 o5 o6 o7 o8 o9 o10 : Obj),
    Frag.In (hd.heap_39 w.params) h₀ → Top p loose mean mg mb h₀ → Below callerA h₀ [] h₀ → CodeHd h₀ 109 107 → h₀.IsList a vs.toArray → IntsAre vs ns → ns.length ≤ 63 → 107 < L →
    Fr h₀ L h₁ (fun y => if y = Str.ofString "script" then some (.ref a) else none) →
    News h₀ L h₁ [(L + 10, o1), (L + 9, o2), (L + 8, o3), (L + 7, o4), (L + 6, o5), (L + 5, o6), (L + 4, o7), (L + 3, o8), (L + 2, o9), (L + 1, o10), (107, tabObj #[])] →
    o1.data = .cell none → o2.data = .cell none → o3.data = .cell none → o4.data = .cell none → o5.data = .cell none → o6.data = .cell none → o7.data = .cell none → o8.data = .cell none → o9.data = .cell none → o10.data = .cell none →
    wpAny (model prog w) (lawA L fa) (execs lawBody (lawEnv L fa)) (fun f s' => f = .ret (.bool true) ∧ ∃ h' tk' m' ps, s' = { s with heap := h', toks := tk' } ∧ Fr h₀ L h' m' ∧ h'.get? 107 = some (tabObj ps)) (fun _ _ => False) { s with heap := h₁, toks := tk }) :
    PySem.Challenge.rw_qu0037_01.Holds := hd (by
  k_fill
  intro w s₀ s₁ mg mb G Y fa o pm cd doc dV kV ho hd hcd hD hmg hg args vals as hpre hlay hrd hwl hlo
  have KX := km_in_of Y
  km_tabs Y
  have X := (Ground.X G).1
  have V := (Ground.X G).2
  refine Ground.open G ?_
  intro T B D TE TW
  try (refine guard_noD D (by decide +kernel) ?_; clear D)
  km_lay T hmg ho hd cd
  clear hmg
  wrow_args hpre hlay hrd hwl hlo
  all_goals (
    first | refine callC_kw (enter_call ?_) | refine enter_call ?_
    w_top on
    kn_posts
    have he := Dflts.none hD rfl; subst he; have he := Dflts.noKw hD; subst he
    refine call_cellsN (by decide) ho (fd_plain hd) (Top.nolimit T) hcd rfl ?_ ?_ fun h₁ tk₁ cells F N0 X0 => ?_
    )
  · refine (kinds_of (by kinds_ok))
  · decide
  clear hd
  kn_ghosts F T
  rename Top _ _ _ _ _ _ => T9
  rename Frag.In _ _ => X9
  rename Below _ _ _ _ => B9
  rename Fr _ _ _ _ => F9
  rename News _ _ _ _ => N9
  rename CodeHd _ _ _ => C9
  rename IntsAre _ _ => I9
  obtain ⟨o1, o2, o3, o4, o5, o6, o7, o8, o9, o10, rfl, d1, d2, d3, d4, d5, d6, d7, d8, d9, d10⟩ := cellsTen X0
  refine wpAny_mono (hbody _ w mg mb _ _ _ _ _ fa _ _ _ _ _ _ _ _ _ _ _ _ _ _ _ _ X9 T9 B9 C9 lifted I9 ?_ ?_ F9 N9 d1 d2 d3 d4 d5 d6 d7 d8 d9 d10) ?_ ?_
  · omega
  · assumption
  · rintro f s' ⟨rfl, h', tk', m', ps, rfl, F5, g5⟩
    refine ⟨?_, ?_⟩
    · exact goodW_bool F5 hg (fun _ => rfl) (postW_of (by wrow_shape) (by wtm_val) (by first | rfl | decide | (str_meet; first | done | w_fin)))
    · exact ⟨⟨ps, g5⟩, trivial⟩
  · intro e s' h
    exact h.elim)
end Mine

-- part Fin
open PySem PySem.W PyProof.Rows PySem.Calls PySem.Spec PyProof.Rows.LCg PyProof.Rows.LCt
set_option Elab.async false
set_option maxRecDepth 100000
set_option maxHeartbeats 8000000
namespace Mine
section
local macro_rules | `(tactic| walk_at "pad0") => `(tactic| skip)
variable {prog : Program} {w : World} {s : Shared} {Q : Flow → Shared → Prop}
variable {p : Program} {loose : List Str} {mean : ExcName → Option Value} {mg mb : Str → Option Value} {h₀ h₁ : Heap} {L fa : Addr} {tk : Nat}
theorem l_cut (k j : Nat) : lawRest k = (lawBody.drop k).take j ++ lawRest (k + j) := by
  rw [lawRest_eq, lawRest_eq, ← List.drop_drop, List.take_append_drop]
theorem off1_of {I : Addr} : ∀ {l : List (Addr × Obj)}, Off1 I l → ∀ q ∈ l, q.1 ≠ I
  | [], _, _, h => by cases h
  | p :: l, h, q, hq => by
    rcases List.mem_cons.mp hq with rfl | hq
    · exact h.1
    · exact off1_of h.2 q hq
theorem off1_sub {I : Addr} {l l' : List (Addr × Obj)} (h : Off1 I l) (hs : ∀ q ∈ l'.map (·.1), q ∈ l.map (·.1)) : Off1 I l' := off1_ne fun q hq => by
  obtain ⟨r, hr, e⟩ := List.mem_map.mp (hs q.1 (List.mem_map_of_mem hq))
  rw [← e]; exact off1_of h r hr
theorem off4_of {I : Addr} {l : List (Addr × Obj)} (h : Off1 I l) (hs : ∀ a ∈ [L + 9, L + 8, L + 2, 107], a ∈ l.map (·.1)) : Off4 L I := by
  have g : ∀ a : Addr, a ∈ l.map (·.1) → @Ne Nat I a := fun a ha => by
    obtain ⟨r, hr, e⟩ := List.mem_map.mp ha
    rw [← e]; exact (off1_of h r hr).symm
  exact ⟨g _ (hs _ (.head _)), g _ (hs _ (.tail _ (.head _))), g _ (hs _ (.tail _ (.tail _ (.head _)))), g _ (hs _ (.tail _ (.tail _ (.tail _ (.head _)))))⟩
theorem body {a : Addr} {vs : List Value} {ns : List Int} {o1 o2 o3 o4 o5 o6 o7 o8 o9 o10 : Obj}
    (X : Frag.In (hd.heap_39 w.params) h₀) (T : Top p loose mean mg mb h₀) (B : Below callerA h₀ [] h₀) (C : CodeHd h₀ 109 107) (hl : h₀.IsList a vs.toArray) (hi : IntsAre vs ns) (hn : ns.length ≤ 63) (h107 : @LT.lt Nat _ 107 L)
    (F : Fr h₀ L h₁ (fun y => if y = Str.ofString "script" then some (.ref a) else none))
    (N : News h₀ L h₁ [(L + 10, o1), (L + 9, o2), (L + 8, o3), (L + 7, o4), (L + 6, o5), (L + 5, o6), (L + 4, o7), (L + 3, o8), (L + 2, o9), (L + 1, o10), (107, tabObj #[])])
    (d1 : o1.data = .cell none) (d2 : o2.data = .cell none) (d3 : o3.data = .cell none) (d4 : o4.data = .cell none) (d5 : o5.data = .cell none) (d6 : o6.data = .cell none) (d7 : o7.data = .cell none) (d8 : o8.data = .cell none) (d9 : o9.data = .cell none) (d10 : o10.data = .cell none) :
    wpAny (model prog w) (lawA L fa) (execs lawBody (lawEnv L fa)) (Done h₀ L s) (fun _ _ => False) { s with heap := h₁, toks := tk } := by
  rw [law_cut 2]
  refine seg0 X T B C hl hi hn h107 F N d10 fun I D2 oI q10 ys t ms h2 tk2 m2 F hm N offI offD e10 bi hy hml hmb => ?_
  rw [l_cut 2 1]
  refine seg2 X T h107 F hm N offI offD e10 bi hy hml hmb fun R oI zs h2 tk2 m2 F hm hm2 N offR bi hz => ?_
  rw [l_cut 3 1]
  refine seg3 (news := (R, lst zs) :: (D2, lst ys) :: [(L + 10, o1), (L + 9, o2), (L + 8, o3), (L + 7, o4), (L + 6, o5), (L + 5, o6), (L + 4, o7), (L + 3, o8), (L + 2, o9), (L + 1, q10), (107, tabObj #[])]) X T F (fun q hq => N q (subI (l := (R, lst zs) :: (I, oI) :: (D2, lst ys) :: [(L + 10, o1), (L + 9, o2), (L + 8, o3), (L + 7, o4), (L + 6, o5), (L + 5, o6), (L + 4, o7), (L + 3, o8), (L + 2, o9), (L + 1, q10), (107, tabObj #[])]) [1, 12] rfl q hq)) (fun q hq => N q (subI (l := (R, lst zs) :: (I, oI) :: (D2, lst ys) :: [(L + 10, o1), (L + 9, o2), (L + 8, o3), (L + 7, o4), (L + 6, o5), (L + 5, o6), (L + 4, o7), (L + 3, o8), (L + 2, o9), (L + 1, q10), (107, tabObj #[])]) [0, 2, 3, 4, 5, 6, 7, 8, 9, 10, 11, 12, 13] rfl q hq))
    ?_ e10 bi ?_ fun h2 tk2 F N => ?_
  · intro q hq
    rcases List.mem_cons.mp hq with rfl | hq
    · exact (off1_of offR (I, oI) (.head _)).symm
    · exact off1_of offI q hq
  · unfold byteArr nInts
    simp
  rw [l_cut 4 3]
  refine seg4 X T h107 F hm hm2 N (off1_sub offR (subI [2, 3, 4, 5, 6, 7, 8, 9, 10, 11, 12] rfl)) offD hz hy hml hmb d1 d8 fun RW PR rv pv q1 q8 h2 tk2 F N offPR offRW e1 e8 hrv hpv => ?_
  rw [l_cut 7 2]
  have hrl : (ms.map (· % 16)).length = 5 := by rw [List.length_map]; exact hml
  have hpl : (ms.map (· / 16)).length = 5 := by rw [List.length_map]; exact hml
  have hrb : ∀ r ∈ ms.map (· % 16), r < 16 := fun r hr => by
    obtain ⟨x, _, rfl⟩ := List.mem_map.mp hr
    exact Nat.mod_lt _ (by decide)
  refine seg7 (ps := []) X T h107 F N offPR offRW hrv hrl hrb d6 d7 e8 fun SM ws n q6 q7 v6 h2 tk2 F N offSM e6 e7 hws => ?_
  rw [l_cut 9 2]
  refine seg9 X T h107 F (fun q hq => N q (subI (l := (SM, W.listOf (List.toArray ws) n) :: (PR, lst pv) :: (RW, lst rv) :: [(L + 10, q1), (L + 9, o2), (L + 8, o3), (L + 7, o4), (L + 6, o5), (L + 5, q6), (L + 4, q7), (L + 3, q8), (L + 2, o9), (L + 1, q10), (107, tabObj #[])]) [0, 1, 2, 3, 4, 5, 6, 7, 9, 10, 11, 13] rfl q hq)) (off1_sub offSM (subI [0, 1, 2, 3, 4, 5, 6, 8, 9, 10, 12] rfl)) (off1_sub offPR (subI [0, 1, 2, 3, 4, 5, 7, 8, 9, 11] rfl)) (off1_sub offRW (subI [0, 1, 2, 3, 4, 6, 7, 8, 10] rfl)) hws hrl d4 d5 e7 fun PT TI tv pts q4 q5 h2 tk2 F N offPT offTI e4 e5 htv hpts => ?_
  rw [l_cut 11 3]
  refine seg11 X T C h107 F N (off1_sub offPT (subI [9, 10] rfl)) (off1_sub offTI (subI [8, 9] rfl)) (off1_sub offPR (subI [9, 11] rfl)) (off1_sub offRW (subI [8, 10] rfl)) hpv hpl e1 d9 fun FW BW fv nf bv nb fl bl o9 vk tab h2 tk2 m' F f1 f2 N offFW offBW e9 hfv qf hbv qb htr hno => ?_
  rw [l_cut 14 2]
  have zF : Off4 L FW := off4_of offFW fun a ha => ha
  have zB : Off4 L BW := off4_of offBW fun a ha => ha
  have zPT : Off4 L PT := off4_of offPT (subI [4, 5, 9, 10] rfl)
  have zTI : Off4 L TI := off4_of offTI (subI [3, 4, 8, 9] rfl)
  have zPR : Off4 L PR := off4_of offPR (subI [2, 3, 9, 11] rfl)
  have zRW : Off4 L RW := off4_of offRW (subI [1, 2, 8, 10] rfl)
  refine seg14 X T C h107 F f1 f2 N zPT.2.2.2.symm zTI.2.2.2.symm zPR.2.2.2.symm zRW.2.2.2.symm zF.2.2.2.symm zB.2.2.2.symm hpv hpl e1 hfv qf hbv qb htr hno fun tab h2 tk2 F N htr hno => ?_
  rw [lawRest_eq]
  exact seg16 X T C h107 F f1 f2 N zF zB zPT zTI zPR zRW hfv ⟨qf.mem, qf.len, qf.nodup Fo.irr, qf.sorted Fo.le⟩ hbv ⟨qb.mem, qb.len, qb.nodup Ba.irr, qb.sorted Ba.le⟩ hpts htv hpv hpl hrv hrl hrb e1 e4 e5 e8 d2 d3 e9 htr hno
end
end Mine
theorem PySem.Challenge.cw_qu0037_01_holds : PySem.Challenge.rw_qu0037_01.Holds := by
  refine Mine.top ?_
  intro prog w mg mb p loose mean h₀ L fa a vs ns s h₁ tk o1 o2 o3 o4 o5 o6 o7 o8 o9 o10 X T B C hl hi hn h107 F N d1 d2 d3 d4 d5 d6 d7 d8 d9 d10
  exact Mine.body X T B C hl hi hn h107 F N d1 d2 d3 d4 d5 d6 d7 d8 d9 d10
