import PyProof.Rows.All
import Wide.All
import OpenK.AllK
import Wide.FinOn
import PySem.Challenge.RW_qu0024_01
open PySem PySem.W PyProof.Rows PySem.Calls
set_option Elab.async false
set_option maxRecDepth 100000
set_option maxHeartbeats 20000000
open_top Mine.hd for PySem.Challenge.rw_qu0024_01
theorem Mine.anew10 {prog : Program} {w : World} {A : Around} {s : Shared} : wpAny (model prog w) A (truthy (.bool true)) (fun _ _ => True) (fun _ _ => False) s := by
  w_top off
  walk1
  trivial
namespace Mine


abbrev Up (h h' : Heap) : Prop := ∀ b o, h.get? b = some o → h'.get? b = some o

theorem frUp {h₀ h h' : Heap} {L : Addr} {m : Str → Option Value} (F : Fr h₀ L h m) (k : Up h h') : Fr h₀ L h' m :=
  ⟨F.ns.keeps k, fun b o e => k _ _ (F.keep b o e), F.above⟩
theorem newsUp {h₀ h h' : Heap} {L : Addr} {news : List (Addr × Obj)} (N : News h₀ L h news) (k : Up h h') : News h₀ L h' news :=
  fun p hp => ⟨k _ _ (N p hp).1, (N p hp).2⟩

section
variable {prog : Program} {w : World} {A : Around} {s : Shared} {Q E : Value → Shared → Prop} {K : Frag} {p : Program} {loose : List Str} {mean : ExcName → Option Value} {mg mb : Str → Option Value}
  {name qual : Str} {params : Arguments} {body : List Stmt} {scope : Scope} {dV kV doc pm cdv ct oc : Value} {an od : Option Addr} {osl : Array (Option Value)} {f : Addr} {pos : List Value} {kw : List (Str × Value)} {binds : List (Str × Value)}

theorem enterP (X : K.In s.heap) (T : Top p loose mean mg mb s.heap)
    (ho : K.lookup f = some ⟨oc, od, .func (fnX name qual params body scope [] dV kV doc pm an cdv ct), osl⟩) (hcd : codeIn K cdv qual = true) (hroom : A.depth < recursionLimit)
    (hbind : BindsTo s (fnX name qual params body scope [] dV kV doc pm an cdv ct) ⟨pos, kw⟩ binds) (hloc : ∀ y ∈ binds, scope.names.lookup y.1 = some .local)
    (hcell : ∀ x ∈ scope.names, x.2 ≠ .cell) (hco : scope.isCoroutine = false) (hgen : scope.isGenerator = false) (hk : scope.kind = .function)
    (h : ∀ L h₁, Fr s.heap L h₁ (fun y => binds.reverse.lookup y) → News s.heap L h₁ [] →
      wpAny (model prog w) (A.deeper (envOf qual scope L f cdv)) (execs body (envOf qual scope L f cdv))
        (fun fl s' => Q (match fl with | .ret v => v | _ => .none) s') (fun _ _ => False) { s with heap := h₁, toks := s.toks + binds.length }) :
    wpAny (model prog w) A (call (.ref f) pos kw) Q E s := by
  refine wpAny_call (codeAny_call_def (fd := fnX name qual params body scope [] dV kV doc pm an cdv ct) (body := body) (binds := binds) hroom (X _ _ ho) rfl T.nolimit (codeRec_of X hcd) rfl hbind hcell hloc (fun h₁ hns hk₁ => ?_) hco hgen hk)
  exact wpAny_mono (h s.heap.objs.size h₁ ⟨hns, hk₁, Nat.le_refl _⟩ News.nil) (fun _ _ x => x) (fun _ _ x => x.elim)

theorem enterC (X : K.In s.heap) (T : Top p loose mean mg mb s.heap)
    (ho : K.lookup f = some ⟨oc, od, .func (fnX name qual params body scope [] dV kV doc pm an cdv ct), osl⟩) (hcd : codeIn K cdv qual = true) (hroom : A.depth < recursionLimit)
    (hbind : BindsTo s (fnX name qual params body scope [] dV kV doc pm an cdv ct) ⟨pos, kw⟩ binds) (hkind : (binds.all fun y => scope.names.lookup y.1 == some .local || scope.names.lookup y.1 == some .cell) = true)
    (hnd : ((cellsFrom 0 scope.names []).map (·.1)).Nodup) (hco : scope.isCoroutine = false) (hgen : scope.isGenerator = false) (hk : scope.kind = .function)
    (h : ∀ L h₁ tk cells, Fr s.heap L h₁ (bindL (envOfC qual scope L f cdv).kindOf binds fun _ => none) → News s.heap L h₁ cells →
      CellsAre (bindC (envOfC qual scope L f cdv).kindOf binds fun _ => none) (cellsFrom (L + 1) scope.names []) cells →
      wpAny (model prog w) (A.deeper (envOfC qual scope L f cdv)) (execs body (envOfC qual scope L f cdv))
        (fun fl s' => Q (match fl with | .ret v => v | _ => .none) s') (fun _ _ => False) { s with heap := h₁, toks := tk }) :
    wpAny (model prog w) A (call (.ref f) pos kw) Q E s := by
  refine wpAny_call (codeAny_call_function (fd := fnX name qual params body scope [] dV kV doc pm an cdv ct) hroom (X _ _ ho) rfl hco hgen rfl (codeRec_of X hcd) (hbind _ _ _ _ ?_))
  refine wpAny_newFunctionEnv_cells hk (kindsX hkind _) fun env' he s' x => ?_
  subst he
  refine ⟨T.nolimit.keeps x.toInCall.keep, codeAny_func ?_⟩
  obtain ⟨h₁, tk, rfl, _⟩ := x.done
  obtain ⟨cells, NC, Y⟩ := Cl.news (h₀ := s.heap) (Nat.le_refl _) fun n c hm => ⟨x.cell n c (lookup_of_mem_nodup (cellsFrom_names scope.names 0 (s.heap.objs.size + 1) [] [] rfl ▸ hnd) hm), x.above n c hm⟩
  exact wpAny_mono (h s.heap.objs.size h₁ tk cells ⟨x.toInCall.ns, x.toInCall.keep, Nat.le_refl _⟩ NC Y) (fun _ _ x => x) (fun _ _ x => x.elim)
end

abbrev AL : Around := { handled := none, depth := 330, frames := none, guards := none, units := 200 }
abbrev AM : Around := { handled := none, depth := 310, frames := none, guards := none, units := 60 }
theorem weaken {α : Type} {M : Model} {A A' : Around} {t : Sem α} {Q : α → Shared → Prop} {E : Value → Shared → Prop} {s : Shared} (h1 : A.handled = A'.handled) (hd : A.depth ≤ A'.depth) (hf : A'.frames = none) (hg : A'.guards = none) (hu : A.units ≤ A'.units)
    (h : wpAny M A' t Q E s) : wpAny M A t Q E s :=
  fun Γ p hΓ => h Γ p ⟨hΓ.1.trans h1, Nat.le_trans hΓ.2.1 hd, fun l hl => by (rw [hf] at hl; cases hl), fun l hl => by (rw [hg] at hl; cases hl), Nat.le_trans hΓ.2.2.2.2 hu⟩
/-- an Around that a leaf's contract takes -/
structure Ok (A A' : Around) : Prop where
  h : A.handled = A'.handled
  d : A.depth ≤ A'.depth
  u : A.units ≤ A'.units
theorem Ok.by {α : Type} {M : Model} {A : Around} {t : Sem α} {Q : α → Shared → Prop} {E : Value → Shared → Prop} {s : Shared} (o : Ok A AL) (h : wpAny M AL t Q E s) : wpAny M A t Q E s := weaken o.h o.d rfl rfl o.u h
theorem Ok.byM {α : Type} {M : Model} {A : Around} {t : Sem α} {Q : α → Shared → Prop} {E : Value → Shared → Prop} {s : Shared} (o : Ok A AM) (h : wpAny M AM t Q E s) : wpAny M A t Q E s := weaken o.h o.d rfl rfl o.u h
theorem okDeep (env : Env) : Ok (AM.deeper env) AL := ⟨rfl, by show 310 + 1 ≤ 330; decide, by show 60 + 3 ≤ 200; decide⟩
end Mine
theorem Mine.anew12 {prog : Program} {w : World} {A : Around} {s : Shared} : wpAny (model prog w) A (truthy (.bool true)) (fun _ _ => True) (fun _ _ => False) s := by
  w_top off
  walk1
  trivial
namespace Mine

abbrev NoE : Value → Shared → Prop := fun _ _ => False

def ForEnd (h₀ : Heap) (L I : Addr) (oI : Obj) (J : (Str → Option Value) → List (Addr × Obj) → Prop) (s : Shared) (Q : Flow → Shared → Prop) (f : Flow) (s₃ : Shared) : Prop := match f with
  | .next => ∃ h' tk m' news', s₃ = { s with heap := h', toks := tk } ∧ Fr h₀ L h' m' ∧ News h₀ L h' ((I, oI) :: news') ∧ LCg.Off1 I news' ∧ J m' news'
  | .cont => ∃ h' tk m' news', s₃ = { s with heap := h', toks := tk } ∧ Fr h₀ L h' m' ∧ News h₀ L h' ((I, oI) :: news') ∧ LCg.Off1 I news' ∧ J m' news'
  | .brk => Q .next s₃
  | .ret v => Q (.ret v) s₃

theorem ForEnd.go {h₀ : Heap} {L I : Addr} {oI : Obj} {J : (Str → Option Value) → List (Addr × Obj) → Prop} {s : Shared} {Q : Flow → Shared → Prop} {h' : Heap} {tk : Nat} {m' : Str → Option Value} {all : List (Addr × Obj)}
    (F : Fr h₀ L h' m') (N : News h₀ L h' all) (news' : List (Addr × Obj)) (sub : ∀ p ∈ (I, oI) :: news', p ∈ all) (off : LCg.Off1 I news') (hJ : J m' news') :
    ForEnd h₀ L I oI J s Q .next { s with heap := h', toks := tk } := ⟨h', tk, m', news', rfl, F, fun p hp => N p (sub p hp), off, hJ⟩

theorem off1_mem {I : Addr} : ∀ {l : List (Addr × Obj)}, LCg.Off1 I l → ∀ p ∈ l, p.1 ≠ I
  | [], _, _, h => nomatch h
  | _ :: _, x, p, h => by
    rcases List.mem_cons.mp h with rfl | h
    · exact x.1
    · exact off1_mem x.2 p h
theorem off1_of {I : Addr} : ∀ {l : List (Addr × Obj)}, (∀ p ∈ l, p.1 ≠ I) → LCg.Off1 I l
  | [], _ => trivial
  | _ :: _, h => ⟨h _ List.mem_cons_self, off1_of fun p hp => h p (List.mem_cons_of_mem _ hp)⟩

section
variable {prog : Program} {w : World} {A : Around} {s : Shared} {env : Env} {h₀ : Heap} {L : Addr} {m : Str → Option Value} {news : List (Addr × Obj)} {target : Expr} {body orelse : List Stmt} {Q : Flow → Shared → Prop} {E : Value → Shared → Prop}

/-- the loop stands at its iterable -/
def ForAt (prog : Program) (w : World) (A : Around) (env : Env) (target : Expr) (body orelse : List Stmt) (Q : Flow → Shared → Prop) (x : Value) (s₁ : Shared) : Prop :=
  wpAny (model prog w) A (pyIter x) (fun it s₂ => codeAny (model prog w) A (.forLoop target it body orelse env) (fun r s' => match r with | .ok f => Q f s' | .error _ => False) s₂) NoE s₁

theorem For_at {iter : Expr} {pos : Pos} (h : wpAny (model prog w) A (eval iter env) (ForAt prog w A env target body orelse Q) NoE s) (hs : ∀ x, foldedSetIterable iter env x = pure x := by intro _; rfl) :
    wpAny (model prog w) A (exec (.For target iter body orelse pos) env) Q E s := by
  refine wpAny_For (wpAny_mono h (fun x s₁ h₁ => wpAny_mono h₁ (fun it s₂ h₂ => ?_) (fun _ _ x => x.elim)) (fun _ _ x => x.elim)) hs
  refine codeAny_mono h₂ (fun r s' h' => ?_)
  cases r with
  | ok f => exact h'
  | error e => exact h'.elim

theorem for_walk {I : Addr} {fp : List Addr} {n : Nat} {P : Nat → Value → Prop} {St : Nat → Heap → Prop} (S : List (Addr × Obj) → Prop) (J : Nat → (Str → Option Value) → List (Addr × Obj) → Prop)
    (W : Walks prog w A I fp [I] n P St) (hIo : ∀ i h, St i h → ∃ o, h.get? I = some o)
    (hSt : ∀ i h h' o nw, St i h → h.get? I = some o → h'.get? I = some o → (∀ b o, h₀.get? b = some o → h'.get? b = some o) → News h₀ L h' nw → S nw → St i h')
    (hS : ∀ i m news, J i m news → S news) (hst : St 0 s.heap) (F : Fr h₀ L s.heap m) (N : News h₀ L s.heap news) (hIL : L ≠ I) (hI₀ : h₀.get? I = none) (off : ∀ p ∈ news, p.1 ≠ I) (h0 : J 0 m news)
    (turn : ∀ i v oI m₁ news₁ h tk, i < n → P i v → J i m₁ news₁ → Fr h₀ L h m₁ → News h₀ L h ((I, oI) :: news₁) → LCg.Off1 I news₁ →
      wpAny (model prog w) A (assign target env v) (fun _ s₂ => wpAny (model prog w) A (execs body env) (ForEnd h₀ L I oI (J (i + 1)) s Q) NoE s₂) NoE { s with heap := h, toks := tk })
    (done : ∀ m' news' h tk, J n m' news' → Fr h₀ L h m' → News h₀ L h news' → wpAny (model prog w) A (execs orelse env) Q NoE { s with heap := h, toks := tk })
    (ht : ∀ v, letOwnedTupleGo target (.ref I) v = pure ()) :
    codeAny (model prog w) A (.forLoop target (.ref I) body orelse env) (fun r s' => match r with | .ok f => Q f s' | .error _ => False) s := by
  refine codeAny_forLoop (fun k s' => ∃ h' tk i m' news', s' = { s with heap := h', toks := tk } ∧ i ≤ n ∧ k = n + 1 - i ∧ St i h' ∧ Fr h₀ L h' m' ∧ News h₀ L h' news' ∧ (∀ p ∈ news', p.1 ≠ I) ∧ J i m' news') ?_ (n + 1)
    ⟨s.heap, s.toks, 0, m, news, rfl, Nat.zero_le _, rfl, hst, F, N, off, h0⟩ ht
  rintro k s' ⟨h', tk, i, m', news', rfl, hi, rfl, hst', F', N', off', hJ⟩
  by_cases hlt : i < n
  · refine W.item i _ _ _ hlt hst' fun v h₂ tk₂ hPv hst₂ hk₂ => ?_
    obtain ⟨oI, heI⟩ := hIo _ _ hst₂
    have F₂ := LCg.fr_but F' hk₂ hIL hI₀
    have N₂ := LCg.news_but N' hk₂ off'
    refine wpAny_mono (turn i v oI m' news' h₂ tk₂ hlt hPv hJ F₂ (fun p hp => ?_) (off1_of off')) (fun _ s₂ h₂ => wpAny_mono h₂ (fun f s₃ h₃ => ?_) (fun _ _ x => x.elim)) (fun _ _ x => x.elim)
    · rcases List.mem_cons.mp hp with rfl | hp
      · exact ⟨heI, Ne.symm hIL, hI₀⟩
      · exact N₂ p hp
    · have key : (∃ h' tk m' news', s₃ = { s with heap := h', toks := tk } ∧ Fr h₀ L h' m' ∧ News h₀ L h' ((I, oI) :: news') ∧ LCg.Off1 I news' ∧ J (i + 1) m' news') →
          ∃ k', k' < n + 1 - i ∧ ∃ h' tk i m' news', s₃ = { s with heap := h', toks := tk } ∧ i ≤ n ∧ k' = n + 1 - i ∧ St i h' ∧ Fr h₀ L h' m' ∧ News h₀ L h' news' ∧ (∀ p ∈ news', p.1 ≠ I) ∧ J i m' news' := by
        rintro ⟨h₄, tk₄, m₄, news₄, rfl, F₄, N₄, off₄, J₄⟩
        have N₄' : News h₀ L h₄ news₄ := fun p hp => N₄ p (List.mem_cons_of_mem _ hp)
        exact ⟨n + 1 - (i + 1), by omega, h₄, tk₄, i + 1, m₄, news₄, rfl, hlt, rfl, hSt _ _ _ _ _ hst₂ heI (N₄ _ List.mem_cons_self).1 F₄.keep N₄' (hS _ _ _ J₄), F₄, N₄', off1_mem off₄, J₄⟩
      cases f with
      | next => exact key h₃
      | cont => exact key h₃
      | brk => exact h₃
      | ret v => exact h₃
  · obtain rfl : i = n := Nat.le_antisymm hi (Nat.not_lt.mp hlt)
    refine W.done _ _ _ hst' fun h₂ tk₂ hk₂ => ?_
    exact wpAny_mono (done m' news' h₂ tk₂ hJ (LCg.fr_but F' hk₂ hIL hI₀) (LCg.news_but N' hk₂ off')) (fun _ _ x => x) (fun _ _ x => x.elim)

theorem ForAt.range {r : Addr} {a b : Int} {t u v : Tok} {n : Nat} (J : Nat → (Str → Option Value) → List (Addr × Obj) → Prop)
    (hh : A.handled = none) (F : Fr h₀ L s.heap m) (N : News h₀ L s.heap news) (hr : IsRange s.heap r a b 1 t u v) (hsm : Builtin.Range.small a b 1 = true) (hn : Builtin.Range.rangeSize a b 1 = ((n : Nat) : Int)) (h0 : J 0 m news)
    (turn : ∀ I oI i t m₁ news₁ h tk, i < n → J i m₁ news₁ → Fr h₀ L h m₁ → News h₀ L h ((I, oI) :: news₁) → LCg.Off1 I news₁ →
      wpAny (model prog w) A (assign target env (.int (a + ((i : Nat) : Int)) t)) (fun _ s₂ => wpAny (model prog w) A (execs body env) (ForEnd h₀ L I oI (J (i + 1)) s Q) NoE s₂) NoE { s with heap := h, toks := tk })
    (done : ∀ m' news' h tk, J n m' news' → Fr h₀ L h m' → News h₀ L h news' → wpAny (model prog w) A (execs orelse env) Q NoE { s with heap := h, toks := tk })
    (ht : ∀ v I, letOwnedTupleGo target (.ref I) v = pure () := by intro _ _; rfl) : ForAt prog w A env target body orelse Q (.ref r) s := by
  refine wpAny_pyIter_range hr hsm ?_
  have up : ∀ q o, s.heap.get? q = some o → (s.heap.push { cls := .type "range_iterator", data := .fields #[rawInt a, rawInt (Builtin.Range.rangeSize a b 1), rawInt 1] }).get? q = some o := fun q o e => Heap.get?_push_of_some _ e
  refine for_walk (h₀ := h₀) (L := L) (m := m) (news := news) (fun _ => True) J (LCg.range_walks hh a n) (fun i h st => ⟨_, st⟩) LCg.range_st (fun _ _ _ _ => trivial) (by show IsRangeIter _ _ _ _ _; rw [hn]; simpa using Heap.get?_push_size _ rfl)
    (F.keeps up) (N.grown up) (Nat.ne_of_lt F.ns.lt) (next_is_new F) (fun p hp => Nat.ne_of_lt (Heap.lt_size (N p hp).1)) h0 ?_ (fun m' news' h tk => done m' news' h tk) (fun v => ht v _)
  rintro i v oI m₁ news₁ h tk hi ⟨t, rfl⟩ hJ F₁ N₁ off
  exact turn _ oI i t m₁ news₁ h tk hi hJ F₁ N₁ off

theorem ForAt.list {ax : Addr} {its : Array Value} (J : Nat → (Str → Option Value) → List (Addr × Obj) → Prop)
    (hh : A.handled = none) (F : Fr h₀ L s.heap m) (N : News h₀ L s.heap news) (hS : ∀ i m news, J i m news → LCg.SrcAt h₀ ax its news) (h0 : J 0 m news)
    (turn : ∀ I oI i v m₁ news₁ h tk, its[i]? = some v → J i m₁ news₁ → Fr h₀ L h m₁ → News h₀ L h ((I, oI) :: news₁) → LCg.Off1 I news₁ →
      wpAny (model prog w) A (assign target env v) (fun _ s₂ => wpAny (model prog w) A (execs body env) (ForEnd h₀ L I oI (J (i + 1)) s Q) NoE s₂) NoE { s with heap := h, toks := tk })
    (done : ∀ m' news' h tk, J its.size m' news' → Fr h₀ L h m' → News h₀ L h news' → wpAny (model prog w) A (execs orelse env) Q NoE { s with heap := h, toks := tk })
    (ht : ∀ v I, letOwnedTupleGo target (.ref I) v = pure () := by intro _ _; rfl) : ForAt prog w A env target body orelse Q (.ref ax) s := by
  have hl := (hS _ _ _ h0).list F.keep N
  have hlt : ax < s.heap.objs.size := by obtain ⟨_, e, _⟩ := hl; exact Heap.lt_size e
  refine wpAny_pyIter_list hl ?_
  have up : ∀ b o, s.heap.get? b = some o → (s.heap.push { cls := .type "list_iterator", data := .fields #[.ref ax, .int 0 0] }).get? b = some o := fun b o e => Heap.get?_push_of_some _ e
  refine for_walk (h₀ := h₀) (L := L) (m := m) (news := news) (LCg.SrcAt h₀ ax its) J (Walks.list hh s.heap.objs.size ax (Nat.ne_of_lt hlt) its) (fun i h st => by obtain ⟨o, e, _⟩ := st.1; exact ⟨o, e⟩) LCg.list_st hS ⟨⟨_, Heap.get?_push_size _ rfl, rfl, rfl⟩, hl.push _⟩
    (F.keeps up) (N.grown up) (Nat.ne_of_lt F.ns.lt) (next_is_new F) (fun p hp => Nat.ne_of_lt (Heap.lt_size (N p hp).1)) h0 ?_ (fun m' news' h tk => done m' news' h tk) (fun v => ht v _)
  rintro i v oI m₁ news₁ h tk hi hv hJ F₁ N₁ off
  exact turn _ oI i v m₁ news₁ h tk hv hJ F₁ N₁ off

theorem ForAt.rangeM {r : Addr} {a b : Int} {t u v : Tok} {n : Nat} (J : (Str → Option Value) → List (Addr × Obj) → Nat → (Str → Option Value) → List (Addr × Obj) → Prop)
    (hh : A.handled = none) (F : Fr h₀ L s.heap m) (N : News h₀ L s.heap news) (hr : IsRange s.heap r a b 1 t u v) (hsm : Builtin.Range.small a b 1 = true) (hn : Builtin.Range.rangeSize a b 1 = ((n : Nat) : Int)) (h0 : J m news 0 m news)
    (turn : ∀ I oI i t m₁ news₁ h tk, i < n → J m news i m₁ news₁ → Fr h₀ L h m₁ → News h₀ L h ((I, oI) :: news₁) → LCg.Off1 I news₁ →
      wpAny (model prog w) A (assign target env (.int (a + ((i : Nat) : Int)) t)) (fun _ s₂ => wpAny (model prog w) A (execs body env) (ForEnd h₀ L I oI (J m news (i + 1)) s Q) NoE s₂) NoE { s with heap := h, toks := tk })
    (done : ∀ m' news' h tk, J m news n m' news' → Fr h₀ L h m' → News h₀ L h news' → wpAny (model prog w) A (execs orelse env) Q NoE { s with heap := h, toks := tk })
    (ht : ∀ v I, letOwnedTupleGo target (.ref I) v = pure () := by intro _ _; rfl) : ForAt prog w A env target body orelse Q (.ref r) s :=
  ForAt.range (J m news) hh F N hr hsm hn h0 turn done ht

theorem ForAt.listM {ax : Addr} {its : Array Value} (J : (Str → Option Value) → List (Addr × Obj) → Nat → (Str → Option Value) → List (Addr × Obj) → Prop)
    (hh : A.handled = none) (F : Fr h₀ L s.heap m) (N : News h₀ L s.heap news) (hS : ∀ i m' news', J m news i m' news' → LCg.SrcAt h₀ ax its news') (h0 : J m news 0 m news)
    (turn : ∀ I oI i v m₁ news₁ h tk, its[i]? = some v → J m news i m₁ news₁ → Fr h₀ L h m₁ → News h₀ L h ((I, oI) :: news₁) → LCg.Off1 I news₁ →
      wpAny (model prog w) A (assign target env v) (fun _ s₂ => wpAny (model prog w) A (execs body env) (ForEnd h₀ L I oI (J m news (i + 1)) s Q) NoE s₂) NoE { s with heap := h, toks := tk })
    (done : ∀ m' news' h tk, J m news its.size m' news' → Fr h₀ L h m' → News h₀ L h news' → wpAny (model prog w) A (execs orelse env) Q NoE { s with heap := h, toks := tk })
    (ht : ∀ v I, letOwnedTupleGo target (.ref I) v = pure () := by intro _ _; rfl) : ForAt prog w A env target body orelse Q (.ref ax) s :=
  ForAt.list (J m news) hh F N hS h0 turn done ht

/-- the while loop, in the same make -/
def WhEnd (h₀ : Heap) (L : Addr) (J : Nat → (Str → Option Value) → List (Addr × Obj) → Prop) (n : Nat) (s : Shared) (Q : Flow → Shared → Prop) (f : Flow) (s₃ : Shared) : Prop := match f with
  | .next => ∃ n' h' tk m' news', n' < n ∧ s₃ = { s with heap := h', toks := tk } ∧ Fr h₀ L h' m' ∧ News h₀ L h' news' ∧ J n' m' news'
  | .cont => ∃ n' h' tk m' news', n' < n ∧ s₃ = { s with heap := h', toks := tk } ∧ Fr h₀ L h' m' ∧ News h₀ L h' news' ∧ J n' m' news'
  | .brk => Q .next s₃
  | .ret v => Q (.ret v) s₃
def WhTest (prog : Program) (w : World) (A : Around) (env : Env) (h₀ : Heap) (L : Addr) (J : Nat → (Str → Option Value) → List (Addr × Obj) → Prop) (n : Nat) (s : Shared) (body : List Stmt) (Q : Flow → Shared → Prop) (b : Bool) (s₂ : Shared) : Prop := match b with
  | true => wpAny (model prog w) A (execs body env) (WhEnd h₀ L J n s Q) NoE s₂
  | false => Q .next s₂
theorem While_at {test : Expr} {pos : Pos} (J : Nat → (Str → Option Value) → List (Addr × Obj) → Prop) {n₀ : Nat} (F : Fr h₀ L s.heap m) (N : News h₀ L s.heap news) (hJ : J n₀ m news)
    (turn : ∀ n m₁ news₁ h₁ tk₁, Fr h₀ L h₁ m₁ → News h₀ L h₁ news₁ → J n m₁ news₁ →
      wpAny (model prog w) A (isTrue test env (eval test env)) (WhTest prog w A env h₀ L J n s body Q) NoE { s with heap := h₁, toks := tk₁ }) :
    wpAny (model prog w) A (exec (.While test body [] pos) env) Q E s := by
  refine wpAny_While (codeAny_mono (R := fun r s' => match r with | .ok f => Q f s' | .error _ => False) (codeAny_whileLoop (fun n s' => ∃ h₁ tk₁ m₁ news₁, s' = { s with heap := h₁, toks := tk₁ } ∧ Fr h₀ L h₁ m₁ ∧ News h₀ L h₁ news₁ ∧ J n m₁ news₁) ?_ n₀ ⟨s.heap, s.toks, m, news, rfl, F, N, hJ⟩) ?_)
  · rintro n s' ⟨h₁, tk₁, m₁, news₁, rfl, F₁, N₁, J₁⟩
    refine wpAny_mono (turn n m₁ news₁ h₁ tk₁ F₁ N₁ J₁) (fun b s₂ h₂ => ?_) (fun _ _ x => x.elim)
    cases b with
    | false =>
      simp only [Bool.false_eq_true, if_false]
      exact wpAny_execs_nil h₂
    | true =>
      simp only [if_true]
      refine wpAny_mono h₂ (fun f s₃ h₃ => ?_) (fun _ _ x => x.elim)
      have key : (∃ n' h' tk m' news', n' < n ∧ s₃ = { s with heap := h', toks := tk } ∧ Fr h₀ L h' m' ∧ News h₀ L h' news' ∧ J n' m' news') → ∃ k, k < n ∧ ∃ h₁ tk₁ m₁ news₁, s₃ = { s with heap := h₁, toks := tk₁ } ∧ Fr h₀ L h₁ m₁ ∧ News h₀ L h₁ news₁ ∧ J k m₁ news₁ := by
        rintro ⟨n', h', tk, m', news', hn, rfl, F', N', hJ'⟩
        exact ⟨n', hn, h', tk, m', news', rfl, F', N', hJ'⟩
      cases f with
      | next => exact key h₃
      | cont => exact key h₃
      | brk => exact h₃
      | ret v => exact h₃
  · intro r s' h'
    cases r with
    | ok f => exact h'
    | error e => exact h'.elim
theorem While_atM {test : Expr} {pos : Pos} (J : (Str → Option Value) → List (Addr × Obj) → Nat → (Str → Option Value) → List (Addr × Obj) → Prop) {n₀ : Nat} (F : Fr h₀ L s.heap m) (N : News h₀ L s.heap news) (hJ : J m news n₀ m news)
    (turn : ∀ n m₁ news₁ h₁ tk₁, Fr h₀ L h₁ m₁ → News h₀ L h₁ news₁ → J m news n m₁ news₁ →
      wpAny (model prog w) A (isTrue test env (eval test env)) (WhTest prog w A env h₀ L (J m news) n s body Q) NoE { s with heap := h₁, toks := tk₁ }) :
    wpAny (model prog w) A (exec (.While test body [] pos) env) Q E s := While_at (J m news) F N hJ turn
end
end Mine
namespace Mine
/-- a fact that the walk's own lines do not see -/
structure Hide (P : Prop) : Prop where
  out : P
end Mine
theorem Mine.anew14 {prog : Program} {w : World} {A : Around} {s : Shared} : wpAny (model prog w) A (truthy (.bool true)) (fun _ _ => True) (fun _ _ => False) s := by
  w_top off
  walk1
  trivial
namespace Mine

/-- an element's end: the heap only grew, and what is said of the value -/
def EltEnd (s : Shared) (h : Heap) (R : Value → Prop) (y : Value) (s' : Shared) : Prop := ∃ h' tk', s' = { s with heap := h', toks := tk' } ∧ Up h h' ∧ R y
theorem EltEnd.go {s : Shared} {h h' : Heap} {R : Value → Prop} {y : Value} {tk : Nat} (k : Up h h') (r : R y) : EltEnd s h R y { s with heap := h', toks := tk } := ⟨h', tk, rfl, k, r⟩

section
variable {prog : Program} {w : World} {A : Around} {s : Shared} {h₀ : Heap} {L : Addr} {m : Str → Option Value} {env : Env} {elt ct : Expr} {x : Str} {scope : Scope} {cl : List (Str × Addr)} {S : List (Addr × Obj) → Prop} {P : Nat → Value → Prop} {Fin : List Value → List (Addr × Obj) → Prop}
  {news : List (Addr × Obj)}

theorem compMap {n : Nat} (G : Nat → List Value → Prop) (hS : S news)
    (helt : ∀ i ys v I oI C oC D m₂ h tk, i < n → ys.length = i → G i ys → P i v → LCg.NsObj oC m₂ → m₂ x = some v → Fr h₀ L h m → News h₀ L h ((I, oI) :: (C, oC) :: (D, LCg.lst ys) :: news) → LCg.Off3 I C D news → ((@Ne Nat I C) ∧ (@Ne Nat I D) ∧ (@Ne Nat C D)) →
      wpAny (model prog w) A (eval elt (compEnvC scope cl C env)) (EltEnd s h fun y => G (i + 1) (ys ++ [y])) NoE { s with heap := h, toks := tk })
    (fin : ∀ ys, ys.length = n → G n ys → Fin ys news) :
    ∀ k i ys, i + k = n → ys.length = i → G i ys → LCg.CompRest prog w A h₀ L m env elt x scope cl s S P Fin k i ys news
  | 0, i, ys, e, hl, hG => by
    obtain rfl : i = n := by omega
    exact LCg.CompRest.zero (fin ys hl hG)
  | k + 1, i, ys, e, hl, hG => by
    refine LCg.CompRest.succ fun v I oI C oC D m₂ h tk E' hv hC hx F N off ne => ?_
    refine wpAny_mono (helt i ys v I oI C oC D m₂ h tk (by omega) hl hG hv hC hx F N off ne) (fun y s' z => ?_) (fun _ _ z => z.elim)
    obtain ⟨h', tk', rfl, up, hR⟩ := z
    exact ⟨h', tk', news, rfl, frUp F up, newsUp N up, off, hS, compMap G hS helt fin k (i + 1) (ys ++ [y]) (by omega) (by simp [hl]) hR⟩

theorem compMapT {n : Nat} (G : Nat → List Value → Prop) (hS : S news)
    (helt : ∀ i ys v I oI C oC D m₂ h tk, i < n → G i ys → P i v → LCg.NsObj oC m₂ → m₂ x = some v → Fr h₀ L h m → News h₀ L h ((I, oI) :: (C, oC) :: (D, LCg.lst ys) :: news) → LCg.Off3 I C D news → ((@Ne Nat I C) ∧ (@Ne Nat I D) ∧ (@Ne Nat C D)) →
      wpAny (model prog w) A (isTrue ct (compEnvC scope cl C env) (eval ct (compEnvC scope cl C env))) (fun ok s' => if ok = true then
        wpAny (model prog w) A (eval elt (compEnvC scope cl C env)) (EltEnd s h fun y => G (i + 1) (ys ++ [y])) NoE s' else EltEnd s h (fun _ => G (i + 1) ys) Value.none s') NoE { s with heap := h, toks := tk })
    (fin : ∀ ys, G n ys → Fin ys news) :
    ∀ k i ys, i + k = n → G i ys → LCt.CompRestT prog w A h₀ L m env ct elt x scope cl s S P Fin k i ys news
  | 0, i, ys, e, hG => by
    obtain rfl : i = n := by omega
    exact LCt.CompRestT.zero (fin ys hG)
  | k + 1, i, ys, e, hG => by
    refine LCt.CompRestT.succ fun v I oI C oC D m₂ h tk E' hv hC hx F N off ne => ?_
    refine wpAny_mono (helt i ys v I oI C oC D m₂ h tk (by omega) hG hv hC hx F N off ne) (fun ok s' z => ?_) (fun _ _ z => z.elim)
    cases ok with
    | true =>
      simp only [if_true] at z ⊢
      refine wpAny_mono z (fun y s' z => ?_) (fun _ _ z => z.elim)
      obtain ⟨h', tk', rfl, up, hR⟩ := z
      exact ⟨h', tk', news, rfl, frUp F up, newsUp N up, off, hS, compMapT G hS helt fin k (i + 1) (ys ++ [y]) (by omega) hR⟩
    | false =>
      simp only [Bool.false_eq_true, if_false] at z ⊢
      obtain ⟨h', tk', rfl, up, hR⟩ := z
      exact ⟨h', tk', news, rfl, frUp F up, newsUp N up, off, hS, compMapT G hS helt fin k (i + 1) ys (by omega) hR⟩
end

section
variable {prog : Program} {w : World} {A : Around} {s : Shared} {E : Value → Shared → Prop} {h₀ : Heap} {L : Addr} {m : Str → Option Value} {env : Env} {elt ct iter : Expr} {x y : Str} {px py : Pos} {scope : Scope} {cl : List (Str × Addr)} {pos spos : Pos} {Fin : Shared → List Value → List (Addr × Obj) → Prop}
  {news : List (Addr × Obj)}

/-- the comprehension stands at its iterable (no line of the walk takes it from there) -/
def CompAt (prog : Program) (w : World) (A : Around) (h₀ : Heap) (L : Addr) (m : Str → Option Value) (env : Env) (elt : Expr) (x : Str) (scope : Scope) (cl : List (Str × Addr)) (Fin : Shared → List Value → List (Addr × Obj) → Prop) (xv : Value) (s₁ : Shared) : Prop :=
  LCg.CompSrc prog w A h₀ L m env elt x scope cl Fin xv s₁
def CompAtT (prog : Program) (w : World) (A : Around) (h₀ : Heap) (L : Addr) (m : Str → Option Value) (env : Env) (ct elt : Expr) (x : Str) (scope : Scope) (cl : List (Str × Addr)) (Fin : Shared → List Value → List (Addr × Obj) → Prop) (xv : Value) (s₁ : Shared) : Prop :=
  LCt.CompSrcT prog w A h₀ L m env ct elt x scope cl Fin xv s₁
theorem ListComp_at {Q : Value → Shared → Prop} (F₀ : Fr h₀ L s.heap m)
    (hclos : closureFor scope env = pure cl) (hcell : ∀ y ∈ scope.names, y.2 ≠ .cell) (hkind : scope.kind = .function)
    (hnames : ∀ y ∈ scope.names, y.2 = .local → scope.names.lookup y.1 = some .local) (hx : scope.names.lookup x = some .local)
    (h : wpAny (model prog w) A (eval iter env) (CompAt prog w A h₀ L m env elt x scope cl (fun s₂ => LCg.FinE h₀ L m s₂ Q)) E s)
    (hs : ∀ x, foldedSetIterable iter env x = pure x := by intro _; rfl) :
    wpAny (model prog w) A (eval (.ListComp elt [⟨.Name x px, iter, [], 0⟩] scope pos) env) Q E s := LCg.ListComp_U F₀ hclos hcell hkind hnames hx h hs
theorem ListComp_atT {Q : Value → Shared → Prop} (F₀ : Fr h₀ L s.heap m)
    (hclos : closureFor scope env = pure cl) (hcell : ∀ y ∈ scope.names, y.2 ≠ .cell) (hkind : scope.kind = .function)
    (hnames : ∀ y ∈ scope.names, y.2 = .local → scope.names.lookup y.1 = some .local) (hx : scope.names.lookup x = some .local)
    (h : wpAny (model prog w) A (eval iter env) (CompAtT prog w A h₀ L m env ct elt x scope cl (fun s₂ => LCg.FinE h₀ L m s₂ Q)) E s)
    (hs : ∀ x, foldedSetIterable iter env x = pure x := by intro _; rfl) :
    wpAny (model prog w) A (eval (.ListComp elt [⟨.Name x px, iter, [ct], 0⟩] scope pos) env) Q E s := LCt.ListComp_T F₀ hclos hcell hkind hnames hx h hs
theorem Assign_at {Q : Flow → Shared → Prop} (F₀ : Fr h₀ L s.heap m) (hLe : env.locals = L)
    (hsw : swapsWith (.ListComp elt [⟨.Name x px, iter, [], 0⟩] scope pos) (some (.Name y py)) spos.line env = pure true)
    (hclos : closureFor scope env = pure cl) (hcell : ∀ z ∈ scope.names, z.2 ≠ .cell) (hkind : scope.kind = .function)
    (hnames : ∀ z ∈ scope.names, z.2 = .local → scope.names.lookup z.1 = some .local) (hx : scope.names.lookup x = some .local)
    (hy : env.kindOf y = some .local) (hp : (env.scope.kind == .class || (env.scope.kind == .module && env.locals != env.globals)) = false)
    (h : wpAny (model prog w) A (eval iter env) (CompAt prog w A h₀ L m env elt x scope cl (fun s₂ => LCg.FinA h₀ L m s₂ y Q)) E s)
    (hs : ∀ x, foldedSetIterable iter env x = pure x := by intro _; rfl) :
    wpAny (model prog w) A (exec (.Assign [.Name y py] (.ListComp elt [⟨.Name x px, iter, [], 0⟩] scope pos) spos) env) Q E s := LCg.Assign_ListComp_U F₀ hLe hsw hclos hcell hkind hnames hx hy hp h hs
theorem Assign_atT {Q : Flow → Shared → Prop} (F₀ : Fr h₀ L s.heap m) (hLe : env.locals = L)
    (hsw : swapsWith (.ListComp elt [⟨.Name x px, iter, [ct], 0⟩] scope pos) (some (.Name y py)) spos.line env = pure true)
    (hclos : closureFor scope env = pure cl) (hcell : ∀ z ∈ scope.names, z.2 ≠ .cell) (hkind : scope.kind = .function)
    (hnames : ∀ z ∈ scope.names, z.2 = .local → scope.names.lookup z.1 = some .local) (hx : scope.names.lookup x = some .local)
    (hy : env.kindOf y = some .local) (hp : (env.scope.kind == .class || (env.scope.kind == .module && env.locals != env.globals)) = false)
    (h : wpAny (model prog w) A (eval iter env) (CompAtT prog w A h₀ L m env ct elt x scope cl (fun s₂ => LCg.FinA h₀ L m s₂ y Q)) E s)
    (hs : ∀ x, foldedSetIterable iter env x = pure x := by intro _; rfl) :
    wpAny (model prog w) A (exec (.Assign [.Name y py] (.ListComp elt [⟨.Name x px, iter, [ct], 0⟩] scope pos) spos) env) Q E s := LCt.Assign_ListComp_T F₀ hLe hsw hclos hcell hkind hnames hx hy hp h hs

theorem CompAt.list {ax : Addr} {its : Array Value} (G : Nat → List Value → Prop) (hh : A.handled = none) (F : Fr h₀ L s.heap m) (N : News h₀ L s.heap news) (hS : LCg.SrcAt h₀ ax its news) (hsz : its.size ≤ sizeLine) (hG : G 0 [])
    (helt : ∀ i ys v I oI C oC D m₂ h tk, ys.length = i → G i ys → its[i]? = some v → LCg.NsObj oC m₂ → m₂ x = some v → Fr h₀ L h m → News h₀ L h ((I, oI) :: (C, oC) :: (D, LCg.lst ys) :: news) → LCg.Off3 I C D news → ((@Ne Nat I C) ∧ (@Ne Nat I D) ∧ (@Ne Nat C D)) →
      wpAny (model prog w) A (eval elt (compEnvC scope cl C env)) (EltEnd s h fun y => G (i + 1) (ys ++ [y])) NoE { s with heap := h, toks := tk })
    (fin : ∀ g ys, ys.length = its.size → G its.size ys → Fin { s with heap := g } ys news) : CompAt prog w A h₀ L m env elt x scope cl Fin (.ref ax) s :=
  .inl ⟨ax, its, news, rfl, hh, F, N, hS, hsz, fun _ ⟨g, e⟩ => e ▸ compMap (s := { s with heap := g }) (n := its.size) G hS (fun i ys v I oI C oC D m₂ h tk _ hl hG hv => helt i ys v I oI C oC D m₂ h tk hl hG hv) (fin g) its.size 0 [] (by omega) rfl hG⟩
theorem CompAt.range {r : Addr} {a b : Int} {t u v : Tok} {n : Nat} (G : Nat → List Value → Prop) (hh : A.handled = none) (F : Fr h₀ L s.heap m) (N : News h₀ L s.heap news) (hr : IsRange s.heap r a b 1 t u v) (hsm : Builtin.Range.small a b 1 = true) (hn : Builtin.Range.rangeSize a b 1 = ((n : Nat) : Int)) (hsz : n ≤ sizeLine) (hG : G 0 [])
    (helt : ∀ i ys t I oI C oC D m₂ h tk, i < n → ys.length = i → G i ys → LCg.NsObj oC m₂ → m₂ x = some (.int (a + ((i : Nat) : Int)) t) → Fr h₀ L h m → News h₀ L h ((I, oI) :: (C, oC) :: (D, LCg.lst ys) :: news) → LCg.Off3 I C D news → ((@Ne Nat I C) ∧ (@Ne Nat I D) ∧ (@Ne Nat C D)) →
      wpAny (model prog w) A (eval elt (compEnvC scope cl C env)) (EltEnd s h fun y => G (i + 1) (ys ++ [y])) NoE { s with heap := h, toks := tk })
    (fin : ∀ g ys, ys.length = n → G n ys → Fin { s with heap := g } ys news) : CompAt prog w A h₀ L m env elt x scope cl Fin (.ref r) s :=
  .inr ⟨r, a, b, t, u, v, n, news, rfl, hh, F, N, hr, hsm, hn, hsz, fun _ ⟨g, e⟩ => e ▸ compMap (s := { s with heap := g }) (n := n) G trivial (fun i ys v I oI C oC D m₂ h tk hi hl hG hv hC hx => by
    obtain ⟨t, rfl⟩ := hv
    exact helt i ys t I oI C oC D m₂ h tk hi hl hG hC hx) (fin g) n 0 [] (by omega) rfl hG⟩
theorem CompAtT.list {ax : Addr} {its : Array Value} (G : Nat → List Value → Prop) (hh : A.handled = none) (F : Fr h₀ L s.heap m) (N : News h₀ L s.heap news) (hS : LCg.SrcAt h₀ ax its news) (hsz : its.size ≤ sizeLine) (hG : G 0 [])
    (helt : ∀ i ys v I oI C oC D m₂ h tk, G i ys → its[i]? = some v → LCg.NsObj oC m₂ → m₂ x = some v → Fr h₀ L h m → News h₀ L h ((I, oI) :: (C, oC) :: (D, LCg.lst ys) :: news) → LCg.Off3 I C D news → ((@Ne Nat I C) ∧ (@Ne Nat I D) ∧ (@Ne Nat C D)) →
      wpAny (model prog w) A (isTrue ct (compEnvC scope cl C env) (eval ct (compEnvC scope cl C env))) (fun ok s' => if ok = true then
        wpAny (model prog w) A (eval elt (compEnvC scope cl C env)) (EltEnd s h fun y => G (i + 1) (ys ++ [y])) NoE s' else EltEnd s h (fun _ => G (i + 1) ys) Value.none s') NoE { s with heap := h, toks := tk })
    (fin : ∀ g ys, G its.size ys → Fin { s with heap := g } ys news) : CompAtT prog w A h₀ L m env ct elt x scope cl Fin (.ref ax) s :=
  .inl ⟨ax, its, news, rfl, hh, F, N, hS, hsz, fun _ ⟨g, e⟩ => e ▸ compMapT (s := { s with heap := g }) (n := its.size) G hS (fun i ys v I oI C oC D m₂ h tk _ hG hv => helt i ys v I oI C oC D m₂ h tk hG hv) (fin g) its.size 0 [] (by omega) hG⟩
theorem CompAtT.range {r : Addr} {a b : Int} {t u v : Tok} {n : Nat} (G : Nat → List Value → Prop) (hh : A.handled = none) (F : Fr h₀ L s.heap m) (N : News h₀ L s.heap news) (hr : IsRange s.heap r a b 1 t u v) (hsm : Builtin.Range.small a b 1 = true) (hn : Builtin.Range.rangeSize a b 1 = ((n : Nat) : Int)) (hsz : n ≤ sizeLine) (hG : G 0 [])
    (helt : ∀ i ys t I oI C oC D m₂ h tk, i < n → G i ys → LCg.NsObj oC m₂ → m₂ x = some (.int (a + ((i : Nat) : Int)) t) → Fr h₀ L h m → News h₀ L h ((I, oI) :: (C, oC) :: (D, LCg.lst ys) :: news) → LCg.Off3 I C D news → ((@Ne Nat I C) ∧ (@Ne Nat I D) ∧ (@Ne Nat C D)) →
      wpAny (model prog w) A (isTrue ct (compEnvC scope cl C env) (eval ct (compEnvC scope cl C env))) (fun ok s' => if ok = true then
        wpAny (model prog w) A (eval elt (compEnvC scope cl C env)) (EltEnd s h fun y => G (i + 1) (ys ++ [y])) NoE s' else EltEnd s h (fun _ => G (i + 1) ys) Value.none s') NoE { s with heap := h, toks := tk })
    (fin : ∀ g ys, G n ys → Fin { s with heap := g } ys news) : CompAtT prog w A h₀ L m env ct elt x scope cl Fin (.ref r) s :=
  .inr ⟨r, a, b, t, u, v, n, news, rfl, hh, F, N, hr, hsm, hn, hsz, fun _ ⟨g, e⟩ => e ▸ compMapT (s := { s with heap := g }) (n := n) G trivial (fun i ys v I oI C oC D m₂ h tk hi hG hv hC hx => by
    obtain ⟨t, rfl⟩ := hv
    exact helt i ys t I oI C oC D m₂ h tk hi hG hC hx) (fin g) n 0 [] (by omega) hG⟩
end
end Mine
theorem Mine.anew16 {prog : Program} {w : World} {A : Around} {s : Shared} : wpAny (model prog w) A (truthy (.bool true)) (fun _ _ => True) (fun _ _ => False) s := by
  w_top off
  walk1
  trivial
namespace Mine

def OkThen (P : Shared → Prop) (r : Result) (s : Shared) : Prop := match r with
  | .ok _ => P s
  | .error _ => False
/-- a list comprehension of two clauses -/
abbrev lc2 (elt : Expr) (x y : Str) (px py : Pos) (it0 it1 : Expr) (scope : Scope) (pos : Pos) : Expr := .ListComp elt [⟨.Name x px, it0, [], 0⟩, ⟨.Name y py, it1, [], 0⟩] scope pos

theorem turn_inner (elt : Expr) (x y : Str) (px py : Pos) (it0 it1 : Expr) (scope : Scope) (pos : Pos) (it acc : Value) (env : Env) :
    compTurn (lc2 elt x y px py it0 it1 scope pos) 1 it acc env = (standAt it1.pos >>= fun _ => pyNext it >>= fun r => match r with
      | none => pure (.done .next)
      | some v => letOwnedTupleGo (.Name y py) it v >>= fun _ => assign (.Name y py) env v >>= fun _ =>
        (eval elt env >>= fun x => call (.builtin "list.append") [acc, x] >>= fun _ => pure ()) >>= fun _ =>
          again (.compLoop (lc2 elt x y px py it0 it1 scope pos) 1 it acc env)) := by rfl
theorem turn_outer (elt : Expr) (x y : Str) (px py : Pos) (it0 it1 : Expr) (scope : Scope) (pos : Pos) (it acc : Value) (env : Env) :
    compTurn (lc2 elt x y px py it0 it1 scope pos) 0 it acc env = (standAt it0.pos >>= fun _ => pyNext it >>= fun r => match r with
      | none => pure (.done .next)
      | some v => letOwnedTupleGo (.Name x px) it v >>= fun _ => assign (.Name x px) env v >>= fun _ =>
        eval it1 env >>= fun xv => standAt it1.pos >>= fun _ => foldedSetIterable it1 env xv >>= fun xv => holding [xv] (pyIter xv) >>= fun i1 =>
          runOwn (.compStart (lc2 elt x y px py it0 it1 scope pos) 1 i1 acc env) env >>= fun _ =>
          again (.compLoop (lc2 elt x y px py it0 it1 scope pos) 0 it acc env)) := by rfl

section
variable {prog : Program} {w : World} {A : Around} {R : Result → Shared → Prop} {s : Shared} {elt it0 it1 : Expr} {x y : Str} {px py : Pos} {scope : Scope} {pos : Pos} {it acc : Value} {env : Env}
theorem loop_inner (I : Nat → Shared → Prop)
    (turn : ∀ n s, I n s → wpAny (model prog w) A (pyNext it) (fun r s₁ => match r with
      | none => R (.ok .next) s₁
      | some v => wpAny (model prog w) A (assign (.Name y py) env v) (fun _ s₂ => wpAny (model prog w) A (eval elt env) (fun x s₃ =>
          wpAny (model prog w) A (call (.builtin "list.append") [acc, x]) (fun _ s₄ => ∃ m, m < n ∧ I m s₄) NoE s₃) NoE s₂) NoE s₁) NoE s)
    (n : Nat) (h : I n s) : codeAny (model prog w) A (.compLoop (lc2 elt x y px py it0 it1 scope pos) 1 it acc env) R s := by
  refine codeAny_loop rfl I (fun n s hI => ?_) n h
  show wpAny _ _ ((compTurn (lc2 elt x y px py it0 it1 scope pos) 1 it acc env).onRaise (fun x => do noteFrame x env; theTreesLotGoes x)) _ _ s
  refine wpAny_noted ?_
  rw [turn_inner]
  refine wpAny_bind (wpAny_standAt (wpAny_bind (wpAny_mono (turn n s hI) (fun r s₁ h₁ => ?_) fun _ _ h' => h'.elim)))
  cases r with
  | none => exact wpAny_pure h₁
  | some v =>
    refine wpAny_bind (wpAny_of_eq (show letOwnedTupleGo (.Name y py) it v = pure () from rfl) ?_)
    exact wpAny_bind (wpAny_mono h₁ (fun _ s₂ h₂ => wpAny_bind (wpAny_bind (wpAny_mono h₂ (fun x s₃ h₃ => wpAny_bind (wpAny_mono h₃
      (fun _ s₄ h₄ => wpAny_pure (wpAny_pure ⟨rfl, h₄⟩)) fun _ _ h' => h'.elim)) fun _ _ h' => h'.elim))) fun _ _ h' => h'.elim)
theorem start_inner
    (h0 : codeAny (model prog w) A (.compLoop (lc2 elt x y px py it0 it1 scope pos) 1 it acc env) R s)
    (h : wpAny (model prog w) A (pyIter it) (fun it' s' => codeAny (model prog w) A (.compLoop (lc2 elt x y px py it0 it1 scope pos) 1 it' acc env) R s') NoE s) :
    codeAny (model prog w) A (.compStart (lc2 elt x y px py it0 it1 scope pos) 1 it acc env) R s := by
  refine codeAny_of_tree ?_
  show wpAny _ _ ((compStart (lc2 elt x y px py it0 it1 scope pos) 1 it acc env).onRaise (fun x => do noteFrame x env; standAt theWindowsPlace)) _ _ s
  refine wpAny_notedAt ?_
  unfold compStart
  show wpAny _ _ (ask >>= _) _ _ s
  refine wpAny_bind (wpAny_askSetting (wpAny_ite ?_))
  split
  · first
      | exact wpAny_bind (wpAny_pure (wpAny_pure (And.intro rfl h0)))
      | exact wpAny_pure (And.intro rfl h0)
  · first
      | exact wpAny_bind (wpAny_rule (wpAny_bind (wpAny_standAt (wpAny_bind (wpAny_mono h (fun it' s' h' => wpAny_pure (And.intro rfl h')) fun _ _ x => x.elim)))))
      | (refine wpAny_bind (wpAny_rule ?_); show wpAny _ _ (standAt it1.pos >>= _) _ _ s; exact wpAny_bind (wpAny_standAt (wpAny_bind (wpAny_mono h (fun it' s' h' => wpAny_pure (And.intro rfl h')) fun _ _ x => x.elim))))
theorem loop_outer (I : Nat → Shared → Prop)
    (turn : ∀ n s, I n s → wpAny (model prog w) A (pyNext it) (fun r s₁ => match r with
      | none => R (.ok .next) s₁
      | some v => wpAny (model prog w) A (assign (.Name x px) env v) (fun _ s₂ => wpAny (model prog w) A (eval it1 env) (fun xv s₃ => wpAny (model prog w) A (pyIter xv) (fun i1 s₄ =>
          codeAny (model prog w) A (.compStart (lc2 elt x y px py it0 it1 scope pos) 1 i1 acc env) (OkThen fun s₅ => ∃ m, m < n ∧ I m s₅) s₄) NoE s₃) NoE s₂) NoE s₁) NoE s)
    (n : Nat) (h : I n s) (hs : ∀ x, foldedSetIterable it1 env x = pure x := by intro _; rfl) : codeAny (model prog w) A (.compLoop (lc2 elt x y px py it0 it1 scope pos) 0 it acc env) R s := by
  refine codeAny_loop rfl I (fun n s hI => ?_) n h
  show wpAny _ _ ((compTurn (lc2 elt x y px py it0 it1 scope pos) 0 it acc env).onRaise (fun x => do noteFrame x env; theTreesLotGoes x)) _ _ s
  refine wpAny_noted ?_
  rw [turn_outer]
  refine wpAny_bind (wpAny_standAt (wpAny_bind (wpAny_mono (turn n s hI) (fun r s₁ h₁ => ?_) fun _ _ h' => h'.elim)))
  cases r with
  | none => exact wpAny_pure h₁
  | some v =>
    refine wpAny_bind (wpAny_of_eq (show letOwnedTupleGo (.Name x px) it v = pure () from rfl) ?_)
    refine wpAny_bind (wpAny_mono h₁ (fun _ s₂ h₂ => wpAny_bind (wpAny_mono h₂ (fun xv s₃ h₃ => ?_) fun _ _ h' => h'.elim)) fun _ _ h' => h'.elim)
    refine wpAny_bind (wpAny_standAt (wpAny_bind (wpAny_of_eq (hs xv) (wpAny_bind (wpAny_holding (wpAny_mono h₃ (fun i1 s₄ h₄ => ?_) fun _ _ h' => h'.elim))))))
    refine wpAny_bind (wpAny_mono (wpAny_runOwn (E := NoE) (Q := fun _ s₅ => ∃ m, m < n ∧ I m s₅) (codeAny_mono h₄ fun r s₅ h₅ => ?_)) (fun _ s₅ h₅ => wpAny_pure ⟨rfl, h₅⟩) fun _ _ h' => h'.elim)
    cases r with
    | ok f => exact h₅
    | error e => exact h₅.elim
end

def OffL (bad : List Addr) (news : List (Addr × Obj)) : Prop := ∀ p ∈ news, p.1 ∉ bad
theorem OffL.ne {bad : List Addr} {news : List (Addr × Obj)} (o : OffL bad news) {b : Addr} (hb : b ∈ bad) : ∀ p ∈ news, p.1 ≠ b := fun p hp e => o p hp (e ▸ hb)

section
variable {prog : Program} {w : World} {A : Around} {R : Result → Shared → Prop} {s : Shared} {elt it0 it1 : Expr} {x y : Str} {px py : Pos} {scope : Scope} {pos : Pos} {env : Env} {cl : List (Str × Addr)}
  {h₀ : Heap} {L C D I0 I1 : Addr} {m : Str → Option Value} {o0 : Obj} {a : Int} {n : Nat} {vx : Value}

def End2 (h₀ : Heap) (L I1 I0 C D : Addr) (m : Str → Option Value) (oI1 o0 oC : Obj) (ys : List Value) (J : List Value → List (Addr × Obj) → Prop) (s : Shared) (yv : Value) (s' : Shared) : Prop :=
  ∃ h' tk' news', s' = { s with heap := h', toks := tk' } ∧ Fr h₀ L h' m ∧ News h₀ L h' ((I1, oI1) :: (I0, o0) :: (C, oC) :: (D, LCg.lst ys) :: news') ∧ OffL [I1, I0, C, D] news' ∧ J (ys ++ [yv]) news'

theorem inner_range (J : Nat → List Value → List (Addr × Obj) → Prop) (hh : A.handled = none) (hkind : scope.kind = .function) (hy : scope.names.lookup y = some .local) (hxy : x ≠ y)
    (hIL : L ≠ I1) (h10 : I1 ≠ I0) (h1C : I1 ≠ C) (h1D : I1 ≠ D) (h0C : I0 ≠ C) (h0D : I0 ≠ D) (hCD : C ≠ D) (hI0 : h₀.get? I1 = none)
    {oC : Obj} {m₁ : Str → Option Value} {ys₀ : List Value} {news : List (Addr × Obj)} (hst : IsRangeIter s.heap I1 (a + ((0 : Nat) : Int) * 1) ((n : Int) - ((0 : Nat) : Int)) 1)
    (F : Fr h₀ L s.heap m) (hC : LCg.NsObj oC m₁) (hx : m₁ x = some vx) (N : News h₀ L s.heap ((I0, o0) :: (C, oC) :: (D, LCg.lst ys₀) :: news)) (off : OffL [I1, I0, C, D] news) (hJ : J 0 ys₀ news) (hlen : ys₀.length + n ≤ 10000)
    (turn : ∀ j t ys news oC m₂ oI1 h tk, j < n → J j ys news → LCg.NsObj oC m₂ → m₂ x = some vx → m₂ y = some (.int (a + ((j : Nat) : Int)) t) → Fr h₀ L h m → News h₀ L h ((I1, oI1) :: (I0, o0) :: (C, oC) :: (D, LCg.lst ys) :: news) → OffL [I1, I0, C, D] news →
      wpAny (model prog w) A (eval elt (compEnvC scope cl C env)) (End2 h₀ L I1 I0 C D m oI1 o0 oC ys (J (j + 1)) s) NoE { s with heap := h, toks := tk })
    (done : ∀ ys news oC m₂ h tk, J n ys news → ys.length ≤ ys₀.length + n → LCg.NsObj oC m₂ → Fr h₀ L h m → News h₀ L h ((I0, o0) :: (C, oC) :: (D, LCg.lst ys) :: news) → OffL [I0, C, D] news → R (.ok .next) { s with heap := h, toks := tk }) :
    codeAny (model prog w) A (.compLoop (lc2 elt x y px py it0 it1 scope pos) 1 (.ref I1) (.ref D) (compEnvC scope cl C env)) R s := by
  have W : Walks prog w A I1 [I1] [I1] n (fun i v => ∃ t, v = .int (a + (i : Int)) t) (fun i h => IsRangeIter h I1 (a + (i : Nat) * 1) ((n : Int) - (i : Nat)) 1) := LCg.range_walks hh a n
  have hCL : C ≠ L := (N (C, oC) (.tail _ (.head _))).2.1
  have hC₀ : h₀.get? C = none := (N (C, oC) (.tail _ (.head _))).2.2
  have hDL : D ≠ L := (N (D, LCg.lst ys₀) (.tail _ (.tail _ (.head _)))).2.1
  have hD₀ : h₀.get? D = none := (N (D, LCg.lst ys₀) (.tail _ (.tail _ (.head _)))).2.2
  have h0L : I0 ≠ L := (N (I0, o0) (.head _)).2.1
  have h0₀ : h₀.get? I0 = none := (N (I0, o0) (.head _)).2.2
  refine loop_inner (fun k s' => ∃ h' tk j ys oC m₂ news, s' = { s with heap := h', toks := tk } ∧ j ≤ n ∧ k = n + 1 - j ∧ ys.length ≤ ys₀.length + j ∧ IsRangeIter h' I1 (a + ((j : Nat) : Int) * 1) ((n : Int) - ((j : Nat) : Int)) 1 ∧ Fr h₀ L h' m ∧ LCg.NsObj oC m₂ ∧ m₂ x = some vx ∧
      News h₀ L h' ((I0, o0) :: (C, oC) :: (D, LCg.lst ys) :: news) ∧ OffL [I1, I0, C, D] news ∧ J j ys news) ?_ (n + 1) ⟨s.heap, s.toks, 0, ys₀, oC, m₁, news, rfl, Nat.zero_le _, rfl, Nat.le_refl _, hst, F, hC, hx, N, off, hJ⟩
  rintro k s' ⟨h', tk, j, ys, oC', m₂, news', rfl, hj, rfl, hyl, hst', F', hC', hx', N', off', hJ'⟩
  by_cases hlt : j < n
  · refine W.item j _ _ _ hlt hst' fun v h₂ tk₂ hPv hst₂ hk₂ => ?_
    obtain ⟨t, rfl⟩ := hPv
    have hCn : h₂.Ns C m₂ := hC'.ns (hk₂ C _ (by simpa using Ne.symm h1C) (N' (C, oC') (.tail _ (.head _))).1)
    refine wpAny_assign_Name (wpAny_storeName_local (lookup_relabel_local hy) hCn (fun h₃ hn₃ hs₃ => ?_) (by simp [compEnvC, relabel, hkind]))
    have hst₃ : IsRangeIter h₃ I1 (a + ((j + 1 : Nat) : Int) * 1) ((n : Int) - ((j + 1 : Nat) : Int)) 1 := (hs₃.2 I1 h1C).trans hst₂
    obtain ⟨oC3, heC, hoC⟩ := LCg.ns_obj hn₃
    have F₃ : Fr h₀ L h₃ m := (LCg.fr_but F' hk₂ hIL hI0).change hs₃ hCL hC₀
    have offI : ∀ p ∈ ((I0, o0) :: (C, oC') :: (D, LCg.lst ys) :: news'), p.1 ≠ I1 := fun p hp => by
      rcases List.mem_cons.mp hp with rfl | hp
      · exact Ne.symm h10
      · rcases List.mem_cons.mp hp with rfl | hp
        · exact Ne.symm h1C
        · rcases List.mem_cons.mp hp with rfl | hp
          · exact Ne.symm h1D
          · exact off'.ne (.head _) p hp
    have N₂ := LCg.news_but N' hk₂ offI
    have N₃ : News h₀ L h₃ ((I1, _) :: (I0, o0) :: (C, oC3) :: (D, LCg.lst ys) :: news') := fun p hp => by
      rcases List.mem_cons.mp hp with rfl | hp
      · exact ⟨hst₃, Ne.symm hIL, hI0⟩
      · rcases List.mem_cons.mp hp with rfl | hp
        · exact ⟨(hs₃.2 I0 h0C).trans (N₂ (I0, o0) (.head _)).1, h0L, h0₀⟩
        · rcases List.mem_cons.mp hp with rfl | hp
          · exact ⟨heC, hCL, hC₀⟩
          · rcases List.mem_cons.mp hp with rfl | hp
            · exact ⟨(hs₃.2 D (Ne.symm hCD)).trans (N₂ (D, LCg.lst ys) (.tail _ (.tail _ (.head _)))).1, hDL, hD₀⟩
            · have z := N₂ p (.tail _ (.tail _ (.tail _ hp)))
              exact ⟨(hs₃.2 p.1 (off'.ne (.tail _ (.tail _ (.head _))) p hp)).trans z.1, z.2⟩
    refine wpAny_mono (turn j t ys news' oC3 _ _ h₃ _ hlt hJ' hoC (by simp [hxy, hx']) (by simp) F₃ N₃ off') (fun yv s₄ h₄ => ?_) fun _ _ e => e
    obtain ⟨h₄, tk₄, news₄, rfl, F₄, N₄, off₄, J₄⟩ := h₄
    have z1 := (N₄ _ (.head _)).1
    have z0 := (N₄ _ (.tail _ (.head _))).1
    have zC := (N₄ _ (.tail _ (.tail _ (.head _)))).1
    have zD := (N₄ _ (.tail _ (.tail _ (.tail _ (.head _))))).1
    refine append_at (hsz := by show ys.toArray.size ≤ sizeLine; rw [List.size_toArray, sizeLine_eq]; omega) zD fun h₅ hs₅ hD₅ => ?_
    refine ⟨n + 1 - (j + 1), by omega, h₅, tk₄, j + 1, ys ++ [yv], oC3, _, news₄, rfl, hlt, rfl, by rw [List.length_append, List.length_singleton]; omega, (hs₅.2 I1 h1D).trans z1, F₄.change hs₅ hDL hD₀, hoC, (by simp [hxy, hx']), fun p hp => ?_, off₄, J₄⟩
    rcases List.mem_cons.mp hp with rfl | hp
    · exact ⟨(hs₅.2 I0 h0D).trans z0, h0L, h0₀⟩
    · rcases List.mem_cons.mp hp with rfl | hp
      · exact ⟨(hs₅.2 C hCD).trans zC, hCL, hC₀⟩
      · rcases List.mem_cons.mp hp with rfl | hp
        · exact ⟨hD₅.trans (congrArg some (LCg.lst_snoc ys yv)), hDL, hD₀⟩
        · have z := N₄ p (.tail _ (.tail _ (.tail _ (.tail _ hp))))
          exact ⟨(hs₅.2 p.1 (off₄.ne (.tail _ (.tail _ (.tail _ (.head _)))) p hp)).trans z.1, z.2⟩
  · obtain rfl : j = n := Nat.le_antisymm hj (Nat.not_lt.mp hlt)
    refine W.done _ _ _ hst' fun h₂ tk₂ hk₂ => ?_
    have offI : ∀ p ∈ ((I0, o0) :: (C, oC') :: (D, LCg.lst ys) :: news'), p.1 ≠ I1 := fun p hp => by
      rcases List.mem_cons.mp hp with rfl | hp
      · exact Ne.symm h10
      · rcases List.mem_cons.mp hp with rfl | hp
        · exact Ne.symm h1C
        · rcases List.mem_cons.mp hp with rfl | hp
          · exact Ne.symm h1D
          · exact off'.ne (.head _) p hp
    exact done ys news' oC' m₂ h₂ tk₂ hJ' hyl hC' (LCg.fr_but F' hk₂ hIL hI0) (LCg.news_but N' hk₂ offI) fun p hp hb => off' p hp (.tail _ hb)

/-- where the inner iterable stands: a range, and what each inner turn does -/
def Mid2 (prog : Program) (w : World) (A : Around) (env : Env) (scope : Scope) (cl : List (Str × Addr)) (elt : Expr) (x y : Str) (h₀ : Heap) (L I0 C D : Addr) (m : Str → Option Value) (o0 oC : Obj) (ys : List Value) (news : List (Addr × Obj)) (vx : Value) (K : List Value → List (Addr × Obj) → Prop) (s : Shared) (xv : Value) (s₃ : Shared) : Prop :=
  ∃ (r : Addr) (n : Nat) (t u v : Tok) (h' : Heap) (tk' : Nat) (J : Nat → List Value → List (Addr × Obj) → Prop), xv = .ref r ∧ s₃ = { s with heap := h', toks := tk' } ∧ Fr h₀ L h' m ∧ News h₀ L h' ((I0, o0) :: (C, oC) :: (D, LCg.lst ys) :: news) ∧ IsRange h' r 0 ((n : Nat) : Int) 1 t u v ∧ n ≤ 20 ∧ J 0 ys news ∧ (∀ ys news, J n ys news → K ys news) ∧
    ∀ I1, I1 ≠ I0 → I1 ≠ C → I1 ≠ D → ∀ j t ys news oC m₂ oI1 h tk, j < n → J j ys news → LCg.NsObj oC m₂ → m₂ x = some vx → m₂ y = some (.int ((j : Nat) : Int) t) → Fr h₀ L h m → News h₀ L h ((I1, oI1) :: (I0, o0) :: (C, oC) :: (D, LCg.lst ys) :: news) → OffL [I1, I0, C, D] news →
      wpAny (model prog w) A (eval elt (compEnvC scope cl C env)) (End2 h₀ L I1 I0 C D m oI1 o0 oC ys (J (j + 1)) s) NoE { s with heap := h, toks := tk }

theorem outer_list {ax : Addr} {its : Array Value} (J : Nat → List Value → List (Addr × Obj) → Prop) (hh : A.handled = none) (hkind : scope.kind = .function) (hxl : scope.names.lookup x = some .local) (hy : scope.names.lookup y = some .local) (hxy : x ≠ y)
    (hIL : L ≠ I0) (h0C : I0 ≠ C) (h0D : I0 ≠ D) (hCD : C ≠ D) (hax : ax ≠ I0) (hI0 : h₀.get? I0 = none) (hS : ∀ i ys news, J i ys news → LCg.SrcAt h₀ ax its news)
    {oC : Obj} {m₁ : Str → Option Value} {ys₀ : List Value} {news : List (Addr × Obj)} (hst : s.heap.IsListIter I0 ax 0)
    (F : Fr h₀ L s.heap m) (hC : LCg.NsObj oC m₁) (N : News h₀ L s.heap ((C, oC) :: (D, LCg.lst ys₀) :: news)) (off : OffL [I0, C, D] news) (hJ : J 0 ys₀ news) (hlen : ys₀.length + 20 * its.size ≤ 9000)
    (turn : ∀ i v ys news oC m₂ oI0 h tk, its[i]? = some v → J i ys news → LCg.NsObj oC m₂ → m₂ x = some v → Fr h₀ L h m → News h₀ L h ((I0, oI0) :: (C, oC) :: (D, LCg.lst ys) :: news) → OffL [I0, C, D] news →
      wpAny (model prog w) A (eval it1 (compEnvC scope cl C env)) (Mid2 prog w A env scope cl elt x y h₀ L I0 C D m oI0 oC ys news v (J (i + 1)) s) NoE { s with heap := h, toks := tk })
    (done : ∀ ys news oC m₂ h tk, J its.size ys news → LCg.NsObj oC m₂ → Fr h₀ L h m → News h₀ L h ((C, oC) :: (D, LCg.lst ys) :: news) → OffL [C, D] news → R (.ok .next) { s with heap := h, toks := tk })
    (hs : ∀ x, foldedSetIterable it1 (compEnvC scope cl C env) x = pure x) :
    codeAny (model prog w) A (.compLoop (lc2 elt x y px py it0 it1 scope pos) 0 (.ref I0) (.ref D) (compEnvC scope cl C env)) R s := by
  have W : Walks prog w A I0 [I0, ax] [I0] its.size (fun i v => its[i]? = some v) (fun i h => h.IsListIter I0 ax i ∧ h.IsList ax its) := Walks.list hh I0 ax hax its
  have hCL : C ≠ L := (N (C, oC) (.head _)).2.1
  have hC₀ : h₀.get? C = none := (N (C, oC) (.head _)).2.2
  have hDL : D ≠ L := (N (D, LCg.lst ys₀) (.tail _ (.head _))).2.1
  have hD₀ : h₀.get? D = none := (N (D, LCg.lst ys₀) (.tail _ (.head _))).2.2
  refine loop_outer (fun k s' => ∃ h' tk i ys oC m₂ news, s' = { s with heap := h', toks := tk } ∧ i ≤ its.size ∧ k = its.size + 1 - i ∧ ys.length ≤ ys₀.length + 20 * i ∧ h'.IsListIter I0 ax i ∧ Fr h₀ L h' m ∧ LCg.NsObj oC m₂ ∧
      News h₀ L h' ((C, oC) :: (D, LCg.lst ys) :: news) ∧ OffL [I0, C, D] news ∧ J i ys news) ?_ (its.size + 1) ⟨s.heap, s.toks, 0, ys₀, oC, m₁, news, rfl, Nat.zero_le _, rfl, Nat.le_refl _, hst, F, hC, N, off, hJ⟩ hs
  rintro k s' ⟨h', tk, i, ys, oC', m₂, news', rfl, hi, rfl, hyl, hst', F', hC', N', off', hJ'⟩
  have hnews : News h₀ L h' news' := fun p hp => N' p (.tail _ (.tail _ hp))
  have hax' : h'.IsList ax its := (hS _ _ _ hJ').list F'.keep hnews
  have offI : ∀ p ∈ ((C, oC') :: (D, LCg.lst ys) :: news'), p.1 ≠ I0 := fun p hp => by
    rcases List.mem_cons.mp hp with rfl | hp
    · exact Ne.symm h0C
    · rcases List.mem_cons.mp hp with rfl | hp
      · exact Ne.symm h0D
      · exact off'.ne (.head _) p hp
  by_cases hlt : i < its.size
  · refine W.item i _ _ _ hlt ⟨hst', hax'⟩ fun v h₂ tk₂ hPv hst₂ hk₂ => ?_
    have hCn : h₂.Ns C m₂ := hC'.ns (hk₂ C _ (by simpa using Ne.symm h0C) (N' (C, oC') (.head _)).1)
    refine wpAny_assign_Name (wpAny_storeName_local (lookup_relabel_local hxl) hCn (fun h₃ hn₃ hs₃ => ?_) (by simp [compEnvC, relabel, hkind]))
    obtain ⟨oC3, heC, hoC⟩ := LCg.ns_obj hn₃
    obtain ⟨oI, heI, hrI⟩ := hst₂.1
    have F₃ : Fr h₀ L h₃ m := (LCg.fr_but F' hk₂ hIL hI0).change hs₃ hCL hC₀
    have N₂ := LCg.news_but N' hk₂ offI
    have N₃ : News h₀ L h₃ ((I0, oI) :: (C, oC3) :: (D, LCg.lst ys) :: news') := fun p hp => by
      rcases List.mem_cons.mp hp with rfl | hp
      · exact ⟨(hs₃.2 I0 h0C).trans heI, Ne.symm hIL, hI0⟩
      · rcases List.mem_cons.mp hp with rfl | hp
        · exact ⟨heC, hCL, hC₀⟩
        · rcases List.mem_cons.mp hp with rfl | hp
          · exact ⟨(hs₃.2 D (Ne.symm hCD)).trans (N₂ (D, LCg.lst ys) (.tail _ (.head _))).1, hDL, hD₀⟩
          · have z := N₂ p (.tail _ (.tail _ hp))
            exact ⟨(hs₃.2 p.1 (off'.ne (.tail _ (.head _)) p hp)).trans z.1, z.2⟩
    refine wpAny_mono (turn i v ys news' oC3 _ oI h₃ _ hPv hJ' hoC (by simp) F₃ N₃ off') (fun xv s₄ h₄ => ?_) fun _ _ e => e
    obtain ⟨r, n, t, u, v', h₄, tk₄, J1, rfl, rfl, F₄, N₄, hr, hn, hJ1, hJK, ht⟩ := h₄
    refine wpAny_pyIter_range hr (small_one (by omega) (by omega) (by omega) (by omega)) ?_
    have hrs : Builtin.Range.rangeSize 0 (n : Int) 1 = (n : Int) := by rw [rangeSize_nat]; omega
    have up : ∀ q o, h₄.get? q = some o → (h₄.push { cls := .type "range_iterator", data := .fields #[rawInt 0, rawInt (Builtin.Range.rangeSize 0 (n : Int) 1), rawInt 1] }).get? q = some o := fun q o e => Heap.get?_push_of_some _ e
    have hlt4 : ∀ p ∈ ((I0, oI) :: (C, oC3) :: (D, LCg.lst ys) :: news'), p.1 ≠ h₄.objs.size := fun p hp => Nat.ne_of_lt (Heap.lt_size (N₄ p hp).1)
    have d0 := Ne.symm (hlt4 (I0, oI) (.head _))
    have dC := Ne.symm (hlt4 (C, oC3) (.tail _ (.head _)))
    have dD := Ne.symm (hlt4 (D, LCg.lst ys) (.tail _ (.tail _ (.head _))))
    have key : codeAny (model prog w) A (.compLoop (lc2 elt x y px py it0 it1 scope pos) 1 (.ref h₄.objs.size) (.ref D) (compEnvC scope cl C env))
        (OkThen fun s₅ => ∃ m₁, m₁ < its.size + 1 - i ∧ ∃ h' tk i ys oC m₂ news, s₅ = { s with heap := h', toks := tk } ∧ i ≤ its.size ∧ m₁ = its.size + 1 - i ∧ ys.length ≤ ys₀.length + 20 * i ∧ h'.IsListIter I0 ax i ∧ Fr h₀ L h' m ∧ LCg.NsObj oC m₂ ∧
          News h₀ L h' ((C, oC) :: (D, LCg.lst ys) :: news) ∧ OffL [I0, C, D] news ∧ J i ys news)
        { s with heap := h₄.push { cls := .type "range_iterator", data := .fields #[rawInt 0, rawInt (Builtin.Range.rangeSize 0 (n : Int) 1), rawInt 1] }, toks := tk₄ } := by
      refine inner_range (vx := v) (o0 := oI) (oC := oC3) (ys₀ := ys) (news := news') (n := n) (a := 0) (m₁ := fun z => if z = x then some v else m₂ z) J1 hh hkind hy hxy (Nat.ne_of_lt F₄.ns.lt) d0 dC dD h0C h0D hCD (next_is_new F₄) ?_
        (F₄.keeps up) hoC (by simp) (N₄.grown up) ?_ hJ1 (by omega) ?_ ?_
      · show IsRangeIter _ _ _ _ _
        rw [hrs]
        simpa using Heap.get?_push_size _ rfl
      · intro p hp hb
        rcases List.mem_cons.mp hb with e | hb
        · exact hlt4 p (.tail _ (.tail _ (.tail _ hp))) e
        · exact off' p hp hb
      · intro j t ys news oC m₂ oI1 h tk hj hJ hC hx hy F N off
        exact ht h₄.objs.size d0 dC dD j t ys news oC m₂ oI1 h tk hj hJ hC hx (by rw [hy, Int.zero_add]) F N off
      · intro ys5 news5 oC5 m5 h5 tk5 hJ5 hl5 hC5 F5 N5 off5
        refine ⟨its.size + 1 - (i + 1), by omega, h5, tk5, i + 1, ys5, oC5, m5, news5, rfl, hlt, rfl, by omega, ?_, F5, hC5, fun p hp => N5 p (.tail _ hp), off5, hJK _ _ hJ5⟩
        exact ⟨oI, (N5 (I0, oI) (.head _)).1, hrI⟩
    exact start_inner key (wpAny_pyIter_rangeiter (by show IsRangeIter _ _ _ _ _; exact Heap.get?_push_size _ rfl) key)
  · obtain rfl : i = its.size := Nat.le_antisymm hi (Nat.not_lt.mp hlt)
    refine W.done _ _ _ ⟨hst', hax'⟩ fun h₂ tk₂ hk₂ => ?_
    exact done ys news' oC' m₂ h₂ tk₂ hJ' hC' (LCg.fr_but F' hk₂ hIL hI0) (LCg.news_but N' hk₂ offI) fun p hp hb => off' p hp (.tail _ hb)

/-- where the outer iterable stands -/
def Src2 (prog : Program) (w : World) (A : Around) (env : Env) (scope : Scope) (cl : List (Str × Addr)) (elt it1 : Expr) (x y z : Str) (h₀ : Heap) (L : Addr) (m : Str → Option Value) (ax : Addr) (its : Array Value) (J : Nat → List Value → List (Addr × Obj) → Prop) (Q : Flow → Shared → Prop) (xv : Value) (s₁ : Shared) : Prop :=
  ∃ news, xv = .ref ax ∧ Fr h₀ L s₁.heap m ∧ News h₀ L s₁.heap news ∧ (∀ i ys news, J i ys news → LCg.SrcAt h₀ ax its news) ∧ J 0 [] news ∧ 20 * its.size ≤ 9000 ∧
      (∀ I0 C D, I0 ≠ C → I0 ≠ D → C ≠ D → ∀ i v ys news oC m₂ oI0 h tk, its[i]? = some v → J i ys news → LCg.NsObj oC m₂ → m₂ x = some v → Fr h₀ L h m → News h₀ L h ((I0, oI0) :: (C, oC) :: (D, LCg.lst ys) :: news) → OffL [I0, C, D] news →
        wpAny (model prog w) A (eval it1 (compEnvC scope cl C env)) (Mid2 prog w A env scope cl elt x y h₀ L I0 C D m oI0 oC ys news v (J (i + 1)) s₁) NoE { s₁ with heap := h, toks := tk }) ∧
      (∀ D ys news h tk, J its.size ys news → Fr h₀ L h (fun q => if q = z then some (.ref D) else m q) → News h₀ L h ((D, LCg.lst ys) :: news) → LCg.Off1 D news → Q .next { s₁ with heap := h, toks := tk })
/-- the rows of a list of lists -/
theorem Assign_at2 {ax : Addr} {its : Array Value} {z : Str} {pz spos : Pos} {Q : Flow → Shared → Prop} {E : Value → Shared → Prop} (_F₀ : Fr h₀ L s.heap m) (J : Nat → List Value → List (Addr × Obj) → Prop) (hh : A.handled = none)
    (hsw : swapsWith (lc2 elt x y px py it0 it1 scope pos) (some (.Name z pz)) spos.line env = pure true) (hclos : closureFor scope env = pure cl) (hcell : ∀ z ∈ scope.names, z.2 ≠ .cell) (hkind : scope.kind = .function)
    (hnames : ∀ z ∈ scope.names, z.2 = .local → scope.names.lookup z.1 = some .local) (hxl : scope.names.lookup x = some .local) (hy : scope.names.lookup y = some .local) (hxy : x ≠ y)
    (hz : env.kindOf z = some .local) (hp : (env.scope.kind == .class || (env.scope.kind == .module && env.locals != env.globals)) = false) (hLe : env.locals = L)
    (h : wpAny (model prog w) A (eval it0 env) (Src2 prog w A env scope cl elt it1 x y z h₀ L m ax its J Q) NoE s)
    (hs0 : ∀ x, foldedSetIterable it0 env x = pure x) (hs1 : ∀ C x, foldedSetIterable it1 (compEnvC scope cl C env) x = pure x) :
    wpAny (model prog w) A (exec (.Assign [.Name z pz] (lc2 elt x y px py it0 it1 scope pos) spos) env) Q E s := by
  subst hLe
  rw [exec_Assign_Name_used _ _ _ _ hsw]
  refine wpAny_bind (wpAny_standAt (wpAny_bind ?_))
  show wpAny _ A (do let _ ← comprehension (lc2 elt x y px py it0 it1 scope pos) scope env _ (newList []) false (eval it0 env) (some (assign (.Name z pz) env))) _ _ s
  refine wpAny_bind (wpAny_mono (wpAny_comprehension_free (use := some (assign (.Name z pz) env)) (Q := fun _ s' => Q .next s') (E := NoE) rfl hs0 hclos hkind hnames
    (wpAny_mono h (fun xv s₁ h₁ => ?_) fun _ _ e => e)) (fun _ s' hq => wpAny_pure (wpAny_pure hq)) fun _ _ e => e.elim)
  obtain ⟨news, rfl, F, N, hS, hJ, hlen, turn, done⟩ := h₁
  have hl := (hS _ _ _ hJ).list F.keep N
  have hlt : ax < s₁.heap.objs.size := by obtain ⟨_, e, _⟩ := hl; exact Heap.lt_size e
  refine wpAny_pyIter_list hl ?_
  refine wpAny_newObj_type (wpAny_newFunctionEnv hcell (by intro y hy; simp at hy) (fun h₁ hns₁ hsb₁ => ?_) hkind)
  dsimp only at hns₁ hsb₁ ⊢
  generalize hH1 : s₁.heap.push { cls := .type "list_iterator", data := .fields #[.ref ax, .int 0 0] } = H1 at hns₁ hsb₁ ⊢
  generalize hH2 : H1.push { cls := .type "list", dict := none, data := .seq ([] : List Value).toArray } = H2 at hns₁ hsb₁ ⊢
  have hD : H1.objs.size = s₁.heap.objs.size + 1 := by rw [← hH1, Heap.size_push]
  have hC : H2.objs.size = s₁.heap.objs.size + 2 := by rw [← hH2, Heap.size_push, hD]
  have old : ∀ b o, s₁.heap.get? b = some o → h₁.get? b = some o := fun b o e => hsb₁.extBut b o (by have := ltN (Heap.lt_size e); rw [hC]; exact Nat.ne_of_lt (by omega)) (Heap.get?_push_of_some _ (hH2 ▸ Heap.get?_push_of_some _ (hH1 ▸ Heap.get?_push_of_some _ e)))
  have eI : h₁.get? s₁.heap.objs.size = some { cls := .type "list_iterator", data := .fields #[.ref ax, .int 0 0] } := hsb₁.extBut _ _ (by rw [hC]; exact Nat.ne_of_lt (by omega)) (Heap.get?_push_of_some _ (hH2 ▸ Heap.get?_push_of_some _ (hH1 ▸ Heap.get?_push_size _ rfl)))
  have eD : h₁.get? H1.objs.size = some (LCg.lst []) := hsb₁.extBut _ _ (by rw [hC, hD]; exact Nat.ne_of_lt (by omega)) (Heap.get?_push_of_some _ (hH2 ▸ Heap.get?_push_size _ rfl))
  obtain ⟨oC, heC, hoC⟩ := LCg.ns_obj hns₁
  have fresh₀ : ∀ a, s₁.heap.objs.size ≤ a → h₀.get? a = none := fun a ha => by
    cases e : h₀.get? a with
    | none => rfl
    | some o' => exact absurd (Heap.lt_size (F.keep a o' e)) (Nat.not_lt.mpr ha)
  have hLlt := ltN F.ns.lt
  have key : ∀ s₃ : Shared, s₃ = { s₁ with heap := h₁, toks := s₁.toks + ([] : List (Str × Value)).length } →
      codeAny (model prog w) A (.compLoop (lc2 elt x y px py it0 it1 scope pos) 0 (.ref s₁.heap.objs.size) (.ref H1.objs.size) (compEnvC scope cl H2.objs.size env))
        (compPost (model prog w) A NoE (some (assign (.Name z pz) env)) (fun _ s' => Q .next s') (.ref H1.objs.size) H2.objs.size) s₃ := by
    rintro s₃ rfl
    have n01 : s₁.heap.objs.size ≠ H2.objs.size := by rw [hC]; exact Nat.ne_of_lt (by omega)
    have n02 : s₁.heap.objs.size ≠ H1.objs.size := by rw [hD]; exact Nat.ne_of_lt (by omega)
    have n12 : H2.objs.size ≠ H1.objs.size := by rw [hC, hD]; exact Nat.ne_of_gt (by omega)
    refine outer_list (h₀ := h₀) (L := env.locals) (m := m) (oC := oC) (ys₀ := []) (news := news) (ax := ax) (its := its) J hh hkind hxl hy hxy (Nat.ne_of_lt hLlt) n01 n02 n12 (Nat.ne_of_lt hlt) (fresh₀ _ (Nat.le_refl _)) hS ⟨_, eI, rfl, rfl⟩ (F.keeps old) hoC (fun p hp => ?_) (fun p hp hb => ?_) hJ (by simpa using hlen)
      (fun i v ys news oC m₂ oI0 h tk => turn _ _ _ n01 n02 n12 i v ys news oC m₂ oI0 h tk) (fun ys news' oC' m₂ h' tk hJ' hC' F' N' off' => ?_) (hs1 _)
    · rcases List.mem_cons.mp hp with rfl | hp
      · exact ⟨heC, by rw [hC]; exact Nat.ne_of_gt (by omega), fresh₀ _ (by rw [hC]; omega)⟩
      · rcases List.mem_cons.mp hp with rfl | hp
        · exact ⟨eD, by rw [hD]; exact Nat.ne_of_gt (by omega), fresh₀ _ (by rw [hD]; omega)⟩
        · exact ⟨old _ _ (N p hp).1, (N p hp).2⟩
    · have l := ltN (Heap.lt_size (N p hp).1)
      simp only [List.mem_cons, List.not_mem_nil, or_false] at hb
      rcases hb with e | e | e <;> rw [e] at l <;> omega
    · have nC := N' (H2.objs.size, oC') (.head _)
      have nD := N' (H1.objs.size, LCg.lst ys) (.tail _ (.head _))
      show wpAny _ A (assign (.Name z pz) env (.ref H1.objs.size)) _ _ _
      refine wpAny_assign_Name (wpAny_storeName_local hz F'.ns (fun h₂ hn₂ hs₂ => ?_) hp)
      have hL₀ : h₀.get? env.locals = none := Heap.get?_none_of_le F'.above
      have F₂ : Fr h₀ env.locals h₂ (fun q => if q = z then some (.ref H1.objs.size) else m q) := ⟨hn₂, fun b o e => hs₂.extBut b o (fun q => by rw [q, hL₀] at e; cases e) (F'.keep b o e), F'.above⟩
      refine ⟨m₂, (hC'.ns nC.1).sameBut hs₂ nC.2.1, fun h'' hs'' => done _ ys news' h'' _ hJ' (F₂.change hs'' nC.2.1 nC.2.2) (fun p hp => ?_) (off1_of fun p hp e => off' p hp (e ▸ .tail _ (.head _)))⟩
      have hp' : p ∈ ((H2.objs.size, oC') :: (H1.objs.size, LCg.lst ys) :: news') := .tail _ hp
      refine ⟨(hs''.2 p.1 ?_).trans ((hs₂.2 p.1 (N' p hp').2.1).trans (N' p hp').1), (N' p hp').2⟩
      rcases List.mem_cons.mp hp with rfl | hp
      · exact Ne.symm n12
      · exact fun e => off' p hp (e ▸ .head _)
  exact codeAny_compStart_list (key _ rfl) (wpAny_pyIter_listiter ⟨_, eI, rfl, rfl⟩ (key _ rfl))
end
end Mine
theorem Mine.anew18 {prog : Program} {w : World} {A : Around} {s : Shared} : wpAny (model prog w) A (truthy (.bool true)) (fun _ _ => True) (fun _ _ => False) s := by
  w_top off
  walk1
  trivial
namespace Mine

/-- how many of the four flags a set has -/
def popc (k : Nat) : Nat := k % 2 + k / 2 % 2 + k / 4 % 2 + k / 8 % 2
def cntI (mask : Int) : Int := (List.map (fun k' => Builtin.bitAnd (mask.fdiv (2 ^ k'.toNat)) 1) (rangeKs 0 (4 - 0 : Int).toNat)).sum
theorem cntI_is : ∀ k, k < 16 → cntI ((k : Nat) : Int) = ((popc k : Nat) : Int) := by decide +kernel

theorem count_spec {prog : Program} {w : World} {A : Around} {s : Shared} {Q E : Value → Shared → Prop} {p : Program} {loose : List Str} {mean : ExcName → Option Value} {mg mb : Str → Option Value}
    (X : (hd.heap_39 w.params).In s.heap) (T : Top p loose mean mg mb s.heap) (ok : Ok A AL) {k : Nat} {t : Tok} (hk : k < 16)
    (h : ∀ t' h' tk', Up s.heap h' → Q (.int ((popc k : Nat) : Int) t') { s with heap := h', toks := tk' }) :
    wpAny (model prog w) A (call (.ref 64) [.int ((k : Nat) : Int) t]) Q E s := by
  have hk2 := cntI_is k hk
  have h0 : (0 : Int) ≤ (k : Int) := by omega
  have h1 : (k : Int) < 16 := by omega
  generalize (k : Int) = mask at hk2 h0 h1 ⊢
  rw [← hk2] at h
  clear hk2
  refine ok.by ?_
  refine enterC X T (by k_is) (by k_is) (by decide) (BindsTo.of_eq rfl) rfl (by decide +kernel) rfl rfl rfl ?_
  intro L h₁ tk cells F N Y
  k_cells Y
  show wpAny _ _ _ _ _ _
  k_fold
  k_steps
  rename Fr _ _ _ _ => F9
  exact h _ _ _ F9.keep
end Mine
theorem Mine.anew20 {prog : Program} {w : World} {A : Around} {s : Shared} : wpAny (model prog w) A (truthy (.bool true)) (fun _ _ => True) (fun _ _ => False) s := by
  w_top off
  walk1
  trivial
namespace Mine
local macro_rules | `(tactic| walk_at "exec For Name Name cons nil") => `(tactic| (k_dflt (refine For_at ?_)))

/-- what the matcher's loop says -/
def scan (got : Str) : Nat → List Str → Bool
  | _, [] => true
  | p, w :: ws => match Builtin.Str.occurrences got w p got.length 1 with
    | [] => false
    | k :: _ => scan got (k + w.length) ws
def fnd (got w : Str) (p : Nat) : Int := match Builtin.Str.occurrences got w p got.length 1 with | k :: _ => (k : Int) | [] => -1
theorem fromIndex_nat (n p : Nat) : fromIndex n (p : Int) = p := by
  unfold fromIndex
  rw [if_neg (by omega)]
  omega
theorem gives_find4 (x y : Str) (p : Nat) (t u v z : Tok) : Gives (Builtin.«str.find» ⟨[.str x t, .str y u, .int (p : Int) v, .int (x.length : Int) z], []⟩) (.int (fnd x y p)) := by
  unfold fnd
  have key : Gives (match Builtin.Str.occurrences x y (fromIndex x.length (p : Int)) (min (fromIndex x.length (x.length : Int)) x.length) 1 with | k :: _ => retInt k | [] => (do rule "str.find.not-found"; retInt (-1))) (.int (match Builtin.Str.occurrences x y p x.length 1 with | k :: _ => (k : Int) | [] => -1)) := by
    rw [fromIndex_nat, fromIndex_nat, Nat.min_self]
    cases Builtin.Str.occurrences x y p x.length 1 with
    | nil => exact .rule (.of_eq rfl)
    | cons k _ => exact .of_eq rfl
  exact key
theorem find4 {prog : Program} {w : World} {A : Around} {s : Shared} {Q E : Value → Shared → Prop} {x y : Str} {p : Nat} {t u v z : Tok} (hq : Q (.int (fnd x y p) s.toks) { s with toks := s.toks + 1 }) :
    wpAny (model prog w) A (call (.builtin "str.find") [.str x t, .str y u, .int (p : Int) v, .int (x.length : Int) z]) Q E s :=
  call_gives F.slot_str_find (typeIs_str _ _ _) F.entry_str_find (F.args_str_find_4 _ _ _ _) (gives_find4 x y p t u v z) hq
theorem map2 {m : Str → Option Value} {x y : Str} {v : Value} (hv : m y = some v) : m = fun z => if z = x then m x else if z = y then some v else m z := by
  funext z
  by_cases h1 : z = x
  · simp [h1]
  · by_cases h2 : z = y
    · subst h2; rw [if_neg h1, if_pos rfl, hv]
    · simp [h1, h2]
theorem fnd_neg {got a : Str} {p : Nat} (h : fnd got a p < 0) : Builtin.Str.occurrences got a p got.length 1 = [] := by
  unfold fnd at h
  split at h
  · omega
  · assumption
theorem fnd_pos {got a : Str} {p : Nat} (h : ¬ fnd got a p < 0) : ∃ k r, Builtin.Str.occurrences got a p got.length 1 = k :: r ∧ fnd got a p = (k : Int) := by
  unfold fnd at h ⊢
  split
  · rename_i k r e; exact ⟨k, r, e, rfl⟩
  · rename_i e; rw [e] at h; exact absurd (by decide) h
theorem scan_stop {got a : Str} {p i : Nat} {ws : List Str} (ha : ws[i]? = some a) (h : fnd got a p < 0) : scan got p (ws.drop i) = false := by
  rw [List.drop_eq_getElem?_toList_append, ha]
  simp [scan, fnd_neg h]
theorem scan_go {got a : Str} {p i : Nat} {ws : List Str} (ha : ws[i]? = some a) (h : ¬ fnd got a p < 0) : ∃ k : Nat, fnd got a p = (k : Int) ∧ scan got p (ws.drop i) = scan got (k + a.length) (ws.drop (i + 1)) := by
  obtain ⟨k, r, e, e2⟩ := fnd_pos h
  refine ⟨k, e2, ?_⟩
  rw [List.drop_eq_getElem?_toList_append, ha]
  simp [scan, e]
theorem strs_at {l : List (Str × Tok)} {i : Nat} {v : Value} (h : (strValues l).toArray[i]? = some v) : ∃ a t, v = .str a t ∧ (l.map (·.1))[i]? = some a := by
  simp only [strValues, List.getElem?_toArray, List.getElem?_map] at h ⊢
  cases q : l[i]? with
  | none => rw [q] at h; cases h
  | some p => rw [q] at h; cases h; exact ⟨p.1, p.2, rfl, rfl⟩

theorem ell_spec {prog : Program} {w : World} {A : Around} {s : Shared} {Q E : Value → Shared → Prop} {p : Program} {loose : List Str} {mean : ExcName → Option Value} {mg mb : Str → Option Value}
    (X : (hd.heap_39 w.params).In s.heap) (T : Top p loose mean mg mb s.heap) (ok : Ok A AL) {want got : Str} {t u : Tok} {mid : List Str}
    (hin : (Builtin.Str.occurrences want (Str.ofString "...") 0 want.length 1).isEmpty = false)
    (hsp : Txt.split want (Str.ofString "...") = Str.empty :: (mid ++ [Str.empty])) (hw : Hide (want.length ≤ 1000)) (hg : got.length ≤ 1000) (hm : ∀ x ∈ mid, x.length ≤ 1000) (hl : mid.length ≤ 100)
    (h : ∀ h' tk', Up s.heap h' → Q (.bool (scan got 0 (Str.empty :: (mid ++ [Str.empty])))) { s with heap := h', toks := tk' }) :
    wpAny (model prog w) A (call (.ref 47) [.str want t, .str got u]) Q E s := by
  refine ok.by ?_
  refine enterP X T (by k_is) (by k_is) (by decide) (BindsTo.of_eq rfl) (locs rfl) (by decide) rfl rfl rfl ?_
  intro L h₁ F N
  show wpAny _ _ _ _ _ _
  k_fold
  k_steps
  refine KSpl.split1 (by k_asm) (by k_asm) (by decide) ?_ (by rw [sizeLine_eq]; have := hw.out; omega)
  intro D' l' h' k' e' a' F' N' l1
  rw [hsp] at e'
  have hlen : l'.length = mid.length + 2 := by
    have := congrArg List.length e'
    simp at this
    omega
  have hE0 : Str.empty.length = 0 := rfl
  k_steps
  rename (List.map _ _)[_]? = some _ => hy
  rename List.map _ l' = _ => hlk
  rw [hlk] at hy
  obtain rfl := Option.some.inj hy
  k_steps
  generalize hgen : List.getD (List.map _ l') _ _ = z at *
  have hz : z = Str.empty := by
    rw [← hgen, hlk]
    have e1 : (-1 + ((Str.empty :: (mid ++ [Str.empty])).length : Int)).toNat = mid.length + 1 := by simp; omega
    rw [e1]
    simp
  subst hz
  k_steps
  refine ForAt.listM (its := (strValues l').toArray) (fun m news i m₁ news₁ => news₁ = news ∧ ∃ (p : Nat) (tp : Tok) (wv : Option Value), m₁ = (fun y => if y = Str.ofString "w" then wv else if y = Str.ofString "startpos" then some (.int (p : Int) tp) else m y) ∧
      scan got 0 (Str.empty :: (mid ++ [Str.empty])) = scan got p ((Str.empty :: (mid ++ [Str.empty])).drop i)) rfl (by k_asm) (by k_asm) ?_ ?_ ?_ ?_
  · rintro i m' news' ⟨rfl, -⟩
    exact .inr ⟨_, by k_mem, rfl, _, rfl⟩
  · exact ⟨rfl, 0, _, _, map2 rfl, rfl⟩
  · rintro I oI i v m₁ news₁ hh tk hv ⟨rfl, p, tp, wv, rfl, hsc⟩ F1 N1 off1
    obtain ⟨a, ta, rfl, ha⟩ := strs_at hv
    rw [hlk] at ha
    have ha1 : a.length ≤ 1000 := by
      have := List.mem_of_getElem? ha
      simp only [List.mem_cons, List.mem_append, List.not_mem_nil, or_false] at this
      rcases this with rfl | h1 | rfl
      · omega
      · exact hm _ h1
      · omega
    k_steps
    refine find4 ?_
    k_steps
    · rename fnd _ _ _ < 0 => hn
      rename Fr _ _ _ _ => F9
      rw [hsc, scan_stop ha hn] at h
      exact h _ _ F9.keep
    · rename ¬ (fnd _ _ _ < 0) => hn
      obtain ⟨k, hk, hsc2⟩ := scan_go ha hn
      refine ForEnd.go (by k_asm) (by k_asm) _ (fun _ h => h) off1 ⟨rfl, k + a.length, ?tk, some (.str a ta), ?eq, hsc.trans hsc2⟩
      case' eq =>
        funext y
        rw [hk]
        by_cases h1 : y = Str.ofString "w"
        · subst h1; rfl
        · by_cases h2 : y = Str.ofString "startpos"
          · subst h2; rfl
          · simp only [h1, h2, if_false]
  · rintro m' news' hh tk ⟨rfl, p, tp, wv, rfl, hsc⟩ F1 N1
    k_steps
    rename Fr _ _ _ _ => F9
    have e9 : scan got 0 (Str.empty :: (mid ++ [Str.empty])) = true := by
      rw [hsc, List.drop_of_length_le (by simp [strValues, hlen])]
      rfl
    rw [e9] at h
    exact h _ _ F9.keep
end Mine
theorem Mine.anew22 {prog : Program} {w : World} {A : Around} {s : Shared} : wpAny (model prog w) A (truthy (.bool true)) (fun _ _ => True) (fun _ _ => False) s := by
  w_top off
  walk1
  trivial
namespace Mine
section
local macro_rules | `(tactic| walk_at "eval ListComp") => `(tactic| (k_dflt (refine ListComp_at (F₀ := by k_asm) (by rfl) (by decide) (by rfl) (by decide) (by rfl) ?_)))

/-- a set's pattern, out of its words -/
def patS (ws : List Str) : Str := Str.ofString "..." ++ Txt.join (Str.ofString "") (ws.map (· ++ Str.ofString "..."))
theorem strs_snoc {ys : List Value} {ss : List Str} {i : Nat} {a : Str} {t : Tok} (f : Str → Str) (h : StrsAre ys ((ss.take i).map f)) (ha : ss[i]? = some a) : StrsAre (ys ++ [.str (f a) t]) ((ss.take (i + 1)).map f) := by
  rw [List.take_add_one, ha, Option.toList_some, List.map_append]
  exact h.append' (.cons _ _ .nil)
theorem sum_len (ws : List Str) : ((ws.map (· ++ Str.ofString "...")).map (·.length)).sum = (ws.map (·.length)).sum + 3 * ws.length := by
  induction ws with
  | nil => rfl
  | cons a r ih =>
    simp only [List.map_cons, List.sum_cons, List.length_cons, Str.length_append] at ih ⊢
    rw [ih]
    have : (Str.ofString "...").length = 3 := rfl
    omega

theorem join_len (ws : List Str) : (Txt.join (Str.ofString "") (ws.map (· ++ Str.ofString "..."))).length ≤ (ws.map (·.length)).sum + 3 * ws.length := by
  show (Builtin.Str.glued _ _).length ≤ _
  rw [StrLaws.glued_eq_join]
  have h := StrLaws.join_length_le (Str.ofString "") (ws.map (· ++ Str.ofString "..."))
  rw [show (Str.ofString "").length = 0 from rfl, Nat.mul_zero, Nat.add_zero, sum_len] at h
  exact h

theorem pat_spec {prog : Program} {w : World} {A : Around} {s : Shared} {Q E : Value → Shared → Prop} {p : Program} {loose : List Str} {mean : ExcName → Option Value} {mg mb : Str → Option Value}
    (X : (hd.heap_39 w.params).In s.heap) (T : Top p loose mean mg mb s.heap) (ok : Ok A AL) {text : Str} {mask : Int} {t u : Tok} {ws : List Str} (hsp : Hide (Txt.split text (Str.ofString ", ") = ws)) (hw : Hide (text.length ≤ 1000))
    (hws : Hide ((ws.map (·.length)).sum ≤ 1000 ∧ ws.length ≤ 100 ∧ ∀ a ∈ ws, a.length ≤ 1000))
    (h : ∀ t' h' tk', Up s.heap h' → Q (.str (if mask = 0 then patS [] else patS ws) t') { s with heap := h', toks := tk' }) :
    wpAny (model prog w) A (call (.ref 59) [.str text t, .int mask u]) Q E s := by
  refine ok.by ?_
  refine enterP X T (by k_is) (by k_is) (by decide) (BindsTo.of_eq rfl) (locs rfl) (by decide) rfl rfl rfl ?_
  intro L h₁ F N
  show wpAny _ _ _ _ _ _
  k_fold
  k_steps
  · rename mask ≠ 0 => hm0
    rw [if_neg hm0] at h
    refine KSpl.split1 (by k_asm) (by k_asm) (by decide) ?_ (by rw [sizeLine_eq]; have := hw.out; omega)
    intro D' l' h' k' e' a' F' N' l1
    have e0 := hsp.out
    rw [e0] at e'
    rw [e'] at a'
    have hlen : l'.length = ws.length := by rw [← e', List.length_map]
    k_steps
    refine CompAt.list (its := (strValues l').toArray) (fun i ys => StrsAre ys ((ws.take i).map (· ++ Str.ofString "..."))) rfl (by k_asm) (by k_asm) (.inr ⟨_, by k_mem, rfl, _, rfl⟩) (by rw [sizeLine_eq]; have := hws.out.2.1; simp [strValues, hlen]; omega) .nil ?_ ?_
    · rintro i ys v I oI C oC D m₂ hh tk hl hG hv hC hx F1 N1 off ne
      obtain ⟨a, ta, rfl, ha⟩ := a'.item i v (by simpa using hv)
      have ha1 := hws.out.2.2 a (List.mem_of_getElem? ha)
      k_steps
      rename Fr _ _ _ _ => F9
      exact EltEnd.go (fun _ _ e => e) (strs_snoc (· ++ Str.ofString "...") hG ha)
    · rintro g ys hl hG
      rw [List.take_of_length_le (by simp [strValues, hlen])] at hG
      k_steps
      refine join_list (News.isList (by k_asm) (by k_mem)) hG (by rw [sum_len]; have := hws.out; rw [show (Str.ofString "").length = 0 from rfl]; omega) ?_
      intro t' k9
      refine SB.add (fun t'' k'' => ?_) (hsz := by have h9 := hws.out; have h8 := join_len ws; rw [sizeLine_eq, show (Str.ofString "...").length = 3 from rfl]; omega)
      rename Fr _ _ _ _ => F9
      exact h _ _ _ F9.keep
  · rename mask = 0 => hm0
    rw [if_pos hm0] at h
    k_steps
    refine CompAt.list (its := #[]) (fun i ys => ys = []) rfl (by k_asm) (by k_asm) (.inr ⟨_, by k_mem, rfl, _, rfl⟩) (by decide) rfl ?_ ?_
    · rintro i ys v I oI C oC D m₂ hh tk hl hG hv
      simp at hv
    · rintro g ys hl rfl
      k_steps
      rename Fr _ _ _ _ => F9
      exact h _ _ _ F9.keep
end
end Mine
theorem Mine.anew24 {prog : Program} {w : World} {A : Around} {s : Shared} : wpAny (model prog w) A (truthy (.bool true)) (fun _ _ => True) (fun _ _ => False) s := by
  w_top off
  walk1
  trivial
namespace Mine
/-- the names of the first eight flags, by their place -/
def nmS : Nat → Str
  | 0 => ⟨#[79, 80, 84, 73, 77, 73, 90, 69, 68]⟩
  | 1 => ⟨#[78, 69, 87, 76, 79, 67, 65, 76, 83]⟩
  | 2 => ⟨#[86, 65, 82, 65, 82, 71, 83]⟩
  | 3 => ⟨#[86, 65, 82, 75, 69, 89, 87, 79, 82, 68, 83]⟩
  | 4 => ⟨#[78, 69, 83, 84, 69, 68]⟩
  | 5 => ⟨#[71, 69, 78, 69, 82, 65, 84, 79, 82]⟩
  | 6 => ⟨#[78, 79, 70, 82, 69, 69]⟩
  | 7 => ⟨#[67, 79, 82, 79, 85, 84, 73, 78, 69]⟩
  | _ => ⟨#[]⟩

theorem get_spec {prog : Program} {w : World} {s : Shared} {h₀ : Heap} {L : Addr} {m : Str → Option Value} {news : List (Addr × Obj)} {Q E : Value → Shared → Prop} {p : Program} {loose : List Str} {mean : ExcName → Option Value} {mg mb : Str → Option Value} {env : Env}
    (X : (hd.heap_39 w.params).In h₀) (T : Top p loose mean mg mb h₀) (F : Fr h₀ L s.heap m) (N : News h₀ L s.heap news) {t u : Tok} {x : Str} {i : Nat} (hi : i < 8)
    (h : ∀ t' tk', Q (.str (nmS i) t') { s with toks := tk' }) :
    wpAny (model prog w) (AL.deeper env) (call (.builtin "dict.get") [.ref 33, .int ((2 ^ i : Nat) : Int) t, .str x u]) Q E s := by
  have hc : i = 0 ∨ i = 1 ∨ i = 2 ∨ i = 3 ∨ i = 4 ∨ i = 5 ∨ i = 6 ∨ i = 7 := by omega
  rcases hc with rfl | rfl | rfl | rfl | rfl | rfl | rfl | rfl
  · show wpAny _ _ (call (.builtin "dict.get") [.ref 33, .int 1 t, .str x u]) _ _ _
    k_steps
    exact h _ _
  · show wpAny _ _ (call (.builtin "dict.get") [.ref 33, .int 2 t, .str x u]) _ _ _
    k_steps
    exact h _ _
  · show wpAny _ _ (call (.builtin "dict.get") [.ref 33, .int 4 t, .str x u]) _ _ _
    k_steps
    exact h _ _
  · show wpAny _ _ (call (.builtin "dict.get") [.ref 33, .int 8 t, .str x u]) _ _ _
    k_steps
    exact h _ _
  · show wpAny _ _ (call (.builtin "dict.get") [.ref 33, .int 16 t, .str x u]) _ _ _
    k_steps
    exact h _ _
  · show wpAny _ _ (call (.builtin "dict.get") [.ref 33, .int 32 t, .str x u]) _ _ _
    k_steps
    exact h _ _
  · show wpAny _ _ (call (.builtin "dict.get") [.ref 33, .int 64 t, .str x u]) _ _ _
    k_steps
    exact h _ _
  · show wpAny _ _ (call (.builtin "dict.get") [.ref 33, .int 128 t, .str x u]) _ _ _
    k_steps
    exact h _ _

/-- what the loop of pretty_flags leaves: fuel, place, what is left of the flags, the names so far -/
def pfLoop : Nat → Nat → Nat → List Str → List Str
  | 0, _, g, ss => ss ++ [baseText "0x" 16 (g : Int)]
  | k + 1, i, g, ss => if g &&& 2 ^ i = 0 then pfLoop k (i + 1) g ss else if g - 2 ^ i = 0 then ss ++ [nmS i] else pfLoop k (i + 1) (g - 2 ^ i) (ss ++ [nmS i])
def pfS (f : Nat) : Str := Txt.join (Str.ofString ", ") (pfLoop 32 0 f [])
theorem bit_facts : ∀ g, g < 256 → ∀ i, i < 32 → g &&& 2 ^ i = 0 ∨ (g &&& 2 ^ i = 2 ^ i ∧ i < 8 ∧ 2 ^ i ≤ g) := by decide +kernel
theorem pow_is (i : Nat) : (1 * 2 ^ (0 + (i : Int)).toNat : Int) = ((2 ^ i : Nat) : Int) := by
  rw [Int.zero_add, Int.toNat_natCast, Int.one_mul]
  exact (Int.natCast_pow 2 i).symm
theorem and_nat (a b : Nat) : Builtin.bitAnd (a : Int) (b : Int) = ((a &&& b : Nat) : Int) := by
  rw [bitAnd_pp (by omega) (by omega), Int.toNat_natCast, Int.toNat_natCast]
theorem pf_skip {i g : Nat} {ss : List Str} (hi : i < 32) (h : g &&& 2 ^ i = 0) : pfLoop (32 - i) i g ss = pfLoop (32 - (i + 1)) (i + 1) g ss := by
  rw [show 32 - i = (32 - (i + 1)) + 1 by omega, pfLoop, if_pos h]
theorem pf_stop {i g : Nat} {ss : List Str} (hi : i < 32) (h : ¬ g &&& 2 ^ i = 0) (h2 : g - 2 ^ i = 0) : pfLoop (32 - i) i g ss = ss ++ [nmS i] := by
  rw [show 32 - i = (32 - (i + 1)) + 1 by omega, pfLoop, if_neg h, if_pos h2]
theorem pf_go {i g : Nat} {ss : List Str} (hi : i < 32) (h : ¬ g &&& 2 ^ i = 0) (h2 : ¬ g - 2 ^ i = 0) : pfLoop (32 - i) i g ss = pfLoop (32 - (i + 1)) (i + 1) (g - 2 ^ i) (ss ++ [nmS i]) := by
  rw [show 32 - i = (32 - (i + 1)) + 1 by omega, pfLoop, if_neg h, if_neg h2]

theorem xor_nat {g i : Nat} (h : g &&& 2 ^ i = 2 ^ i) (hle : 2 ^ i ≤ g) : Builtin.bitXor (g : Int) ((2 ^ i : Nat) : Int) = ((g - 2 ^ i : Nat) : Int) := by
  rw [bitXor_and, and_nat, h]
  omega
theorem sum_short {ss : List Str} (h : ∀ a ∈ ss, a.length ≤ 16) : (ss.map (·.length)).sum ≤ 16 * ss.length := by
  induction ss with
  | nil => simp
  | cons a r ih =>
    simp only [List.map_cons, List.sum_cons, List.length_cons]
    have h1 := h a (.head _)
    have h2 := ih fun x hx => h x (.tail _ hx)
    omega
theorem hex_len : ∀ n, n < 256 → (baseText "0x" 16 ((n : Nat) : Int)).length ≤ 16 := by decide +kernel
theorem nm_len : ∀ i, (nmS i).length ≤ 16 := by
  intro i
  unfold nmS
  split <;> decide
section
local macro_rules | `(tactic| walk_at "exec For Name Call cons cons") => `(tactic| (k_dflt (refine For_at ?_)))
local macro_rules | `(tactic| walk_at "call builtin:dict.get") => `(tactic| (k_dflt (refine get_spec (by assumption) (by assumption) (by k_asm) (by k_asm) (by assumption) ?_); intro t' tk'))
theorem pf_spec {prog : Program} {w : World} {A : Around} {s : Shared} {Q E : Value → Shared → Prop} {p : Program} {loose : List Str} {mean : ExcName → Option Value} {mg mb : Str → Option Value}
    (X : (hd.heap_39 w.params).In s.heap) (T : Top p loose mean mg mb s.heap) (ok : Ok A AL) {f : Nat} {t : Tok} (hf : f < 256)
    (h : ∀ t' h' tk', Up s.heap h' → Q (.str (pfS f) t') { s with heap := h', toks := tk' }) :
    wpAny (model prog w) A (call (.ref 40) [.int (f : Int) t]) Q E s := by
  refine ok.by ?_
  refine enterP X T (by k_is) (by k_is) (by decide) (BindsTo.of_eq rfl) (locs rfl) (by decide) rfl rfl rfl ?_
  intro L h₁ F N
  show wpAny _ _ _ _ _ _
  k_fold
  k_steps
  refine ForAt.rangeM (n := 32) (fun m news i m₁ news₁ => ∃ (g : Nat) (tg : Tok) (vi vf : Option Value) (D : Addr) (ys : List Value) (ss : List Str) (k : Nat), m₁ = (fun y => if y = Str.ofString "i" then vi else if y = Str.ofString "flag" then vf else if y = Str.ofString "flags" then some (.int (g : Int) tg) else m y) ∧
     news₁ = [(D, W.listOf ys.toArray k)] ∧ m (Str.ofString "names") = some (.ref D) ∧ StrsAre ys ss ∧ ss.length ≤ i ∧ g < 256 ∧ (∀ a ∈ ss, a.length ≤ 16) ∧ pfLoop 32 0 f [] = pfLoop (32 - i) i g ss) rfl (by k_asm) (by k_asm) (by assumption) (by decide) (by rfl) ?_ ?_ ?_
  · refine ⟨f, t, none, none, _, [], [], 0, ?_, rfl, rfl, .nil, Nat.le_refl _, hf, (fun _ h => nomatch h), rfl⟩
    funext y
    by_cases h1 : y = Str.ofString "i"
    · subst h1; rfl
    · by_cases h2 : y = Str.ofString "flag"
      · subst h2; rfl
      · by_cases h3 : y = Str.ofString "flags"
        · subst h3; rfl
        · simp only [h1, h2, h3, if_false]
  · rintro I oI i ti m₁ news₁ hh tk hi ⟨g, tg, vi, vf, D, ys, ss, k, rfl, rfl, hD, hss, hsl, hg, hsh, hpf⟩ F1 N1 off1
    have hD2 : some (Value.ref _) = some (Value.ref D) := hD
    cases hD2
    clear hD
    simp only [LCg.Off1, and_true] at off1
    have hyl := hss.length
    have hyz : ys.toArray.size ≤ 32 := by rw [List.size_toArray, hyl]; omega
    k_steps
    · rename Builtin.bitAnd _ _ ≠ 0 => hb
      rw [pow_is, and_nat] at hb
      have hb0 : ¬ g &&& 2 ^ i = 0 := fun e => hb (by rw [e]; rfl)
      obtain ⟨hb1, hi8, hle⟩ := (bit_facts g hg i hi).resolve_left hb0
      rename Fr _ _ _ _ => F9
      rw [pow_is] at F9 ⊢
      refine P.hex_of_int ?_ (hsz := by have := hex_len (2 ^ i) (by omega); rw [sizeLine_eq]; omega)
      have hsh2 : ∀ a ∈ ss ++ [nmS i], a.length ≤ 16 := by
        intro a ha
        rcases List.mem_append.mp ha with h1 | h1
        · exact hsh a h1
        · rw [List.mem_singleton.mp h1]; exact nm_len i
      k_steps
      · rename Builtin.bitXor _ _ ≠ 0 => hx
        rw [xor_nat hb1 hle] at hx
        rename Fr _ _ _ _ => F8
        rename News _ _ _ _ => N8
        rw [xor_nat hb1 hle] at F8
        rw [List.push_toArray] at N8
        refine ForEnd.go F8 N8 _ (fun _ h => h) ⟨off1, trivial⟩ ⟨g - 2 ^ i, ?tk, ?vi, ?vf, _, _, ss ++ [nmS i], _, ?eq, rfl, rfl, hss.append' (.cons _ _ .nil), by rw [List.length_append, List.length_singleton]; omega, by omega, hsh2, hpf.trans (pf_go hi hb0 (by omega))⟩
        case' eq =>
          funext y
          by_cases h1 : y = Str.ofString "i"
          · subst h1; rfl
          · by_cases h2 : y = Str.ofString "flag"
            · subst h2; rfl
            · by_cases h3 : y = Str.ofString "flags"
              · subst h3; rfl
              · simp only [h1, h2, h3, if_false]
      · rename Builtin.bitXor _ _ = 0 => hx
        rw [xor_nat hb1 hle] at hx
        rename News _ _ _ _ => N8
        rw [List.push_toArray] at N8
        show wpAny _ _ (execs _ _) _ _ _
        have e9 : pfS f = Txt.join (Str.ofString ", ") (ss ++ [nmS i]) := congrArg _ (hpf.trans (pf_stop hi hb0 (by omega)))
        rw [e9] at h
        k_steps
        refine join_list (News.isList N8 (by k_mem)) (hss.append' (.cons _ _ .nil)) (by have := sum_short hsh2; rw [List.length_append, List.length_singleton] at this ⊢; rw [show (Str.ofString ", ").length = 2 from rfl]; omega) ?_
        intro t9 k9
        rename Fr _ _ _ _ => F8
        exact h _ _ _ F8.keep
    · rename Builtin.bitAnd _ _ = 0 => hb
      rw [pow_is, and_nat] at hb
      rename Fr _ _ _ _ => F8
      rename News _ _ _ _ => N8
      refine ForEnd.go F8 N8 _ (fun _ h => h) ⟨off1, trivial⟩ ⟨g, tg, ?vi2, ?vf2, _, ys, ss, k, ?eq2, rfl, rfl, hss, by omega, hg, hsh, hpf.trans (pf_skip hi (by omega))⟩
      case' eq2 =>
        funext y
        by_cases h1 : y = Str.ofString "i"
        · subst h1; rfl
        · by_cases h2 : y = Str.ofString "flag"
          · subst h2; rfl
          · by_cases h3 : y = Str.ofString "flags"
            · subst h3; rfl
            · simp only [h1, h2, h3, if_false]
  · rintro m' news' hh tk ⟨g, tg, vi, vf, D, ys, ss, k, rfl, rfl, hD, hss, hsl, hg, hsh, hpf⟩ F1 N1
    have hD2 : some (Value.ref _) = some (Value.ref D) := hD
    cases hD2
    clear hD
    have hyl := hss.length
    have hyz : ys.toArray.size ≤ 32 := by rw [List.size_toArray, hyl]; omega
    k_steps
    rename Fr _ _ _ _ => F8
    rename News _ _ _ _ => N8
    rw [List.push_toArray] at N8
    have e9 : pfS f = Txt.join (Str.ofString ", ") (ss ++ [baseText "0x" 16 (g : Int)]) := congrArg _ (hpf.trans rfl)
    rw [e9] at h
    have hsh2 : ∀ a ∈ ss ++ [baseText "0x" 16 (g : Int)], a.length ≤ 16 := by
      intro a ha
      rcases List.mem_append.mp ha with h1 | h1
      · exact hsh a h1
      · rw [List.mem_singleton.mp h1]; exact hex_len g hg
    refine join_list (News.isList N8 (by k_mem)) (hss.append' (.cons _ _ .nil)) (by have := sum_short hsh2; rw [List.length_append, List.length_singleton] at this ⊢; rw [show (Str.ofString ", ").length = 2 from rfl]; omega) ?_
    intro t9 k9
    exact h _ _ _ F8.keep
end
end Mine
theorem Mine.anew26 {prog : Program} {w : World} {A : Around} {s : Shared} : wpAny (model prog w) A (truthy (.bool true)) (fun _ _ => True) (fun _ _ => False) s := by
  w_top off
  walk1
  trivial
namespace Mine

def WhileHere (prog : Program) (w : World) (A : Around) (env : Env) (test : Expr) (body : List Stmt) (pos : Pos) (Q : Flow → Shared → Prop) (s : Shared) : Prop := wpAny (model prog w) A (exec (.While test body [] pos) env) Q NoE s
theorem While_here {prog : Program} {w : World} {A : Around} {env : Env} {test : Expr} {body : List Stmt} {pos : Pos} {Q : Flow → Shared → Prop} {E : Value → Shared → Prop} {s : Shared} (h : WhileHere prog w A env test body pos Q s) :
    wpAny (model prog w) A (exec (.While test body [] pos) env) Q E s := wpAny_mono h (fun _ _ x => x) (fun _ _ x => x.elim)

theorem callWith_L {M : Model} {A : Around} {E : Value → Shared → Prop} {s : Shared} {env : Env} {pos : Pos} {first : List Value} {Q : Value → Shared → Prop} {h₀ : Heap} {lam : Addr} {oc : Value} {od : Option Addr} {fd : FuncData} {osl : Array (Option Value)} {e : Expr} {rest : List Expr}
    (_hl : h₀.get? lam = some ⟨oc, od, .func fd, osl⟩)
    (h : wpAny M A (spliced (backTo pos (starEach (e :: rest) env))) (fun vs s₁ => s₁.heap.get? lam = some ⟨oc, od, .func fd, osl⟩ ∧ wpAny M A (call (.ref lam) (first ++ vs)) Q E s₁) E s)
    (he : starEach (e :: rest) env = (false, eval e env) :: starEach rest env := by rfl) (hplain : (backTo pos (starEach rest env)).any (·.1) = false := by rfl) :
    wpAny M A (callWith pos (.ref lam) first (backTo pos (starEach (e :: rest) env)) []) Q E s := by
  rw [he] at h ⊢
  exact callWith_of (P := fun h => h.get? lam = some ⟨oc, od, .func fd, osl⟩) (by show ((false || (backTo pos (starEach rest env)).any (·.1)) || false) = false; rw [hplain]; rfl)
    (fun h X => ⟨.frame, .inl rfl, (Looks.ld (part := none) X).andThen .now⟩) (evalArgs_plain h)

/-- what is known of a key function -/
abbrev KeyOk (prog : Program) (w : World) (h : Heap) (lam : Addr) (g : Int → Bool) : Prop := ∀ (A' : Around) (s' : Shared) (n : Int) (t : Tok) (Q E : Value → Shared → Prop), Ok A' AL → Up h s'.heap → 0 ≤ n → n < 16 →
  (∀ h' tk', Up s'.heap h' → Q (.bool (g n)) { s' with heap := h', toks := tk' }) → wpAny (model prog w) A' (call (.ref lam) [.int n t]) Q E s'

/-- the search by halves, over what the key says of each place -/
def bl (p : Nat → Bool) : Nat → Nat → Nat → Nat
  | 0, lo, _ => lo
  | f + 1, lo, hi => if lo < hi then (if p ((lo + hi) / 2) = true then bl p f lo ((lo + hi) / 2) else bl p f ((lo + hi) / 2 + 1) hi) else lo
theorem bl_done (p : Nat → Bool) {f lo hi : Nat} (h : ¬ lo < hi) : bl p f lo hi = lo := by
  cases f with
  | zero => rfl
  | succ f => rw [bl, if_neg h]
theorem bl_true (p : Nat → Bool) {f lo hi : Nat} (h : lo < hi) (hf : hi - lo ≤ f) (hp : p ((lo + hi) / 2) = true) : bl p f lo hi = bl p (f - 1) lo ((lo + hi) / 2) := by
  cases f with
  | zero => omega
  | succ f => rw [bl, if_pos h, if_pos hp]; rfl
theorem bl_false (p : Nat → Bool) {f lo hi : Nat} (h : lo < hi) (hf : hi - lo ≤ f) (hp : p ((lo + hi) / 2) = false) : bl p f lo hi = bl p (f - 1) ((lo + hi) / 2 + 1) hi := by
  cases f with
  | zero => omega
  | succ f => rw [bl, if_pos h, if_neg (by rw [hp]; decide)]; rfl

theorem WhEnd.go {h₀ : Heap} {L : Addr} {J : Nat → (Str → Option Value) → List (Addr × Obj) → Prop} {n n' : Nat} {s : Shared} {Q : Flow → Shared → Prop} {h' : Heap} {tk : Nat} {m' : Str → Option Value} {news' : List (Addr × Obj)}
    (hn : n' < n) (F : Fr h₀ L h' m') (N : News h₀ L h' news') (hJ : J n' m' news') : WhEnd h₀ L J n s Q .next { s with heap := h', toks := tk } := ⟨n', h', tk, m', news', hn, rfl, F, N, hJ⟩
theorem mid_is (lo hi : Nat) : ((lo : Int) + (hi : Int)).fdiv 2 = (((lo + hi) / 2 : Nat) : Int) := by
  rw [Int.fdiv_eq_ediv_of_nonneg _ (by decide)]
  omega
section
local macro_rules | `(tactic| walk_at "exec While Compare cons nil") => `(tactic| (k_dflt (refine While_here ?_)))
local macro_rules | `(tactic| walk_at "callWith ref") => `(tactic| (k_dflt (refine callWith_L (by assumption) ?_)))
theorem bl_spec {prog : Program} {w : World} {A : Around} {s : Shared} {Q E : Value → Shared → Prop} {p : Program} {loose : List Str} {mean : ExcName → Option Value} {mg mb : Str → Option Value}
    (X : (hd.heap_39 w.params).In s.heap) (T : Top p loose mean mg mb s.heap) (ok : Ok A AM) {a lam : Addr} {vs : List Value} {ns : List Int} (hl : s.heap.IsList a vs.toArray) (hi : IntsAre vs ns) (hn : ns.length ≤ 100) (hns : ∀ x ∈ ns, 0 ≤ x ∧ x < 16)
    {oc : Value} {od : Option Addr} {fd : FuncData} {osl : Array (Option Value)} (hlam : s.heap.get? lam = some ⟨oc, od, .func fd, osl⟩) {g : Int → Bool} (hk : Hide (KeyOk prog w s.heap lam g))
    (h : ∀ t' h' tk', Up s.heap h' → Q (.int ((bl (fun i => g (ns.getD i 0)) ns.length 0 ns.length : Nat) : Int) t') { s with heap := h', toks := tk' }) :
    wpAny (model prog w) A (call (.ref 32) [.ref a, .bool true] [(Str.ofString "key", .ref lam)]) Q E s := by
  refine ok.byM ?_
  refine enterP X T (by k_is) (by k_is) (by decide) (kp_binds X (fun _ => rfl)) (locs rfl) (by decide) rfl rfl rfl ?_
  intro L h₁ F N
  show wpAny _ _ _ _ _ _
  k_fold
  k_steps
  refine While_atM (n₀ := ns.length) (fun m news n m₁ news₁ => ∃ (lo hi f : Nat) (tl th : Tok) (vm : Option Value), m₁ = (fun y => if y = Str.ofString "mid" then vm else if y = Str.ofString "lo" then some (.int (lo : Int) tl) else if y = Str.ofString "hi" then some (.int (hi : Int) th) else m y) ∧
     news₁ = news ∧ n = hi - lo ∧ lo ≤ hi ∧ hi ≤ ns.length ∧ hi - lo ≤ f ∧ bl (fun i => g (ns.getD i 0)) ns.length 0 ns.length = bl (fun i => g (ns.getD i 0)) f lo hi) (by k_asm) (by k_asm) ?_ ?_
  · refine ⟨0, ns.length, ns.length, ?tl, ?th, none, ?eq, rfl, rfl, Nat.zero_le _, Nat.le_refl _, Nat.le_refl _, rfl⟩
    case' eq =>
      funext y
      by_cases h1 : y = Str.ofString "mid"
      · subst h1; rfl
      · by_cases h2 : y = Str.ofString "lo"
        · subst h2; rfl
        · by_cases h3 : y = Str.ofString "hi"
          · subst h3; rfl
          · simp only [h1, h2, h3, if_false]
  · rintro n m₁ news₁ h₁ tk₁ F1 N1 ⟨lo, hi', f, tl, th, vm, rfl, rfl, rfl, hlh, hhn, hf, hbl⟩
    k_steps
    by_cases hlt : lo < hi'
    · have e9 : decide ((lo : Int) < (hi' : Int)) = true := by simp [hlt]
      rw [e9]
      show wpAny _ _ _ _ _ _
      have hm9 : ((lo : Int) + (hi' : Int)).fdiv 2 = (((lo + hi') / 2 : Nat) : Int) := mid_is lo hi'
      have hmid : (lo + hi') / 2 < ns.length := by omega
      k_steps
      rename Fr _ _ _ _ => F9
      rename News _ _ _ _ => N9
      rw [hm9] at F9 ⊢
      rw [Int.toNat_natCast]
      have hin : ns.getD ((lo + hi') / 2) 0 ∈ ns := by rw [List.getD_eq_getElem?_getD, List.getElem?_eq_getElem hmid]; exact List.getElem_mem hmid
      refine hk.out _ _ _ _ _ _ (okDeep _) F9.keep (hns _ hin).1 (hns _ hin).2 ?_
      intro h8 tk8 up8
      have F8 := frUp F9 up8
      have N8 := newsUp N9 up8
      clear F9 N9
      cases hg : g (ns.getD ((lo + hi') / 2) 0) with
      | true =>
        k_steps
        rename Fr _ _ _ _ => F7
        rename News _ _ _ _ => N7
        refine WhEnd.go (n' := (lo + hi') / 2 - lo) (by omega) F7 N7 ⟨lo, (lo + hi') / 2, f - 1, ?tl1, ?th1, ?vm1, ?eq1, rfl, rfl, by omega, by omega, by omega, hbl.trans (bl_true _ hlt hf hg)⟩
        case' eq1 =>
          funext y
          by_cases h1 : y = Str.ofString "mid"
          · subst h1; rfl
          · by_cases h2 : y = Str.ofString "lo"
            · subst h2; rfl
            · by_cases h3 : y = Str.ofString "hi"
              · subst h3; rfl
              · simp only [h1, h2, h3, if_false]
      | false =>
        k_steps
        rename Fr _ _ _ _ => F7
        rename News _ _ _ _ => N7
        refine WhEnd.go (n' := hi' - ((lo + hi') / 2 + 1)) (by omega) F7 N7 ⟨(lo + hi') / 2 + 1, hi', f - 1, ?tl2, ?th2, ?vm2, ?eq2, rfl, rfl, by omega, by omega, by omega, hbl.trans (bl_false _ hlt hf hg)⟩
        case' eq2 =>
          funext y
          by_cases h1 : y = Str.ofString "mid"
          · subst h1; rfl
          · by_cases h2 : y = Str.ofString "lo"
            · subst h2; rfl
            · by_cases h3 : y = Str.ofString "hi"
              · subst h3; rfl
              · simp only [h1, h2, h3, if_false]
    · have e9 : decide ((lo : Int) < (hi' : Int)) = false := by simp [hlt]
      rw [e9]
      show wpAny _ _ _ _ _ _
      have e8 : bl (fun i => g (ns.getD i 0)) ns.length 0 ns.length = lo := hbl.trans (bl_done _ hlt)
      rw [e8] at h
      k_steps
      exact h _ _ _ F1.keep
theorem br_spec {prog : Program} {w : World} {A : Around} {s : Shared} {Q E : Value → Shared → Prop} {p : Program} {loose : List Str} {mean : ExcName → Option Value} {mg mb : Str → Option Value}
    (X : (hd.heap_39 w.params).In s.heap) (T : Top p loose mean mg mb s.heap) (ok : Ok A AM) {a lam : Addr} {vs : List Value} {ns : List Int} (hl : s.heap.IsList a vs.toArray) (hi : IntsAre vs ns) (hn : ns.length ≤ 100) (hns : ∀ x ∈ ns, 0 ≤ x ∧ x < 16)
    {oc : Value} {od : Option Addr} {fd : FuncData} {osl : Array (Option Value)} (hlam : s.heap.get? lam = some ⟨oc, od, .func fd, osl⟩) {g : Int → Bool} (hk : Hide (KeyOk prog w s.heap lam g))
    (h : ∀ t' h' tk', Up s.heap h' → Q (.int ((bl (fun i => g (ns.getD i 0)) ns.length 0 ns.length : Nat) : Int) t') { s with heap := h', toks := tk' }) :
    wpAny (model prog w) A (call (.ref 23) [.ref a, .bool false] [(Str.ofString "key", .ref lam)]) Q E s := by
  refine ok.byM ?_
  refine enterP X T (by k_is) (by k_is) (by decide) (kp_binds X (fun _ => rfl)) (locs rfl) (by decide) rfl rfl rfl ?_
  intro L h₁ F N
  show wpAny _ _ _ _ _ _
  k_fold
  k_steps
  refine While_atM (n₀ := ns.length) (fun m news n m₁ news₁ => ∃ (lo hi f : Nat) (tl th : Tok) (vm : Option Value), m₁ = (fun y => if y = Str.ofString "mid" then vm else if y = Str.ofString "lo" then some (.int (lo : Int) tl) else if y = Str.ofString "hi" then some (.int (hi : Int) th) else m y) ∧
     news₁ = news ∧ n = hi - lo ∧ lo ≤ hi ∧ hi ≤ ns.length ∧ hi - lo ≤ f ∧ bl (fun i => g (ns.getD i 0)) ns.length 0 ns.length = bl (fun i => g (ns.getD i 0)) f lo hi) (by k_asm) (by k_asm) ?_ ?_
  · refine ⟨0, ns.length, ns.length, ?tl, ?th, none, ?eq, rfl, rfl, Nat.zero_le _, Nat.le_refl _, Nat.le_refl _, rfl⟩
    case' eq =>
      funext y
      by_cases h1 : y = Str.ofString "mid"
      · subst h1; rfl
      · by_cases h2 : y = Str.ofString "lo"
        · subst h2; rfl
        · by_cases h3 : y = Str.ofString "hi"
          · subst h3; rfl
          · simp only [h1, h2, h3, if_false]
  · rintro n m₁ news₁ h₁ tk₁ F1 N1 ⟨lo, hi', f, tl, th, vm, rfl, rfl, rfl, hlh, hhn, hf, hbl⟩
    k_steps
    by_cases hlt : lo < hi'
    · have e9 : decide ((lo : Int) < (hi' : Int)) = true := by simp [hlt]
      rw [e9]
      show wpAny _ _ _ _ _ _
      have hm9 : ((lo : Int) + (hi' : Int)).fdiv 2 = (((lo + hi') / 2 : Nat) : Int) := mid_is lo hi'
      have hmid : (lo + hi') / 2 < ns.length := by omega
      k_steps
      rename Fr _ _ _ _ => F9
      rename News _ _ _ _ => N9
      rw [hm9] at F9 ⊢
      rw [Int.toNat_natCast]
      have hin : ns.getD ((lo + hi') / 2) 0 ∈ ns := by rw [List.getD_eq_getElem?_getD, List.getElem?_eq_getElem hmid]; exact List.getElem_mem hmid
      refine hk.out _ _ _ _ _ _ (okDeep _) F9.keep (hns _ hin).1 (hns _ hin).2 ?_
      intro h8 tk8 up8
      have F8 := frUp F9 up8
      have N8 := newsUp N9 up8
      clear F9 N9
      cases hg : g (ns.getD ((lo + hi') / 2) 0) with
      | true =>
        k_steps
        rename Fr _ _ _ _ => F7
        rename News _ _ _ _ => N7
        refine WhEnd.go (n' := (lo + hi') / 2 - lo) (by omega) F7 N7 ⟨lo, (lo + hi') / 2, f - 1, ?tl1, ?th1, ?vm1, ?eq1, rfl, rfl, by omega, by omega, by omega, hbl.trans (bl_true _ hlt hf hg)⟩
        case' eq1 =>
          funext y
          by_cases h1 : y = Str.ofString "mid"
          · subst h1; rfl
          · by_cases h2 : y = Str.ofString "lo"
            · subst h2; rfl
            · by_cases h3 : y = Str.ofString "hi"
              · subst h3; rfl
              · simp only [h1, h2, h3, if_false]
      | false =>
        k_steps
        rename Fr _ _ _ _ => F7
        rename News _ _ _ _ => N7
        refine WhEnd.go (n' := hi' - ((lo + hi') / 2 + 1)) (by omega) F7 N7 ⟨(lo + hi') / 2 + 1, hi', f - 1, ?tl2, ?th2, ?vm2, ?eq2, rfl, rfl, by omega, by omega, by omega, hbl.trans (bl_false _ hlt hf hg)⟩
        case' eq2 =>
          funext y
          by_cases h1 : y = Str.ofString "mid"
          · subst h1; rfl
          · by_cases h2 : y = Str.ofString "lo"
            · subst h2; rfl
            · by_cases h3 : y = Str.ofString "hi"
              · subst h3; rfl
              · simp only [h1, h2, h3, if_false]
    · have e9 : decide ((lo : Int) < (hi' : Int)) = false := by simp [hlt]
      rw [e9]
      show wpAny _ _ _ _ _ _
      have e8 : bl (fun i => g (ns.getD i 0)) ns.length 0 ns.length = lo := hbl.trans (bl_done _ hlt)
      rw [e8] at h
      k_steps
      exact h _ _ _ F1.keep
end
end Mine
theorem Mine.anew28 {prog : Program} {w : World} {A : Around} {s : Shared} : wpAny (model prog w) A (truthy (.bool true)) (fun _ _ => True) (fun _ _ => False) s := by
  w_top off
  walk1
  trivial
namespace Mine
abbrev zs (l : List Nat) : List Int := l.map fun n => ((n : Nat) : Int)
theorem and_nat' (a b : Nat) : Builtin.bitAnd (a : Int) (b : Int) = ((a &&& b : Nat) : Int) := by
  rw [bitAnd_pp (by omega) (by omega), Int.toNat_natCast, Int.toNat_natCast]
theorem zs_at {fam : List Nat} {i : Nat} {o : Int} (h : (zs fam)[i]? = some o) : ∃ n, fam[i]? = some n ∧ o = (n : Int) := by
  rw [List.getElem?_map] at h
  cases q : fam[i]? with
  | none => rw [q] at h; cases h
  | some n => rw [q] at h; cases h; exact ⟨n, rfl, rfl⟩
theorem filt_in {fam : List Nat} {P : Nat → Bool} {i n : Nat} {ys : List Value} {t : Tok} (h : IntsAre ys (zs ((fam.take i).filter P))) (hn : fam[i]? = some n) (hp : P n = true) : IntsAre (ys ++ [.int (n : Int) t]) (zs ((fam.take (i + 1)).filter P)) := by
  rw [List.take_add_one, hn, Option.toList_some, List.filter_append, List.filter_cons_of_pos hp, List.filter_nil]
  show IntsAre _ (List.map _ (_ ++ _))
  rw [List.map_append]
  exact h.append (.cons _ _ .nil)
theorem filt_out {fam : List Nat} {P : Nat → Bool} {i n : Nat} {ys : List Value} (h : IntsAre ys (zs ((fam.take i).filter P))) (hn : fam[i]? = some n) (hp : ¬ P n = true) : IntsAre ys (zs ((fam.take (i + 1)).filter P)) := by
  rw [List.take_add_one, hn, Option.toList_some, List.filter_append, List.filter_cons_of_neg hp, List.filter_nil, List.append_nil]
  exact h
/-- how often a set is due to be the first one -/
def within (fam : List Nat) (k : Nat) : List Nat := fam.filter fun o => o &&& k == o
def coreOf (l : List Nat) : Nat := l.foldl (fun c o => c &&& o) 15
theorem coreOf_lt : ∀ (l : List Nat) (c : Nat), c < 16 → l.foldl (fun c o => c &&& o) c < 16
  | [], _, h => h
  | o :: r, c, h => coreOf_lt r (c &&& o) (Nat.lt_of_le_of_lt Nat.and_le_left h)
theorem core_step {l : List Nat} {i n : Nat} (h : l[i]? = some n) : coreOf (l.take (i + 1)) = coreOf (l.take i) &&& n := by
  unfold coreOf
  rw [List.take_add_one, h, Option.toList_some, List.foldl_append]
  rfl
theorem popc_facts : ∀ k, k < 16 → popc k ≤ 4 ∧ (k ≠ 0 → 1 ≤ popc k) := by decide +kernel
/-- the orders of so many flags -/
def fac4 (i : Nat) : Int := ([1, 1, 2, 6] : List Int).getD i 0
theorem fac4_le (i : Nat) : 0 ≤ ([1, 1, 2, 6] : List Int).getD i 0 ∧ ([1, 1, 2, 6] : List Int).getD i 0 ≤ 6 := by
  match i with
  | 0 | 1 | 2 | 3 => decide
  | n + 4 => exact ⟨Int.le_refl 0, (by decide : (0 : Int) ≤ 6)⟩
def dueF (fam : List Nat) (k : Nat) : Int := if within fam k = [] then 0 else (popc (coreOf (within fam k)) : Int) * fac4 (popc k - 1) * fac4 (4 - popc k)
def around (fam : List Nat) (k : Nat) : List Nat := fam.filter fun o => o &&& k == k
def joinOf (l : List Nat) : Nat := l.foldl (fun c o => c ||| o) 0
theorem join_step {l : List Nat} {i n : Nat} (h : l[i]? = some n) : joinOf (l.take (i + 1)) = joinOf (l.take i) ||| n := by
  unfold joinOf
  rw [List.take_add_one, h, Option.toList_some, List.foldl_append]
  rfl
theorem or_nat16 : ∀ a, a < 16 → ∀ b, b < 16 → Builtin.bitOr ((a : Nat) : Int) ((b : Nat) : Int) = ((a ||| b : Nat) : Int) ∧ a ||| b < 16 := by decide +kernel
theorem or_nat {a b : Nat} (ha : a < 16) (hb : b < 16) : Builtin.bitOr ((a : Nat) : Int) ((b : Nat) : Int) = ((a ||| b : Nat) : Int) := (or_nat16 a ha b hb).1
theorem or_lt {a b : Nat} (ha : a < 16) (hb : b < 16) : a ||| b < 16 := (or_nat16 a ha b hb).2
theorem popc_facts2 : ∀ k, k < 16 → k ≠ 15 → popc k ≤ 3 := by decide +kernel
def dueL (fam : List Nat) (k : Nat) : Int := if around fam k = [] then 0 else if k = 15 then 24 else (4 - (popc (joinOf (around fam k)) : Int)) * fac4 (popc k) * fac4 (3 - popc k)
section
local macro_rules | `(tactic| walk_at "exec Assign cons ListComp") => `(tactic| (k_dflt (refine Assign_atT (F₀ := by k_asm) (by rfl) (by with_unfolding_all rfl) (by rfl) (by decide) (by rfl) (by decide) (by rfl) (by rfl) (by rfl) ?_)))
local macro_rules | `(tactic| walk_at "exec For Name Name cons nil") => `(tactic| (k_dflt (refine For_at ?_)))
local macro_rules | `(tactic| walk_at "call ref") => `(tactic| (k_dflt (refine count_spec (Frag.In.keeps (by assumption) (Fr.keep (by k_asm))) (Top.keeps (by assumption) (Fr.keep (by k_asm))) (okDeep _) (by assumption) ?_); intro t' h' tk' up'; (have F' := frUp (by k_asm) up'); (have N' := newsUp (by k_asm) up'); (try k_sweep)))

theorem due1_spec {prog : Program} {w : World} {A : Around} {s : Shared} {Q E : Value → Shared → Prop} {p : Program} {loose : List Str} {mean : ExcName → Option Value} {mg mb : Str → Option Value}
    (X : (hd.heap_39 w.params).In s.heap) (T : Top p loose mean mg mb s.heap) (ok : Ok A AM) {a : Addr} {vs : List Value} {fam : List Nat} {k : Nat} {t : Tok} (hl : s.heap.IsList a vs.toArray) (hi : IntsAre vs (zs fam)) (hn : fam.length = 3) (hfam : ∀ o ∈ fam, 1 ≤ o ∧ o < 16) (hk : k < 16)
    (h : ∀ t' h' tk', Up s.heap h' → Q (.int (dueF fam k) t') { s with heap := h', toks := tk' }) :
    wpAny (model prog w) A (call (.ref 74) [.ref a, .int (k : Int) t]) Q E s := by
  have hvl : vs.length = 3 := by rw [hi.length, List.length_map, hn]
  refine ok.byM ?_
  refine enterC X T (by k_is) (by k_is) (by decide) (BindsTo.of_eq rfl) rfl (by decide +kernel) rfl rfl rfl ?_
  intro L h₁ tk cells F N Y
  k_cells Y
  show wpAny _ _ _ _ _ _
  k_fold
  k_steps
  refine CompAtT.list (its := vs.toArray) (fun i ys => IntsAre ys (zs ((fam.take i).filter fun o => o &&& k == o))) rfl (by k_asm) (by k_asm) (.inl hl) (by rw [sizeLine_eq, List.size_toArray]; omega) .nil ?_ ?_
  · rintro i ys v I oI C oC D m₂ hh tk hG hv hC hx F1 N1 off ne
    obtain ⟨o, to, rfl, ho⟩ := hi.at i v (by simpa using hv)
    obtain ⟨n, hn1, rfl⟩ := zs_at ho
    k_steps
    · rename Builtin.bitAnd _ _ = _ => hb
      rw [and_nat'] at hb
      exact EltEnd.go (fun _ _ e => e) (filt_in hG hn1 (by simp; omega))
    · rename Builtin.bitAnd _ _ ≠ _ => hb
      rw [and_nat'] at hb
      exact EltEnd.go (fun _ _ e => e) (filt_out hG hn1 (by simp; omega))
  · rintro g ys hG
    rw [List.take_of_length_le (by rw [List.size_toArray]; omega)] at hG
    k_steps
    · rename decide _ = true => hne
      have hw : within fam k = [] := List.map_eq_nil_iff.mp (of_decide_eq_true hne)
      have e9 : dueF fam k = 0 := if_pos hw
      rw [e9] at h
      rename Fr _ _ _ _ => F9
      exact h _ _ _ F9.keep
    · rename decide _ = false => hne
      have hk0 : k ≠ 0 := by
        rintro rfl
        apply of_decide_eq_false hne
        rw [List.map_eq_nil_iff, List.filter_eq_nil_iff]
        intro o ho
        have := hfam o ho
        simp
        omega
      obtain ⟨hp1, hp2⟩ := popc_facts k hk
      have hp3 := hp2 hk0
      have hyl := hG.length
      refine ForAt.listM (its := ys.toArray) (fun m news i m₁ news₁ => news₁ = news ∧ ∃ (c : Nat) (tc : Tok) (vo : Option Value), m₁ = (fun y => if y = Str.ofString "one" then vo else if y = Str.ofString "core" then some (.int (c : Int) tc) else m y) ∧ c = coreOf ((within fam k).take i) ∧ c < 16) rfl (by k_asm) (by k_asm) ?_ ?_ ?_ ?_
      · rintro i m' news' ⟨rfl, -⟩
        exact .inr ⟨_, by k_mem, rfl, _, rfl⟩
      · refine ⟨rfl, 15, ?tc, none, ?eq, rfl, by decide⟩
        case' eq =>
          funext y
          by_cases h1 : y = Str.ofString "one"
          · subst h1; rfl
          · by_cases h2 : y = Str.ofString "core"
            · subst h2; rfl
            · simp only [h1, h2, if_false]
      · rintro I oI i v m₁ news₁ hh tk hv ⟨rfl, c, tc, vo, rfl, hc, hc16⟩ F1 N1 off1
        obtain ⟨o, to, rfl, ho⟩ := hG.at i v (by simpa using hv)
        obtain ⟨n, hn1, rfl⟩ := zs_at ho
        k_steps
        rename Fr _ _ _ _ => F9
        rename News _ _ _ _ => N9
        rw [and_nat'] at F9
        refine ForEnd.go F9 N9 _ (fun _ h => h) off1 ⟨rfl, c &&& n, ?tc1, ?vo1, ?eq1, ?_, Nat.lt_of_le_of_lt Nat.and_le_left hc16⟩
        case' eq1 =>
          funext y
          by_cases h1 : y = Str.ofString "one"
          · subst h1; rfl
          · by_cases h2 : y = Str.ofString "core"
            · subst h2; rfl
            · simp only [h1, h2, if_false]
        exact hc ▸ (core_step hn1).symm
      · rintro m' news' hh tk ⟨rfl, c, tc, vo, rfl, hc, hc16⟩ F1 N1
        have hw : ¬ within fam k = [] := fun e => of_decide_eq_false hne (by show List.map _ (within fam k) = []; rw [e]; rfl)
        have e8 : (within fam k).take ys.toArray.size = within fam k := List.take_of_length_le (by rw [List.size_toArray, hyl, List.length_map]; exact Nat.le_refl _)
        rw [e8] at hc
        have e9 : dueF fam k = (popc c : Int) * fac4 (popc k - 1) * fac4 (4 - popc k) := by rw [hc]; exact if_neg hw
        rw [e9] at h
        k_steps
        refine P.mul_int ?_ (hm := IntMulOk.of_right (intBits_le_64 (by have := fac4_le ((popc k : Int) - 1).toNat; omega) (by have := fac4_le ((popc k : Int) - 1).toNat; omega)))
        k_steps
        refine P.mul_int ?_ (hm := IntMulOk.of_right (intBits_le_64 (by have := fac4_le (4 - (popc k : Int)).toNat; omega) (by have := fac4_le (4 - (popc k : Int)).toNat; omega)))
        rename Fr _ _ _ _ => F9
        have e7 : ((popc k : Int) - 1).toNat = popc k - 1 := by omega
        have e6 : (4 - (popc k : Int)).toNat = 4 - popc k := by omega
        rw [e7, e6]
        exact h _ _ _ F9.keep
theorem due2_spec {prog : Program} {w : World} {A : Around} {s : Shared} {Q E : Value → Shared → Prop} {p : Program} {loose : List Str} {mean : ExcName → Option Value} {mg mb : Str → Option Value}
    (X : (hd.heap_39 w.params).In s.heap) (T : Top p loose mean mg mb s.heap) (ok : Ok A AM) {a : Addr} {vs : List Value} {fam : List Nat} {k : Nat} {t : Tok} (hl : s.heap.IsList a vs.toArray) (hi : IntsAre vs (zs fam)) (hn : fam.length = 3) (hfam : ∀ o ∈ fam, 1 ≤ o ∧ o < 16) (hk : k < 16)
    (h : ∀ t' h' tk', Up s.heap h' → Q (.int (dueL fam k) t') { s with heap := h', toks := tk' }) :
    wpAny (model prog w) A (call (.ref 79) [.ref a, .int (k : Int) t]) Q E s := by
  have hvl : vs.length = 3 := by rw [hi.length, List.length_map, hn]
  refine ok.byM ?_
  refine enterC X T (by k_is) (by k_is) (by decide) (BindsTo.of_eq rfl) rfl (by decide +kernel) rfl rfl rfl ?_
  intro L h₁ tk cells F N Y
  k_cells Y
  show wpAny _ _ _ _ _ _
  k_fold
  k_steps
  refine CompAtT.list (its := vs.toArray) (fun i ys => IntsAre ys (zs ((fam.take i).filter fun o => o &&& k == k))) rfl (by k_asm) (by k_asm) (.inl hl) (by rw [sizeLine_eq, List.size_toArray]; omega) .nil ?_ ?_
  · rintro i ys v I oI C oC D m₂ hh tk hG hv hC hx F1 N1 off ne
    obtain ⟨o, to, rfl, ho⟩ := hi.at i v (by simpa using hv)
    obtain ⟨n, hn1, rfl⟩ := zs_at ho
    k_steps
    · rename Builtin.bitAnd _ _ = _ => hb
      rw [and_nat'] at hb
      exact EltEnd.go (fun _ _ e => e) (filt_in hG hn1 (by simp; omega))
    · rename Builtin.bitAnd _ _ ≠ _ => hb
      rw [and_nat'] at hb
      exact EltEnd.go (fun _ _ e => e) (filt_out hG hn1 (by simp; omega))
  · rintro g ys hG
    rw [List.take_of_length_le (by rw [List.size_toArray]; omega)] at hG
    k_steps
    · rename decide _ = true => hne
      have hw : around fam k = [] := List.map_eq_nil_iff.mp (of_decide_eq_true hne)
      have e9 : dueL fam k = 0 := if_pos hw
      rw [e9] at h
      rename Fr _ _ _ _ => F9
      exact h _ _ _ F9.keep
    · rename decide _ = false => hne
      rename ((k : Int) = 15) => hk15
      have hk15' : k = 15 := by omega
      have hw : ¬ around fam k = [] := fun e => of_decide_eq_false hne (by show List.map _ (around fam k) = []; rw [e]; rfl)
      have e9 : dueL fam k = 24 := (if_neg hw).trans (if_pos hk15')
      rw [e9] at h
      rename Fr _ _ _ _ => F9
      exact h _ _ _ F9.keep
    · rename decide _ = false => hne
      rename ((k : Int) ≠ 15) => hk15
      have hk15' : k ≠ 15 := by omega
      have hp1 := popc_facts2 k hk hk15'
      have hfam2 : ∀ (n : Nat) {i : Nat}, (List.filter (fun o => o &&& k == k) fam)[i]? = some n → n < 16 := fun n i hh => (hfam n ((List.mem_filter.mp (List.mem_of_getElem? hh)).1)).2
      have hyl := hG.length
      refine ForAt.listM (its := ys.toArray) (fun m news i m₁ news₁ => news₁ = news ∧ ∃ (c : Nat) (tc : Tok) (vo : Option Value), m₁ = (fun y => if y = Str.ofString "one" then vo else if y = Str.ofString "joined" then some (.int (c : Int) tc) else m y) ∧ c = joinOf ((around fam k).take i) ∧ c < 16) rfl (by k_asm) (by k_asm) ?_ ?_ ?_ ?_
      · rintro i m' news' ⟨rfl, -⟩
        exact .inr ⟨_, by k_mem, rfl, _, rfl⟩
      · refine ⟨rfl, 0, ?tc, none, ?eq, rfl, by decide⟩
        case' eq =>
          funext y
          by_cases h1 : y = Str.ofString "one"
          · subst h1; rfl
          · by_cases h2 : y = Str.ofString "joined"
            · subst h2; rfl
            · simp only [h1, h2, if_false]
      · rintro I oI i v m₁ news₁ hh tk hv ⟨rfl, c, tc, vo, rfl, hc, hc16⟩ F1 N1 off1
        obtain ⟨o, to, rfl, ho⟩ := hG.at i v (by simpa using hv)
        obtain ⟨n, hn1, rfl⟩ := zs_at ho
        k_steps
        rename Fr _ _ _ _ => F9
        rename News _ _ _ _ => N9
        rw [or_nat hc16 (hfam2 n hn1)] at F9
        refine ForEnd.go F9 N9 _ (fun _ h => h) off1 ⟨rfl, c ||| n, ?tc1, ?vo1, ?eq1, ?_, or_lt hc16 (hfam2 n hn1)⟩
        case' eq1 =>
          funext y
          by_cases h1 : y = Str.ofString "one"
          · subst h1; rfl
          · by_cases h2 : y = Str.ofString "joined"
            · subst h2; rfl
            · simp only [h1, h2, if_false]
        exact hc ▸ (join_step hn1).symm
      · rintro m' news' hh tk ⟨rfl, c, tc, vo, rfl, hc, hc16⟩ F1 N1
        have hw : ¬ around fam k = [] := fun e => of_decide_eq_false hne (by show List.map _ (around fam k) = []; rw [e]; rfl)
        have e8 : (around fam k).take ys.toArray.size = around fam k := List.take_of_length_le (by rw [List.size_toArray, hyl, List.length_map]; exact Nat.le_refl _)
        rw [e8] at hc
        have e9 : dueL fam k = (4 - (popc c : Int)) * fac4 (popc k) * fac4 (3 - popc k) := by rw [hc]; exact (if_neg hw).trans (if_neg hk15')
        rw [e9] at h
        k_steps
        refine P.mul_int ?_ (hm := IntMulOk.of_right (intBits_le_64 (by have := fac4_le ((popc k : Int)).toNat; omega) (by have := fac4_le ((popc k : Int)).toNat; omega)))
        k_steps
        refine P.mul_int ?_ (hm := IntMulOk.of_right (intBits_le_64 (by have := fac4_le (3 - (popc k : Int)).toNat; omega) (by have := fac4_le (3 - (popc k : Int)).toNat; omega)))
        rename Fr _ _ _ _ => F9
        have e7 : ((popc k : Int)).toNat = popc k := by omega
        have e6 : (3 - (popc k : Int)).toNat = 3 - popc k := by omega
        rw [e7, e6]
        exact h _ _ _ F9.keep
end
end Mine
theorem Mine.anew30 {prog : Program} {w : World} {A : Around} {s : Shared} : wpAny (model prog w) A (truthy (.bool true)) (fun _ _ => True) (fun _ _ => False) s := by
  w_top off
  walk1
  trivial
namespace Mine

/-- the rows of a list of lists of small numbers stand in the ledger -/
def Rows (news : List (Addr × Obj)) (ys : List Value) (rows : List (List Nat)) : Prop :=
  ys.length = rows.length ∧ ∀ (i : Nat) (row : List Nat), rows[i]? = some row → ∃ (a : Addr) (vs : List Value) (n : Nat), ys[i]? = some (Value.ref a) ∧ (a, W.listOf vs.toArray n) ∈ news ∧ IntsAre vs (zs row)
def putIn (f : Nat) (row : List Nat) : List (List Nat) := (List.range (row.length + 1)).map fun k => row.take k ++ [f] ++ row.drop k
def flagsL : List Nat := [1, 2, 4, 8]
def stage : Nat → List (List Nat)
  | 0 => [[]]
  | i + 1 => (stage i).flatMap (putIn (flagsL.getD i 0))

def AssignHere (prog : Program) (w : World) (A : Around) (env : Env) (st : Stmt) (Q : Flow → Shared → Prop) (s : Shared) : Prop := wpAny (model prog w) A (exec st env) Q NoE s
theorem Assign_here {prog : Program} {w : World} {A : Around} {env : Env} {st : Stmt} {Q : Flow → Shared → Prop} {E : Value → Shared → Prop} {s : Shared} (h : AssignHere prog w A env st Q s) :
    wpAny (model prog w) A (exec st env) Q E s := wpAny_mono h (fun _ _ x => x) (fun _ _ x => x.elim)
theorem Rows.snoc {news : List (Addr × Obj)} {ys : List Value} {R : List (List Nat)} {D : Addr} {ws : List Value} {r : List Nat} (h : Rows news ys R) (hi : IntsAre ws (zs r)) : Rows ((D, W.listOf ws.toArray 0) :: news) (ys ++ [.ref D]) (R ++ [r]) := by
  refine ⟨by rw [List.length_append, List.length_append, h.1]; rfl, fun i row hr => ?_⟩
  by_cases hlt : i < R.length
  · rw [List.getElem?_append_left hlt] at hr
    obtain ⟨a, vs, n, h1, h2, h3⟩ := h.2 i row hr
    exact ⟨a, vs, n, by rw [List.getElem?_append_left (by rw [h.1]; exact hlt)]; exact h1, .tail _ h2, h3⟩
  · rw [List.getElem?_append_right (by omega)] at hr
    have hi0 : i - R.length = 0 := by
      have := (List.getElem?_eq_some_iff.mp hr).1
      simp at this
      omega
    rw [hi0] at hr
    cases hr
    exact ⟨D, ws, 0, by rw [List.getElem?_append_right (by rw [h.1]; omega), h.1, hi0]; rfl, .head _, hi⟩
theorem putIn_at (f : Nat) (row : List Nat) {j : Nat} (hj : j < row.length + 1) : (putIn f row)[j]? = some (row.take j ++ [f] ++ row.drop j) := by
  unfold putIn
  rw [List.getElem?_map, List.getElem?_range hj]
  rfl
theorem zs_put (f : Nat) (row : List Nat) (j : Nat) : (zs row).take ((j : Int)).toNat ++ [(f : Int)] ++ (zs row).drop ((j : Int)).toNat = zs (row.take j ++ [f] ++ row.drop j) := by
  rw [Int.toNat_natCast]
  simp [zs, List.map_take, List.map_drop]
theorem stage_facts : ∀ i, i < 4 → (stage i).length ≤ 24 ∧ ∀ r ∈ stage i, r.length ≤ 4 := by decide +kernel
section
local macro_rules | `(tactic| walk_at "exec Assign cons ListComp") => `(tactic| (k_dflt (refine Assign_here ?_)))
local macro_rules | `(tactic| k_all) => `(tactic| assumption)
local macro_rules | `(tactic| walk_at "subscriptTail Name Slice ref ref") => `(tactic| (k_dflt (refine' kmk_slice_ints ?F ?N ?l ?p ?q ?i ?m rfl ?_ ?s ?t ?z; (case F => k_asm); (case N => k_asm); (case l => exact News.isList (by k_asm) (by k_mem)); (case p => kmk_part); (case q => kmk_part); (case i => assumption); (case m => first | exact kmk_upto (by assumption) (Int.natCast_nonneg _) | exact kmk_from (by assumption) (Int.natCast_nonneg _)); (case s => with_unfolding_all rfl); (case t => kmk_pure); (case z => exact Nat.le_trans (by assumption) (by decide : 10 ≤ 16777216))); intro D' ws' h' F' N' l1 hI' hC' hL'; (try k_lt l1); (try k_sweep)))
local macro_rules | `(tactic| walk_at "exec For Name List cons nil") => `(tactic| (k_dflt (refine For_at ?_)))
theorem ord_spec {prog : Program} {w : World} {A : Around} {s : Shared} {Q E : Value → Shared → Prop} {p : Program} {loose : List Str} {mean : ExcName → Option Value} {mg mb : Str → Option Value}
    (X : (hd.heap_39 w.params).In s.heap) (T : Top p loose mean mg mb s.heap) (ok : Ok A AL)
    (h : ∀ D ys k rws h' tk', Up s.heap h' → (∀ p ∈ (D, W.listOf (List.toArray ys) k) :: rws, h'.get? p.1 = some p.2 ∧ s.heap.get? p.1 = none) → Rows rws ys (stage 4) → Q (.ref D) { s with heap := h', toks := tk' }) :
    wpAny (model prog w) A (call (.ref 69) []) Q E s := by
  refine ok.by ?_
  refine enterC X T (by k_is) (by k_is) (by decide) (BindsTo.of_eq rfl) rfl (by decide +kernel) rfl rfl rfl ?_
  intro L h₁ tk cells F N Y
  k_cells Y
  show wpAny _ _ _ _ _ _
  k_fold
  k_steps
  rename_i o1 d1 r0 hr0 lr0 D0 hD0 lD0 h9 lf hlf F0 N0 llf
  generalize hvf : #[Value.int 1 _, Value.int 2 _, Value.int 4 _, Value.int 8 _] = vf at N0
  have hfl : IntsAre vf.toList (zs flagsL) := by
    rw [← hvf]
    exact .cons _ _ (.cons _ _ (.cons _ _ (.cons _ _ .nil)))
  have hvs : vf.size = 4 := by rw [← hvf]; rfl
  clear hvf
  have N1' : News s.heap L hlf [(lf, W.listOf vf 0), (L + 1, o1), (D0, W.listOf [Value.ref r0].toArray 0), (r0, W.listOf #[] 0)] := by
    intro p hp
    apply N0
    simp only [List.mem_cons, List.not_mem_nil, or_false] at hp ⊢
    rcases hp with h | h | h | h <;> simp only [h, true_or, or_true]
  clear N0
  refine ForAt.listM (its := vf) (fun m news i m₁ news₁ => ∃ (D : Addr) (ys : List Value) (k : Nat) (rws : List (Addr × Obj)) (oc : Obj) (v : Option Value), m₁ = (fun y => if y = Str.ofString "orders" then some (.ref D) else m y) ∧
     news₁ = (lf, W.listOf vf 0) :: (L + 1, oc) :: (D, W.listOf ys.toArray k) :: rws ∧ oc.data = .cell v ∧ Rows rws ys (stage i) ∧ (@Ne Nat lf (L + 1)) ∧ (@Ne Nat D lf) ∧ (@Ne Nat D (L + 1)) ∧ ∀ p ∈ rws, p.1 ≠ L + 1) rfl F0 N1' ?_ ?_ ?_ ?_
  · rintro i m' news' ⟨D, ys, k, rws, oc, v, rfl, rfl, -⟩
    exact .inr ⟨_, by k_mem, rfl, _, rfl⟩
  · refine ⟨D0, [.ref r0], 0, [(r0, W.listOf #[] 0)], o1, _, ?_, rfl, d1, ⟨rfl, fun i row hr => ?_⟩, Nat.ne_of_gt (by omega), Nat.ne_of_lt (by omega), Nat.ne_of_gt (by omega), fun p hp => ?_⟩
    · funext y
      by_cases h1 : y = Str.ofString "orders"
      · subst h1; rfl
      · simp only [h1, if_false]
    · match i, hr with
      | 0, hr =>
        cases hr
        exact ⟨r0, [], 0, rfl, .head _, .nil⟩
    · rw [List.mem_singleton.mp hp]
      exact Nat.ne_of_gt (by omega)
  · rintro I oI i v m₁ news₁ hh tk hv ⟨D, ys, k, rws, oc, v0, rfl, rfl, hoc, hR, hn1, hn2, hn3, hn4⟩ F1 N1 off1
    simp only [LCg.Off1] at off1
    k_steps
    rename_i h8 o8 F8 N8 d8
    obtain ⟨fz, tf, rfl, hfz⟩ := hfl.at i v (by simpa using hv)
    obtain ⟨f, hf, rfl⟩ := zs_at hfz
    have hys := hR.1
    have hi4 : i < 4 := (List.getElem?_eq_some_iff.mp hf).1
    refine Assign_at2 F8 (ax := D) (its := ys.toArray) (fun i2 ys2 news2 => ∃ rws2, news2 = (I, oI) :: (lf, W.listOf vf 0) :: (L + 1, o8) :: (D, W.listOf ys.toArray k) :: rws2 ∧ (∀ p ∈ rws, p ∈ rws2) ∧ (∀ p ∈ rws2, p.1 ≠ L + 1) ∧ (∀ p ∈ rws2, p.1 ≠ I) ∧
      Rows rws2 ys2 (((stage i).take i2).flatMap (putIn f))) rfl (by with_unfolding_all rfl) (by rfl) (by decide) (by rfl) (by decide) (by rfl) (by rfl) (by decide) (by rfl) (by rfl) (by rfl) ?_ (by intro _; rfl) (by intro _ _; rfl)
    k_steps
    refine ⟨_, rfl, F8, N8, ?_, ⟨rws, rfl, fun _ h => h, hn4, off1_mem off1.2.2.2, rfl, fun i row h => by simp at h⟩, by rw [List.size_toArray, hys]; have := (stage_facts i hi4).1; omega, ?_, ?_⟩
    · rintro i2 ys2 news2 ⟨rws2, rfl, -⟩
      exact .inr ⟨_, by k_mem, rfl, _, rfl⟩
    · rintro I0 C Dc n0C n0D nCD i2 v2 ys2 news2 oC m2 oI0 h7 tk7 hv2 ⟨rws2, rfl, hsub, hr1, hr2, hR2⟩ hC hx F7 N7 off7
      have hlt : i2 < (stage i).length := by
        rw [← hys]
        exact (List.getElem?_eq_some_iff.mp (by simpa using hv2)).1
      obtain ⟨a, vs, n, hya, hmem, hints⟩ := hR.2 i2 _ (List.getElem?_eq_getElem hlt)
      have hv3 : v2 = .ref a := by
        have : ys[i2]? = some v2 := by simpa using hv2
        rw [hya] at this
        exact (Option.some.inj this).symm
      subst hv3
      have N6 : News s.heap L h7 ((a, W.listOf vs.toArray n) :: (I0, oI0) :: (C, oC) :: (Dc, LCg.lst ys2) :: (I, oI) :: (lf, W.listOf vf 0) :: (L + 1, o8) :: (D, W.listOf ys.toArray k) :: rws2) := fun p hp => by
        rcases List.mem_cons.mp hp with rfl | hp
        · exact N7 _ (.tail _ (.tail _ (.tail _ (.tail _ (.tail _ (.tail _ (.tail _ (hsub _ hmem))))))))
        · exact N7 p hp
      clear N7
      have hvl := hints.length
      have hrl : (stage i)[i2].length ≤ 4 := (stage_facts i hi4).2 _ (List.getElem_mem hlt)
      have hvz : vs.toArray.size ≤ 10 := by rw [List.size_toArray, hvl, List.length_map]; omega
      k_steps
      rename IsRange _ _ _ _ _ _ _ _ => hr6
      rename Fr _ _ _ _ => F5
      rename News _ _ _ _ => N5
      generalize hrow : (stage i)[i2] = row at *
      have e5 : (((zs row).length : Int) + 1) = ((row.length + 1 : Nat) : Int) := by rw [List.length_map]; omega
      rw [e5] at hr6
      refine ⟨_, row.length + 1, _, _, _, _, _, (fun j ys3 news3 => ∃ rws3, news3 = (I, oI) :: (lf, W.listOf vf 0) :: (L + 1, o8) :: (D, W.listOf ys.toArray k) :: rws3 ∧ (∀ p ∈ rws, p ∈ rws3) ∧ (∀ p ∈ rws3, p.1 ≠ L + 1) ∧ (∀ p ∈ rws3, p.1 ≠ I) ∧
        Rows rws3 ys3 (((stage i).take i2).flatMap (putIn f) ++ (putIn f row).take j)), rfl, rfl, F5, (fun p hp => N5 p (.tail _ hp)), hr6, by have := hrl; omega, ⟨rws2, rfl, hsub, hr1, hr2, by simpa using hR2⟩, ?_, ?_⟩
      · rintro ys3 news3 ⟨rws3, rfl, h31, h32, h33, hR3⟩
        refine ⟨rws3, rfl, h31, h32, h33, ?_⟩
        have e4 : (putIn f row).take (row.length + 1) = putIn f row := List.take_of_length_le (by simp [putIn])
        rw [e4] at hR3
        rw [List.take_add_one, List.getElem?_eq_getElem hlt, hrow, Option.toList_some, List.flatMap_append, List.flatMap_cons, List.flatMap_nil, List.append_nil]
        exact hR3
      · rintro I1 d0 dC dD j tj ys3 news3 oC3 m3 oI1 h6 tk6 hj ⟨rws3, rfl, h31, h32, h33, hR3⟩ hC3 hx3 hk3 F6 N6 off6
        have N4 : News s.heap L h6 ((a, W.listOf vs.toArray n) :: (I1, oI1) :: (I0, oI0) :: (C, oC3) :: (Dc, LCg.lst ys3) :: (I, oI) :: (lf, W.listOf vf 0) :: (L + 1, o8) :: (D, W.listOf ys.toArray k) :: rws3) := fun p hp => by
          rcases List.mem_cons.mp hp with rfl | hp
          · exact N6 _ (.tail _ (.tail _ (.tail _ (.tail _ (.tail _ (.tail _ (.tail _ (.tail _ (h31 _ hmem)))))))))
          · exact N6 p hp
        clear N6 F5 N5 hr6
        k_steps
        rename_i Dn ws hn9 Fn Nn hin ln
        rw [zs_put] at hin
        refine ⟨hn9, _, (I, oI) :: (lf, W.listOf vf 0) :: (L + 1, o8) :: (D, W.listOf ys.toArray k) :: (Dn, W.listOf ws.toArray 0) :: rws3, rfl, Fn, ?_, ?_, (Dn, W.listOf ws.toArray 0) :: rws3, rfl, fun p hp => .tail _ (h31 p hp), ?_, ?_, ?_⟩
        · intro p hp
          simp only [List.mem_cons] at hp
          apply Nn
          simp only [List.mem_cons]
          rcases hp with h | h | h | h | h | h | h | h | h | h <;> simp only [h, true_or, or_true]
        · intro p hp
          simp only [List.mem_cons] at hp
          rcases hp with rfl | rfl | rfl | rfl | rfl | hp
          · exact off6 _ (.head _)
          · exact off6 _ (.tail _ (.head _))
          · exact off6 _ (.tail _ (.tail _ (.head _)))
          · exact off6 _ (.tail _ (.tail _ (.tail _ (.head _))))
          · simp only [List.mem_cons, List.not_mem_nil, or_false]
            rintro (h | h | h | h) <;> exact absurd h (Nat.ne_of_gt (by omega))
          · exact off6 p (.tail _ (.tail _ (.tail _ (.tail _ hp))))
        · intro p hp
          rcases List.mem_cons.mp hp with rfl | hp
          · exact Nat.ne_of_gt (by omega)
          · exact h32 p hp
        · intro p hp
          rcases List.mem_cons.mp hp with rfl | hp
          · exact Nat.ne_of_gt (by omega)
          · exact h33 p hp
        · rw [List.take_add_one, putIn_at f row hj, Option.toList_some, ← List.append_assoc]
          exact hR3.snoc hin
    · rintro Dn ys2 news2 h7 tk7 ⟨rws2, rfl, hsub, hr1, hr2, hR2⟩ F7 N7 off7
      simp only [LCg.Off1] at off7
      k_steps
      rename Fr _ _ _ _ => F6
      rename News _ _ _ _ => N6
      refine ForEnd.go F6 N6 ((lf, W.listOf vf 0) :: (L + 1, o8) :: (Dn, LCg.lst ys2) :: rws2) ?_ ?_ ⟨Dn, ys2, ys2.length, rws2, o8, _, ?_, rfl, d8, ?_, hn1, Ne.symm off7.2.1, Ne.symm off7.2.2.1, hr1⟩
      · intro p hp
        simp only [List.mem_cons] at hp ⊢
        rcases hp with h | h | h | h | h <;> simp only [h, true_or, or_true]
      · exact ⟨off1.1, off1.2.1, Ne.symm off7.1, off1_of hr2⟩
      · funext y
        by_cases h1 : y = Str.ofString "orders"
        · subst h1; rfl
        · simp only [h1, if_false]
      · have e4 : (stage i).take ys.toArray.size = stage i := List.take_of_length_le (by rw [List.size_toArray, hys]; exact Nat.le_refl _)
        rw [e4] at hR2
        have e3 : stage (i + 1) = (stage i).flatMap (putIn f) := by
          show (stage i).flatMap (putIn (flagsL.getD i 0)) = _
          rw [List.getD_eq_getElem?_getD, hf]
          rfl
        rw [e3]
        exact hR2
  · rintro m' news' hh tk ⟨D, ys, k, rws, oc, v0, rfl, rfl, hoc, hR, -⟩ F1 N1
    rw [hvs] at hR
    k_steps
    rename Fr _ _ _ _ => F2
    rename News _ _ _ _ => N2
    refine h D ys k rws _ _ F2.keep (fun p hp => ?_) hR
    have := N2 p (.tail _ (.tail _ hp))
    exact ⟨this.1, this.2.2⟩
end
end Mine
theorem Mine.anew32 {prog : Program} {w : World} {A : Around} {s : Shared} : wpAny (model prog w) A (truthy (.bool true)) (fun _ _ => True) (fun _ _ => False) s := by
  w_top off
  walk1
  trivial
namespace Mine
section
local macro_rules | `(tactic| walk_at "exec For Name Call cons nil") => `(tactic| (k_dflt (refine For_at ?_)))
theorem drawn_spec {prog : Program} {w : World} {A : Around} {s : Shared} {Q E : Value → Shared → Prop} {p : Program} {loose : List Str} {mean : ExcName → Option Value} {mg mb : Str → Option Value}
    (X : (hd.heap_39 w.params).In s.heap) (T : Top p loose mean mg mb s.heap) (ok : Ok A AL) {a b : Addr} {vs vb : List Value} {ns bs : List Int} (hl : s.heap.IsList a vs.toArray) (hi : IntsAre vs ns) (hn : ns.length ≤ 63)
    (hlb : s.heap.IsList b vb.toArray) (hib : IntsAre vb bs) (hbn : bs.length = 4) (hb0 : ∀ d ∈ bs, 0 ≤ d)
    (h : ∀ D ws k ds h' tk', Up s.heap h' → h'.get? D = some (W.listOf (List.toArray ws) k) → s.heap.get? D = none → IntsAre ws ds → ds.length = 4 → (∀ d ∈ ds, 0 ≤ d) → Q (.ref D) { s with heap := h', toks := tk' }) :
    wpAny (model prog w) A (call (.ref 54) [.ref a, .ref b]) Q E s := by
  refine ok.by ?_
  refine enterP X T (by k_is) (by k_is) (by decide) (BindsTo.of_eq rfl) (locs rfl) (by decide) rfl rfl rfl ?_
  intro L h₁ F N
  show wpAny _ _ _ _ _ _
  k_fold
  k_steps
  rename IsRange _ _ _ _ _ _ _ _ => hr
  rename Fr _ _ _ _ => F0
  rename News _ _ _ _ => N0
  generalize hnn : (if 60 < ns.length then 60 else ns.length) = nn at *
  have e1 : (if 60 < (ns.length : Int) then 60 else (ns.length : Int)) = (nn : Int) := by
    rw [← hnn]
    split <;> split <;> omega
  rw [e1] at hr
  have hnle : nn ≤ ns.length ∧ nn ≤ 60 := by rw [← hnn]; split <;> omega
  refine ForAt.rangeM (n := nn) (fun m news i m₁ news₁ => ∃ (vk : Option Value) (D : Addr) (ws : List Value) (ds : List Int) (c : Nat), m₁ = (fun y => if y = Str.ofString "k" then vk else m y) ∧ m (Str.ofString "drawn") = some (.ref D) ∧
     news₁ = [(D, W.listOf ws.toArray c)] ∧ IntsAre ws ds ∧ ds.length = 4 ∧ ∀ d ∈ ds, 0 ≤ d) rfl F0 N0 hr (small_one (by omega) (by omega) (by omega) (by omega)) (by rw [rangeSize_nat]; omega) ?_ ?_ ?_
  · refine ⟨none, _, vb, bs, _, ?_, rfl, rfl, hib, hbn, hb0⟩
    funext y
    by_cases h1 : y = Str.ofString "k"
    · subst h1; rfl
    · simp only [h1, if_false]
  · rintro I oI i t m₁ news₁ hh tk hi9 ⟨vk, D, ws, ds, c, rfl, hD, rfl, hws, hds, hd0⟩ F1 N1 off1
    have hD2 : some (Value.ref _) = some (Value.ref D) := hD
    cases hD2
    clear hD
    simp only [LCg.Off1, and_true] at off1
    have hq : (0 + (i : Int)).fmod (bs.length : Int) = ((i % 4 : Nat) : Int) := by
      rw [hbn, Int.zero_add, Int.fmod_eq_emod_of_nonneg _ (by decide)]
      omega
    have hq1 : 0 ≤ (0 + (i : Int)).fmod (bs.length : Int) := by rw [hq]; omega
    have hq2 : (0 + (i : Int)).fmod (bs.length : Int) < (ds.length : Int) := by rw [hq]; omega
    k_steps
    rename Fr _ _ _ _ => F9
    rename News _ _ _ _ => N9
    rename IntsAre (List.set _ _ _) _ => hi8
    refine ForEnd.go F9 N9 _ (fun _ h => h) ⟨off1, trivial⟩ ⟨some (.int (0 + (i : Int)) t), _, _, _, c, ?_, rfl, rfl, hi8, by rw [List.length_set]; exact hds, fun d hd => ?_⟩
    · funext y
      by_cases h1 : y = Str.ofString "k"
      · subst h1; rfl
      · simp only [h1, if_false]
    · rcases List.mem_or_eq_of_mem_set hd with h1 | h1
      · exact hd0 d h1
      · rw [h1]
        have h2 : 0 ≤ ds.getD ((0 + (i : Int)).fmod (bs.length : Int)).toNat 0 := by
          rw [List.getD_eq_getElem?_getD]
          cases q : ds[((0 + (i : Int)).fmod (bs.length : Int)).toNat]? with
          | none => exact Int.le_refl _
          | some x => exact hd0 x (List.mem_of_getElem? q)
        exact Int.add_nonneg h2 (Int.fmod_nonneg_of_pos _ (by decide))
  · rintro m' news' hh tk ⟨vk, D, ws, ds, c, rfl, hD, rfl, hws, hds, hd0⟩ F1 N1
    have hD2 : some (Value.ref _) = some (Value.ref D) := hD
    cases hD2
    clear hD
    k_steps
    have h9 := N1 _ (.head _)
    exact h _ ws c ds _ _ F1.keep h9.1 h9.2.2 hws hds hd0
end
end Mine
theorem Mine.anew34 {prog : Program} {w : World} {A : Around} {s : Shared} : wpAny (model prog w) A (truthy (.bool true)) (fun _ _ => True) (fun _ _ => False) s := by
  w_top off
  walk1
  trivial
namespace Mine
structure Seg (G : Prop) where
  P : Prop
  h : Hide P → G
/-- how law's body ends -/
def LawEnd (s : Shared) (g : Heap) (L : Addr) (f : Flow) (s' : Shared) : Prop := f = .ret (.bool true) ∧ ∃ h' tk' m news ps, s' = { s with heap := h', toks := tk' } ∧ Fr g L h' m ∧ News g L h' news ∧ (81, tabObj ps) ∈ news
theorem law_in {M : Model} {A : Around} {t : Sem Flow} {Q : Flow → Shared → Prop} {E : Value → Shared → Prop} {s₁ : Shared} {h₁ : Heap} {tk₁ : Nat} {g : Heap} {L : Addr}
    (h : wpAny M A t (LawEnd s₁ g L) NoE { s₁ with heap := h₁, toks := tk₁ }) (e : ∀ h' tk' m news ps, Fr g L h' m → News g L h' news → (81, tabObj ps) ∈ news → Q (.ret (.bool true)) { s₁ with heap := h', toks := tk' }) :
    wpAny M A t Q E { s₁ with heap := h₁, toks := tk₁ } := by
  refine wpAny_mono h (fun f s' x => ?_) (fun _ _ x => x.elim)
  obtain ⟨rfl, h', tk', m, news, ps, rfl, F, N, hm⟩ := x
  exact e h' tk' m news ps F N hm
theorem new_row {g h h' : Heap} {L D : Addr} {m : Str → Option Value} {o : Obj} (F : Fr g L h m) (h1 : h'.get? D = some o) (h2 : h.get? D = none) : h'.get? D = some o ∧ D ≠ L ∧ g.get? D = none := by
  refine ⟨h1, fun e => ?_, ?_⟩
  · obtain ⟨o, es, ep, e', _⟩ := F.ns
    rw [e, e'] at h2
    cases h2
  · cases e : g.get? D with
    | none => rfl
    | some o' => rw [F.keep _ _ e] at h2; cases h2
theorem new_ne {g h : Heap} {L D : Addr} {news : List (Addr × Obj)} (N : News g L h news) (h2 : h.get? D = none) : ∀ p ∈ news, p.1 ≠ D := fun p hp e => by
  have := (N p hp).1
  rw [e, h2] at this
  cases this
theorem ints4 {ws : List Value} {ds : List Int} (h : IntsAre ws ds) (hl : ds.length = 4) : ∃ n0 n1 n2 n3 t0 t1 t2 t3, ws = [.int n0 t0, .int n1 t1, .int n2 t2, .int n3 t3] ∧ ds = [n0, n1, n2, n3] := by
  cases h with
  | nil => cases hl
  | cons n0 t0 h =>
    cases h with
    | nil => cases hl
    | cons n1 t1 h =>
      cases h with
      | nil => cases hl
      | cons n2 t2 h =>
        cases h with
        | nil => cases hl
        | cons n3 t3 h =>
          cases h with
          | nil => exact ⟨n0, n1, n2, n3, t0, t1, t2, t3, rfl, rfl⟩
          | cons n4 t4 h => cases hl
theorem ints_snoc {ys : List Value} {ss : List Int} {i : Nat} {a : Int} {t : Tok} (f : Int → Int) (h : IntsAre ys ((ss.take i).map f)) (ha : ss[i]? = some a) : IntsAre (ys ++ [.int (f a) t]) ((ss.take (i + 1)).map f) := by
  rw [List.take_add_one, ha, Option.toList_some, List.map_append]
  exact h.append (.cons _ _ .nil)
theorem fam15 (n : Int) : ∃ f : Nat, 1 + n.fmod 15 = (f : Int) ∧ 1 ≤ f ∧ f < 16 := by
  have h1 := Int.fmod_nonneg_of_pos n (b := 15) (by decide)
  have h2 := Int.fmod_lt_of_pos n (b := 15) (by decide)
  exact ⟨(1 + n.fmod 15).toNat, by omega, by omega, by omega⟩
theorem shift5 (n : Int) : ∃ f : Nat, n.fmod 5 = (f : Int) ∧ f < 5 := by
  have h1 := Int.fmod_nonneg_of_pos n (b := 5) (by decide)
  have h2 := Int.fmod_lt_of_pos n (b := 5) (by decide)
  exact ⟨(n.fmod 5).toNat, by omega, by omega⟩
def namesL : List Str := [Str.ofString "OPTIMIZED", Str.ofString "NEWLOCALS", Str.ofString "VARARGS", Str.ofString "VARKEYWORDS", Str.ofString "NESTED", Str.ofString "GENERATOR", Str.ofString "NOFREE", Str.ofString "COROUTINE"]
theorem cell5 {o : Obj} {n : Int} {t : Tok} (d : o.data = .cell (some (.int (n.fmod 5) t))) : ∃ (sh : Nat) (t : Tok), o.data = .cell (some (.int (sh : Int) t)) ∧ sh < 5 := by
  obtain ⟨sh, e, h⟩ := shift5 n
  exact ⟨sh, t, e ▸ d, h⟩
theorem okLaw (env : Env) : Ok (callerA.deeper env) AM := ⟨rfl, Nat.le_of_ble_eq_true rfl, Nat.le_of_ble_eq_true rfl⟩
theorem okLaw' (env : Env) : Ok (callerA.deeper env) AL := ⟨rfl, Nat.le_of_ble_eq_true rfl, Nat.le_of_ble_eq_true rfl⟩
def seg1 : Seg PySem.Challenge.rw_qu0024_01.Holds := by
  apply Seg.mk
  case h =>
    intro hP
    refine hd ?_
    k_go0
    all_goals try k_fold
    rename_i w s₀ s₁ mg mb G Y fa o pm doc ho hg X V T B TE TW hcd script hs hlay0 hL1 hr1 hl2 w11 w10 a vals w7 hL ra w1 r0 hI hr hc1 hc2 hD h₁ tk₁ o6 o5 o4 o3 o2 o1 o0 d6 d5 d4 d3 d2 d1 d0 X0 X' T' K' F' N' l0
    refine law_in (g := ghostOf s₁.heap [(83, 81)]) (L := s₁.heap.objs.size) ?_ ?_
    · have hC : CodeHd (ghostOf s₁.heap [(83, 81)]) 83 81 := codeHd
      replace d6 : o6.data = .cell none := d6
      replace d5 : o5.data = .cell none := d5
      replace d4 : o4.data = .cell none := d4
      replace d3 : o3.data = .cell none := d3
      replace d2 : o2.data = .cell none := d2
      replace d1 : o1.data = .cell none := d1
      replace d0 : o0.data = .cell none := d0
      replace hc1 : script.length ≤ 63 := by omega
      replace F' : Fr (ghostOf s₁.heap [(83, 81)]) s₁.heap.objs.size h₁ (fun y => if y = Str.ofString "script" then some (.ref a) else none) := F'
      clear X0 K' hD hc2 hr r0 w1 ra hL hl2 hr1 hL1 hlay0 hs hcd TW TE B T V X hg ho hT8 hT9 codeHd Y G w7 w10 w11 doc pm o
      generalize s₁.heap.objs.size = L at *
      generalize ghostOf s₁.heap [(83, 81)] = g at *
      generalize ExcName.means s₀.heap = mean at *
      generalize (looseW hd.view_39 _ ++ _ ++ _ ++ _) = loose at *
      generalize Challenge.rw_qu0024_01.row.prog = prog at *
      revert prog w s₁ mg mb fa script a vals hI hc1 h₁ tk₁ o6 o5 o4 o3 o2 o1 o0 d6 d5 d4 d3 d2 d1 d0 L g mean loose X' T' F' N' l0 lifted hC
      exact hP.out
    · intro h' tk' m' news' ps' F N hm
      dsimp only
      refine ⟨?_, ?_⟩
      · kc_close
      · exact ⟨GrownAt.of N hm, trivial⟩
end Mine
theorem Mine.anew36 {prog : Program} {w : World} {A : Around} {s : Shared} : wpAny (model prog w) A (truthy (.bool true)) (fun _ _ => True) (fun _ _ => False) s := by
  w_top off
  walk1
  trivial
namespace Mine
section
local macro_rules | `(tactic| k_ne) => `(tactic| (refine neN ?_; (try dsimp only); first | with_reducible assumption | (refine Ne.symm ?_; with_reducible assumption) | exact Nat.ne_of_lt (by with_reducible assumption) | exact Nat.ne_of_gt (by with_reducible assumption)))
local macro_rules | `(tactic| walk_at "exec Assign cons ListComp") => `(tactic| (k_dflt (refine Assign_here ?_)))
def seg2 : Seg seg1.P := by
  apply Seg.mk
  case h =>
    intro hP
    intro w s₁ mg mb fa script a vals hI h₁ tk₁ o6 o5 o4 o3 o2 o1 o0 d6 d5 d4 d3 d2 d1 d0 hc1 L l0 g X hL hC F N mean loose T prog
    show wpAny _ _ _ _ _ _
    k_fold
    k_steps
    rename_i l0' h0' F0 N0 l1
    refine drawn_spec (X.keeps F0.keep) (T.keeps F0.keep) (okLaw' _) (F0.lst hL) hI hc1 (N0.isList (by k_mem)) (.cons _ _ (.cons _ _ (.cons _ _ (.cons _ _ .nil)))) rfl (by simp) ?_
    intro D ws k ds h' tk' up hD hD0 hws hds hdn
    obtain ⟨n0, n1, n2, n3, t0, t1, t2, t3, rfl, rfl⟩ := ints4 hws hds
    have F1 := frUp F0 up
    have N1 := newsUp N0 up
    have n7 : @Ne Nat (L + 1 + 1 + 1 + 1 + 1 + 1 + 1) D := new_ne N0 hD0 (_, o6) (by k_mem)
    have n6 : @Ne Nat (L + 1 + 1 + 1 + 1 + 1 + 1) D := new_ne N0 hD0 (_, o5) (by k_mem)
    have n5 : @Ne Nat (L + 1 + 1 + 1 + 1 + 1) D := new_ne N0 hD0 (_, o4) (by k_mem)
    have n4 : @Ne Nat (L + 1 + 1 + 1 + 1) D := new_ne N0 hD0 (_, o3) (by k_mem)
    have n3' : @Ne Nat (L + 1 + 1 + 1) D := new_ne N0 hD0 (_, o2) (by k_mem)
    have n2' : @Ne Nat (L + 1 + 1) D := new_ne N0 hD0 (_, o1) (by k_mem)
    have n1' : @Ne Nat (L + 1) D := new_ne N0 hD0 (_, o0) (by k_mem)
    have n81 : @Ne Nat 81 D := new_ne N0 hD0 (81, tabObj #[]) (by k_mem)
    have N2 : News g L h' ((D, W.listOf #[.int n0 t0, .int n1 t1, .int n2 t2, .int n3 t3] k) :: [(L + 1 + 1 + 1 + 1 + 1 + 1 + 1, o6), (L + 1 + 1 + 1 + 1 + 1 + 1, o5), (L + 1 + 1 + 1 + 1 + 1, o4), (L + 1 + 1 + 1 + 1, o3), (L + 1 + 1 + 1, o2), (L + 1 + 1, o1), (L + 1, o0), (81, tabObj #[])]) := fun p hp => by
      rcases List.mem_cons.mp hp with rfl | hp
      · exact new_row F0 hD hD0
      · exact N1 p (.tail _ hp)
    clear N1 N0 F0 l1 up hD hD0 hws
    k_steps
    refine Assign_at (F₀ := by k_asm) (by rfl) (by with_unfolding_all rfl) (by rfl) (by decide) (by rfl) (by decide) (by rfl) (by rfl) (by rfl) ?_
    k_steps
    rename Fr _ _ _ _ => F2
    have hsrc : IntsAre [Value.int n0 t0, Value.int n1 t1, Value.int n2 t2] [n0, n1, n2] := .cons _ _ (.cons _ _ (.cons _ _ .nil))
    refine CompAt.list (its := #[Value.int n0 t0, Value.int n1 t1, Value.int n2 t2]) (fun i ys => IntsAre ys (([n0, n1, n2].take i).map fun n => 1 + n.fmod 15)) rfl (by k_asm) (by k_asm) (.inr ⟨_, by k_mem, rfl, _, rfl⟩) (by rw [sizeLine_eq]; exact Nat.le_of_ble_eq_true rfl) .nil ?_ ?_
    · rintro i ys v I oI C oC D2 m₂ hh tk hl hG hv hC hx F3 N3 off ne
      obtain ⟨n, t, rfl, hn⟩ := hsrc.at i v (by simpa using hv)
      k_steps
      exact EltEnd.go (fun _ _ e => e) (ints_snoc (fun n => 1 + n.fmod 15) hG hn)
    · rintro g2 ys hl hG
      clear hsrc hds F2 hL hI hc1
      obtain ⟨f0, e0, p0, q0⟩ := fam15 n0
      obtain ⟨f1, e1, p1, q1⟩ := fam15 n1
      obtain ⟨f2, e2, p2, q2⟩ := fam15 n2
      have hfam : IntsAre ys (zs [f0, f1, f2]) := by
        have e : ([n0, n1, n2].map fun n => 1 + n.fmod 15) = zs [f0, f1, f2] := by
          show [1 + n0.fmod 15, 1 + n1.fmod 15, 1 + n2.fmod 15] = [(f0 : Int), (f1 : Int), (f2 : Int)]
          rw [e0, e1, e2]
        rw [← e]; exact hG
      clear e0 e1 e2 hG hl
      k_steps
      rename_i hA D1 hB l1 Df hC' tkC oDf tt hD1 oS dS0 ln hE l2 hF oN F9 N9 dN
      have N10 := fun p hp => N9 p (List.Sublist.mem hp (.cons_cons _ (.cons_cons _ (.cons _ (.cons _ (.refl _))))))
      replace N10 : News g L hF _ := N10
      generalize hv : List.toArray [Value.str _ _, Value.str _ _, Value.str _ _, Value.str _ _, Value.str _ _, Value.str _ _, Value.str _ _, Value.str _ _] = vn at N10
      have hnm : StrsAre vn.toList namesL := by
        rw [← hv]
        exact .cons _ _ (.cons _ _ (.cons _ _ (.cons _ _ (.cons _ _ (.cons _ _ (.cons _ _ (.cons _ _ .nil)))))))
      obtain ⟨sh, tS, dS, hsh⟩ := cell5 dS0
      have F10 : Fr g L hF (fun z => if z = Str.ofString "family" then some (Value.ref Df) else (fun y => if y = Str.ofString "numbers" then some (Value.ref D) else if y = Str.ofString "script" then some (.ref a) else none) z) := F9
      generalize (fun y => if y = Str.ofString "numbers" then some (Value.ref D) else if y = Str.ofString "script" then some (Value.ref a) else none) = m0 at F10
      clear hv N9 F9
      have b1 : @Ne Nat Df (L + 1) := Ne.symm oDf.2.2.2.2.2.2.2.2.1
      have b2 : @Ne Nat Df (L + 1 + 1) := Ne.symm oDf.2.2.2.2.2.2.2.1
      have b3 : @Ne Nat Df (L + 1 + 1 + 1) := Ne.symm oDf.2.2.2.2.2.2.1
      have b4 : @Ne Nat Df (L + 1 + 1 + 1 + 1) := Ne.symm oDf.2.2.2.2.2.1
      have b5 : @Ne Nat Df (L + 1 + 1 + 1 + 1 + 1) := Ne.symm oDf.2.2.2.2.1
      have b6 : @Ne Nat Df (L + 1 + 1 + 1 + 1 + 1 + 1) := Ne.symm oDf.2.2.2.1
      have b7 : @Ne Nat Df (L + 1 + 1 + 1 + 1 + 1 + 1 + 1) := Ne.symm oDf.2.2.1
      have b8 : @Ne Nat Df 81 := Ne.symm oDf.2.2.2.2.2.2.2.2.2
      have b9 : @Ne Nat Df ln := Nat.ne_of_lt l2.1
      have c0 : L + 1 + 1 + 1 + 1 + 1 + 1 + 1 < ln := l2.2.2.2.1
      clear l1 l2 oDf dS0 n7 n6 n5 n4 n3' n2' n1' n81
      revert w s₁ mg mb fa o6 o5 o4 o3 o2 d6 d5 d4 d3 d2 L l0 g X hC mean loose T prog qk ek ys f0 p0 q0 f1 p1 q1 f2 p2 q2 sh hsh tS hfam Df oS dS ln hF oN dN N10 vn hnm F10 m0 b1 b2 b3 b4 b5 b6 b7 b8 b9 c0 tk
      exact hP.out
end
end Mine
theorem Mine.anew38 {prog : Program} {w : World} {A : Around} {s : Shared} : wpAny (model prog w) A (truthy (.bool true)) (fun _ _ => True) (fun _ _ => False) s := by
  w_top off
  walk1
  trivial
namespace Mine
def txt (s k : Nat) : Str := pfS (k * 2 ^ s)
theorem strs_app : ∀ {vs ws : List Value} {ns ms : List Str}, StrsAre vs ns → StrsAre ws ms → StrsAre (vs ++ ws) (ns ++ ms)
  | _, _, _, _, .nil, h => h
  | _, _, _, _, .cons _ _ k, h => .cons _ _ (strs_app k h)
theorem tx0 {s : Nat} (h : s < 5) : txt s 0 = Str.ofString "0x0" := by
  rw [txt, Nat.zero_mul]
  decide +kernel
theorem strs_range {ys : List Value} {f : Nat → Str} {i : Nat} {t : Tok} (h : StrsAre ys ((List.range i).map f)) : StrsAre (ys ++ [.str (f i) t]) ((List.range (i + 1)).map f) := by
  rw [List.range_succ, List.map_append]
  exact strs_app h (.cons _ _ .nil)
theorem shl_lt {i sh : Nat} (h1 : i < 16) (h2 : sh < 5) : i * 2 ^ sh < 256 := by
  have : 2 ^ sh ≤ 2 ^ 4 := Nat.pow_le_pow_right (by decide) (by omega)
  calc i * 2 ^ sh ≤ 15 * 2 ^ sh := Nat.mul_le_mul_right _ (by omega)
    _ ≤ 15 * 2 ^ 4 := Nat.mul_le_mul_left _ this
    _ < 256 := by decide
section
local macro_rules | `(tactic| walk_at "eval ListComp") => `(tactic| (k_dflt (refine ListComp_at (F₀ := by k_asm) (by rfl) (by decide) (by rfl) (by decide) (by rfl) ?_)))
def seg3 : Seg seg2.P := by
  apply Seg.mk
  case h =>
    intro hP
    intro w s₁ mg mb fa o6 o5 o4 o3 o2 d6 d5 d4 d3 d2 L l0 g X hC mean loose T prog qk ek
    intro ys f0 p0 q0 f1 p1 q1 f2 p2 q2 hfam Df oS ln hF oN dN tk vn N10 hnm sh tS dS hsh m0 F10 b1 b2 b3 b4 b5 b6 b7 b8 b9 c0
    show wpAny _ _ _ _ _ _
    k_steps
    rename IsRange _ _ _ _ _ _ _ _ => hr
    refine CompAt.range (n := 16) (fun i ys => StrsAre ys ((List.range i).map (txt sh))) rfl (by k_asm) (by k_asm) hr (by decide) (by decide) (by decide) .nil ?_ ?_
    · rintro i ys' t I oI C oC D2 m₂ hh tk hi hl hG hCo hx F3 N3 off ne
      k_steps
      have e : ((0 + (i : Int)) * 2 ^ (Int.toNat (sh : Int))) = ((i * 2 ^ sh : Nat) : Int) := by simp
      rw [e]
      refine pf_spec (X.keeps F3.keep) (T.keeps F3.keep) (okLaw' _) (shl_lt hi hsh) ?_
      intro t' h' tk' up
      exact EltEnd.go up (strs_range hG)
    · rintro g2 ys2 hl hG
      k_steps
      · rename (_ != _) = true => hbad
        exact absurd hbad (by show ¬ ((txt sh 0 != Str.ofString "0x0") = true); rw [tx0 hsh]; decide)
      · rename_i tkA t1 u1 v1 aA Dt hB tkB oT hE oTx F9 N9 dT tkC tq hq
        clear hr aA hq d3
        revert w s₁ mg mb fa o6 o5 o4 o2 d6 d5 d4 d2 L l0 g X hC mean loose T prog qk ek ys f0 p0 q0 f1 p1 q1 f2 p2 q2 hfam Df oS ln oN dN vn hnm sh tS dS hsh m0 b1 b2 b3 b4 b5 b6 b7 b8 b9 c0 ys2 hl hG Dt oT hE oTx F9 N9 dT tk
        exact hP.out
end
end Mine
theorem Mine.anew40 {prog : Program} {w : World} {A : Around} {s : Shared} : wpAny (model prog w) A (truthy (.bool true)) (fun _ _ => True) (fun _ _ => False) s := by
  w_top off
  walk1
  trivial
namespace Mine
/-- a text's signs -/
abbrev tl (x : Str) : List Nat := x.cps.toList
theorem tl_inj {x y : Str} (h : tl x = tl y) : x = y := by
  cases x; cases y
  exact congrArg Str.mk (Array.toList_inj.mp h)
theorem tls_inj : ∀ {l m : List Str}, l.map tl = m.map tl → l = m
  | [], [], _ => rfl
  | [], _ :: _, h => nomatch h
  | _ :: _, [], h => nomatch h
  | a :: l, b :: m, h => by
    rw [List.map_cons, List.map_cons] at h
    rw [tl_inj (List.cons.inj h).1, tls_inj (List.cons.inj h).2]
theorem tl_len (x : Str) : x.length = (tl x).length := rfl
def preL : List Nat → List Nat → Bool
  | [], _ => true
  | _ :: _, [] => false
  | a :: s, b :: r => bif Nat.beq a b then preL s r else false
theorem preL_iff : ∀ (s r : List Nat), preL s r = true ↔ s.length ≤ r.length ∧ r.take s.length = s
  | [], r => by simp [preL]
  | a :: s, [] => by simp [preL]
  | a :: s, b :: r => by
    rw [preL]
    have ih := preL_iff s r
    cases h : Nat.beq a b with
    | false =>
      have hne : a ≠ b := Nat.ne_of_beq_eq_false h
      simp only [cond_false, Bool.false_eq_true, false_iff]
      rintro ⟨-, e⟩
      rw [List.length_cons, List.take_succ_cons] at e
      exact hne (List.cons.inj e).1.symm
    | true =>
      obtain rfl := Nat.eq_of_beq_eq_true h
      simp only [cond_true, List.length_cons, List.take_succ_cons, ih, List.cons.injEq, true_and, Nat.add_le_add_iff_right]
def ocL (sub : List Nat) (n lim : Nat) : List Nat → Nat → Nat → Nat → List Nat
  | [], i, free, cnt => bif Nat.blt cnt lim && Nat.ble free i && preL sub [] then [i] else []
  | c :: r, i, free, cnt => bif Nat.blt cnt lim && Nat.ble free i && preL sub (c :: r) then i :: ocL sub n lim r (i + 1) (i + n) (cnt + 1) else ocL sub n lim r (i + 1) free cnt
theorem cond_is {x sub : Str} {lim i free cnt : Nat} {rest : List Nat} (h1 : (tl x).drop i = rest) (h2 : i + rest.length = x.length) :
    (((cnt < lim ∧ free ≤ i) ∧ i + sub.length ≤ x.length) ∧ Builtin.Str.subAt x sub i = true) ↔ (Nat.blt cnt lim && Nat.ble free i && preL (tl sub) rest) = true := by
  rw [StrLaws.subAt_eq]
  have h1' : x.cps.toList.drop i = rest := h1
  rw [h1', Bool.and_eq_true, Bool.and_eq_true, preL_iff, Nat.blt_eq, Nat.ble_eq, beq_iff_eq]
  have e : sub.length = (tl sub).length := rfl
  rw [e]
  constructor
  · rintro ⟨⟨h, h3⟩, h4⟩
    exact ⟨h, by omega, h4⟩
  · rintro ⟨h, h3, h4⟩
    exact ⟨⟨h, by omega⟩, h4⟩
theorem oc_go {x sub : Str} {lim : Nat} : ∀ (rest : List Nat) (i free : Nat) (found : Array Nat), (tl x).drop i = rest → i + rest.length = x.length →
    (forIn (m := Id) (List.range' i (rest.length + 1)) (found, free) (StrLaws.occBody x sub x.length lim)).run.fst.toList = found.toList ++ ocL (tl sub) sub.length lim rest i free found.size
  | [], i, free, found, h1, h2 => by
    have hc := cond_is (sub := sub) (lim := lim) (free := free) (cnt := found.size) h1 h2
    rw [List.length_nil, Nat.zero_add, List.range'_one, List.forIn_cons, ocL]
    unfold StrLaws.occBody
    by_cases hq : (Nat.blt found.size lim && Nat.ble free i && preL (tl sub) []) = true
    · rw [if_pos (hc.mpr hq), hq]
      simp
    · rw [if_neg (fun z => hq (hc.mp z)), eq_false_of_ne_true hq]
      simp
  | c :: r, i, free, found, h1, h2 => by
    have hc := cond_is (sub := sub) (lim := lim) (free := free) (cnt := found.size) h1 h2
    have h1' : (tl x).drop (i + 1) = r := by
      rw [← List.drop_drop, h1]; rfl
    have h2' : i + 1 + r.length = x.length := by rw [← h2, List.length_cons]; omega
    rw [List.length_cons, List.range'_succ, List.forIn_cons, ocL]
    have e : StrLaws.occBody x sub x.length lim i (found, free) = if ((found.size < lim ∧ free ≤ i) ∧ i + sub.length ≤ x.length) ∧ Builtin.Str.subAt x sub i = true then pure (ForInStep.yield (found.push i, i + sub.length)) else pure (ForInStep.yield (found, free)) := rfl
    rw [e]
    by_cases hq : (Nat.blt found.size lim && Nat.ble free i && preL (tl sub) (c :: r)) = true
    · rw [if_pos (hc.mpr hq), hq, cond_true]
      have ih := oc_go (sub := sub) (lim := lim) r (i + 1) (i + sub.length) (found.push i) h1' h2'
      rw [Array.size_push] at ih
      exact ih.trans (by rw [Array.toList_push, List.append_assoc]; rfl)
    · rw [if_neg (fun z => hq (hc.mp z)), eq_false_of_ne_true hq, cond_false]
      exact oc_go r (i + 1) free found h1' h2'
theorem oc_is (x sub : Str) (lo lim : Nat) (h : lo ≤ x.length) : Builtin.Str.occurrences x sub lo x.length lim = ocL (tl sub) sub.length lim ((tl x).drop lo) lo lo 0 := by
  rw [StrLaws.occ_eq]
  have hl : ((tl x).drop lo).length + 1 = x.length + 1 - lo := by rw [List.length_drop]; show x.length - lo + 1 = _; omega
  have := oc_go (x := x) (sub := sub) (lim := lim) ((tl x).drop lo) lo lo #[] rfl (by rw [List.length_drop]; show lo + (x.length - lo) = _; omega)
  rw [hl] at this
  rw [this]
  rfl
/-- what is left behind the first find -/
def findL (sub : List Nat) : List Nat → Option (List Nat)
  | [] => bif preL sub [] then some [] else none
  | c :: r => bif preL sub (c :: r) then some ((c :: r).drop sub.length) else findL sub r
theorem find_is {sub : List Nat} {n : Nat} (hn : n = sub.length) : ∀ (rest : List Nat) (i free : Nat), free ≤ i →
    (ocL sub n 1 rest i free 0 = [] ∧ findL sub rest = none) ∨ ∃ k r, ocL sub n 1 rest i free 0 = (i + k) :: r ∧ findL sub rest = some (rest.drop (k + n)) ∧ k + n ≤ rest.length
  | [], i, free, h => by
    rw [ocL, findL, Nat.ble_eq_true_of_le h]
    cases hq : preL sub [] with
    | false => exact .inl ⟨rfl, rfl⟩
    | true => exact .inr ⟨0, [], rfl, by simp, by have := (preL_iff _ _).mp hq; omega⟩
  | c :: r, i, free, h => by
    rw [ocL, findL, Nat.ble_eq_true_of_le h]
    cases hq : preL sub (c :: r) with
    | false =>
      rcases find_is hn r (i + 1) free (by omega) with ⟨h1, h2⟩ | ⟨k, r', h1, h2, h3⟩
      · exact .inl ⟨h1, h2⟩
      · refine .inr ⟨k + 1, r', ?_, ?_, ?_⟩
        · show ocL sub n 1 r (i + 1) free 0 = _
          rw [h1]
          congr 1
          omega
        · show findL sub r = _
          rw [h2]
          have : k + 1 + n = (k + n) + 1 := by omega
          rw [this, List.drop_succ_cons]
        · rw [List.length_cons]; omega
    | true =>
      exact .inr ⟨0, _, rfl, by rw [hn, Nat.zero_add]; rfl, by have := (preL_iff _ _).mp hq; omega⟩
def scanL : List Nat → List (List Nat) → Bool
  | _, [] => true
  | rest, w :: ws => match findL w rest with
    | none => false
    | some r => scanL r ws
theorem scan_is (got : Str) : ∀ (ws : List Str) (p : Nat), p ≤ got.length → scan got p ws = scanL ((tl got).drop p) (ws.map tl)
  | [], _, _ => rfl
  | w :: ws, p, hp => by
    have hl : ((tl got).drop p).length = got.length - p := List.length_drop
    rw [scan, oc_is got w p 1 hp, List.map_cons, scanL]
    rcases find_is (sub := tl w) (n := w.length) rfl ((tl got).drop p) p p (Nat.le_refl p) with ⟨h1, h2⟩ | ⟨k, r, h1, h2, h3⟩
    · rw [h1, h2]
    · rw [h1, h2]
      show scan got (p + k + w.length) ws = scanL _ _
      rw [scan_is got ws (p + k + w.length) (by omega), List.drop_drop, Nat.add_assoc]
/-- a text split -/
def partsL (xs : List Nat) (cuts : List Nat) (width : Nat) : List (List Nat) := ((0 :: cuts.map (· + width)).zip (cuts ++ [xs.length])).map fun p => (xs.take p.2).drop p.1
def splitL (xs ys : List Nat) : List (List Nat) :=
  if xs.length < ys.length then [xs] else
  match ocL ys ys.length (xs.length + 1) xs 0 0 0 with
  | [] => [xs]
  | k :: r => partsL xs (k :: r) ys.length
theorem kind_pos (x : Str) : 1 ≤ Builtin.Str.strKind x := by
  unfold Builtin.Str.strKind
  split
  · omega
  · split <;> omega
theorem split_is (x y : Str) (hy : Builtin.Str.strKind y = 1) : (Txt.split x y).map tl = splitL (tl x) (tl y) := by
  unfold Txt.split splitL
  have hk : ¬ Builtin.Str.strKind x < Builtin.Str.strKind y := by have := kind_pos x; omega
  by_cases hl : x.length < y.length
  · have hl' : (tl x).length < (tl y).length := hl
    rw [if_pos hl', if_pos (by simp [hl])]
    rfl
  · have hl' : ¬ (tl x).length < (tl y).length := hl
    rw [if_neg hl', if_neg (by simp [hl, hk]), oc_is x y 0 _ (Nat.zero_le _), List.drop_zero]
    have e1 : (tl x).length = x.length := rfl
    have e2 : (tl y).length = y.length := rfl
    rw [e1, e2]
    cases ocL (tl y) y.length (x.length + 1) (tl x) 0 0 0 with
    | nil => rfl
    | cons k r =>
      rw [if_neg (by simp)]
      unfold Builtin.Str.partsBetween partsL
      rw [List.map_map]
      refine List.map_congr_left fun p _ => ?_
      show (Builtin.Str.strSub x p.1 p.2).cps.toList = _
      unfold Builtin.Str.strSub
      simp [List.extract_eq_take_drop, List.drop_take]
def joinL (sep : List Nat) : List (List Nat) → List Nat
  | [] => []
  | a :: r => a ++ (r.map (sep ++ ·)).flatten
theorem fold_glue (g : Str) : ∀ (r : List Str) (a : Array Nat), (r.foldl (fun acc p => acc ++ g.cps ++ p.cps) a).toList = a.toList ++ ((r.map tl).map (tl g ++ ·)).flatten
  | [], a => by simp
  | p :: r, a => by
    rw [List.foldl_cons, fold_glue g r, List.map_cons, List.map_cons, List.flatten_cons, Array.toList_append, Array.toList_append]
    simp only [List.append_assoc]
theorem join_is (sep : Str) (ws : List Str) : tl (Txt.join sep ws) = joinL (tl sep) (ws.map tl) := by
  show (Builtin.Str.glued sep ws).cps.toList = _
  unfold Builtin.Str.glued
  cases ws with
  | nil => rfl
  | cons a r => exact fold_glue sep r a.cps
end Mine
theorem Mine.anew42 {prog : Program} {w : World} {A : Around} {s : Shared} : wpAny (model prog w) A (truthy (.bool true)) (fun _ _ => True) (fun _ _ => False) s := by
  w_top off
  walk1
  trivial
namespace Mine
def wordsTo (s k j : Nat) : List Str := ((List.range j).filter fun p => k.testBit p).map fun p => namesL.getD (s + p) Str.empty
def nmL (i : Nat) : List Nat := tl (nmS i)
def wordsL (s k j : Nat) : List (List Nat) := ((List.range j).filter fun p => k.testBit p).map fun p => nmL (s + p)
theorem names_at : ∀ i, i < 8 → tl (namesL.getD i Str.empty) = nmL i := by decide +kernel
theorem words_tl {s k j : Nat} (hs : s < 5) (hj : j ≤ 4) : (wordsTo s k j).map tl = wordsL s k j := by
  unfold wordsTo wordsL
  rw [List.map_map]
  refine List.map_congr_left fun p hp => ?_
  have := List.mem_range.mp (List.mem_filter.mp hp).1
  exact names_at (s + p) (by omega)
theorem pf_words : ∀ s, s < 5 → ∀ i, i < 15 → (pfLoop 32 0 ((i + 1) * 2 ^ s) []).map tl = wordsL s (i + 1) 4 := by decide +kernel
theorem tx1 : ∀ s, s < 5 → ∀ i, i < 15 → txt s (i + 1) = Txt.join (Str.ofString ", ") (wordsTo s (i + 1) 4) := fun s hs i hi => by
  unfold txt pfS
  rw [tls_inj ((pf_words s hs i hi).trans (words_tl hs (Nat.le_refl 4)).symm)]
theorem comma_tl : tl (Str.ofString ", ") = [44, 32] := by decide +kernel
theorem dots_tl : tl (Str.ofString "...") = [46, 46, 46] := by decide +kernel
theorem zero_tl : tl (Str.ofString "0x0") = [48, 120, 48] := by decide +kernel
def txtL (s k : Nat) : List Nat := if k = 0 then [48, 120, 48] else joinL [44, 32] (wordsL s k 4)
theorem txt_tl : ∀ s, s < 5 → ∀ k, k < 16 → tl (txt s k) = txtL s k
  | s, hs, 0, _ => by rw [tx0 hs, zero_tl]; rfl
  | s, hs, k + 1, hk => by
    rw [tx1 s hs k (by omega), join_is, comma_tl, words_tl hs (Nat.le_refl 4)]
    rfl
theorem lens_tl (ws : List Str) : ws.map (·.length) = (ws.map tl).map List.length := by
  rw [List.map_map]; rfl
theorem words_lenL : ∀ s, s < 5 → ∀ k, k < 16 → ((wordsL s k 4).map List.length).sum + 2 * (wordsL s k 4).length ≤ 1000 := by decide +kernel
theorem words_len : ∀ s, s < 5 → ∀ k, k < 16 → ((wordsTo s k 4).map (·.length)).sum + 2 * (wordsTo s k 4).length ≤ 1000 := fun s hs k hk => by
  have h := words_lenL s hs k hk
  rw [← words_tl hs (Nat.le_refl 4), ← lens_tl, List.length_map] at h
  exact h
def splitOf (s k : Nat) : List Str := if k = 0 then [Str.ofString "0x0"] else wordsTo s k 4
def splitOfL (s k : Nat) : List (List Nat) := if k = 0 then [[48, 120, 48]] else wordsL s k 4
theorem splitOf_tl {s : Nat} (hs : s < 5) (k : Nat) : (splitOf s k).map tl = splitOfL s k := by
  unfold splitOf splitOfL
  split
  · rw [List.map_cons, zero_tl]; rfl
  · exact words_tl hs (Nat.le_refl 4)
theorem tx2L : ∀ s, s < 5 → ∀ k, k < 16 → splitL (txtL s k) [44, 32] = splitOfL s k := by decide +kernel
theorem tx2 : ∀ s, s < 5 → ∀ k, k < 16 → Txt.split (txt s k) (Str.ofString ", ") = splitOf s k := fun s hs k hk => by
  refine tls_inj ?_
  rw [split_is _ _ (by decide +kernel), txt_tl s hs k hk, comma_tl, tx2L s hs k hk, splitOf_tl hs]
theorem txlL : ∀ s, s < 5 → ∀ k, k < 16 → (txtL s k).length ≤ 100 := by decide +kernel
theorem txl : ∀ s, s < 5 → ∀ k, k < 16 → (txt s k).length ≤ 100 := fun s hs k hk => by
  rw [tl_len, txt_tl s hs k hk]
  exact txlL s hs k hk
theorem splL : ∀ s, s < 5 → ∀ k, k < 16 → (((splitOfL s k).map List.length).sum ≤ 1000 ∧ (splitOfL s k).length ≤ 100 ∧ ∀ a ∈ splitOfL s k, a.length ≤ 1000) := by decide +kernel
theorem spl : ∀ s, s < 5 → ∀ k, k < 16 → (((splitOf s k).map (·.length)).sum ≤ 1000 ∧ (splitOf s k).length ≤ 100 ∧ ∀ a ∈ splitOf s k, a.length ≤ 1000) := fun s hs k hk => by
  obtain ⟨h1, h2, h3⟩ := splL s hs k hk
  rw [← splitOf_tl hs] at h1 h2 h3
  rw [← lens_tl] at h1
  rw [List.length_map] at h2
  exact ⟨h1, h2, fun a ha => h3 _ (List.mem_map_of_mem ha)⟩
def mid (s k : Nat) : List Str := if k = 0 then [] else wordsTo s k 4
def midL (s k : Nat) : List (List Nat) := if k = 0 then [] else wordsL s k 4
theorem mid_tl {s : Nat} (hs : s < 5) (k : Nat) : (mid s k).map tl = midL s k := by
  unfold mid midL
  split
  · rfl
  · exact words_tl hs (Nat.le_refl 4)
def patL (ws : List (List Nat)) : List Nat := [46, 46, 46] ++ (ws.map (· ++ [46, 46, 46])).flatten
theorem joinL_nil : ∀ l : List (List Nat), joinL [] l = l.flatten
  | [] => rfl
  | a :: r => by
    rw [joinL, List.flatten_cons]
    congr 2
    exact List.map_id _
theorem patS_tl (ws : List Str) : tl (patS ws) = patL (ws.map tl) := by
  unfold patS patL
  have e : tl (Str.ofString "..." ++ Txt.join (Str.ofString "") (ws.map (· ++ Str.ofString "..."))) = tl (Str.ofString "...") ++ tl (Txt.join (Str.ofString "") (ws.map (· ++ Str.ofString "..."))) := Array.toList_append
  rw [e, join_is, dots_tl, show tl (Str.ofString "") = [] from rfl, joinL_nil, List.map_map, List.map_map]
  congr 2
  refine List.map_congr_left fun x _ => ?_
  show (x.cps ++ (Str.ofString "...").cps).toList = tl x ++ [46, 46, 46]
  rw [Array.toList_append, ← dots_tl]
theorem pat_mid_tl {s : Nat} (hs : s < 5) (k : Nat) : tl (patS (mid s k)) = patL (midL s k) := by rw [patS_tl, mid_tl hs]
theorem ends_tl (l : List Str) : (Str.empty :: (l ++ [Str.empty])).map tl = [] :: (l.map tl ++ [[]]) := by
  rw [List.map_cons, List.map_append]; rfl
theorem tx3L : ∀ s, s < 5 → ∀ k, k < 16 → splitL (patL (midL s k)) [46, 46, 46] = [] :: (midL s k ++ [[]]) := by decide +kernel
theorem tx3 : ∀ s, s < 5 → ∀ k, k < 16 → Txt.split (patS (mid s k)) (Str.ofString "...") = Str.empty :: (mid s k ++ [Str.empty]) := fun s hs k hk => by
  refine tls_inj ?_
  rw [split_is _ _ (by decide +kernel), pat_mid_tl hs, dots_tl, tx3L s hs k hk, ends_tl, mid_tl hs]
theorem txiL : ∀ s, s < 5 → ∀ k, k < 16 → (ocL [46, 46, 46] 3 1 (patL (midL s k)) 0 0 0).isEmpty = false := by decide +kernel
theorem txi : ∀ s, s < 5 → ∀ k, k < 16 → (Builtin.Str.occurrences (patS (mid s k)) (Str.ofString "...") 0 (patS (mid s k)).length 1).isEmpty = false := fun s hs k hk => by
  rw [oc_is _ _ 0 1 (Nat.zero_le _), List.drop_zero, pat_mid_tl hs, dots_tl]
  exact txiL s hs k hk
theorem tx4L : ∀ s, s < 5 → ∀ k, k < 16 → ∀ o, o < 16 → scanL (txtL s k) ([] :: (midL s o ++ [[]])) = (o &&& k == o) := by decide +kernel
theorem tx4 : ∀ s, s < 5 → ∀ k, k < 16 → ∀ o, o < 16 → scan (txt s k) 0 (Str.empty :: (mid s o ++ [Str.empty])) = (o &&& k == o) := fun s hs k hk o ho => by
  rw [scan_is _ _ 0 (Nat.zero_le _), List.drop_zero, txt_tl s hs k hk, ends_tl, mid_tl hs]
  exact tx4L s hs k hk o ho
theorem txpL : ∀ s, s < 5 → ∀ k, k < 16 → (patL (midL s k)).length ≤ 1000 ∧ (∀ x ∈ midL s k, x.length ≤ 1000) ∧ (midL s k).length ≤ 100 := by decide +kernel
theorem txp : ∀ s, s < 5 → ∀ k, k < 16 → (patS (mid s k)).length ≤ 1000 ∧ (∀ x ∈ mid s k, x.length ≤ 1000) ∧ (mid s k).length ≤ 100 := fun s hs k hk => by
  obtain ⟨h1, h2, h3⟩ := txpL s hs k hk
  rw [← pat_mid_tl hs] at h1
  rw [← mid_tl hs] at h2 h3
  rw [List.length_map] at h3
  exact ⟨h1, fun a ha => h2 _ (List.mem_map_of_mem ha), h3⟩
end Mine
theorem Mine.anew44 {prog : Program} {w : World} {A : Around} {s : Shared} : wpAny (model prog w) A (truthy (.bool true)) (fun _ _ => True) (fun _ _ => False) s := by
  w_top off
  walk1
  trivial
namespace Mine
theorem bit_of : ∀ i, i < 15 → ∀ j, j < 4 → (Builtin.bitAnd ((1 + ((i : Nat) : Int)).fdiv (2 ^ (0 + ((j : Nat) : Int)).toNat)) 1 = 0 ↔ (i + 1).testBit j = false) := by decide +kernel
theorem words_yes {s k j : Nat} (h : k.testBit j = true) : wordsTo s k (j + 1) = wordsTo s k j ++ [namesL.getD (s + j) Str.empty] := by
  unfold wordsTo
  rw [List.range_succ, List.filter_append, List.map_append]
  simp [List.filter_cons, h]
theorem words_no {s k j : Nat} (h : k.testBit j = false) : wordsTo s k (j + 1) = wordsTo s k j := by
  unfold wordsTo
  rw [List.range_succ, List.filter_append, List.map_append]
  simp [List.filter_cons, h]
theorem name_at {s j : Nat} (hs : s < 5) (hj : j < 4) : namesL.getD ((s : Int) + (0 + (j : Int))).toNat Str.empty = namesL.getD (s + j) Str.empty := by
  congr 1
  omega
section
local macro_rules | `(tactic| walk_at "eval ListComp") => `(tactic| (k_dflt (refine ListComp_atT (F₀ := by k_asm) (by rfl) (by decide) (by rfl) (by decide) (by rfl) ?_)))
local macro_rules | `(tactic| walk_at "exec For Name Call cons nil") => `(tactic| (k_dflt (refine For_at ?_)))
def seg4 : Seg seg3.P := by
  apply Seg.mk
  case h =>
    intro hP
    intro w s₁ mg mb fa o6 o5 o4 o2 d6 d5 d4 d2 L l0 g X hC mean loose T prog qk ek ys f0 p0 q0 f1 p1 q1 f2 p2 q2 hfam Df oS ln oN dN vn hnm sh tS dS hsh m0 b1 b2 b3 b4 b5 b6 b7 b8 b9 c0 ys2 hl hG Dt oT hE oTx F9 N9 dT tk
    obtain ⟨vl, rfl⟩ : ∃ vl : List Value, vn = vl.toArray := ⟨vn.toList, (Array.toArray_toList).symm⟩
    replace hnm : StrsAre vl namesL := hnm
    have hnl : namesL.length = 8 := rfl
    k_steps
    rename IsRange _ _ _ _ _ _ _ _ => hr
    rename Fr _ _ _ _ => F9
    rename News _ _ _ _ => N9
    refine ForAt.range (n := 15) (fun i m₁ news₁ => ∃ (oM : Obj) (v : Option Value), m₁ = (fun z => if z = Str.ofString "family" then some (Value.ref Df) else m0 z) ∧ news₁ = [(Dt, LCg.lst ys2), (ln, W.listOf vl.toArray 0), (Df, LCg.lst ys), (L + 1 + 1 + 1 + 1 + 1 + 1 + 1, o6), (L + 1 + 1 + 1 + 1 + 1 + 1, o5), (L + 1 + 1 + 1 + 1 + 1, o4), (L + 1 + 1 + 1 + 1, oTx), (L + 1 + 1 + 1, oM), (L + 1 + 1, oN), (L + 1, oS), (81, tabObj #[])] ∧ oM.data = .cell v) rfl F9 N9 hr (by decide) (by decide) ⟨o2, _, rfl, rfl, d2⟩ ?_ ?_
    · rintro I oI i t m₁ news₁ h tk hi ⟨oM, v, rfl, rfl, dM⟩ F1 N1 off1
      simp only [LCg.Off1] at off1
      k_steps
      rename IsRange _ _ _ _ _ _ _ _ => hr2
      rename Fr _ _ _ _ => F2
      rename News _ _ _ _ => N2
      refine CompAtT.range (n := 4) (fun j zs => StrsAre zs (wordsTo sh (i + 1) j)) rfl F2 N2 hr2 (by decide) (by decide) (by decide) .nil ?_ ?_
      · rintro j zs' t I2 oI2 C oC D2 m₂ hh tk hj hG2 hCo hx F3 N3 off ne
        clear hr2 F2 N2
        k_steps
        · rename Builtin.bitAnd _ _ ≠ 0 => hb
          refine EltEnd.go (fun _ _ e => e) ?_
          rw [name_at hsh hj, words_yes (by
            cases hq : (i + 1).testBit j with
            | true => rfl
            | false => exact absurd ((bit_of i hi j hj).mpr hq) hb)]
          exact hG2.append' (.cons _ _ .nil)
        · rename Builtin.bitAnd _ _ = 0 => hb
          refine EltEnd.go (fun _ _ e => e) ?_
          rw [words_no ((bit_of i hi j hj).mp hb)]
          exact hG2
      · rintro g2 zs2 hG2
        clear hr2 F2 N2
        k_steps
        refine join_list (News.isList (by k_asm) (by k_mem)) hG2 (by have := words_len sh hsh (i + 1) (by omega); show _ + _ * 2 ≤ _; omega) ?_
        intro t' k9
        k_steps
        · rename (_ != _) = true => hbad
          have e2 : ((List.range 16).map (txt sh)).getD (1 + (i : Int)).toNat Str.empty = txt sh (i + 1) := by
            have : (1 + (i : Int)).toNat = i + 1 := by omega
            rw [this, List.getD_eq_getElem?_getD, List.getElem?_map, List.getElem?_range (by omega)]
            rfl
          rw [e2, tx1 sh hsh i hi] at hbad
          simp at hbad
        · rename Fr _ _ _ _ => F8
          rename News _ _ _ _ => N8
          refine ForEnd.go F8 N8 _ ?_ ?_ ⟨_, _, rfl, rfl, by assumption⟩
          · exact fun p hp => .tail _ hp
          · exact off1
    · rintro m' news' h tk ⟨oM, v, rfl, rfl, dM⟩ F1 N1
      clear hr N9 F9 d2 hnl hnm dN dS
      dsimp only
      rename Fr _ _ hE _ => Fz
      rename News _ _ hE _ => Nz
      rename_i az
      clear Fz Nz az
      revert w s₁ mg mb fa o6 o5 o4 oM v d6 d5 d4 dM L l0 g X hC mean loose T prog qk ek ys f0 p0 q0 f1 p1 q1 f2 p2 q2 hfam Df sh hsh oS oN ln vl m0 b1 b2 b3 b4 b5 b6 b7 b8 b9 c0 ys2 hl hG Dt oT h oTx F1 N1 dT tk
      exact hP.out
end
end Mine
theorem Mine.anew46 {prog : Program} {w : World} {A : Around} {s : Shared} : wpAny (model prog w) A (truthy (.bool true)) (fun _ _ => True) (fun _ _ => False) s := by
  w_top off
  walk1
  trivial
namespace Mine
def pat (s k : Nat) : Str := if k = 0 then patS [] else patS (wordsTo s k 4)
theorem pat_eq (s i : Nat) : (if (0 + (i : Int)) = 0 then patS [] else patS (splitOf s i)) = pat s i := by
  unfold pat splitOf
  by_cases h : i = 0
  · subst h; rfl
  · rw [if_neg (by omega), if_neg h, if_neg h]
theorem text_at {s i : Nat} (hi : i < 16) : ((List.range 16).map (txt s)).getD (0 + (i : Int)).toNat Str.empty = txt s i := by
  have : (0 + (i : Int)).toNat = i := by omega
  rw [this, List.getD_eq_getElem?_getD, List.getElem?_map, List.getElem?_range hi]
  rfl
end Mine
theorem Mine.anew48 {prog : Program} {w : World} {A : Around} {s : Shared} : wpAny (model prog w) A (truthy (.bool true)) (fun _ _ => True) (fun _ _ => False) s := by
  w_top off
  walk1
  trivial
namespace Mine
section
local macro_rules | `(tactic| k_ne) => `(tactic| (refine neN ?_; (try dsimp only); first | with_reducible assumption | (refine Ne.symm ?_; with_reducible assumption) | exact Nat.ne_of_lt (by with_reducible assumption) | exact Nat.ne_of_gt (by with_reducible assumption)))
local macro_rules | `(tactic| walk_at "eval ListComp") => `(tactic| (k_dflt (refine ListComp_at (F₀ := by k_asm) (by rfl) (by decide) (by rfl) (by decide) (by rfl) ?_)))
def seg5 : Seg seg4.P := by
  apply Seg.mk
  case h =>
    intro hP
    intro w s₁ mg mb fa o6 o5 o4 d6 d5 d4 L l0 g X hC mean loose T prog qk ek ys f0 p0 q0 f1 p1 q1 f2 p2 q2 hfam Df oS ln oN sh hsh m0 b1 b2 b3 b4 b5 b6 b7 b8 b9 c0 ys2 hl hG Dt oT oTx dT vl h tk oM v dM F1 N1
    have oT' := oT
    obtain ⟨y1, y2, y3, y4, y5, y6, y7, y8, y9, y10⟩ := oT'
    k_steps
    rename IsRange _ _ _ _ _ _ _ _ => hr
    rename Fr _ _ _ _ => F2
    rename News _ _ _ _ => N2
    refine CompAt.range (n := 16) (fun i ys => StrsAre ys ((List.range i).map (pat sh))) rfl F2 N2 hr (by decide) (by decide) (by decide) .nil ?_ ?_
    · rintro i ys' t I oI C oC D2 m₂ hh tk hi hl hG2 hCo hx F3 N3 off ne
      clear F2 N2 hr
      k_steps
      rename Fr _ _ _ _ => F4
      rw [text_at hi]
      refine pat_spec (X.keeps F4.keep) (T.keeps F4.keep) (okLaw' _) ⟨tx2 sh hsh i hi⟩ ⟨Nat.le_trans (txl sh hsh i hi) (by decide)⟩ ⟨spl sh hsh i hi⟩ ?_
      intro t' h' tk' up
      rw [pat_eq]
      exact EltEnd.go up (strs_range hG2)
    · rintro g2 ys3 hl3 hG3
      clear F2 N2 hr
      k_steps
      rename_i tk0 hA tk1 t1 u1 v1 aA Dp hB tkB oP hC1 oPa dPa tkD lH hD l1 hE oHo dHo tkE lL hF l2 hH oLi F9 N9 dLi
      have N10 := fun p hp => N9 p (List.Sublist.mem hp (.cons_cons _ (.cons_cons _ (.cons_cons _ (.cons_cons _ (.cons _ (.cons_cons _ (.cons_cons _ (.cons_cons _ (.cons_cons _ (.cons_cons _ (.cons_cons _ (.cons _ (.cons _ (.cons_cons _ .slnil)))))))))))))))
      replace N10 : News g L hH _ := N10
      have e1 : @Ne Nat Dt (L + 1 + 1 + 1) := Ne.symm oT.2.2.2.2.2.2.1
      have e2 : @Ne Nat Dt 81 := Ne.symm oT.2.2.2.2.2.2.2.2.2
      have e3 : @Ne Nat Dp (L + 1 + 1 + 1) := Ne.symm oP.2.2.2.2.2.2.2.1
      have e4 : @Ne Nat Dp 81 := Ne.symm oP.2.2.2.2.2.2.2.2.2.2
      have e5 : L + 1 + 1 + 1 + 1 + 1 + 1 + 1 < lH := l1.2.2.2.2.1
      have e6 : @LT.lt Nat _ Dt lH := l1.2.1
      have e7 : @LT.lt Nat _ Dp lH := l1.1
      have e8 : @LT.lt Nat _ Df lH := l1.2.2.2.1
      have e9 : @LT.lt Nat _ lH lL := l2.1
      have b0 : @Ne Nat Df (L + 1 + 1 + 1) := b3
      clear y1 y2 y3 y4 y5 y6 y7 y8 y9 y10
      clear N9 l1 l2 oP aA oT b1 b2 b3 b4 b5 b6 b7 b9 c0 d6 d5 d4
      revert w s₁ mg mb fa L l0 g X hC mean loose T prog qk ek ys f0 p0 q0 f1 p1 q1 f2 p2 q2 hfam Df sh hsh m0 b8 ys2 hl hG Dt oTx dT oM v dM ys3 hl3 hG3 Dp oPa dPa lH oHo dHo lL oLi dLi hH F9 N10 e1 e2 e3 e4 e5 e6 e7 e8 e9 b0 tk
      exact hP.out
end
end Mine
theorem Mine.anew50 {prog : Program} {w : World} {A : Around} {s : Shared} : wpAny (model prog w) A (truthy (.bool true)) (fun _ _ => True) (fun _ _ => False) s := by
  w_top off
  walk1
  trivial
namespace Mine
def holdsB (fam : List Nat) (k : Nat) : Bool := fam.any fun o => o &&& k == o
def liesB (fam : List Nat) (k : Nat) : Bool := fam.any fun o => o &&& k == k
def boolsTo (f : Nat → Bool) (i : Nat) : List Value := (List.range i).map fun k => Value.bool (f k)
/-- a segment that leaves two goals -/
structure Seg2 (G : Prop) where
  P1 : Prop
  P2 : Prop
  h : Hide P1 → Hide P2 → G
section
local macro_rules | `(tactic| walk_at "exec Assign cons ListComp") => `(tactic| (k_dflt (refine Assign_here ?_)))
local macro_rules | `(tactic| walk_at "exec For Name Call cons nil") => `(tactic| (k_dflt (refine For_at ?_)))
def seg6 : Seg2 seg5.P := by
  apply Seg2.mk
  case h =>
    intro hP hP2
    intro w s₁ mg mb fa L l0 g X hC mean loose T prog qk ek ys f0 p0 q0 f1 p1 q1 f2 p2 q2 hfam Df sh hsh m0 b8 ys2 hl hG Dt oTx dT
    intro oM v dM ys3 hl3 hG3 Dp oPa dPa lH oHo dHo lL hH oLi F9 dLi tk N10 e1 e2 e3 e4 e5 e6 e7 e8 e9 b0
    k_steps
    rename IsRange _ _ _ _ _ _ _ _ => hr
    rename Fr _ _ _ _ => F1
    rename News _ _ _ _ => N1
    refine ForAt.range (n := 16) (fun i m₁ news₁ => ∃ (oM : Obj) (v vh vl vt : Option Value) (k1 k2 : Nat), m₁ = (fun z => if z = Str.ofString "told" then vt else if z = Str.ofString "lain" then vl else if z = Str.ofString "held" then vh else if z = Str.ofString "family" then some (Value.ref Df) else m0 z) ∧
      news₁ = [(lL, W.listOf (boolsTo (liesB [f0, f1, f2]) i).toArray k1), (lH, W.listOf (boolsTo (holdsB [f0, f1, f2]) i).toArray k2), (Dp, LCg.lst ys3), (Dt, LCg.lst ys2), (Df, LCg.lst ys), (L + 1 + 1 + 1 + 1 + 1 + 1 + 1, oLi), (L + 1 + 1 + 1 + 1 + 1 + 1, oHo), (L + 1 + 1 + 1 + 1 + 1, oPa), (L + 1 + 1 + 1 + 1, oTx), (L + 1 + 1 + 1, oM), (81, tabObj #[])] ∧ oM.data = .cell v) rfl F1 N1 hr (by decide) (by decide) ?_ ?_ ?_
    · refine ⟨oM, _, m0 (Str.ofString "held"), m0 (Str.ofString "lain"), m0 (Str.ofString "told"), 0, 0, ?_, rfl, dM⟩
      funext y
      by_cases h1 : y = Str.ofString "told"
      · subst h1; rfl
      · by_cases h2 : y = Str.ofString "lain"
        · subst h2; rfl
        · by_cases h3 : y = Str.ofString "held"
          · subst h3; rfl
          · simp only [h1, h2, h3, if_false]
    · rintro I oI i t m₁ news₁ h tk hi ⟨oM, v, vh, vl, vt, k1, k2, rfl, rfl, dM⟩ F1 N1 off1
      clear hr
      simp only [LCg.Off1] at off1
      dsimp only
      rename_i oM0 v0 dM0 Fz tkz Nz hz tkz2 t1z u1z v1z Fz1 Nz1 az
      clear Fz Nz Fz1 Nz1 az dM0
      revert w s₁ mg mb fa L l0 g X hC mean loose T prog qk ek ys f0 p0 q0 f1 p1 q1 f2 p2 q2 hfam Df sh hsh m0 b8 ys2 hl hG Dt oTx dT oM v dM vh vl vt k1 k2 ys3 hl3 hG3 Dp oPa dPa lH oHo dHo lL oLi dLi h F1 N1 off1 e1 e2 e3 e4 e5 e6 e7 e8 e9 b0 tk I oI i t hi hz tkz2
      exact hP.out
    · rintro m' news' h tk ⟨oM, v, vh, vl, vt, k1, k2, rfl, rfl, dM⟩ F1 N1
      dsimp only
      rename_i oM0 v0 dM0 Fz tkz Nz hz tkz2 t1z u1z v1z Fz1 Nz1 az
      clear Fz Nz Fz1 Nz1 az dM0 hr hG hG3 hl hl3 dT dPa
      revert w s₁ mg mb fa L l0 g X hC mean loose T prog qk ek ys f0 p0 q0 f1 p1 q1 f2 p2 q2 hfam Df m0 b8 oM v dM vh vl vt k1 k2 lH oHo dHo lL oLi dLi h F1 N1 Dp Dt ys2 ys3 oPa oTx e1 e2 e3 e4 e5 e6 e7 e8 e9 b0 tk
      exact hP2.out
end
end Mine
theorem Mine.anew52 {prog : Program} {w : World} {A : Around} {s : Shared} : wpAny (model prog w) A (truthy (.bool true)) (fun _ _ => True) (fun _ _ => False) s := by
  w_top off
  walk1
  trivial
namespace Mine
theorem pat_mid (s k : Nat) : pat s k = patS (mid s k) := by
  unfold pat mid
  by_cases h : k = 0
  · rw [if_pos h, if_pos h]
  · rw [if_neg h, if_neg h]
end Mine
theorem Mine.anew54 {prog : Program} {w : World} {A : Around} {s : Shared} : wpAny (model prog w) A (truthy (.bool true)) (fun _ _ => True) (fun _ _ => False) s := by
  w_top off
  walk1
  trivial
namespace Mine
theorem pat_at {s i : Nat} (hi : i < 16) : ((List.range 16).map (pat s)).getD ((i : Nat) : Int).toNat Str.empty = patS (mid s i) := by
  rw [Int.toNat_natCast, List.getD_eq_getElem?_getD, List.getElem?_map, List.getElem?_range hi]
  exact pat_mid s i
theorem text_at' {s i : Nat} (hi : i < 16) : ((List.range 16).map (txt s)).getD ((i : Nat) : Int).toNat Str.empty = txt s i := by
  rw [Int.toNat_natCast, List.getD_eq_getElem?_getD, List.getElem?_map, List.getElem?_range hi]
  rfl
theorem pat_at0 {s i : Nat} (hi : i < 16) : ((List.range 16).map (pat s)).getD (0 + ((i : Nat) : Int)).toNat Str.empty = patS (mid s i) := by
  rw [Int.zero_add]
  exact pat_at hi
theorem frMap {g h : Heap} {L : Addr} {m m' : Str → Option Value} (F : Fr g L h m) (e : m = m') : Fr g L h m' := e ▸ F
def tell (f : Nat → Bool) (l : List Nat) : List Value := l.map fun o => Value.bool (f o)
theorem tell_snoc {ys : List Value} {l : List Nat} {j f : Nat} (g : Nat → Bool) (h : ys = tell g (l.take j)) (hf : l[j]? = some f) : ys ++ [.bool (g f)] = tell g (l.take (j + 1)) := by
  rw [List.take_add_one, hf, Option.toList_some, tell, List.map_append, h]
  rfl
section
local macro_rules | `(tactic| walk_at "exec Assign cons ListComp") => `(tactic| (k_dflt (refine Assign_at (F₀ := by k_asm) (by rfl) (by with_unfolding_all rfl) (by rfl) (by decide) (by rfl) (by decide) (by rfl) (by rfl) (by rfl) ?_)))
local macro_rules | `(tactic| walk_at "eval ListComp") => `(tactic| (k_dflt (refine ListComp_at (F₀ := by k_asm) (by rfl) (by decide) (by rfl) (by decide) (by rfl) ?_)))
local macro_rules | `(tactic| walk_at "exec For Name BinOp cons nil") => `(tactic| (k_dflt (refine For_at ?_)))
def seg7 : Seg seg6.P1 := by
  apply Seg.mk
  case h =>
    intro hP
    intro w s₁ mg mb fa L l0 g X hC mean loose T prog qk ek ys f0 p0 q0 f1 p1 q1 f2 p2 q2 hfam Df sh hsh m0 b8 ys2 hl hG Dt oTx dT ys3 hl3 hG3 Dp oPa dPa lH oHo dHo lL oLi dLi e1 e2 e3 e4 e5 e6 e7 e8 e9 b0 hz tkz2 I oI i t h tk hi oM v vh vl vt k1 k2 dM F1 N1 off1
    have fam16 : ∀ f ∈ [f0, f1, f2], f < 16 := by
      intro f hf
      simp only [List.mem_cons, List.not_mem_nil, or_false] at hf
      omega
    k_steps
    rename Fr _ _ _ _ => F2
    rename News _ _ _ _ => N2
    refine CompAt.list (its := ys.toArray) (fun j zs' => zs' = tell (fun o => o &&& i == o) ([f0, f1, f2].take j)) rfl F2 N2 (.inr ⟨_, by k_mem, rfl, _, rfl⟩) (by rw [sizeLine_eq, List.size_toArray, hfam.length]; exact Nat.le_of_ble_eq_true rfl) rfl ?_ ?_
    · rintro j zs' v I2 oI2 C oC D2 m₂ hh tk hl' hG' hv hCo hx F3 N3 off ne
      obtain ⟨n, t, rfl, hn⟩ := hfam.at j v (by simpa using hv)
      obtain ⟨f, hf, rfl⟩ := zs_at hn
      have hf16 : f < 16 := fam16 f (List.mem_of_getElem? hf)
      clear F2 N2
      k_steps
      rename Fr _ _ _ _ => F4
      rw [pat_at hf16, text_at hi]
      refine ell_spec (X.keeps F4.keep) (T.keeps F4.keep) (okLaw' _) (txi sh hsh f hf16) (tx3 sh hsh f hf16) ⟨(txp sh hsh f hf16).1⟩ (Nat.le_trans (txl sh hsh i hi) (by decide)) (txp sh hsh f hf16).2.1 (txp sh hsh f hf16).2.2 ?_
      intro h' tk' up
      rw [tx4 sh hsh i hi f hf16]
      exact EltEnd.go up (tell_snoc (fun o => o &&& i == o) hG' hf)
    · rintro g2 zs2 hl4 rfl
      clear F2 N2
      k_steps
      rename Fr _ _ _ _ => F2
      rename News _ _ _ _ => N2
      have e3' : ([f0, f1, f2].take ys.toArray.size) = [f0, f1, f2] := by
        rw [List.size_toArray, hfam.length]
        rfl
      rw [e3'] at N2
      clear hl4
      refine CompAt.list (its := ys.toArray) (fun j zs' => zs' = tell (fun o => o &&& i == i) ([f0, f1, f2].take j)) rfl F2 N2 (.inr ⟨_, by k_mem, rfl, _, rfl⟩) (by rw [sizeLine_eq, List.size_toArray, hfam.length]; exact Nat.le_of_ble_eq_true rfl) rfl ?_ ?_
      · rintro j zs' v I2 oI2 C oC D2 m₂ hh tk hl' hG' hv hCo hx F3 N3 off ne
        obtain ⟨n, t, rfl, hn⟩ := hfam.at j v (by simpa using hv)
        obtain ⟨f, hf, rfl⟩ := zs_at hn
        have hf16 : f < 16 := fam16 f (List.mem_of_getElem? hf)
        clear F2 N2
        k_steps
        rename Fr _ _ _ _ => F4
        rw [pat_at0 hi, text_at' hf16]
        refine ell_spec (X.keeps F4.keep) (T.keeps F4.keep) (okLaw' _) (txi sh hsh i hi) (tx3 sh hsh i hi) ⟨(txp sh hsh i hi).1⟩ (Nat.le_trans (txl sh hsh f hf16) (by decide)) (txp sh hsh i hi).2.1 (txp sh hsh i hi).2.2 ?_
        intro h' tk' up
        rw [tx4 sh hsh f hf16 i hi, Nat.and_comm]
        exact EltEnd.go up (tell_snoc (fun o => o &&& i == i) hG' hf)
      · rintro g3 zs3 hl4 rfl
        clear F2 N2
        rw [e3'] at hl4 ⊢
        k_steps
        rename_i tk0 hA oM1 dM1 Dh hB tkB oh Dl hC1 tkC ol Da hD F9 N9 l1
        have F10 : Fr g L hD (fun z => if z = Str.ofString "told" then vt else if z = Str.ofString "lain" then some (Value.ref Dl) else if z = Str.ofString "held" then some (Value.ref Dh) else if z = Str.ofString "family" then some (Value.ref Df) else m0 z) := by
          refine frMap F9 ?_
          funext y
          by_cases h1 : y = Str.ofString "told"
          · subst h1; rfl
          · by_cases h2 : y = Str.ofString "lain"
            · subst h2; rfl
            · by_cases h3 : y = Str.ofString "held"
              · subst h3; rfl
              · simp only [h1, h2, h3, if_false]
        dsimp only
        clear F9 hl4 e3' hG hG3 hl hl3 dT dPa fam16 dM
        revert w s₁ mg mb fa L l0 g X hC mean loose T prog qk ek ys f0 p0 q0 f1 p1 q1 f2 p2 q2 hfam Df m0 b8 ys2 Dt oTx ys3 Dp oPa lH oHo dHo lL oLi dLi e1 e2 e3 e4 e5 e6 e7 e8 e9 b0 hz tkz2 I oI i t hi vt k1 k2 off1 oM1 dM1 Dh oh Dl ol Da hD F10 N9 l1 tkC
        exact hP.out
end
end Mine
theorem Mine.anew56 {prog : Program} {w : World} {A : Around} {s : Shared} : wpAny (model prog w) A (truthy (.bool true)) (fun _ _ => True) (fun _ _ => False) s := by
  w_top off
  walk1
  trivial
namespace Mine
theorem beq_nat (a b : Nat) : (((a : Nat) : Int) == ((b : Nat) : Int)) = (a == b) := by
  by_cases h : a = b
  · subst h; simp
  · rw [beq_eq_false_iff_ne.mpr h, beq_eq_false_iff_ne.mpr (by omega)]
theorem and_o (f i : Nat) : (Builtin.bitAnd (f : Int) (0 + (i : Int)) == (f : Int)) = (f &&& i == f) := by
  rw [Int.zero_add, and_nat, beq_nat]
theorem and_i (f i : Nat) : (Builtin.bitAnd (f : Int) (0 + (i : Int)) == (0 + (i : Int))) = (f &&& i == i) := by
  rw [Int.zero_add, and_nat, beq_nat]
def boolIs : Value → Bool
  | .bool b => b
  | _ => false
theorem eqv_true (b : Bool) : PyData.eqv (.bool b) (.bool true) = b := by cases b <;> rfl
theorem in_tell {prog : Program} {w : World} {A : Around} {E : Value → Shared → Prop} {s : Shared} {Q : Value → Shared → Prop} {l : Addr} {f : Nat → Bool} {os : List Nat} (hl : s.heap.IsList l (tell f os).toArray) (hu : A.units + 64 < cLine)
    (h : Q (.bool (os.any f)) s) : wpAny (model prog w) A (compareOp .In (.bool true) (.ref l)) Q E s := by
  refine SeqAt.in_listAt boolIs hl (fun y hy => ?_) ?_
  · obtain ⟨o, _, rfl⟩ := List.mem_map.mp (show y ∈ tell f os by simpa using hy)
    have e : boolIs (Value.bool (f o)) = PyData.eqv (.bool (f o)) (.bool true) := (eqv_true (f o)).symm
    rw [e]
    refine SeqAt.eqAt_reads (.bool (f o)) (.bool true) A.in1 s _ _ _ _ (.bool _) (.bool _) rfl rfl ?_
    show A.units + 1 + min (PyData.depth (.bool (f o))) (PyData.depth (.bool true)) < cLine
    have : PyData.depth (.bool true) ≤ 8 := by decide
    omega
  · have e : (tell f os).toArray.any boolIs = os.any f := by
      rw [List.any_toArray, tell, List.any_map]
      rfl
    rw [e]
    exact h
theorem okUnits (env : Env) : (callerA.deeper env).units + 64 < cLine := Nat.le_of_ble_eq_true rfl
theorem bools_fit (f : Nat → Bool) {i : Nat} (hi : i < 16) : (boolsTo f i).toArray.size ≤ sizeLine := by
  rw [List.size_toArray, boolsTo, List.length_map, List.length_range, sizeLine_eq]
  omega
theorem push_bools {f : Nat → Bool} {i : Nat} {q : Bool} (h : f i = q) : (boolsTo f i).toArray.push (.bool q) = (boolsTo f (i + 1)).toArray := by
  rw [List.push_toArray, boolsTo, boolsTo, List.range_succ, List.map_append, ← h]
  rfl
section
local macro_rules | `(tactic| walk_at "call builtin:list.append") => `(tactic| (k_dflt (refine' append_K ?k1 ?k2 ?k3 ?_ ?z; (case k1 => k_asm); (case k2 => k_asm); (case k3 => k_upd); (case z => exact bools_fit _ (by assumption)); k_whole); intro h' F' N'; (try k_sweep)))
local macro_rules | `(tactic| walk_at "eval ListComp") => `(tactic| (k_dflt (refine ListComp_at (F₀ := by k_asm) (by rfl) (by decide) (by rfl) (by decide) (by rfl) ?_)))
theorem seg8 : seg7.P := by
  intro w s₁ mg mb fa L l0 g X hC mean loose T prog qk ek ys f0 p0 q0 f1 p1 q1 f2 p2 q2 hfam Df m0 b8 ys2 Dt oTx ys3 Dp oPa lH oHo dHo lL oLi dLi e1 e2 e3 e4 e5 e6 e7 e8 e9 b0 hz tkz2 I oI i t hi vt k1 k2 off1 oM1 dM1 Dh oh Dl tkC ol Da hD N9 l1 F10
  refine ForAt.list (its := (tell (fun o => o &&& i == o) [f0, f1, f2] ++ tell (fun o => o &&& i == i) [f0, f1, f2]).toArray) (fun j m₁ news₁ => ∃ (vt : Option Value), m₁ = (fun z => if z = Str.ofString "told" then vt else if z = Str.ofString "lain" then some (Value.ref Dl) else if z = Str.ofString "held" then some (Value.ref Dh) else if z = Str.ofString "family" then some (Value.ref Df) else m0 z) ∧
    news₁ = [(Da, W.listOf (tell (fun o => o &&& i == o) [f0, f1, f2] ++ tell (fun o => o &&& i == i) [f0, f1, f2]).toArray 0), (Dl, LCg.lst (tell (fun o => o &&& i == i) [f0, f1, f2])), (Dh, LCg.lst (tell (fun o => o &&& i == o) [f0, f1, f2])), (I, oI), (lL, W.listOf (boolsTo (liesB [f0, f1, f2]) i).toArray k1), (lH, W.listOf (boolsTo (holdsB [f0, f1, f2]) i).toArray k2), (Dp, LCg.lst ys3), (Dt, LCg.lst ys2), (Df, LCg.lst ys), (L + 1 + 1 + 1 + 1 + 1 + 1 + 1, oLi), (L + 1 + 1 + 1 + 1 + 1 + 1, oHo), (L + 1 + 1 + 1 + 1 + 1, oPa), (L + 1 + 1 + 1 + 1, oTx), (L + 1 + 1 + 1, oM1), (81, tabObj #[])]) rfl F10 N9 ?_ ⟨vt, rfl, rfl⟩ ?_ ?_
  · rintro j m₁ news₁ ⟨vt, rfl, rfl⟩
    exact .inr ⟨_, .head _, rfl, _, rfl⟩
  · rintro I2 oI2 j v m₁ news₁ h tk hv ⟨vt, rfl, rfl⟩ F1 N1 off2
    simp only [LCg.Off1] at off2
    obtain ⟨b, rfl⟩ : ∃ b, v = Value.bool b := by
      have hm := List.mem_of_getElem? (show (tell (fun o => o &&& i == o) [f0, f1, f2] ++ tell (fun o => o &&& i == i) [f0, f1, f2])[j]? = some v by simpa using hv)
      rcases List.mem_append.mp hm with hm | hm <;> (obtain ⟨o, _, e⟩ := List.mem_map.mp hm; exact ⟨_, e.symm⟩)
    cases b
    · k_steps
      rename Fr _ _ _ _ => F2
      rename News _ _ _ _ => N2
      refine ForEnd.go F2 N2 _ (fun p hp => hp) off2 ⟨some (.bool false), ?_, rfl⟩
      funext y
      by_cases h1 : y = Str.ofString "told"
      · subst h1; rfl
      · simp only [h1, if_false]
    · k_steps
      rename Fr _ _ _ _ => F2
      rename News _ _ _ _ => N2
      refine ForEnd.go F2 N2 _ (fun p hp => hp) off2 ⟨some (.bool true), ?_, rfl⟩
      funext y
      by_cases h1 : y = Str.ofString "told"
      · subst h1; rfl
      · simp only [h1, if_false]
  · rintro m' news' h tk ⟨vt, rfl, rfl⟩ F1 N1
    clear F10 N9
    have fam16 : ∀ f ∈ [f0, f1, f2], f < 16 := by
      intro f hf
      simp only [List.mem_cons, List.not_mem_nil, or_false] at hf
      omega
    have hsz : ys.toArray.size = 3 := by rw [List.size_toArray, hfam.length]; rfl
    k_steps
    rename Fr _ _ _ _ => F2
    rename News _ _ _ _ => N2
    refine CompAt.list (its := ys.toArray) (fun j zs' => zs' = tell (fun o => o &&& i == o) ([f0, f1, f2].take j)) rfl F2 N2 (.inr ⟨_, by k_mem, rfl, _, rfl⟩) (by rw [sizeLine_eq, hsz]; decide) rfl ?_ ?_
    · rintro j zs' v I2 oI2 C oC D2 m₂ hh tk hl' hG' hv hCo hx F3 N3 off ne
      obtain ⟨n, t, rfl, hn⟩ := hfam.at j v (by simpa using hv)
      obtain ⟨f, hf, rfl⟩ := zs_at hn
      have hf16 : f < 16 := fam16 f (List.mem_of_getElem? hf)
      clear F2 N2
      k_steps
      rw [and_o]
      exact EltEnd.go (fun _ _ e => e) (tell_snoc (fun o => o &&& i == o) hG' hf)
    · rintro g3 zs3 hl4 rfl
      clear F2 N2
      rw [hsz] at hl4 ⊢
      k_steps
      rename Fr _ _ _ _ => F2
      rename News _ _ _ _ => N2
      refine CompAt.list (its := ys.toArray) (fun j zs' => zs' = tell (fun o => o &&& i == i) ([f0, f1, f2].take j)) rfl F2 N2 (.inr ⟨_, by k_mem, rfl, _, rfl⟩) (by rw [sizeLine_eq, hsz]; decide) rfl ?_ ?_
      · rintro j zs' v I2 oI2 C oC D2 m₂ hh tk hl' hG' hv hCo hx F3 N3 off ne
        obtain ⟨n, t, rfl, hn⟩ := hfam.at j v (by simpa using hv)
        obtain ⟨f, hf, rfl⟩ := zs_at hn
        have hf16 : f < 16 := fam16 f (List.mem_of_getElem? hf)
        clear F2 N2
        k_steps
        rw [and_i]
        exact EltEnd.go (fun _ _ e => e) (tell_snoc (fun o => o &&& i == i) hG' hf)
      · rintro g3 zs3 hl4 rfl
        clear F2 N2
        rw [hsz] at hl4 ⊢
        k_steps
        refine in_tell (f := fun o => o &&& i == o) (os := [f0, f1, f2]) (News.isList (by k_asm) (by k_mem)) (okUnits _) ?_
        generalize hq : List.any [f0, f1, f2] _ = q
        rename Fr _ _ _ _ => F2
        rename News _ _ _ _ => N2
        have u1 : @Ne Nat Dl lH := Ne.symm ol.2.2.2.1
        have u2 : @Ne Nat Dl lL := Ne.symm ol.2.2.1
        have u3 : @Ne Nat I lH := Ne.symm off1.2.1
        have u4 : @Ne Nat I lL := Ne.symm off1.1
        have off1 := Hide.mk off1
        have N3 := fun p hp => N2 p (List.Sublist.mem hp (.cons _ (.cons _ (.cons _ (.cons_cons _ (.cons _ (.refl _)))))))
        replace N3 : News g L _ _ := N3
        rename_i vt0 off0 g3' hl5 D3 h3 tk3 o3 D4 h4 tk4 o4
        clear N2 off0 hl4 hl5 o3 o4 oh ol l1
        k_steps
        refine in_tell (f := fun o => o &&& i == i) (os := [f0, f1, f2]) (News.isList (by k_asm) (by k_mem)) (okUnits _) ?_
        generalize hq2 : List.any [f0, f1, f2] _ = q2
        k_steps
        rename Fr _ _ _ _ => F5
        rename News _ _ _ _ => N5
        rw [push_bools (f := liesB [f0, f1, f2]) hq2, push_bools (f := holdsB [f0, f1, f2]) hq] at N5
        refine ForEnd.go F5 N5 _ (fun p hp => .tail _ hp) off1.out ⟨oM1, _, some (.ref Dh), some (.ref Dl), vt, k1 + 1, k2 + 1, ?_, rfl, dM1⟩
        rfl
end
end Mine
theorem Mine.anew58 {prog : Program} {w : World} {A : Around} {s : Shared} : wpAny (model prog w) A (truthy (.bool true)) (fun _ _ => True) (fun _ _ => False) s := by
  w_top off
  walk1
  trivial
namespace Mine
/-- the fronts of an order -/
def fronts (o : List Nat) : List Nat := o.foldl (fun fs f => fs ++ [fs.getLastD 0 ||| f]) [0]
def firstOf (H : Nat → Bool) (o : List Nat) : Nat := (fronts o).getD (bl (fun i => H ((fronts o).getD i 0)) 5 0 5) 0
def lastOf (Z : Nat → Bool) (o : List Nat) : Nat := (fronts o).getD (bl (fun i => !Z ((fronts o).getD i 0)) 5 0 5 - 1) 0
def tally (f : List Nat → Nat) (os : List (List Nat)) (m : Nat) : Nat := os.countP fun o => f o == m
theorem bl5 (p : Nat → Bool) (h0 : p 0 = true → p 1 = true) (h1 : p 1 = true → p 2 = true) (h2 : p 2 = true → p 3 = true) (h3 : p 3 = true → p 4 = true) :
    bl p 5 0 5 = if p 0 then 0 else if p 1 then 1 else if p 2 then 2 else if p 3 then 3 else if p 4 then 4 else 5 := by
  cases e0 : p 0 <;> cases e1 : p 1 <;> cases e2 : p 2 <;> cases e3 : p 3 <;> cases e4 : p 4 <;> simp_all [bl]
def goodB : List Nat → Bool
  | [x1, x2, x3, x4] => (0 ||| x1) - x1 == 0 && (0 ||| x1 ||| x2) - x2 == (0 ||| x1) && (0 ||| x1 ||| x2 ||| x3) - x3 == (0 ||| x1 ||| x2) && (0 ||| x1 ||| x2 ||| x3 ||| x4) - x4 == (0 ||| x1 ||| x2 ||| x3) && (0 ||| x1 ||| x2 ||| x3 ||| x4) == 15
  | _ => false
theorem good : ∀ o ∈ stage 4, goodB o = true := by decide +kernel
def hitF (m : Nat) (hm : Bool) (q : Nat → Bool) : Nat → List Nat → Bool
  | _, [] => false
  | acc, x :: r => ((acc ||| x) == m && hm && !q x) || hitF m hm q (acc ||| x) r
def hitL (m : Nat) (hm : Bool) (q : Nat → Bool) : Nat → List Nat → Bool
  | acc, [] => acc == m && hm
  | acc, x :: r => (acc == m && hm && !q x) || hitL m hm q (acc ||| x) r
theorem fronts4 (x1 x2 x3 x4 : Nat) : fronts [x1, x2, x3, x4] = [0, 0 ||| x1, 0 ||| x1 ||| x2, 0 ||| x1 ||| x2 ||| x3, 0 ||| x1 ||| x2 ||| x3 ||| x4] := rfl
theorem good4 {o : List Nat} (h : goodB o = true) : ∃ x1 x2 x3 x4, o = [x1, x2, x3, x4] := by
  match o, h with
  | [x1, x2, x3, x4], _ => exact ⟨x1, x2, x3, x4, rfl⟩
theorem or_sub (a b : Nat) : a &&& (a ||| b) = a := by
  apply Nat.eq_of_testBit_eq
  intro i
  simp only [Nat.testBit_and, Nat.testBit_or]
  cases a.testBit i <;> simp
theorem beq3 {a m : Nat} {x y x' y' : Bool} (h : a = m → (x && y) = (x' && y')) : (a == m && x && y) = (a == m && x' && y') := by
  by_cases e : a = m
  · rw [Bool.and_assoc, Bool.and_assoc, h e]
  · rw [beq_eq_false_iff_ne.mpr e]; rfl
theorem beq2 {a m : Nat} {x x' : Bool} (h : a = m → x = x') : (a == m && x) = (a == m && x') := by
  by_cases e : a = m
  · rw [h e]
  · rw [beq_eq_false_iff_ne.mpr e]; rfl
theorem hit_first {H : Nat → Bool} (mono : ∀ a b, a &&& b = a → H a = true → H b = true) (h0 : H 0 = false) (h15 : H 15 = true) {o : List Nat} (g : goodB o = true) (m : Nat) :
    (firstOf H o == m) = hitF m (H m) (fun x => H (m - x)) 0 o := by
  obtain ⟨x1, x2, x3, x4, rfl⟩ := good4 g
  simp only [goodB, Bool.and_eq_true, beq_iff_eq] at g
  obtain ⟨⟨⟨⟨g1, g2⟩, g3⟩, g4⟩, g5⟩ := g
  have m1 := mono _ _ (or_sub (0 ||| x1) x2)
  have m2 := mono _ _ (or_sub (0 ||| x1 ||| x2) x3)
  have m3 := mono _ _ (or_sub (0 ||| x1 ||| x2 ||| x3) x4)
  unfold firstOf
  rw [fronts4, bl5 _ (by simp [h0]) (by simpa using m1) (by simpa using m2) (by simpa using m3)]
  simp only [hitF, List.getD_cons_zero, List.getD_cons_succ]
  generalize 0 ||| x1 ||| x2 ||| x3 ||| x4 = a4 at *
  generalize 0 ||| x1 ||| x2 ||| x3 = a3 at *
  generalize 0 ||| x1 ||| x2 = a2 at *
  generalize 0 ||| x1 = a1 at *
  have k1 : (a1 == m && H m && !H (m - x1)) = (a1 == m && H a1 && true) := beq3 fun e => by subst e; rw [g1, h0]; rfl
  have k2 : (a2 == m && H m && !H (m - x2)) = (a2 == m && H a2 && !H a1) := beq3 fun e => by subst e; rw [g2]
  have k3 : (a3 == m && H m && !H (m - x3)) = (a3 == m && H a3 && !H a2) := beq3 fun e => by subst e; rw [g3]
  have k4 : (a4 == m && H m && !H (m - x4)) = (a4 == m && H a4 && !H a3) := beq3 fun e => by subst e; rw [g4]
  rw [k1, k2, k3, k4, h0]
  have h4 : H a4 = true := by rw [g5]; exact h15
  clear k1 k2 k3 k4 g1 g2 g3 g4 g5
  cases e1 : H a1 <;> cases e2 : H a2 <;> cases e3 : H a3 <;> simp_all
theorem hit_last {Z : Nat → Bool} (mono : ∀ a b, a &&& b = a → Z b = true → Z a = true) (h0 : Z 0 = true) {o : List Nat} (g : goodB o = true) (m : Nat) :
    (lastOf Z o == m) = hitL m (Z m) (fun x => Z (m ||| x)) 0 o := by
  obtain ⟨x1, x2, x3, x4, rfl⟩ := good4 g
  have m1 := mono _ _ (or_sub (0 ||| x1) x2)
  have m2 := mono _ _ (or_sub (0 ||| x1 ||| x2) x3)
  have m3 := mono _ _ (or_sub (0 ||| x1 ||| x2 ||| x3) x4)
  have cn : ∀ {a b : Bool}, (b = true → a = true) → ((!a) = true → (!b) = true) := by intro a b; cases a <;> cases b <;> simp
  unfold lastOf
  rw [fronts4, bl5 _ (by simp [h0]) (by simpa using cn m1) (by simpa using cn m2) (by simpa using cn m3)]
  simp only [hitL, List.getD_cons_zero, List.getD_cons_succ]
  have k1 : (0 == m && Z m && !Z (m ||| x1)) = (0 == m && true && !Z (0 ||| x1)) := beq3 fun e => by rw [← e, h0]
  have k2 : ((0 ||| x1) == m && Z m && !Z (m ||| x2)) = ((0 ||| x1) == m && Z (0 ||| x1) && !Z (0 ||| x1 ||| x2)) := beq3 fun e => by rw [e]
  have k3 : ((0 ||| x1 ||| x2) == m && Z m && !Z (m ||| x3)) = ((0 ||| x1 ||| x2) == m && Z (0 ||| x1 ||| x2) && !Z (0 ||| x1 ||| x2 ||| x3)) := beq3 fun e => by rw [e]
  have k4 : ((0 ||| x1 ||| x2 ||| x3) == m && Z m && !Z (m ||| x4)) = ((0 ||| x1 ||| x2 ||| x3) == m && Z (0 ||| x1 ||| x2 ||| x3) && !Z (0 ||| x1 ||| x2 ||| x3 ||| x4)) := beq3 fun e => by rw [e]
  have k5 : ((0 ||| x1 ||| x2 ||| x3 ||| x4) == m && Z m) = ((0 ||| x1 ||| x2 ||| x3 ||| x4) == m && Z (0 ||| x1 ||| x2 ||| x3 ||| x4)) := beq2 fun e => by rw [e]
  rw [k1, k2, k3, k4, k5, h0]
  clear k1 k2 k3 k4 k5 g mono
  generalize 0 ||| x1 ||| x2 ||| x3 ||| x4 = a4 at *
  generalize 0 ||| x1 ||| x2 ||| x3 = a3 at *
  generalize 0 ||| x1 ||| x2 = a2 at *
  generalize 0 ||| x1 = a1 at *
  cases e1 : Z a1 <;> cases e2 : Z a2 <;> cases e3 : Z a3 <;> cases e4 : Z a4 <;> simp_all
/-- four answers, by the flag -/
def q4 (a b c d : Bool) (x : Nat) : Bool := if x == 1 then a else if x == 2 then b else if x == 4 then c else if x == 8 then d else false
def boolN (b : Bool) : Nat := if b then 1 else 0
def facN (i : Nat) : Nat := [1, 1, 2, 6].getD i 0
def sumF (m : Nat) (q : Nat → Bool) : Nat := boolN (m.testBit 0 && !q 1) + boolN (m.testBit 1 && !q 2) + boolN (m.testBit 2 && !q 4) + boolN (m.testBit 3 && !q 8)
def sumL (m : Nat) (q : Nat → Bool) : Nat := boolN (!m.testBit 0 && !q 1) + boolN (!m.testBit 1 && !q 2) + boolN (!m.testBit 2 && !q 4) + boolN (!m.testBit 3 && !q 8)
def orders4 : List (List Nat) := [[8, 4, 2, 1], [4, 8, 2, 1], [4, 2, 8, 1], [4, 2, 1, 8], [8, 2, 4, 1], [2, 8, 4, 1], [2, 4, 8, 1], [2, 4, 1, 8], [8, 2, 1, 4], [2, 8, 1, 4], [2, 1, 8, 4], [2, 1, 4, 8], [8, 4, 1, 2], [4, 8, 1, 2], [4, 1, 8, 2], [4, 1, 2, 8], [8, 1, 4, 2], [1, 8, 4, 2], [1, 4, 8, 2], [1, 4, 2, 8], [8, 1, 2, 4], [1, 8, 2, 4], [1, 2, 8, 4], [1, 2, 4, 8]]
theorem stage4 : stage 4 = orders4 := by decide +kernel
theorem cntF : ∀ m, m < 16 → ∀ a b c d : Bool, orders4.countP (hitF m true (q4 a b c d) 0) = if m = 0 then 0 else sumF m (q4 a b c d) * facN (popc m - 1) * facN (4 - popc m) := by decide +kernel
theorem cntL : ∀ m, m < 16 → ∀ a b c d : Bool, orders4.countP (hitL m true (q4 a b c d) 0) = if m = 15 then 24 else sumL m (q4 a b c d) * facN (popc m) * facN (3 - popc m) := by decide +kernel
end Mine
theorem Mine.anew60 {prog : Program} {w : World} {A : Around} {s : Shared} : wpAny (model prog w) A (truthy (.bool true)) (fun _ _ => True) (fun _ _ => False) s := by
  w_top off
  walk1
  trivial
namespace Mine
section
variable {prog : Program} {w : World} {A : Around} {s : Shared} {Q E : Value → Shared → Prop} {name qual : Str} {params : Arguments} {body : Expr} {scope : Scope} {cl : List (Str × Addr)} {pm ctv : Value} {c' lam : Addr} {pos : List Value} {kw : List (Str × Value)} {binds : List (Str × Value)} {news : List (Addr × Obj)}
/-- a lambda is called; what it reads stands in the ledger -/
theorem enterL (ho : s.heap.get? lam = some (kla_obj name qual params body scope cl pm c' ctv)) (hcd : s.heap.CodeRec (.ref c') qual) (hnl : s.heap.NoLimit) (hroom : A.depth < recursionLimit)
    (hn : ∀ p ∈ news, s.heap.get? p.1 = some p.2)
    (hbind : bindArgs (kla_fn name qual params body scope cl pm (.ref c') ctv) ⟨pos, kw⟩ = pure binds) (hloc : ∀ y ∈ binds, scope.names.lookup y.1 = some .local)
    (hco : scope.isCoroutine = false) (hgen : scope.isGenerator = false) (hk : scope.kind = .function) (hcell : ∀ x ∈ scope.names, x.2 ≠ .cell)
    (h : ∀ g L' h₁, Fr g L' h₁ (fun y => binds.reverse.lookup y) → News g L' h₁ news → (∀ h' m', Fr g L' h' m' → News g L' h' news → Up s.heap h') →
      wpAny (model prog w) (A.deeper (envX qual scope L' lam (.ref c') cl)) (eval body (envX qual scope L' lam (.ref c') cl)) Q NoE { s with heap := h₁, toks := s.toks + binds.length }) :
    wpAny (model prog w) A (call (.ref lam) pos kw) Q E s := by
  refine wpAny_call (kla_callFunE hroom ho rfl hco hgen rfl hcd ?_)
  rw [hbind]
  refine wpAny_pure (wpAny_newFunctionEnv hcell hloc (fun h₁ hns hsb => ⟨hnl.fresh _ hsb, ?_⟩) hk)
  show codeAny _ _ (.expr body (envX qual scope s.heap.objs.size lam (.ref c') cl)) _ _
  have hk₁ : ∀ b o, s.heap.get? b = some o → h₁.get? b = some o := fun b o e => hsb.extBut b o (Nat.ne_of_lt (Heap.lt_size e)) (Heap.get?_push_of_some _ e)
  refine kla_codeExpr (wpAny_mono (h (hideAll s.heap (news.map (·.1))) s.heap.objs.size h₁ ⟨hns, fun b o e => hk₁ b o (of_hideAll _ e), Nat.le_of_eq (hideAll_size _ _)⟩
    (fun p hp => ⟨hk₁ _ _ (hn p hp), Nat.ne_of_lt (Heap.lt_size (hn p hp)), hideAll_none _ (List.mem_map_of_mem hp)⟩) ?_) (fun v s' x => x) fun _ _ y => y.elim)
  intro h' m' F' N' b o e
  by_cases hb : b ∈ news.map (·.1)
  · obtain ⟨p, hp, rfl⟩ := List.mem_map.mp hb
    rw [hn p hp] at e
    cases e
    exact (N' p hp).1
  · exact F'.keep _ _ (hideAll_get _ e hb)
end
/-- the scope of a lambda of one argument that reads one name of the def around it -/
abbrev lamScope (x : Str) : Scope := { kind := .function, names := [(Str.ofString "mask", .local), (x, .free)], isGenerator := false, isCoroutine := false, more := [] }
abbrev lamArgs (p : Pos) : Arguments := { posonlyargs := [], args := [{ arg := "mask", annotation := none, pos := p }], vararg := none, kwonlyargs := [], kw_defaults := [], kwarg := none, defaults := [] }
theorem key1 {prog : Program} {w : World} {h : Heap} {lam c' lH cell : Addr} {name qual : Str} {p0 p1 p2 p3 : Pos} {pm ctv : Value} {k : Nat} {oH : Obj} {vs : List Value} {bs : List Bool}
    (ho : h.get? lam = some (kla_obj name qual (lamArgs p0) (.Subscript (.Name (Str.ofString "holds") p1) (.Name (Str.ofString "mask") p2) p3) (lamScope (Str.ofString "holds")) [(Str.ofString "holds", cell)] pm c' ctv))
    (hcd : h.CodeRec (.ref c') qual) (hnl : h.NoLimit) (hc : h.get? cell = some oH) (hd : oH.data = .cell (some (.ref lH))) (hl : h.get? lH = some (W.listOf vs.toArray k)) (hb : LSm.BoolsAre vs bs) (hn : bs.length = 16) :
    ∀ (A' : Around) (s' : Shared) (n : Int) (t : Tok) (Q E : Value → Shared → Prop), Ok A' AL → Up h s'.heap → 0 ≤ n → n < 16 →
      (∀ h' tk', Up s'.heap h' → Q (.bool (bs.getD n.toNat false)) { s' with heap := h', toks := tk' }) → wpAny (model prog w) A' (call (.ref lam) [.int n t]) Q E s' := by
  intro A' s' n t Q E ok up h0 h1 hQ
  refine ok.by ?_
  refine enterL (binds := [(Str.ofString "mask", .int n t)]) (news := [(cell, oH), (lH, W.listOf vs.toArray k)]) (up _ _ ho) (hcd.keeps up) (hnl.keeps up) (by decide) ?_ rfl (locs rfl) rfl rfl rfl (by decide) ?_
  · intro p hp
    simp only [List.mem_cons, List.not_mem_nil, or_false] at hp
    rcases hp with rfl | rfl
    · exact up _ _ hc
    · exact up _ _ hl
  · intro g L h₁ F N hup
    clear ho hcd hnl hc hl up
    walk1
    refine nameX_F N rfl (.head _) hd ?_
    refine nameX_L F rfl ?_
    refine kbo_sub N (.tail _ (.head _)) hb h0 (by omega) (by omega) ?_
    exact hQ _ _ (hup _ _ F N)
theorem key2 {prog : Program} {w : World} {h : Heap} {lam c' lH cell : Addr} {name qual : Str} {p0 p1 p2 p3 p4 : Pos} {pm ctv : Value} {k : Nat} {oH : Obj} {vs : List Value} {bs : List Bool}
    (ho : h.get? lam = some (kla_obj name qual (lamArgs p0) (.UnaryOp .Not (.Subscript (.Name (Str.ofString "lies") p1) (.Name (Str.ofString "mask") p2) p3) p4) (lamScope (Str.ofString "lies")) [(Str.ofString "lies", cell)] pm c' ctv))
    (hcd : h.CodeRec (.ref c') qual) (hnl : h.NoLimit) (hc : h.get? cell = some oH) (hd : oH.data = .cell (some (.ref lH))) (hl : h.get? lH = some (W.listOf vs.toArray k)) (hb : LSm.BoolsAre vs bs) (hn : bs.length = 16) :
    ∀ (A' : Around) (s' : Shared) (n : Int) (t : Tok) (Q E : Value → Shared → Prop), Ok A' AL → Up h s'.heap → 0 ≤ n → n < 16 →
      (∀ h' tk', Up s'.heap h' → Q (.bool (!(bs.getD n.toNat false))) { s' with heap := h', toks := tk' }) → wpAny (model prog w) A' (call (.ref lam) [.int n t]) Q E s' := by
  intro A' s' n t Q E ok up h0 h1 hQ
  refine ok.by ?_
  refine enterL (binds := [(Str.ofString "mask", .int n t)]) (news := [(cell, oH), (lH, W.listOf vs.toArray k)]) (up _ _ ho) (hcd.keeps up) (hnl.keeps up) (by decide) ?_ rfl (locs rfl) rfl rfl rfl (by decide) ?_
  · intro p hp
    simp only [List.mem_cons, List.not_mem_nil, or_false] at hp
    rcases hp with rfl | rfl
    · exact up _ _ hc
    · exact up _ _ hl
  · intro g L h₁ F N hup
    clear ho hcd hnl hc hl up
    refine wpAny_UnaryOp ?_
    walk1
    refine nameX_F N rfl (.head _) hd ?_
    refine nameX_L F rfl ?_
    refine kbo_sub N (.tail _ (.head _)) hb h0 (by omega) (by omega) ?_
    walk1
    walk1
    exact hQ _ _ (hup _ _ F N)

theorem among_snoc {pos : Pos} {v a b c : Value} : ∀ (l : List Value), TriplesOk l → (∃ i t j u, a = .int i t ∧ b = .int j u) → codeAmong pos (l ++ [a, b, c]) = some v → codeAmong pos l = some v ∨ v = c := by
  intro l h ⟨i, t, j, u, ha, hb⟩
  subst ha; subst hb
  fun_induction TriplesOk l with
  | case1 =>
    intro e
    simp only [List.nil_append, codeAmong] at e
    split at e
    · cases e; exact .inr rfl
    · cases e
  | case2 a t b u x rest ih =>
    intro e
    simp only [List.cons_append, codeAmong] at e ⊢
    split at e
    · next hh => rw [if_pos hh]; exact .inl e
    · next hh => rw [if_neg hh]; exact ih h e
  | case3 => exact h.elim
theorem triples_snoc {a b c : Value} (hab : ∃ i t j u, a = .int i t ∧ b = .int j u) : ∀ (l : List Value), TriplesOk l → TriplesOk (l ++ [a, b, c]) := by
  intro l h
  obtain ⟨i, t, j, u, ha, hb⟩ := hab
  subst ha; subst hb
  fun_induction TriplesOk l with
  | case1 => trivial
  | case2 a t b u x rest ih => exact ih h
  | case3 => exact h.elim
/-- the law's table of codes: what stands in it is the code of its lambdas -/
structure TabOk (qual : Str) (ps : Array Value) (R : List (Addr × Obj)) : Prop where
  ht : TriplesOk ps.toList
  hc : ∀ pos v, codeAmong pos ps.toList = some v → ∃ c' oc vs t, v = .ref c' ∧ (c', oc) ∈ R ∧ oc.data = .fields vs ∧ vs[1]? = some (.str qual t)
theorem TabOk.nil {qual : Str} {R : List (Addr × Obj)} : TabOk qual #[] R := ⟨trivial, fun _ _ h => nomatch h⟩
theorem TabOk.more {qual : Str} {ps : Array Value} {R R' : List (Addr × Obj)} (h : TabOk qual ps R) (sub : ∀ p ∈ R, p ∈ R') : TabOk qual ps R' := ⟨h.ht, fun pos v e => by
  obtain ⟨c', oc, vs, t, e1, e2, e3, e4⟩ := h.hc pos v e
  exact ⟨c', oc, vs, t, e1, sub _ e2, e3, e4⟩⟩
theorem TabOk.snoc {qual : Str} {ps : Array Value} {R : List (Addr × Obj)} (h : TabOk qual ps R) {pos : Pos} {c' : Addr} {oc : Obj} {vs : Array Value} {t : Tok} (hd : oc.data = .fields vs) (hv : vs[1]? = some (.str qual t)) :
    TabOk qual (ps ++ #[rawInt pos.line, rawInt pos.col, .ref c']) ((c', oc) :: R) := by
  have e : (ps ++ #[rawInt pos.line, rawInt pos.col, .ref c']).toList = ps.toList ++ [rawInt pos.line, rawInt pos.col, .ref c'] := by simp
  have ii : ∃ i t j u, rawInt pos.line = .int i t ∧ rawInt pos.col = .int j u := ⟨_, _, _, _, rfl, rfl⟩
  refine ⟨by rw [e]; exact triples_snoc ii _ h.ht, fun pos' v hv' => ?_⟩
  rw [e] at hv'
  rcases among_snoc _ h.ht ii hv' with hq | rfl
  · obtain ⟨c2, oc2, vs2, t2, e1, e2, e3, e4⟩ := h.hc pos' v hq
    exact ⟨c2, oc2, vs2, t2, e1, .tail _ e2, e3, e4⟩
  · exact ⟨c', oc, vs, t, rfl, .head _, hd, hv⟩
section
variable {M : Model} {A : Around} {E : Value → Shared → Prop} {s : Shared} {h₀ : Heap} {L a c P : Addr} {m mg mb : Str → Option Value} {cn : Str} {cs : Scope} {ccd : Value} {cl : List (Str × Addr)} {news R : List (Addr × Obj)} {g : Obj → List (Addr × Obj)}
  {p : Program} {loose : List Str} {mean : ExcName → Option Value} {params : Arguments} {body : Expr} {scope : Scope} {ps : Array Value} {pos : Pos} {clos : List (Str × Addr)}
/-- a lambda is made, whether its code stands in the table or not -/
theorem lam_any {Q : Value → Shared → Prop} (F : Fr h₀ L s.heap m) (N : News h₀ L s.heap news) (T : Top p loose mean mg mb h₀) (C : CodeHd h₀ c P) (hcd : ccd = .ref c) (U : UpdF P (tabObj ps) news g) (sub : ∀ q ∈ R, q ∈ news)
    (hT : TabOk ((envX cn cs L a ccd cl).qual ++ "<lambda>") ps R) (hcl : closureFor scope (envX cn cs L a ccd cl) = pure clos) (hdef : defaultsOf params (envX cn cs L a ccd cl) = ([], []))
    (h : ∀ f c' oc vs t ctv ps' h' tk, Fr h₀ L h' m →
      News h₀ L h' ((f, kla_obj "<lambda>" ((envX cn cs L a ccd cl).qual ++ "<lambda>") params body scope clos ((mg "__name__").getD .none) c' ctv) :: (c', oc) :: g (tabObj ps')) →
      oc.data = .fields vs → vs[1]? = some (.str ((envX cn cs L a ccd cl).qual ++ "<lambda>") t) → TabOk ((envX cn cs L a ccd cl).qual ++ "<lambda>") ps' ((c', oc) :: R) → (∀ q ∈ news, q.1 < f) → c' < f →
      (∀ X o, (X, o) ∈ news → (∀ q ∈ R, q.1 ≠ X) → c' ≠ X) → Q (.ref f) { s with heap := h', toks := tk }) :
    wpAny M A (eval (.Lambda params body scope pos) (envX cn cs L a ccd cl)) Q E s := by
  refine kla_eval hdef ?_
  cases hq : codeAmong pos ps.toList with
  | none =>
    refine kla_nest F N T C hcd U hT.ht hq hcl fun f c' oc vs t ctv h' tk F' N' hd hv l1 l2 => ?_
    exact h f c' oc vs t ctv _ h' tk F' N' hd hv (hT.snoc hd hv) (fun q hq => Nat.lt_trans (l1 q hq) l2) l2 (fun X o hX _ => Nat.ne_of_gt (l1 (X, o) hX))
  | some v =>
    obtain ⟨c', oc, vs, t, rfl, hm, hd, hv⟩ := hT.hc pos v hq
    obtain ⟨own, rest, rfl, hgr, h1, h2⟩ := U.split
    refine kla_hit F N T C hcd (List.mem_append_right _ (.head _)) hT.ht hq hcl fun f ctv h' tk F' N' l1 => ?_
    refine h f c' oc vs t ctv ps h' tk F' (fun q hq => ?_) hd hv (hT.more fun q hq => .tail _ hq) l1 (l1 _ (sub _ hm)) (fun X o _ hX => hX _ hm)
    rw [hgr] at hq
    rcases List.mem_cons.mp hq with rfl | hq
    · exact N' _ (.head _)
    · rcases List.mem_cons.mp hq with rfl | hq
      · exact N' _ (.tail _ (sub _ hm))
      · exact N' _ (.tail _ hq)
end
end Mine
theorem Mine.anew62 {prog : Program} {w : World} {A : Around} {s : Shared} : wpAny (model prog w) A (truthy (.bool true)) (fun _ _ => True) (fun _ _ => False) s := by
  w_top off
  walk1
  trivial
namespace Mine
abbrev lamQual : Str := (Str.ofString "law" ++ (".<locals>." : Str)) ++ ("<lambda>" : Str)
/-- the tally of the first orders, over all sets -/
def tal (f : List Nat → Nat) (os : List (List Nat)) : List Nat := (List.range 16).map fun m => tally f os m
theorem tal_nil (f : List Nat → Nat) : tal f [] = List.replicate 16 0 := rfl
/-- the names of law in the loop over the orders -/
abbrev frm (D1 D2 Df : Addr) (m0 : Str → Option Value) (v1 v2 v3 v4 v5 : Option Value) : Str → Option Value := fun z =>
  if z = Str.ofString "last" then v1 else if z = Str.ofString "first" then v2 else if z = Str.ofString "flag" then v3 else if z = Str.ofString "fronts" then v4 else if z = Str.ofString "order" then v5
  else if z = Str.ofString "lasts" then some (.ref D2) else if z = Str.ofString "firsts" then some (.ref D1) else if z = Str.ofString "family" then some (.ref Df) else m0 z
/-- what the loop over the orders keeps -/
def OrdJ (L D1 D2 Df Dr lL lH : Addr) (m0 : Str → Option Value) (fam : List Nat) (rs : List Value) (kr k1 k2 : Nat) (ys : List Value) (oLi oHo oM : Obj) (rws : List (Addr × Obj)) (i : Nat) (m₁ : Str → Option Value) (news₁ : List (Addr × Obj)) : Prop :=
  ∃ (v1 v2 v3 v4 v5 : Option Value) (ws1 ws2 : List Value) (q1 q2 : Nat) (ps : Array Value) (R : List (Addr × Obj)), m₁ = frm D1 D2 Df m0 v1 v2 v3 v4 v5 ∧
    news₁ = (Dr, W.listOf rs.toArray kr) :: (D2, W.listOf ws2.toArray q2) :: (D1, W.listOf ws1.toArray q1) :: (lL, W.listOf (boolsTo (liesB fam) 16).toArray k1) :: (lH, W.listOf (boolsTo (holdsB fam) 16).toArray k2) :: (Df, LCg.lst ys) ::
      (L + 1 + 1 + 1 + 1 + 1 + 1 + 1, oLi) :: (L + 1 + 1 + 1 + 1 + 1 + 1, oHo) :: (L + 1 + 1 + 1, oM) :: (81, tabObj ps) :: R ∧
    IntsAre ws1 (zs (tal (firstOf (holdsB fam)) ((stage 4).take i))) ∧ IntsAre ws2 (zs (tal (lastOf (liesB fam)) ((stage 4).take i))) ∧ TabOk lamQual ps R ∧ (∀ p ∈ rws, p ∈ R) ∧
    (∀ p ∈ R, p.1 ≠ 81) ∧ (∀ p ∈ R, p.1 ≠ D1) ∧ (∀ p ∈ R, p.1 ≠ D2) ∧ (∀ p ∈ R, p.1 ≠ L + 1 + 1 + 1)
end Mine
theorem Mine.anew64 {prog : Program} {w : World} {A : Around} {s : Shared} : wpAny (model prog w) A (truthy (.bool true)) (fun _ _ => True) (fun _ _ => False) s := by
  w_top off
  walk1
  trivial
namespace Mine
theorem far_off {L x : Nat} (l0 : 81 < L) (h : L + 1 + 1 + 1 + 1 + 1 + 1 + 1 < x) : @Ne Nat x 81 ∧ @Ne Nat x (L + 1 + 1 + 1) := by omega
section
local macro_rules | `(tactic| walk_at "exec For Name Call cons nil") => `(tactic| (k_dflt (refine For_at ?_)))
def seg9 : Seg2 seg6.P2 := by
  apply Seg2.mk
  case h =>
    intro hP hP2
    intro w s₁ mg mb fa L l0 g X hC mean loose T prog qk ek ys f0 p0 q0 f1 p1 q1 f2 p2 q2 hfam Df m0 b8 ys2 Dt oTx ys3 Dp oPa lH oHo dHo lL oLi dLi e1 e2 e3 e4 e5 e6 e7 e8 e9 b0 h tk oM vM vh vl vt k1 k2 dM F1 N1
    have N2 := fun p hp => N1 p (List.Sublist.mem hp (.cons_cons _ (.cons_cons _ (.cons _ (.cons _ (.cons_cons _ (.cons_cons _ (.cons_cons _ (.cons _ (.cons _ (.cons_cons _ (.cons_cons _ .slnil))))))))))))
    replace N2 : News g L _ _ := N2
    clear N1
    k_steps
    rename_i tk0 lA hA l1 D1 hB i1 nA sA eA e2A e3A l2 hC1 tkB lB hD l3 D2 hE i2 nB sB eB e2B e3B l4 hF F3 N3
    generalize hv1 : (List.replicate (Int.toNat 16) [Value.int 0 tkB]).flatten = w2 at N3 i2
    generalize hv2 : (List.replicate (Int.toNat 16) [Value.int 0 tk0]).flatten = w1 at N3 i1
    have N4 := fun p hp => N3 p (List.Sublist.mem hp (.cons_cons _ (.cons _ (.cons_cons _ (.cons _ (.refl _))))))
    replace N4 : News g L hF _ := N4
    have d1 : @Ne Nat D1 D2 := Nat.ne_of_lt l4.2.1
    have d2 : @Ne Nat D1 lL := Nat.ne_of_gt l2.2.1
    have d3 : @Ne Nat D1 lH := Nat.ne_of_gt l2.2.2.1
    have d4 : @Ne Nat D1 Df := Nat.ne_of_gt l2.2.2.2.1
    have d5 : @Ne Nat D1 81 := Nat.ne_of_gt l2.2.2.2.2.2.2.2
    have d6 : L + 1 + 1 + 1 + 1 + 1 + 1 + 1 < D1 := l2.2.2.2.2.1
    have d7 : @Ne Nat D2 lL := Nat.ne_of_gt l4.2.2.2.1
    have d8 : @Ne Nat D2 lH := Nat.ne_of_gt l4.2.2.2.2.1
    have d9 : @Ne Nat D2 Df := Nat.ne_of_gt l4.2.2.2.2.2.1
    have d10 : @Ne Nat D2 81 := Nat.ne_of_gt l4.2.2.2.2.2.2.2.2.2
    have d11 : L + 1 + 1 + 1 + 1 + 1 + 1 + 1 < D2 := l4.2.2.2.2.2.2.1
    have d12 : @Ne Nat lH 81 := (far_off l0 e5).1
    have d13 : @Ne Nat lL 81 := (far_off l0 (Nat.lt_trans e5 e9)).1
    have d14 : @Ne Nat lH (L + 1 + 1 + 1) := (far_off l0 e5).2
    have d15 : @Ne Nat lL (L + 1 + 1 + 1) := (far_off l0 (Nat.lt_trans e5 e9)).2
    clear N3 hv1 hv2 l1 l2 l3 l4 sA eA e2A e3A sB eB e2B e3B e1 e2 e3 e4 e6 e7 Dt Dp oTx oPa ys2 ys3
    refine ord_spec (X.keeps F3.keep) (T.keeps F3.keep) (okLaw' _) ?_
    intro Dr rs kr rws h' tk' up hnew hR
    have F4 : Fr g L h' (frm D1 D2 Df (fun z => if z = Str.ofString "told" then vt else if z = Str.ofString "lain" then vl else if z = Str.ofString "held" then vh else m0 z) (m0 (Str.ofString "last")) (m0 (Str.ofString "first")) (m0 (Str.ofString "flag")) (m0 (Str.ofString "fronts")) (m0 (Str.ofString "order"))) := by
      refine frMap (frUp F3 up) ?_
      funext y
      by_cases h1 : y = Str.ofString "last"
      · subst h1; rfl
      · by_cases h2 : y = Str.ofString "first"
        · subst h2; rfl
        · by_cases h3 : y = Str.ofString "flag"
          · subst h3; rfl
          · by_cases h4 : y = Str.ofString "fronts"
            · subst h4; rfl
            · by_cases h5 : y = Str.ofString "order"
              · subst h5; rfl
              · by_cases h6 : y = Str.ofString "family"
                · subst h6; rfl
                · simp only [frm, h1, h2, h3, h4, h5, h6, if_false]
    generalize (fun z => if z = Str.ofString "told" then vt else if z = Str.ofString "lain" then vl else if z = Str.ofString "held" then vh else m0 z) = m9 at F4
    generalize m0 (Str.ofString "last") = va, m0 (Str.ofString "first") = vb, m0 (Str.ofString "flag") = vc, m0 (Str.ofString "fronts") = vd, m0 (Str.ofString "order") = ve at F4
    have n81 : ∀ p ∈ rws, p.1 ≠ 81 := fun p hp => (new_ne N4 (hnew p (.tail _ hp)).2 (81, tabObj #[]) (by k_mem)).symm
    have nD1 : ∀ p ∈ rws, p.1 ≠ D1 := fun p hp => (new_ne N4 (hnew p (.tail _ hp)).2 (D1, _) (by k_mem)).symm
    have nD2 : ∀ p ∈ rws, p.1 ≠ D2 := fun p hp => (new_ne N4 (hnew p (.tail _ hp)).2 (D2, _) (by k_mem)).symm
    have nM : ∀ p ∈ rws, p.1 ≠ L + 1 + 1 + 1 := fun p hp => (new_ne N4 (hnew p (.tail _ hp)).2 (L + 1 + 1 + 1, oM) (by k_mem)).symm
    have r81 : @Ne Nat Dr 81 := (new_ne N4 (hnew _ (.head _)).2 (81, tabObj #[]) (by k_mem)).symm
    have rD1 : @Ne Nat Dr D1 := (new_ne N4 (hnew _ (.head _)).2 (D1, _) (by k_mem)).symm
    have rD2 : @Ne Nat Dr D2 := (new_ne N4 (hnew _ (.head _)).2 (D2, _) (by k_mem)).symm
    have rM : @Ne Nat Dr (L + 1 + 1 + 1) := (new_ne N4 (hnew _ (.head _)).2 (L + 1 + 1 + 1, oM) (by k_mem)).symm
    have N5 : News g L h' ((Dr, W.listOf rs.toArray kr) :: (D2, W.listOf w2.toArray 0) :: (D1, W.listOf w1.toArray 0) :: (lL, W.listOf (boolsTo (liesB [f0, f1, f2]) 16).toArray k1) :: (lH, W.listOf (boolsTo (holdsB [f0, f1, f2]) 16).toArray k2) :: (Df, LCg.lst ys) ::
      (L + 1 + 1 + 1 + 1 + 1 + 1 + 1, oLi) :: (L + 1 + 1 + 1 + 1 + 1 + 1, oHo) :: (L + 1 + 1 + 1, oM) :: (81, tabObj #[]) :: rws) := by
      have N6 := newsUp N4 up
      intro p hp
      rcases List.mem_cons.mp hp with rfl | hp
      · exact new_row F3 (hnew _ (.head _)).1 (hnew _ (.head _)).2
      · by_cases hq : p ∈ rws
        · exact new_row F3 (hnew _ (.tail _ hq)).1 (hnew _ (.tail _ hq)).2
        · refine N6 p ?_
          simp only [List.mem_cons, hq, or_false, List.not_mem_nil] at hp ⊢
          exact hp
    clear N4 F3 hnew up
    refine ForAt.list (its := rs.toArray) (OrdJ L D1 D2 Df Dr lL lH m9 [f0, f1, f2] rs kr k1 k2 ys oLi oHo oM rws) rfl F4 N5 ?_ ⟨va, vb, vc, vd, ve, w1, w2, 0, 0, #[], rws, rfl, rfl, by rw [List.take_zero, tal_nil]; exact i1, by rw [List.take_zero, tal_nil]; exact i2, .nil, fun _ h => h, n81, nD1, nD2, nM⟩ ?_ ?_
    · rintro i m' news' ⟨v1, v2, v3, v4, v5, ws1, ws2, c1, c2, ps, R, rfl, rfl, -⟩
      exact .inr ⟨_, .head _, rfl, _, rfl⟩
    · rintro I oI i v m₁ news₁ h tk hi ⟨v1, v2, v3, v4, v5, ws1, ws2, c1, c2, ps, R, rfl, rfl, hj1, hj2, hT, hsub, o81, oD1, oD2, oM'⟩ F1 N1 off1
      clear F4 N5 i1 i2 n81 nD1 nD2 nM dM
      dsimp only
      revert w s₁ mg mb fa L g mean loose prog qk ek ys f0 f1 f2 Df m9 lH oHo lL oLi oM D1 D2 Dr rs kr rws k1 k2 h' tk' I oI i v h tk v1 v2 v3 v4 v5 ws1 ws2 c1 c2 ps R
      exact hP.out
    · rintro m' news' h tk ⟨v1, v2, v3, v4, v5, ws1, ws2, c1, c2, ps, R, rfl, rfl, hj1, hj2, hT, hsub, o81, oD1, oD2, oM'⟩ F1 N1
      clear F4 N5 i1 i2 n81 nD1 nD2 nM
      have hrs : (stage 4).take rs.toArray.size = stage 4 := by rw [List.size_toArray, hR.1, List.take_length]
      rw [hrs] at hj1 hj2
      clear hrs hR hsub hT o81 oD1 oD2 dHo dLi
      dsimp only
      revert w s₁ mg mb fa L g mean loose prog qk ek ys f0 f1 f2 Df m9 lH oHo lL oLi oM vM D1 D2 Dr rs kr k1 k2 h' tk' h tk v1 v2 v3 v4 v5 ws1 ws2 c1 c2 ps R
      exact hP2.out
end
end Mine
theorem Mine.anew66 {prog : Program} {w : World} {A : Around} {s : Shared} : wpAny (model prog w) A (truthy (.bool true)) (fun _ _ => True) (fun _ _ => False) s := by
  w_top off
  walk1
  trivial
namespace Mine
theorem flags16 : ∀ o ∈ stage 4, ∀ x ∈ o, x < 16 := by decide +kernel
/-- the walk stands at a lambda -/
def LamHere (prog : Program) (w : World) (A : Around) (params : Arguments) (body : Expr) (scope : Scope) (pos : Pos) (env : Env) (Q E : Value → Shared → Prop) (s : Shared) : Prop := wpAny (model prog w) A (eval (.Lambda params body scope pos) env) Q E s
theorem Lam_here {prog : Program} {w : World} {A : Around} {params : Arguments} {body : Expr} {scope : Scope} {pos : Pos} {env : Env} {Q E : Value → Shared → Prop} {s : Shared} (h : LamHere prog w A params body scope pos env Q E s) :
    wpAny (model prog w) A (eval (.Lambda params body scope pos) env) Q E s := h
theorem fronts_step {row : List Nat} {j x : Nat} (h : row[j]? = some x) : fronts (row.take (j + 1)) = fronts (row.take j) ++ [(fronts (row.take j)).getLastD 0 ||| x] := by
  unfold fronts
  rw [List.take_add_one, h, Option.toList_some, List.foldl_append]
  rfl
theorem last_item {prog : Program} {w : World} {A : Around} {E : Value → Shared → Prop} {s : Shared} {value slice : Expr} {l : Addr} {vs : List Value} {ns : List Nat} {u : Tok} {Q : Value → Shared → Prop} (hl : s.heap.IsList l vs.toArray) (hi : IntsAre vs (zs ns)) (hn : 0 < ns.length)
    (h : ∀ t, Q (.int ((ns.getLastD 0 : Nat) : Int) t) s)
    (hs : subscripted slice false (.ref l) (.int (-1) u) = operate [.ref l, .int (-1) u] (getItem (.ref l) (.int (-1) u)) := by with_unfolding_all rfl) :
    wpAny (model prog w) A (subscriptTail value slice (.ref l) (.int (-1) u)) Q E s := by
  refine item_list_ints_negR hl hi (by decide) (by rw [List.length_map]; omega) (by decide) (fun t => ?_) hs
  have e : (zs ns).getD (-1 + ((zs ns).length : Int)).toNat 0 = ((ns.getLastD 0 : Nat) : Int) := by
    have e1 : (-1 + ((zs ns).length : Int)).toNat = ns.length - 1 := by rw [List.length_map]; omega
    rw [e1, List.getD_eq_getElem?_getD, List.getElem?_map, List.getLastD_eq_getLast?, List.getLast?_eq_getElem?]
    cases ns[ns.length - 1]? <;> rfl
  rw [e]
  exact h t
theorem last_lt {ns : List Nat} (h : ∀ y ∈ ns, y < 16) : ns.getLastD 0 < 16 := by
  rw [List.getLastD_eq_getLast?]
  cases e : ns.getLast? with
  | none => decide
  | some y => exact h y (List.mem_of_getLast? e)
section
local macro_rules | `(tactic| walk_at "exec For Name Name cons nil") => `(tactic| (k_dflt (refine For_at ?_)))
local macro_rules | `(tactic| walk_at "subscriptTail Name UnaryOp ref int") => `(tactic| (k_dflt (refine last_item (News.isList (by k_asm) (by k_mem)) (by assumption) (by assumption) ?_; intro tl)))
local macro_rules | `(tactic| walk_at "call builtin:list.append") => `(tactic| (k_dflt (refine' append_K ?k1 ?k2 ?k3 ?_ ?z; (case k1 => k_asm); (case k2 => k_asm); (case k3 => k_upd); (case z => assumption); k_whole); intro h' F' N'; (try k_sweep)))
local macro_rules | `(tactic| walk_at "eval Lambda") => `(tactic| (k_dflt (refine Lam_here ?_)))
local macro_rules | `(tactic| k_all) => `(tactic| assumption)
def seg10 : Seg seg9.P1 := by
  apply Seg.mk
  case h =>
    intro hP
    intro w s₁ mg mb fa L l0 g X hC mean loose T prog qk ek ys f0 p0 q0 f1 p1 q1 f2 p2 q2 hfam Df b8 lH oHo dHo lL oLi dLi e5 e8 e9 b0 oM k1 k2 D1 D2 d1 d2 d3 d4 d5 d6 d7 d8 d9 d10 d11 d12 d13 d14 d15 Dr rs kr rws h' tk' hR m9 r81 rD1 rD2 rM I oI i v h tk hi v1 v2 v3 v4 v5 ws1 ws2 c1 c2 ps R hj1 hj2 hT hsub o81 oD1 oD2 oM' F1 N1 off1
    have hi' : rs[i]? = some v := by simpa using hi
    have hlt : i < (stage 4).length := by rw [← hR.1]; exact (List.getElem?_eq_some_iff.mp hi').1
    obtain ⟨a, vs, n, hya, hmem, hints⟩ := hR.2 i _ (List.getElem?_eq_getElem hlt)
    obtain rfl : v = .ref a := by
      rw [hya] at hi'
      exact (Option.some.inj hi').symm
    have hg := good _ (List.getElem_mem hlt)
    have h16 := flags16 _ (List.getElem_mem hlt)
    obtain ⟨x1, x2, x3, x4, hrow⟩ := good4 hg
    rw [hrow] at hints h16
    have z1 := h16 x1 (by simp)
    have z2 := h16 x2 (by simp)
    have z3 := h16 x3 (by simp)
    have z4 := h16 x4 (by simp)
    obtain ⟨i1, i2, i3, i4, t1, t2, t3, t4, rfl, hz⟩ := ints4 hints rfl
    obtain ⟨rfl, rfl, rfl, rfl⟩ : (x1 : Int) = i1 ∧ (x2 : Int) = i2 ∧ (x3 : Int) = i3 ∧ (x4 : Int) = i4 := by
      simpa [zs] using hz
    have a81 : @Ne Nat a 81 := o81 _ (hsub _ hmem)
    have aD1 : @Ne Nat a D1 := oD1 _ (hsub _ hmem)
    have aD2 : @Ne Nat a D2 := oD2 _ (hsub _ hmem)
    have N2 : News g L h ((a, W.listOf [Value.int x1 t1, Value.int x2 t2, Value.int x3 t3, Value.int x4 t4].toArray n) :: (I, oI) :: (Dr, W.listOf rs.toArray kr) :: (D2, W.listOf ws2.toArray c2) :: (D1, W.listOf ws1.toArray c1) :: (lL, W.listOf (boolsTo (liesB [f0, f1, f2]) 16).toArray k1) :: (lH, W.listOf (boolsTo (holdsB [f0, f1, f2]) 16).toArray k2) :: (Df, LCg.lst ys) ::
      (L + 1 + 1 + 1 + 1 + 1 + 1 + 1, oLi) :: (L + 1 + 1 + 1 + 1 + 1 + 1, oHo) :: (L + 1 + 1 + 1, oM) :: (81, tabObj ps) :: R) := fun p hp => by
      rcases List.mem_cons.mp hp with rfl | hp
      · refine N1 _ ?_
        iterate 11 apply List.Mem.tail
        exact hsub _ hmem
      · exact N1 p hp
    have hr16 : ∀ x ∈ [x1, x2, x3, x4], x < 16 := h16
    clear N1 hR hya hi hi' hg h16 hints hz
    simp only [LCg.Off1] at off1
    k_steps
    rename_i tkA hA tkB lf hB ll hC1 F3 N3
    have oF : ∀ p ∈ R, p.1 ≠ lf := fun p hp => Nat.ne_of_lt (kst_ltOf ll.2.2.2.2.2.2.2.2.2.2.2.2 p hp)
    have aF : @Ne Nat a lf := Nat.ne_of_lt ll.1
    refine ForAt.list (its := [Value.int x1 t1, Value.int x2 t2, Value.int x3 t3, Value.int x4 t4].toArray) (fun j m₂ news₂ => ∃ (vf : Option Value) (fs : List Value) (q : Nat), m₂ = frm D1 D2 Df m9 v1 v2 vf (some (.ref lf)) (some (.ref a)) ∧
      news₂ = (lf, W.listOf fs.toArray q) :: (a, W.listOf [Value.int x1 t1, Value.int x2 t2, Value.int x3 t3, Value.int x4 t4].toArray n) :: (I, oI) :: (Dr, W.listOf rs.toArray kr) :: (D2, W.listOf ws2.toArray c2) :: (D1, W.listOf ws1.toArray c1) :: (lL, W.listOf (boolsTo (liesB [f0, f1, f2]) 16).toArray k1) :: (lH, W.listOf (boolsTo (holdsB [f0, f1, f2]) 16).toArray k2) :: (Df, LCg.lst ys) ::
      (L + 1 + 1 + 1 + 1 + 1 + 1 + 1, oLi) :: (L + 1 + 1 + 1 + 1 + 1 + 1, oHo) :: (L + 1 + 1 + 1, oM) :: (81, tabObj ps) :: R ∧ IntsAre fs (zs (fronts ([x1, x2, x3, x4].take j))) ∧ (fronts ([x1, x2, x3, x4].take j)).length = j + 1 ∧ ∀ y ∈ fronts ([x1, x2, x3, x4].take j), y < 16) rfl F3 N3 ?_ ?_ ?_ ?_
    · rintro j m' news' ⟨vf, fs, q, rfl, rfl, -⟩
      exact .inr ⟨_, .tail _ (.head _), rfl, _, rfl⟩
    · refine ⟨v3, [.int 0 _], 0, ?_, rfl, .cons _ _ .nil, rfl, fun y hy => by simp [fronts] at hy; omega⟩
      funext y
      by_cases h1 : y = Str.ofString "last"
      · subst h1; rfl
      · by_cases h2 : y = Str.ofString "first"
        · subst h2; rfl
        · by_cases h3 : y = Str.ofString "flag"
          · subst h3; rfl
          · by_cases h4 : y = Str.ofString "fronts"
            · subst h4; rfl
            · by_cases h5 : y = Str.ofString "order"
              · subst h5; rfl
              · simp only [frm, h1, h2, h3, h4, h5, if_false]
    · rintro I2 oI2 j v m₂ news₂ h8 tk8 hv ⟨vf, fs, q, rfl, rfl, hfs, hlen, hy16⟩ F4 N4 off2
      simp only [LCg.Off1] at off2
      clear F3 N3
      have hrI : IntsAre [Value.int x1 t1, Value.int x2 t2, Value.int x3 t3, Value.int x4 t4] (zs [x1, x2, x3, x4]) := .cons _ _ (.cons _ _ (.cons _ _ (.cons _ _ .nil)))
      obtain ⟨nz, tz, rfl, hz⟩ := hrI.at j v (by simpa using hv)
      obtain ⟨x, hx, rfl⟩ := zs_at hz
      have hx16 : x < 16 := hr16 x (List.mem_of_getElem? hx)
      clear hrI hz hv
      have hl16 := last_lt hy16
      have hj4 : j < 4 := (List.getElem?_eq_some_iff.mp hx).1
      have hfz : fs.toArray.size ≤ sizeLine := by rw [List.size_toArray, hfs.length, List.length_map, hlen, sizeLine_eq]; omega
      have hpos : 0 < (fronts ([x1, x2, x3, x4].take j)).length := by omega
      k_steps
      rename Fr _ _ _ _ => F5
      rename News _ _ _ _ => N5
      rw [or_nat hl16 hx16, List.push_toArray] at N5
      have e9 := fronts_step hx
      refine ForEnd.go F5 N5 _ (fun p hp => hp) off2 ⟨some (.int (x : Int) tz), fs ++ [.int _ _], q + 1, ?_, rfl, ?_, ?_, ?_⟩
      · funext y
        by_cases h1 : y = Str.ofString "last"
        · subst h1; rfl
        · by_cases h2 : y = Str.ofString "first"
          · subst h2; rfl
          · by_cases h3 : y = Str.ofString "flag"
            · subst h3; rfl
            · simp only [frm, h1, h2, h3, if_false]
      · rw [e9]
        show IntsAre _ (List.map _ (_ ++ _))
        rw [List.map_append]
        exact hfs.append (.cons _ _ .nil)
      · rw [e9, List.length_append, hlen]; rfl
      · intro y hy
        rw [e9] at hy
        rcases List.mem_append.mp hy with hy | hy
        · exact hy16 y hy
        · rw [List.mem_singleton.mp hy]
          exact or_lt hl16 hx16
    · rintro m' news' h8 tk8 ⟨vf, fs, q, rfl, rfl, hfs, hlen, hy16⟩ F4 N4
      clear F3 N3 hr16 z1 z2 z3 z4
      replace hfs : IntsAre fs (zs (fronts [x1, x2, x3, x4])) := hfs
      replace hy16 : ∀ y ∈ fronts [x1, x2, x3, x4], y < 16 := hy16
      clear hlen
      have a84 : @Ne Nat a (L + 1 + 1 + 1) := oM' _ (hsub _ hmem)
      clear hmem
      k_steps
      revert w s₁ mg mb fa L g mean loose prog qk ek ys f0 f1 f2 Df m9 lH oHo lL oLi oM D1 D2 Dr rs kr rws k1 k2 h' tk' I oI i v1 v2 ws1 ws2 c1 c2 ps R a n x1 x2 x3 x4 t1 t2 t3 t4 lf vf fs q h8 tk8
      exact hP.out
end
end Mine
theorem Mine.anew68 {prog : Program} {w : World} {A : Around} {s : Shared} : wpAny (model prog w) A (truthy (.bool true)) (fun _ _ => True) (fun _ _ => False) s := by
  w_top off
  walk1
  trivial
namespace Mine
theorem bools_are (f : Nat → Bool) : ∀ i, LSm.BoolsAre (boolsTo f i) ((List.range i).map f)
  | 0 => .nil
  | i + 1 => by
    unfold boolsTo
    rw [List.range_succ, List.map_append, List.map_append]
    exact kbo_app (bools_are f i) (.cons _ .nil)
theorem range_getD (f : Nat → Bool) {n : Nat} (h : n < 16) : ((List.range 16).map f).getD n false = f n := by
  rw [List.getD_eq_getElem?_getD, List.getElem?_map, List.getElem?_range h]
  rfl
theorem zs_getD (l : List Nat) (i : Nat) : (zs l).getD i 0 = ((l.getD i 0 : Nat) : Int) := by
  rw [List.getD_eq_getElem?_getD, List.getElem?_map, List.getD_eq_getElem?_getD]
  cases l[i]? <;> rfl
theorem getD_lt {l : List Nat} (h : ∀ y ∈ l, y < 16) (i : Nat) : l.getD i 0 < 16 := by
  rw [List.getD_eq_getElem?_getD]
  cases e : l[i]? with
  | none => decide
  | some y => exact h y (List.mem_of_getElem? e)
/-- what a key says of the places of a list -/
theorem key_at {f : Nat → Bool} {l : List Nat} (h : ∀ y ∈ l, y < 16) : (fun i => ((List.range 16).map f).getD ((zs l).getD i 0).toNat false) = fun i => f (l.getD i 0) := by
  funext i
  rw [zs_getD, Int.toNat_natCast, range_getD f (getD_lt h i)]
theorem and_sub {f a b : Nat} (h : a &&& b = a) (e : f &&& a = f) : f &&& b = f := by
  rw [← e, Nat.and_assoc, h]
theorem sub_and {f a b : Nat} (h : a &&& b = a) (e : f &&& b = b) : f &&& a = a := by
  rw [← h, Nat.and_comm a b, ← Nat.and_assoc, e]
theorem holds_mono (fam : List Nat) : ∀ a b, a &&& b = a → holdsB fam a = true → holdsB fam b = true := by
  intro a b h e
  obtain ⟨o, ho, e⟩ := List.any_eq_true.mp e
  exact List.any_eq_true.mpr ⟨o, ho, beq_iff_eq.mpr (and_sub h (beq_iff_eq.mp e))⟩
theorem lies_mono (fam : List Nat) : ∀ a b, a &&& b = a → liesB fam b = true → liesB fam a = true := by
  intro a b h e
  obtain ⟨o, ho, e⟩ := List.any_eq_true.mp e
  exact List.any_eq_true.mpr ⟨o, ho, beq_iff_eq.mpr (sub_and h (beq_iff_eq.mp e))⟩
theorem and15 : ∀ f, f < 16 → f &&& 15 = f := by decide +kernel
theorem holds_0 {fam : List Nat} (h : ∀ f ∈ fam, 1 ≤ f ∧ f < 16) : holdsB fam 0 = false := by
  rw [holdsB, List.any_eq_false]
  intro f hf e
  rw [Nat.and_zero] at e
  have := beq_iff_eq.mp e
  have := h f hf
  omega
theorem holds_15 {fam : List Nat} (h : ∀ f ∈ fam, 1 ≤ f ∧ f < 16) (hne : fam ≠ []) : holdsB fam 15 = true := by
  obtain ⟨f, hf⟩ := List.exists_mem_of_ne_nil _ hne
  exact List.any_eq_true.mpr ⟨f, hf, beq_iff_eq.mpr (and15 f (h f hf).2)⟩
theorem lies_0 {fam : List Nat} (hne : fam ≠ []) : liesB fam 0 = true := by
  obtain ⟨f, hf⟩ := List.exists_mem_of_ne_nil _ hne
  exact List.any_eq_true.mpr ⟨f, hf, beq_iff_eq.mpr (Nat.and_zero f)⟩
/-- the place of the first front that holds a member -/
def firstAt (H : Nat → Bool) (o : List Nat) : Nat := bl (fun i => H ((fronts o).getD i 0)) 5 0 5
def lastAt (Z : Nat → Bool) (o : List Nat) : Nat := bl (fun i => !Z ((fronts o).getD i 0)) 5 0 5
theorem firstAt_lt {H : Nat → Bool} (mono : ∀ a b, a &&& b = a → H a = true → H b = true) (h0 : H 0 = false) (h15 : H 15 = true) {o : List Nat} (g : goodB o = true) : firstAt H o < 5 := by
  obtain ⟨x1, x2, x3, x4, rfl⟩ := good4 g
  simp only [goodB, Bool.and_eq_true, beq_iff_eq] at g
  obtain ⟨⟨⟨⟨g1, g2⟩, g3⟩, g4⟩, g5⟩ := g
  have m1 := mono _ _ (or_sub (0 ||| x1) x2)
  have m2 := mono _ _ (or_sub (0 ||| x1 ||| x2) x3)
  have m3 := mono _ _ (or_sub (0 ||| x1 ||| x2 ||| x3) x4)
  unfold firstAt
  rw [fronts4, bl5 _ (by simp [h0]) (by simpa using m1) (by simpa using m2) (by simpa using m3)]
  have e4 : H (([0, 0 ||| x1, 0 ||| x1 ||| x2, 0 ||| x1 ||| x2 ||| x3, 0 ||| x1 ||| x2 ||| x3 ||| x4] : List Nat).getD 4 0) = true := by
    show H (0 ||| x1 ||| x2 ||| x3 ||| x4) = true
    rw [g5]; exact h15
  simp only [e4, if_true]
  split
  · omega
  · split
    · omega
    · split
      · omega
      · split <;> omega
theorem lastAt_in {Z : Nat → Bool} (mono : ∀ a b, a &&& b = a → Z b = true → Z a = true) (h0 : Z 0 = true) {o : List Nat} (g : goodB o = true) : 1 ≤ lastAt Z o ∧ lastAt Z o ≤ 5 := by
  obtain ⟨x1, x2, x3, x4, rfl⟩ := good4 g
  have m1 := mono _ _ (or_sub (0 ||| x1) x2)
  have m2 := mono _ _ (or_sub (0 ||| x1 ||| x2) x3)
  have m3 := mono _ _ (or_sub (0 ||| x1 ||| x2 ||| x3) x4)
  have cn : ∀ {a b : Bool}, (b = true → a = true) → ((!a) = true → (!b) = true) := by intro a b; cases a <;> cases b <;> simp
  unfold lastAt
  rw [fronts4, bl5 _ (by simp [h0]) (by simpa using cn m1) (by simpa using cn m2) (by simpa using cn m3)]
  have e0 : (!Z (([0, 0 ||| x1, 0 ||| x1 ||| x2, 0 ||| x1 ||| x2 ||| x3, 0 ||| x1 ||| x2 ||| x3 ||| x4] : List Nat).getD 0 0)) = false := by
    show (!Z 0) = false
    rw [h0]; rfl
  simp only [e0, Bool.false_eq_true, if_false]
  split
  · omega
  · split
    · omega
    · split
      · omega
      · split <;> omega
end Mine
theorem Mine.anew70 {prog : Program} {w : World} {A : Around} {s : Shared} : wpAny (model prog w) A (truthy (.bool true)) (fun _ _ => True) (fun _ _ => False) s := by
  w_top off
  walk1
  trivial
namespace Mine
/-- the walk stands at a call -/
def CallHere (prog : Program) (w : World) (A : Around) (f : Value) (pos : List Value) (kw : List (Str × Value)) (Q E : Value → Shared → Prop) (s : Shared) : Prop := wpAny (model prog w) A (call f pos kw) Q E s
theorem Call_here {prog : Program} {w : World} {A : Around} {f : Value} {pos : List Value} {kw : List (Str × Value)} {Q E : Value → Shared → Prop} {s : Shared} (h : CallHere prog w A f pos kw Q E s) :
    wpAny (model prog w) A (call f pos kw) Q E s := h
section
local macro_rules | `(tactic| walk_at "eval Lambda") => `(tactic| (k_dflt (refine Lam_here ?_)))
local macro_rules | `(tactic| walk_at "call ref") => `(tactic| (k_dflt (refine Call_here ?_)))
local macro_rules | `(tactic| k_all) => `(tactic| assumption)
def seg11 : Seg seg10.P := by
  apply Seg.mk
  case h =>
    intro hP
    intro w s₁ mg mb fa L l0 g X hC mean loose T prog qk ek ys f0 p0 q0 f1 p1 q1 f2 p2 q2 hfam Df b8 lH oHo dHo lL oLi dLi e5 e8 e9 b0 oM k1 k2 D1 D2 d1 d2 d3 d4 d5 d6 d7 d8 d9 d10 d11 d12 d13 d14 d15 Dr rs kr rws h' tk' m9 r81 rD1 rD2 rM I oI i v1 v2 ws1 ws2 c1 c2 ps R hj1 hj2 hT hsub o81 oD1 oD2 oM' off1 hlt a n x1 x2 x3 x4 hrow t1 t2 t3 t4 a81 aD1 aD2 lf ll oF aF h8 tk8 vf fs q F4 N4 hfs hy16 a84
    refine' lam_any F4 N4 T hC rfl ?U ?sub hT rfl rfl ?_
    case U => k_updF
    case sub =>
      intro p hp
      iterate 13 apply List.Mem.tail
      exact hp
    intro f c' oc vs t ctv ps' h9 tk9 F5 N5 hdc hv hT' lf' lc hne
    k_steps
    show wpAny _ _ (call (.ref 32) [.ref lf, .bool true] [(Str.ofString "key", .ref f)]) _ _ _
    have hfam2 : ∀ f ∈ [f0, f1, f2], 1 ≤ f ∧ f < 16 := by
      intro f hf
      simp only [List.mem_cons, List.not_mem_nil, or_false] at hf
      omega
    have hgood : goodB [x1, x2, x3, x4] = true := hrow ▸ good _ (List.getElem_mem hlt)
    have hfa := firstAt_lt (holds_mono [f0, f1, f2]) (holds_0 hfam2) (holds_15 hfam2 (by simp)) hgood
    refine bl_spec (X.keeps F5.keep) (T.keeps F5.keep) (okLaw _) (News.isList N5 (by k_mem)) hfs (show 5 ≤ 100 by decide) ?_ (N5 _ (.head _)).1
      ⟨key1 (N5 _ (.head _)).1 ⟨c', oc, vs, t, rfl, (N5 _ (.tail _ (.head _))).1, hdc, hv⟩ (T.nolimit.keeps F5.keep) (N5 (L + 1 + 1 + 1 + 1 + 1 + 1, oHo) (by k_mem)).1 dHo (N5 (lH, W.listOf (boolsTo (holdsB [f0, f1, f2]) 16).toArray k2) (by k_mem)).1 (bools_are (holdsB [f0, f1, f2]) 16) rfl⟩ ?_
    · intro x hx
      obtain ⟨y, hy, rfl⟩ := List.mem_map.mp hx
      have := hy16 y hy
      omega
    intro ti h10 tk10 up
    have e9 : bl (fun i => ((List.range 16).map (holdsB [f0, f1, f2])).getD ((zs (fronts [x1, x2, x3, x4])).getD i 0).toNat false) (zs (fronts [x1, x2, x3, x4])).length 0 (zs (fronts [x1, x2, x3, x4])).length = firstAt (holdsB [f0, f1, f2]) [x1, x2, x3, x4] := by
      rw [key_at hy16]
      rfl
    rw [e9]
    have F6 := frUp F5 up
    have N6 := newsUp N5 up
    refine item_list_intsR (News.isList N6 (by k_mem)) hfs (Int.natCast_nonneg _) (by show (_ : Int) < 5; omega) (by omega) (fun t9 => ?_)
    have e8 : (zs (fronts [x1, x2, x3, x4])).getD ((firstAt (holdsB [f0, f1, f2]) [x1, x2, x3, x4] : Nat) : Int).toNat 0 = ((firstOf (holdsB [f0, f1, f2]) [x1, x2, x3, x4] : Nat) : Int) := by
      rw [zs_getD, Int.toNat_natCast]
      rfl
    rw [e8]
    have N7 : News g L h10 ((lf, W.listOf fs.toArray q) :: (a, W.listOf [Value.int x1 t1, Value.int x2 t2, Value.int x3 t3, Value.int x4 t4].toArray n) :: (I, oI) :: (Dr, W.listOf rs.toArray kr) :: (D2, W.listOf ws2.toArray c2) :: (D1, W.listOf ws1.toArray c1) :: (lL, W.listOf (boolsTo (liesB [f0, f1, f2]) 16).toArray k1) :: (lH, W.listOf (boolsTo (holdsB [f0, f1, f2]) 16).toArray k2) :: (Df, LCg.lst ys) ::
      (L + 1 + 1 + 1 + 1 + 1 + 1 + 1, oLi) :: (L + 1 + 1 + 1 + 1 + 1 + 1, oHo) :: (L + 1 + 1 + 1, oM) :: (81, tabObj ps') :: (c', oc) :: R) := by
      intro p hp
      apply N6
      simp only [List.mem_cons] at hp ⊢
      rcases hp with h | h | h | h | h | h | h | h | h | h | h | h | h | h | h <;> simp only [h, true_or, or_true]
    have mk : ∀ X o, (X, o) ∈ ((lf, W.listOf fs.toArray q) :: (a, W.listOf [Value.int x1 t1, Value.int x2 t2, Value.int x3 t3, Value.int x4 t4].toArray n) :: (I, oI) :: (Dr, W.listOf rs.toArray kr) :: (D2, W.listOf ws2.toArray c2) :: (D1, W.listOf ws1.toArray c1) :: (lL, W.listOf (boolsTo (liesB [f0, f1, f2]) 16).toArray k1) :: (lH, W.listOf (boolsTo (holdsB [f0, f1, f2]) 16).toArray k2) :: (Df, LCg.lst ys) ::
      (L + 1 + 1 + 1 + 1 + 1 + 1 + 1, oLi) :: (L + 1 + 1 + 1 + 1 + 1 + 1, oHo) :: (L + 1 + 1 + 1, oM) :: (81, tabObj ps) :: R) → (∀ q ∈ R, q.1 ≠ X) → ∀ q ∈ (c', oc) :: R, q.1 ≠ X := fun X o h1 h2 q hq => by
      rcases List.mem_cons.mp hq with rfl | hq
      · exact hne X o h1 h2
      · exact h2 q hq
    have o81' := mk 81 _ (by k_mem) o81
    have oD1' := mk D1 _ (by k_mem) oD1
    have oD2' := mk D2 _ (by k_mem) oD2
    have oM'' := mk (L + 1 + 1 + 1) _ (by k_mem) oM'
    have oF' := mk lf _ (by k_mem) oF
    have oI' : ∀ q ∈ (c', oc) :: R, q.1 ≠ I := mk I _ (by k_mem) (fun p hp => off1_mem off1.2.2.2.2.2.2.2.2.2.2 p hp)
    have hsub' : ∀ p ∈ rws, p ∈ (c', oc) :: R := fun p hp => .tail _ (hsub p hp)
    replace hT' : TabOk lamQual ps' ((c', oc) :: R) := hT'
    have g81 : @Ne Nat lf 81 := Nat.ne_of_gt ll.2.2.2.2.2.2.2.2.2.2.2.1
    have gD1 : @Ne Nat lf D1 := Nat.ne_of_gt ll.2.2.2.2.1
    have gD2 : @Ne Nat lf D2 := Nat.ne_of_gt ll.2.2.2.1
    have gM : L + 1 + 1 + 1 < lf := ll.2.2.2.2.2.2.2.2.2.2.1
    have off3 : @Ne Nat Dr I ∧ @Ne Nat D2 I ∧ @Ne Nat D1 I ∧ @Ne Nat lL I ∧ @Ne Nat lH I ∧ @Ne Nat Df I ∧ @Ne Nat (L + 1 + 1 + 1 + 1 + 1 + 1 + 1) I ∧ @Ne Nat (L + 1 + 1 + 1 + 1 + 1 + 1) I ∧ @Ne Nat (L + 1 + 1 + 1) I ∧ @Ne Nat 81 I :=
      ⟨off1.1, off1.2.1, off1.2.2.1, off1.2.2.2.1, off1.2.2.2.2.1, off1.2.2.2.2.2.1, off1.2.2.2.2.2.2.1, off1.2.2.2.2.2.2.2.1, off1.2.2.2.2.2.2.2.2.1, off1.2.2.2.2.2.2.2.2.2.1⟩
    generalize (c', oc) :: R = R9 at *
    clear F5 N5 F4 N4 N6 mk e9 e8 hdc hv lf' lc hne up o81 oD1 oD2 oM' oF hT hsub ll off1 hfam2 hgood hfa
    k_steps
    rename_i hN F7 N8
    have F8 : Fr g L hN (frm D1 D2 Df m9 v1 (some (.int ((firstOf (holdsB [f0, f1, f2]) [x1, x2, x3, x4] : Nat) : Int) t9)) vf (some (.ref lf)) (some (.ref a))) := by
      refine frMap F7 ?_
      funext y
      by_cases h1 : y = Str.ofString "last"
      · subst h1; rfl
      · by_cases h2 : y = Str.ofString "first"
        · subst h2; rfl
        · simp only [frm, h1, h2, if_false]
    clear F7
    revert w s₁ mg mb fa L g mean loose prog qk ek ys f0 f1 f2 Df m9 lH oHo lL oLi oM D1 D2 Dr rs kr rws k1 k2 h' tk' I oI i v1 ws1 ws2 c1 c2 ps' R9 a n x1 x2 x3 x4 t1 t2 t3 t4 lf vf fs q hN tk t9
    exact hP.out
end
end Mine
theorem Mine.anew72 {prog : Program} {w : World} {A : Around} {s : Shared} : wpAny (model prog w) A (truthy (.bool true)) (fun _ _ => True) (fun _ _ => False) s := by
  w_top off
  walk1
  trivial
namespace Mine
/-- the walk stands at an item -/
def SubHere (prog : Program) (w : World) (A : Around) (value slice : Expr) (a b : Value) (Q E : Value → Shared → Prop) (s : Shared) : Prop := wpAny (model prog w) A (subscriptTail value slice a b) Q E s
theorem Sub_here {prog : Program} {w : World} {A : Around} {value slice : Expr} {a b : Value} {Q E : Value → Shared → Prop} {s : Shared} (h : SubHere prog w A value slice a b Q E s) :
    wpAny (model prog w) A (subscriptTail value slice a b) Q E s := h
section
local macro_rules | `(tactic| walk_at "exec Assign cons BinOp") => `(tactic| (k_dflt (refine Assign_here ?_)))
local macro_rules | `(tactic| walk_at "subscriptTail Name BinOp ref int") => `(tactic| (k_dflt (refine Sub_here ?_)))
local macro_rules | `(tactic| walk_at "call ref") => `(tactic| (k_dflt (refine Call_here ?_)))
local macro_rules | `(tactic| k_all) => `(tactic| assumption)
def seg12 : Seg seg11.P := by
  apply Seg.mk
  case h =>
    intro hP
    intro w s₁ mg mb fa L l0 g X hC mean loose T prog qk ek ys f0 p0 q0 f1 p1 q1 f2 p2 q2 hfam Df b8 lH oHo dHo lL oLi dLi e5 e8 e9 b0 oM k1 k2 D1 D2 d1 d2 d3 d4 d5 d6 d7 d8 d9 d10 d11 d12 d13 d14 d15 Dr rs kr rws h' tk' m9 r81 rD1 rD2 rM I oI i v1 ws1 ws2 c1 c2 hj1 hj2 hlt a n x1 x2 x3 x4 hrow t1 t2 t3 t4 a81 aD1 aD2 lf aF vf fs q hfs hy16 a84 ps t9 g81 gD1 gD2 gM off3 R o81 oD1 oD2 oM' oF oI' hsub hT h8 N4 tk8 F4
    refine' lam_any F4 N4 T hC rfl ?U ?sub hT rfl rfl ?_
    case U => k_updF
    case sub =>
      intro p hp
      iterate 13 apply List.Mem.tail
      exact hp
    intro f c' oc vs t ctv ps' h9 tk9 F5 N5 hdc hv hT' lf' lc hne
    k_steps
    show wpAny _ _ (call (.ref 23) [.ref lf, .bool false] [(Str.ofString "key", .ref f)]) _ _ _
    have hfam2 : ∀ f ∈ [f0, f1, f2], 1 ≤ f ∧ f < 16 := by
      intro f hf
      simp only [List.mem_cons, List.not_mem_nil, or_false] at hf
      omega
    have hgood : goodB [x1, x2, x3, x4] = true := hrow ▸ good _ (List.getElem_mem hlt)
    have hla := lastAt_in (lies_mono [f0, f1, f2]) (lies_0 (by simp)) hgood
    refine br_spec (g := fun n => !((List.range 16).map (liesB [f0, f1, f2])).getD n.toNat false) (X.keeps F5.keep) (T.keeps F5.keep) (okLaw _) (News.isList N5 (by k_mem)) hfs (show 5 ≤ 100 by decide) ?_ (N5 _ (.head _)).1
      ⟨key2 (N5 _ (.head _)).1 ⟨c', oc, vs, t, rfl, (N5 _ (.tail _ (.head _))).1, hdc, hv⟩ (T.nolimit.keeps F5.keep) (N5 (L + 1 + 1 + 1 + 1 + 1 + 1 + 1, oLi) (by k_mem)).1 dLi (N5 (lL, W.listOf (boolsTo (liesB [f0, f1, f2]) 16).toArray k1) (by k_mem)).1 (bools_are (liesB [f0, f1, f2]) 16) rfl⟩ ?_
    · intro x hx
      obtain ⟨y, hy, rfl⟩ := List.mem_map.mp hx
      have := hy16 y hy
      omega
    intro ti h10 tk10 up
    have e9 : bl (fun i => !((List.range 16).map (liesB [f0, f1, f2])).getD ((zs (fronts [x1, x2, x3, x4])).getD i 0).toNat false) (zs (fronts [x1, x2, x3, x4])).length 0 (zs (fronts [x1, x2, x3, x4])).length = lastAt (liesB [f0, f1, f2]) [x1, x2, x3, x4] := by
      have := congrArg (fun p : Nat → Bool => bl (fun i => !p i) 5 0 5) (key_at (f := liesB [f0, f1, f2]) hy16)
      exact this
    rw [e9]
    have F6 := frUp F5 up
    have N6 := newsUp N5 up
    have N7 : News g L h10 ((lf, W.listOf fs.toArray q) :: (a, W.listOf [Value.int x1 t1, Value.int x2 t2, Value.int x3 t3, Value.int x4 t4].toArray n) :: (I, oI) :: (Dr, W.listOf rs.toArray kr) :: (D2, W.listOf ws2.toArray c2) :: (D1, W.listOf ws1.toArray c1) :: (lL, W.listOf (boolsTo (liesB [f0, f1, f2]) 16).toArray k1) :: (lH, W.listOf (boolsTo (holdsB [f0, f1, f2]) 16).toArray k2) :: (Df, LCg.lst ys) ::
      (L + 1 + 1 + 1 + 1 + 1 + 1 + 1, oLi) :: (L + 1 + 1 + 1 + 1 + 1 + 1, oHo) :: (L + 1 + 1 + 1, oM) :: (81, tabObj ps') :: (c', oc) :: R) := by
      intro p hp
      apply N6
      simp only [List.mem_cons] at hp ⊢
      rcases hp with h | h | h | h | h | h | h | h | h | h | h | h | h | h | h <;> simp only [h, true_or, or_true]
    have mk : ∀ X o, (X, o) ∈ ((lf, W.listOf fs.toArray q) :: (a, W.listOf [Value.int x1 t1, Value.int x2 t2, Value.int x3 t3, Value.int x4 t4].toArray n) :: (I, oI) :: (Dr, W.listOf rs.toArray kr) :: (D2, W.listOf ws2.toArray c2) :: (D1, W.listOf ws1.toArray c1) :: (lL, W.listOf (boolsTo (liesB [f0, f1, f2]) 16).toArray k1) :: (lH, W.listOf (boolsTo (holdsB [f0, f1, f2]) 16).toArray k2) :: (Df, LCg.lst ys) ::
      (L + 1 + 1 + 1 + 1 + 1 + 1 + 1, oLi) :: (L + 1 + 1 + 1 + 1 + 1 + 1, oHo) :: (L + 1 + 1 + 1, oM) :: (81, tabObj ps) :: R) → (∀ q ∈ R, q.1 ≠ X) → ∀ q ∈ (c', oc) :: R, q.1 ≠ X := fun X o h1 h2 q hq => by
      rcases List.mem_cons.mp hq with rfl | hq
      · exact hne X o h1 h2
      · exact h2 q hq
    have o81' := mk 81 _ (by k_mem) o81
    have oD1' := mk D1 _ (by k_mem) oD1
    have oD2' := mk D2 _ (by k_mem) oD2
    have oM'' := mk (L + 1 + 1 + 1) _ (by k_mem) oM'
    have oF' := mk lf _ (by k_mem) oF
    have oI'' := mk I _ (by k_mem) oI'
    have hsub' : ∀ p ∈ rws, p ∈ (c', oc) :: R := fun p hp => .tail _ (hsub p hp)
    replace hT' : TabOk lamQual ps' ((c', oc) :: R) := hT'
    generalize (c', oc) :: R = R9 at *
    clear F5 N5 F4 N4 N6 mk e9 hdc hv lf' lc hne up o81 oD1 oD2 oM' oF oI' hT hsub hfam2 hgood
    k_steps
    have hms : ((lastAt (liesB [f0, f1, f2]) [x1, x2, x3, x4] : Nat) : Int) - 1 = ((lastAt (liesB [f0, f1, f2]) [x1, x2, x3, x4] - 1 : Nat) : Int) := by omega
    rw [hms]
    refine item_list_intsR (News.isList N7 (by k_mem)) hfs (Int.natCast_nonneg _) (by show (_ : Int) < 5; omega) (by omega) (fun t8 => ?_)
    have e8 : (zs (fronts [x1, x2, x3, x4])).getD ((lastAt (liesB [f0, f1, f2]) [x1, x2, x3, x4] - 1 : Nat) : Int).toNat 0 = ((lastOf (liesB [f0, f1, f2]) [x1, x2, x3, x4] : Nat) : Int) := by
      rw [zs_getD, Int.toNat_natCast]
      rfl
    rw [e8]
    clear e8 hms hla
    k_steps
    rename Fr _ _ _ _ => F7
    rename News _ _ _ _ => N8
    have u1 : firstOf (holdsB [f0, f1, f2]) [x1, x2, x3, x4] < 16 := getD_lt hy16 _
    have u2 : lastOf (liesB [f0, f1, f2]) [x1, x2, x3, x4] < 16 := getD_lt hy16 _
    have F8 := frMap F7 (m' := frm D1 D2 Df m9 (some (.int ((lastOf (liesB [f0, f1, f2]) [x1, x2, x3, x4] : Nat) : Int) t8)) (some (.int ((firstOf (holdsB [f0, f1, f2]) [x1, x2, x3, x4] : Nat) : Int) t9)) vf (some (.ref lf)) (some (.ref a))) (by
      funext y
      by_cases h1 : y = Str.ofString "last"
      · subst h1; rfl
      · simp only [frm, h1, if_false])
    clear F7 hfs hy16
    have N9 := fun p hp => N8 p (.tail _ (.tail _ hp))
    replace N9 : News g L _ _ := N9
    clear N8 a81 aD1 aD2 aF a84 g81 gD1 gD2 gM oF'
    rename_i hN

    revert w s₁ mg mb fa L g mean loose prog qk ek ys f0 f1 f2 Df m9 lH oHo lL oLi oM D1 D2 Dr rs kr rws k1 k2 h' tk' I oI i ws1 ws2 c1 c2 ps' R9 a x1 x2 x3 x4 t8 lf vf hN tk t9
    exact hP.out
end
end Mine
theorem Mine.anew74 {prog : Program} {w : World} {A : Around} {s : Shared} : wpAny (model prog w) A (truthy (.bool true)) (fun _ _ => True) (fun _ _ => False) s := by
  w_top off
  walk1
  trivial
namespace Mine
theorem tally_snoc (f : List Nat → Nat) (os : List (List Nat)) (o : List Nat) (m : Nat) : tally f (os ++ [o]) m = tally f os m + (if f o = m then 1 else 0) := by
  unfold tally
  rw [List.countP_append, List.countP_singleton]
  simp only [beq_iff_eq]
theorem tal_step {f : List Nat → Nat} {os : List (List Nat)} {o : List Nat} (h : f o < 16) : zs (tal f (os ++ [o])) = (zs (tal f os)).set (f o) ((zs (tal f os)).getD (f o) 0 + 1) := by
  apply List.ext_getElem
  · simp [tal]
  · intro j h1 h2
    have hj : j < 16 := by simpa [tal] using h1
    have e : ∀ os, (zs (tal f os)).getD j 0 = ((tally f os j : Nat) : Int) := fun os => by
      rw [zs_getD, tal, List.getD_eq_getElem?_getD, List.getElem?_map, List.getElem?_range hj]
      rfl
    simp only [zs, tal, List.getElem_map, List.getElem_range, List.getElem_set, tally_snoc]
    by_cases q : f o = j
    · subst q
      have e' := e os
      simp only [zs, tal] at e'
      rw [if_pos rfl, if_pos rfl, e']
      omega
    · rw [if_neg q, if_neg q]
      rfl
theorem tal_len (f : List Nat → Nat) (os : List (List Nat)) : (zs (tal f os)).length = 16 := by simp [tal]
section
local macro_rules | `(tactic| walk_at "setItem ref int") => `(tactic| (k_dflt (refine' ksa_set ?k1 ?k2 ?k3 ?k4 ?k5 ?k6 ?k7 ?_; (case k1 => k_asm); (case k2 => k_asm); (case k3 => first | exact Upd.tail (by assumption) (Upd.tail (by assumption) (Upd.head (List.forall_mem_cons.mpr ⟨by assumption, by assumption⟩))) | exact Upd.tail (by assumption) (Upd.tail (by assumption) (Upd.tail (by assumption) (Upd.head (by assumption))))); (case k4 => with_reducible assumption); (case k5 => exact Int.natCast_nonneg _); (case k6 => omega); (case k7 => omega); k_whole); intro h' F' N' hi' hl' hs'; (try k_sweep)))
local macro_rules | `(tactic| k_all) => `(tactic| assumption)
theorem seg13 : seg12.P := by
    intro w s₁ mg mb fa L l0 g X hC mean loose T prog qk ek ys f0 p0 q0 f1 p1 q1 f2 p2 q2 hfam Df b8 lH oHo dHo lL oLi dLi e5 e8 e9 b0 oM k1 k2 D1 D2 d1 d2 d3 d4 d5 d6 d7 d8 d9 d10 d11 d12 d13 d14 d15 Dr rs kr rws h' tk' m9 r81 rD1 rD2 rM I oI i ws1 ws2 c1 c2 hj1 hj2 hlt a x1 x2 x3 x4 hrow lf vf t9 off3 ps R o81 oD1 oD2 oM' oI' hsub hT t8 h8 tk8 u1 u2 F8 N9
    have hi : (stage 4).take (i + 1) = (stage 4).take i ++ [[x1, x2, x3, x4]] := by
      rw [List.take_add_one, List.getElem?_eq_getElem hlt, hrow]
      rfl
    have hs1 := tal_step (f := firstOf (holdsB [f0, f1, f2])) (os := (stage 4).take i) u1
    have hs2 := tal_step (f := lastOf (liesB [f0, f1, f2])) (os := (stage 4).take i) u2
    rw [← hi] at hs1 hs2
    have hA1 := tal_len (firstOf (holdsB [f0, f1, f2])) ((stage 4).take i)
    have hA2 := tal_len (lastOf (liesB [f0, f1, f2])) ((stage 4).take i)
    generalize zs (tal (firstOf (holdsB [f0, f1, f2])) ((stage 4).take i)) = A1 at hs1 hA1 hj1
    generalize zs (tal (lastOf (liesB [f0, f1, f2])) ((stage 4).take i)) = A2 at hs2 hA2 hj2
    generalize firstOf (holdsB [f0, f1, f2]) [x1, x2, x3, x4] = n1 at u1 hs1 F8
    generalize lastOf (liesB [f0, f1, f2]) [x1, x2, x3, x4] = n2 at u2 hs2 F8
    clear hi hrow hlt
    have y1 : @Ne Nat I D1 := Ne.symm off3.2.2.1
    have y2 : @Ne Nat I D2 := Ne.symm off3.2.1
    have y3 : @Ne Nat D2 D1 := Ne.symm d1
    have w1 : @Ne Nat (L + 1 + 1 + 1 + 1 + 1 + 1 + 1) D1 ∧ @Ne Nat (L + 1 + 1 + 1 + 1 + 1 + 1) D1 ∧ @Ne Nat (L + 1 + 1 + 1) D1 := by omega
    have w2 : @Ne Nat (L + 1 + 1 + 1 + 1 + 1 + 1 + 1) D2 ∧ @Ne Nat (L + 1 + 1 + 1 + 1 + 1 + 1) D2 ∧ @Ne Nat (L + 1 + 1 + 1) D2 := by omega
    have y4 : ∀ p ∈ (lL, W.listOf (boolsTo (liesB [f0, f1, f2]) 16).toArray k1) :: (lH, W.listOf (boolsTo (holdsB [f0, f1, f2]) 16).toArray k2) :: (Df, LCg.lst ys) :: (L + 1 + 1 + 1 + 1 + 1 + 1 + 1, oLi) :: (L + 1 + 1 + 1 + 1 + 1 + 1, oHo) :: (L + 1 + 1 + 1, oM) :: (81, tabObj ps) :: R, p.1 ≠ D1 :=
      List.forall_mem_cons.mpr ⟨Ne.symm d2, List.forall_mem_cons.mpr ⟨Ne.symm d3, List.forall_mem_cons.mpr ⟨Ne.symm d4, List.forall_mem_cons.mpr ⟨w1.1, List.forall_mem_cons.mpr ⟨w1.2.1, List.forall_mem_cons.mpr ⟨w1.2.2, List.forall_mem_cons.mpr ⟨Ne.symm d5, oD1⟩⟩⟩⟩⟩⟩⟩
    have y5 : ∀ p ∈ (lL, W.listOf (boolsTo (liesB [f0, f1, f2]) 16).toArray k1) :: (lH, W.listOf (boolsTo (holdsB [f0, f1, f2]) 16).toArray k2) :: (Df, LCg.lst ys) :: (L + 1 + 1 + 1 + 1 + 1 + 1 + 1, oLi) :: (L + 1 + 1 + 1 + 1 + 1 + 1, oHo) :: (L + 1 + 1 + 1, oM) :: (81, tabObj ps) :: R, p.1 ≠ D2 :=
      List.forall_mem_cons.mpr ⟨Ne.symm d7, List.forall_mem_cons.mpr ⟨Ne.symm d8, List.forall_mem_cons.mpr ⟨Ne.symm d9, List.forall_mem_cons.mpr ⟨w2.1, List.forall_mem_cons.mpr ⟨w2.2.1, List.forall_mem_cons.mpr ⟨w2.2.2, List.forall_mem_cons.mpr ⟨Ne.symm d10, oD2⟩⟩⟩⟩⟩⟩⟩
    show wpAny _ _ _ _ _ _
    k_steps
    rename Fr _ _ _ _ => F7
    rename News _ _ _ _ => N7
    rename IntsAre _ (A2.set _ _) => x2
    rename IntsAre _ (A1.set _ _) => x1
    refine ForEnd.go F7 N7 _ (fun p hp => hp) ⟨off3.1, off3.2.1, off3.2.2.1, off3.2.2.2.1, off3.2.2.2.2.1, off3.2.2.2.2.2.1, off3.2.2.2.2.2.2.1, off3.2.2.2.2.2.2.2.1, off3.2.2.2.2.2.2.2.2.1, off3.2.2.2.2.2.2.2.2.2, off1_of oI'⟩
      ⟨_, _, _, _, _, _, _, c1, c2, ps, R, rfl, rfl, ?_, ?_, hT, hsub, o81, oD1, oD2, oM'⟩
    · rw [hs1]; exact x1
    · rw [hs2]; exact x2
end
end Mine
theorem Mine.anew76 {prog : Program} {w : World} {A : Around} {s : Shared} : wpAny (model prog w) A (truthy (.bool true)) (fun _ _ => True) (fun _ _ => False) s := by
  w_top off
  walk1
  trivial
namespace Mine
theorem fac_is (i : Nat) : fac4 i = ((facN i : Nat) : Int) := by
  match i with
  | 0 | 1 | 2 | 3 => rfl
  | i + 4 => rfl
theorem popc_bits : ∀ k, k < 16 → popc k = boolN (k.testBit 0) + boolN (k.testBit 1) + boolN (k.testBit 2) + boolN (k.testBit 3) := by decide +kernel
theorem core_bit : ∀ (l : List Nat) (c j : Nat), (l.foldl (fun c o => c &&& o) c).testBit j = (c.testBit j && l.all fun o => o.testBit j)
  | [], c, j => by simp
  | o :: r, c, j => by
    rw [List.foldl_cons, core_bit r, Nat.testBit_and, List.all_cons, Bool.and_assoc]
theorem join_bit : ∀ (l : List Nat) (c j : Nat), (l.foldl (fun c o => c ||| o) c).testBit j = (c.testBit j || l.any fun o => o.testBit j)
  | [], c, j => by simp
  | o :: r, c, j => by
    rw [List.foldl_cons, join_bit r, Nat.testBit_or, List.any_cons, Bool.or_assoc]
theorem join_lt : ∀ (l : List Nat) (c : Nat), c < 16 → (∀ o ∈ l, o < 16) → l.foldl (fun c o => c ||| o) c < 16
  | [], _, h, _ => h
  | o :: r, c, h, hl => join_lt r (c ||| o) (or_lt h (hl o (.head _))) fun p hp => hl p (.tail _ hp)
theorem sub_bit : ∀ m, m < 16 → ∀ o, o < 16 → ∀ j, j < 4 → m.testBit j = true → (o &&& (m - 2 ^ j) == o) = ((o &&& m == o) && !o.testBit j) := by decide +kernel
theorem out_bit : ∀ m, m < 16 → ∀ o, o < 16 → ∀ j, j < 4 → m.testBit j = false → (o &&& m == o) = true → o.testBit j = false := by decide +kernel
theorem or_bit : ∀ m, m < 16 → ∀ o, o < 16 → ∀ j, j < 4 → (o &&& (m ||| 2 ^ j) == (m ||| 2 ^ j)) = ((o &&& m == m) && o.testBit j) := by decide +kernel
theorem or_in : ∀ m, m < 16 → ∀ j, j < 4 → m.testBit j = true → m ||| 2 ^ j = m := by decide +kernel
theorem bit15 : ∀ j, j < 4 → (15 : Nat).testBit j = true := by decide +kernel
theorem holds_within (fam : List Nat) (m : Nat) : holdsB fam m = false ↔ within fam m = [] := by
  rw [holdsB, within, List.any_eq_false, List.filter_eq_nil_iff]
theorem lies_around (fam : List Nat) (m : Nat) : liesB fam m = false ↔ around fam m = [] := by
  rw [liesB, around, List.any_eq_false, List.filter_eq_nil_iff]
theorem any_cong {p q : Nat → Bool} : ∀ {l : List Nat}, (∀ o ∈ l, p o = q o) → l.any p = l.any q
  | [], _ => rfl
  | o :: r, h => by rw [List.any_cons, List.any_cons, h o (.head _), any_cong fun x hx => h x (.tail _ hx)]
theorem core_at {fam : List Nat} (hf : ∀ f ∈ fam, 1 ≤ f ∧ f < 16) {m : Nat} (hm : m < 16) (hne : within fam m ≠ []) {j : Nat} (hj : j < 4) :
    (m.testBit j && !holdsB fam (m - 2 ^ j)) = (coreOf (within fam m)).testBit j := by
  rw [coreOf, core_bit, bit15 j hj, Bool.true_and]
  cases hb : m.testBit j with
  | false =>
    obtain ⟨o, ho⟩ := List.exists_mem_of_ne_nil _ hne
    have ho' := List.mem_filter.mp ho
    have := out_bit m hm o (hf o ho'.1).2 j hj hb ho'.2
    rw [Bool.false_and]
    symm
    rw [List.all_eq_false]
    exact ⟨o, ho, by simp [this]⟩
  | true =>
    rw [Bool.true_and]
    have e : holdsB fam (m - 2 ^ j) = (within fam m).any fun o => !o.testBit j := by
      rw [holdsB, within, List.any_filter]
      refine any_cong ?_ 
      intro o ho
      exact sub_bit m hm o (hf o ho).2 j hj hb
    rw [e, ← List.not_all_eq_any_not, Bool.not_not]
theorem join_at {fam : List Nat} (hf : ∀ f ∈ fam, 1 ≤ f ∧ f < 16) {m : Nat} (hm : m < 16) {j : Nat} (hj : j < 4) :
    liesB fam (m ||| 2 ^ j) = (joinOf (around fam m)).testBit j := by
  rw [joinOf, join_bit, Nat.zero_testBit, Bool.false_or, liesB, around, List.any_filter]
  refine any_cong ?_
  intro o ho
  exact or_bit m hm o (hf o ho).2 j hj
theorem hitF_cong {m : Nat} {hm : Bool} {q q' : Nat → Bool} : ∀ {o : List Nat} {acc : Nat}, (∀ x ∈ o, q x = q' x) → hitF m hm q acc o = hitF m hm q' acc o
  | [], _, _ => rfl
  | x :: r, acc, h => by rw [hitF, hitF, h x (.head _), hitF_cong fun y hy => h y (.tail _ hy)]
theorem hitL_cong {m : Nat} {hm : Bool} {q q' : Nat → Bool} : ∀ {o : List Nat} {acc : Nat}, (∀ x ∈ o, q x = q' x) → hitL m hm q acc o = hitL m hm q' acc o
  | [], _, _ => rfl
  | x :: r, acc, h => by rw [hitL, hitL, h x (.head _), hitL_cong fun y hy => h y (.tail _ hy)]
theorem hitF_no {m : Nat} {q : Nat → Bool} : ∀ {o : List Nat} {acc : Nat}, hitF m false q acc o = false
  | [], _ => rfl
  | x :: r, acc => by rw [hitF, hitF_no, Bool.and_false, Bool.false_and, Bool.or_false]
theorem hitL_no {m : Nat} {q : Nat → Bool} : ∀ {o : List Nat} {acc : Nat}, hitL m false q acc o = false
  | [], _ => by rw [hitL, Bool.and_false]
  | x :: r, acc => by rw [hitL, hitL_no, Bool.and_false, Bool.false_and, Bool.or_false]
theorem flags4 : ∀ o ∈ stage 4, ∀ x ∈ o, x = 1 ∨ x = 2 ∨ x = 4 ∨ x = 8 := by decide +kernel
theorem q4_is (q : Nat → Bool) {x : Nat} (h : x = 1 ∨ x = 2 ∨ x = 4 ∨ x = 8) : q x = q4 (q 1) (q 2) (q 4) (q 8) x := by
  rcases h with rfl | rfl | rfl | rfl <;> rfl
theorem cong4 (q : Nat → Bool) {o : List Nat} (ho : o ∈ stage 4) : ∀ x ∈ o, q x = q4 (q 1) (q 2) (q 4) (q 8) x := fun x hx => q4_is q (flags4 o ho x hx)
theorem cast3 (a b c : Nat) : ((a * b * c : Nat) : Int) = (a : Int) * (b : Int) * (c : Int) := by
  rw [Int.natCast_mul, Int.natCast_mul]
/-- each set is the first one as often as it is due -/
theorem first_due {fam : List Nat} (hf : ∀ f ∈ fam, 1 ≤ f ∧ f < 16) (hne : fam ≠ []) {m : Nat} (hm : m < 16) : ((tally (firstOf (holdsB fam)) (stage 4) m : Nat) : Int) = dueF fam m := by
  have e1 : tally (firstOf (holdsB fam)) (stage 4) m = (stage 4).countP (hitF m (holdsB fam m) (fun x => holdsB fam (m - x)) 0) :=
    List.countP_congr fun o ho => by rw [hit_first (holds_mono fam) (holds_0 hf) (holds_15 hf hne) (good o ho) m]
  cases hh : holdsB fam m with
  | false =>
    rw [e1, hh, dueF, if_pos ((holds_within fam m).mp hh), List.countP_eq_zero.mpr fun o _ => by rw [hitF_no]; decide]
    rfl
  | true =>
    have hw : within fam m ≠ [] := fun e => by rw [(holds_within fam m).mpr e] at hh; cases hh
    have hm0 : m ≠ 0 := by
      rintro rfl
      rw [holds_0 hf] at hh
      cases hh
    have e2 : tally (firstOf (holdsB fam)) (stage 4) m = orders4.countP (hitF m true (q4 (holdsB fam (m - 1)) (holdsB fam (m - 2)) (holdsB fam (m - 4)) (holdsB fam (m - 8))) 0) := by
      rw [e1, hh, ← stage4]
      exact List.countP_congr fun o ho => by rw [hitF_cong (cong4 (fun x => holdsB fam (m - x)) ho)]
    rw [e2, cntF m hm, if_neg hm0, dueF, if_neg hw, fac_is, fac_is, cast3]
    congr 3
    have b0 := core_at hf hm hw (j := 0) (by decide)
    have b1 := core_at hf hm hw (j := 1) (by decide)
    have b2 := core_at hf hm hw (j := 2) (by decide)
    have b3 := core_at hf hm hw (j := 3) (by decide)
    have cl : coreOf (within fam m) < 16 := coreOf_lt _ 15 (by decide)
    rw [popc_bits _ cl, ← b0, ← b1, ← b2, ← b3]
    rfl
theorem last_due {fam : List Nat} (hf : ∀ f ∈ fam, 1 ≤ f ∧ f < 16) (hne : fam ≠ []) {m : Nat} (hm : m < 16) : ((tally (lastOf (liesB fam)) (stage 4) m : Nat) : Int) = dueL fam m := by
  have e1 : tally (lastOf (liesB fam)) (stage 4) m = (stage 4).countP (hitL m (liesB fam m) (fun x => liesB fam (m ||| x)) 0) :=
    List.countP_congr fun o ho => by rw [hit_last (lies_mono fam) (lies_0 hne) (good o ho) m]
  cases hh : liesB fam m with
  | false =>
    rw [e1, hh, dueL, if_pos ((lies_around fam m).mp hh), List.countP_eq_zero.mpr fun o _ => by rw [hitL_no]; decide]
    rfl
  | true =>
    have hw : around fam m ≠ [] := fun e => by rw [(lies_around fam m).mpr e] at hh; cases hh
    have e2 : tally (lastOf (liesB fam)) (stage 4) m = orders4.countP (hitL m true (q4 (liesB fam (m ||| 1)) (liesB fam (m ||| 2)) (liesB fam (m ||| 4)) (liesB fam (m ||| 8))) 0) := by
      rw [e1, hh, ← stage4]
      exact List.countP_congr fun o ho => by rw [hitL_cong (cong4 (fun x => liesB fam (m ||| x)) ho)]
    by_cases hm15 : m = 15
    · rw [e2, cntL m hm, if_pos hm15, dueL, if_neg hw, if_pos hm15]
      rfl
    · rw [e2, cntL m hm, if_neg hm15, dueL, if_neg hw, if_neg hm15, fac_is, fac_is, cast3]
      have jl : joinOf (around fam m) < 16 := join_lt _ _ (by decide) fun o ho => (hf o (List.mem_filter.mp ho).1).2
      have key : ∀ j, j < 4 → (!m.testBit j && !liesB fam (m ||| 2 ^ j)) = !(joinOf (around fam m)).testBit j := fun j hj => by
        rw [← join_at hf hm hj]
        cases hb : m.testBit j with
        | false => simp
        | true => rw [or_in m hm j hj hb, hh]; rfl
      have e3 : ((sumL m (q4 (liesB fam (m ||| 1)) (liesB fam (m ||| 2)) (liesB fam (m ||| 4)) (liesB fam (m ||| 8))) : Nat) : Int) = 4 - ((popc (joinOf (around fam m)) : Nat) : Int) := by
        have s : sumL m (q4 (liesB fam (m ||| 1)) (liesB fam (m ||| 2)) (liesB fam (m ||| 4)) (liesB fam (m ||| 8))) = boolN (!(joinOf (around fam m)).testBit 0) + boolN (!(joinOf (around fam m)).testBit 1) + boolN (!(joinOf (around fam m)).testBit 2) + boolN (!(joinOf (around fam m)).testBit 3) := by
          rw [← key 0 (by decide), ← key 1 (by decide), ← key 2 (by decide), ← key 3 (by decide)]
          rfl
        rw [s, popc_bits _ jl]
        cases (joinOf (around fam m)).testBit 0 <;> cases (joinOf (around fam m)).testBit 1 <;> cases (joinOf (around fam m)).testBit 2 <;> cases (joinOf (around fam m)).testBit 3 <;> rfl
      rw [e3]
theorem tal_at (f : List Nat → Nat) (os : List (List Nat)) {i : Nat} (hi : i < 16) : (zs (tal f os)).getD ((i : Nat) : Int).toNat 0 = ((tally f os i : Nat) : Int) := by
  rw [zs_getD, Int.toNat_natCast, tal, List.getD_eq_getElem?_getD, List.getElem?_map, List.getElem?_range hi]
  rfl
end Mine
theorem Mine.anew78 {prog : Program} {w : World} {A : Around} {s : Shared} : wpAny (model prog w) A (truthy (.bool true)) (fun _ _ => True) (fun _ _ => False) s := by
  w_top off
  walk1
  trivial
namespace Mine
/-- the walk stands at a call -/
def CallAt (prog : Program) (w : World) (A : Around) (f : Value) (pos : List Value) (kw : List (Str × Value)) (Q E : Value → Shared → Prop) (s : Shared) : Prop := wpAny (model prog w) A (call f pos kw) Q E s
theorem Call_at {prog : Program} {w : World} {A : Around} {f : Value} {pos : List Value} {kw : List (Str × Value)} {Q E : Value → Shared → Prop} {s : Shared} (h : CallAt prog w A f pos kw Q E s) :
    wpAny (model prog w) A (call f pos kw) Q E s := h
section
local macro_rules | `(tactic| walk_at "call ref") => `(tactic| (k_dflt (refine Call_at ?_)))
local macro_rules | `(tactic| walk_at "exec For Name Call cons nil") => `(tactic| (k_dflt (refine For_at ?_)))
local macro_rules | `(tactic| k_all) => `(tactic| assumption)
theorem seg14 : seg9.P2 := by
    intro w s₁ mg mb fa L l0 g X hC mean loose T prog qk ek ys f0 p0 q0 f1 p1 q1 f2 p2 q2 hfam Df b8 lH oHo lL oLi e5 e8 e9 b0 oM vM k1 k2 dM D1 D2 d1 d2 d3 d4 d5 d6 d7 d8 d9 d10 d11 d12 d13 d14 d15 Dr rs kr h' tk' m9 r81 rD1 rD2 rM h tk v1 v2 v3 v4 v5 ws1 ws2 c1 c2 ps R hj1 hj2 oM' F1 N1
    have N2 : News g L h [(D2, W.listOf ws2.toArray c2), (D1, W.listOf ws1.toArray c1), (Df, LCg.lst ys), (L + 1 + 1 + 1, oM), (81, tabObj ps)] := by
      intro p hp
      apply N1
      simp only [List.mem_cons, List.not_mem_nil, or_false] at hp ⊢
      rcases hp with h | h | h | h | h <;> simp only [h, true_or, or_true]
    have hA1 := tal_len (firstOf (holdsB [f0, f1, f2])) (stage 4)
    have hA2 := tal_len (lastOf (liesB [f0, f1, f2])) (stage 4)
    have hfam2 : ∀ f ∈ [f0, f1, f2], 1 ≤ f ∧ f < 16 := by
      intro f hf
      simp only [List.mem_cons, List.not_mem_nil, or_false] at hf
      omega
    have hg1 : ∀ i, i < 16 → (zs (tal (firstOf (holdsB [f0, f1, f2])) (stage 4))).getD ((i : Nat) : Int).toNat 0 = dueF [f0, f1, f2] i := fun i hi => (tal_at _ _ hi).trans (first_due hfam2 (by simp) hi)
    have hg2 : ∀ i, i < 16 → (zs (tal (lastOf (liesB [f0, f1, f2])) (stage 4))).getD ((i : Nat) : Int).toNat 0 = dueL [f0, f1, f2] i := fun i hi => (tal_at _ _ hi).trans (last_due hfam2 (by simp) hi)
    generalize zs (tal (firstOf (holdsB [f0, f1, f2])) (stage 4)) = A1 at hA1 hj1 hg1
    generalize zs (tal (lastOf (liesB [f0, f1, f2])) (stage 4)) = A2 at hA2 hj2 hg2
    replace hfam : IntsAre ys (zs [f0, f1, f2]) := hfam
    generalize hF3 : [f0, f1, f2] = fam at hfam hg1 hg2 hfam2
    have hn3 : fam.length = 3 := by rw [← hF3]; rfl
    clear N1 hF3 R oM' r81 rD1 rD2 rM d2 d3 d7 d8 d12 d13 d14 d15 e5 e8 e9 p0 p1 p2 q0 q1 q2
    k_steps
    rename IsRange _ _ _ _ _ _ _ _ => hr
    rename Fr _ _ _ _ => F3
    rename News _ _ _ _ => N3
    refine ForAt.range (n := 16) (fun i m₁ news₁ => ∃ (oM : Obj) (v : Option Value), m₁ = frm D1 D2 Df m9 v1 v2 v3 v4 v5 ∧
      news₁ = [(D2, W.listOf ws2.toArray c2), (D1, W.listOf ws1.toArray c1), (Df, LCg.lst ys), (L + 1 + 1 + 1, oM), (81, tabObj ps)] ∧ oM.data = .cell v) rfl F3 N3 hr (by decide) (by decide) ⟨oM, _, rfl, rfl, dM⟩ ?_ ?_
    · rintro I oI i t m₁ news₁ h8 tk8 hi ⟨oM, v, rfl, rfl, dM⟩ F4 N4 off1
      clear hr F3 N3
      simp only [LCg.Off1] at off1
      rw [Int.zero_add]
      k_steps
      show wpAny _ _ (call (.ref 74) [.ref Df, .int (i : Int) t]) _ _ _
      rename Fr _ _ _ _ => F5
      rename News _ _ _ _ => N5
      refine due1_spec (X.keeps F5.keep) (T.keeps F5.keep) (okLaw _) (News.isList N5 (by k_mem)) hfam hn3 hfam2 hi ?_
      intro t1 h9 tk9 up
      have F6 := frUp F5 up
      have N6 := newsUp N5 up
      clear F5 N5 up
      rw [hg1 i hi]
      k_steps
      · rename dueF fam i ≠ dueF fam i => hb
        exact absurd rfl hb
      · show wpAny _ _ (call (.ref 79) [.ref Df, .int (i : Int) t]) _ _ _
        refine due2_spec (X.keeps F6.keep) (T.keeps F6.keep) (okLaw _) (News.isList N6 (by k_mem)) hfam hn3 hfam2 hi ?_
        intro t2 h10 tk10 up2
        have F7 := frUp F6 up2
        have N7 := newsUp N6 up2
        clear F6 N6 up2
        rw [hg2 i hi]
        k_steps
        · rename dueL fam i ≠ dueL fam i => hb
          exact absurd rfl hb
        · exact ForEnd.go F7 N7 _ (fun p hp => hp) off1 ⟨_, _, rfl, rfl, by assumption⟩
    · rintro m' news' h8 tk8 ⟨oM, v, rfl, rfl, dM⟩ F4 N4
      clear hr F3 N3
      k_steps
      exact ⟨rfl, _, _, _, _, _, rfl, F4, N4, by k_mem⟩
end
end Mine
set_option maxRecDepth 100000 in
set_option maxHeartbeats 8000000 in
theorem PySem.Challenge.cw_qu0024_01_holds : PySem.Challenge.rw_qu0024_01.Holds :=
  Mine.seg1.h ⟨Mine.seg2.h ⟨Mine.seg3.h ⟨Mine.seg4.h ⟨Mine.seg5.h ⟨Mine.seg6.h ⟨Mine.seg7.h ⟨Mine.seg8⟩⟩ ⟨Mine.seg9.h ⟨Mine.seg10.h ⟨Mine.seg11.h ⟨Mine.seg12.h ⟨Mine.seg13⟩⟩⟩⟩ ⟨Mine.seg14⟩⟩⟩⟩⟩⟩⟩
