import PyProof.Rows.All
import Wide.All
import OpenK.AllK
import Wide.FinOn
import PySem.Challenge.RW_bz6013_01
open PySem PySem.W PyProof.Rows
set_option Elab.async false
set_option linter.all false
set_option maxRecDepth 100000
set_option maxHeartbeats 8000000
open_top hd for PySem.Challenge.rw_bz6013_01
set_option maxHeartbeats 200000
open PySem.Calls PySem.Spec

namespace Mine
section
variable {prog : Program} {w : World} {A₀ A : Around} {s : Shared} {base h₀ : Heap} {outer : List Env} {L : Addr} {m mg mb : Str → Option Value} {env : Env} {news : List (Addr × Obj)} {K : Frag} {p : Program} {loose : List Str} {mean : ExcName → Option Value}
  {R : Result → Shared → Prop} {name qual : Str} {params : Arguments} {body : List Stmt} {scope : Scope} {dV kV doc pm cdv ct oc : Value} {an od : Option Addr} {osl : Array (Option Value)} {f : Addr} {args : Args} {binds : List (Str × Value)}

/-- entering a def with cells: the new base keeps all of the heap that the ledger does not name -/
theorem enter_cells (B : Below A₀ base outer h₀) (F : Fr h₀ L s.heap m) (X₀ : K.In h₀) (N : News h₀ L s.heap news) (T : Top p loose mean mg mb h₀) (hA : A.frames = some (env :: outer)) (hf : env.frame = some L) (hke : env.scope.kind = .function)
    (ho : K.lookup f = some ⟨oc, od, .func (fnOf name qual params body scope dV kV doc pm an cdv ct), osl⟩) (hcd : codeIn K cdv qual = true) (hroom : A.depth < recursionLimit)
    (hbind : BindsTo s (fnOf name qual params body scope dV kV doc pm an cdv ct) args binds) (hkind : (binds.all fun y => scope.names.lookup y.1 == some .local || scope.names.lookup y.1 == some .cell) = true)
    (hnd : ((cellsFrom 0 scope.names []).map (·.1)).Nodup)
    (h : ∀ g L' h₁ tk cells, Fr h₀ L g m → GSub s.heap g (news.map (·.1)) → Fr g L' h₁ (bindL (envOfC qual scope L' f cdv).kindOf binds fun _ => none) → News g L' h₁ (cells ++ news) →
      CellsAre (bindC (envOfC qual scope L' f cdv).kindOf binds fun _ => none) (cellsFrom (L' + 1) scope.names []) cells → Below A base (env :: outer) g → K.In g → Top p loose mean mg mb g → (∀ p ∈ news, p.1 < L') → s.heap.objs.size = L' →
      wpAny (model prog w) (A.deeper (envOfC qual scope L' f cdv)) (execs body (envOfC qual scope L' f cdv))
        (fun fl s' => LeaveK h₀ L m g R (match fl with | .ret v => v | _ => .none) s') (fun _ _ => False)
        { s with heap := h₁, toks := tk })
    (hco : scope.isCoroutine = false) (hgen : scope.isGenerator = false) (hk : scope.kind = .function) : codeAny (model prog w) A (.call (.ref f) args) R s := by
  obtain ⟨FG, BG, st, lv⟩ := groundX (R := R) B F N hA hf hke
  refine codeAny_call_function hroom ((X₀.keeps F.keep) _ _ ho) rfl hco hgen rfl (codeRec_of (X₀.keeps F.keep) hcd) (hbind _ _ _ _ ?_)
  refine wpAny_newFunctionEnv_cells hk (kindsX hkind _) fun env' he s' x => ?_
  subst he
  refine ⟨(T.nolimit.keeps F.keep).keeps x.toInCall.keep, codeAny_func ?_⟩
  obtain ⟨h₁, tk, rfl, _⟩ := x.done
  have hk₁ := x.toInCall.keep
  obtain ⟨cells, NC, Y⟩ := Cl.news (h₀ := s.heap) (Nat.le_refl _) fun n c hm => ⟨x.cell n c (lookup_of_mem_nodup (cellsFrom_names scope.names 0 (s.heap.objs.size + 1) [] [] rfl ▸ hnd) hm), x.above n c hm⟩
  refine wpAny_noRaise ?_
  refine wpAny_mono (h _ s.heap.objs.size h₁ tk cells FG (fun b o e n => hideAll_get _ e n) ⟨x.toInCall.ns, fun b o e => hk₁ b o (of_hideAll _ e), Nat.le_of_eq (hideAll_size _ _)⟩ (fun p hp => ?_) Y BG (X₀.keeps st) (T.keeps st) (fun p hp => Heap.lt_size (N p hp).1) rfl) (fun fl s' hl => lv _ _ hl) fun _ _ y => y
  rcases List.mem_append.mp hp with hp | hp
  · refine ⟨(NC p hp).1, (NC p hp).2.1, ?_⟩
    cases q : (hideAll s.heap (news.map (·.1))).get? p.1 with
    | none => rfl
    | some o => have := of_hideAll _ q; rw [(NC p hp).2.2] at this; cases this
  · exact ⟨hk₁ _ _ (N p hp).1, Nat.ne_of_lt (Heap.lt_size (N p hp).1), hideAll_none _ (List.mem_map_of_mem hp)⟩
end
end Mine

namespace Mine
section
variable {prog : Program} {w : World} {A : Around} {s : Shared} {h₀ : Heap} {L : Addr} {m : Str → Option Value} {env : Env} {news : List (Addr × Obj)}

/-- the end of a loop's turn: the iterator's object stands, the rest is as the invariant says -/
def TnE (h₀ : Heap) (L : Addr) (own : Addr × Obj) (J : (Str → Option Value) → List (Addr × Obj) → Prop) (s₁ : Shared) (Q : Flow → Shared → Prop) (f : Flow) (s₂ : Shared) : Prop :=
  match f with
  | .ret v => Q (.ret v) s₂
  | .brk => Q .next s₂
  | _ => ∃ h' tk' m' nx', s₂ = { s₁ with heap := h', toks := tk' } ∧ Fr h₀ L h' m' ∧ News h₀ L h' (own :: nx') ∧ (∀ p ∈ nx', p.1 ≠ own.1) ∧ J m' nx'

def LoopAt (prog : Program) (w : World) (A : Around) (target : Expr) (body : List Stmt) (env : Env) (Q : Flow → Shared → Prop) (xv : Value) (s : Shared) : Prop :=
  wpAny (model prog w) A (pyIter xv) (fun it s₂ => codeAny (model prog w) A (.forLoop target it body [] env) (fun r s' => match r with | .ok f => Q f s' | .error _ => False) s₂) (fun _ _ => False) s

theorem for_start {target iter : Expr} {body : List Stmt} {pos : Pos} {Q : Flow → Shared → Prop}
    (h : wpAny (model prog w) A (eval iter env) (fun xv s₁ => LoopAt prog w A target body env Q xv s₁) (fun _ _ => False) s)
    (hs : ∀ x, foldedSetIterable iter env x = pure x := by intro _; rfl) :
    wpAny (model prog w) A (exec (.For target iter body [] pos) env) Q (fun _ _ => False) s :=
  wpAny_For (wpAny_mono h (fun xv s₁ h₁ => wpAny_mono h₁ (fun it s₂ h₂ => codeAny_mono h₂ fun r s' hr => by
    cases r with
    | ok f => exact hr
    | error e => exact hr.elim) fun _ _ e => e) fun _ _ e => e) hs

theorem for_walk {target : Expr} {body : List Stmt} {Q : Flow → Shared → Prop} {I : Addr} {fp : List Addr} {n : Nat} {P : Nat → Value → Prop} {St : Nat → Heap → Prop}
    (J : Nat → (Str → Option Value) → List (Addr × Obj) → Prop)
    (W : Walks prog w A I fp [I] n P St) (hfp : ∀ b ∈ fp, b = I ∨ ∃ o, h₀.get? b = some o) (hlive : ∀ i h, St i h → ∃ o, h.get? I = some o) (hI : h₀.get? I = none) (hIL : I ≠ L)
    (hgo : ∀ it v, letOwnedTupleGo target it v = pure ())
    (hst : St 0 s.heap) (F : Fr h₀ L s.heap m) (N : News h₀ L s.heap news) (hnI : ∀ p ∈ news, p.1 ≠ I) (h0 : J 0 m news)
    (turn : ∀ i v io h tk m₁ nx, i < n → P i v → J i m₁ nx → Fr h₀ L h m₁ → News h₀ L h ((I, io) :: nx) → (∀ p ∈ nx, p.1 ≠ I) →
      wpAny (model prog w) A (assign target env v) (fun _ s₂ => wpAny (model prog w) A (execs body env) (TnE h₀ L (I, io) (J (i + 1)) { s with heap := h, toks := tk } Q) (fun _ _ => False) s₂) (fun _ _ => False) { s with heap := h, toks := tk })
    (done : ∀ h tk m₁ nx, J n m₁ nx → Fr h₀ L h m₁ → News h₀ L h nx → Q .next { s with heap := h, toks := tk }) :
    codeAny (model prog w) A (.forLoop target (.ref I) body [] env) (fun r s' => match r with | .ok f => Q f s' | .error _ => False) s := by
  refine codeAny_forLoop_any
    (fun k s' => ∃ h' tk m' nx i, s' = { s with heap := h', toks := tk } ∧ St i h' ∧ Fr h₀ L h' m' ∧ News h₀ L h' nx ∧ (∀ p ∈ nx, p.1 ≠ I) ∧ J i m' nx ∧ i ≤ n ∧ k = n + 1 - i) ?_ (n + 1)
    ⟨s.heap, s.toks, m, news, 0, rfl, hst, F, N, hnI, h0, Nat.zero_le _, rfl⟩
  rintro k s' ⟨h', tk, m', nx, i, rfl, hst', F', N', hn', hJ, hi, rfl⟩
  have step : ∀ h₁ : Heap, (∀ b o, b ∉ [I] → h'.get? b = some o → h₁.get? b = some o) → Fr h₀ L h₁ m' ∧ News h₀ L h₁ nx := fun h₁ hk₁ =>
    ⟨⟨F'.ns.at' fun o e => hk₁ _ o (by simpa using (Ne.symm hIL)) e, fun b o e => hk₁ b o (by
      intro hb; rw [List.mem_singleton.mp hb, hI] at e; cases e) (F'.keep b o e), F'.above⟩, fun p hp => ⟨hk₁ _ _ (by simpa using hn' p hp) (N' p hp).1, (N' p hp).2⟩⟩
  by_cases hlt : i < n
  · refine W.item i _ _ _ hlt hst' fun v h₁ tk₁ hP hst₁ hk₁ => ?_
    obtain ⟨F₁, N₁⟩ := step h₁ hk₁
    obtain ⟨io, hio⟩ := hlive _ _ hst₁
    show wpAny _ _ (letOwnedTupleGo target (.ref I) v) _ _ _
    rw [hgo]
    refine wpAny_pure ?_
    have N₂ : News h₀ L h₁ ((I, io) :: nx) := fun p hp => by
      rcases List.mem_cons.mp hp with rfl | hp
      · exact ⟨hio, hIL, hI⟩
      · exact N₁ p hp
    refine wpAny_noRaise ?_
    refine wpAny_mono (turn i v io h₁ tk₁ m' nx hlt hP hJ F₁ N₂ hn') (fun _ s₂ h₂ => ?_) fun _ _ x => x
    refine wpAny_noRaise ?_
    refine wpAny_mono h₂ (fun f s₃ h₃ => ?_) fun _ _ x => x
    have fin : (∃ h' tk' m' nx', s₃ = { s with heap := h', toks := tk' } ∧ Fr h₀ L h' m' ∧ News h₀ L h' ((I, io) :: nx') ∧ (∀ p ∈ nx', p.1 ≠ I) ∧ J (i + 1) m' nx') →
        ∃ m, m < n + 1 - i ∧ ∃ h' tk m' nx j, s₃ = { s with heap := h', toks := tk } ∧ St j h' ∧ Fr h₀ L h' m' ∧ News h₀ L h' nx ∧ (∀ p ∈ nx, p.1 ≠ I) ∧ J j m' nx ∧ j ≤ n ∧ m = n + 1 - j := by
      rintro ⟨hx₃, tk₃, m₃, nx₃, rfl, F₃, N₃, hn₃, hJ₃⟩
      refine ⟨n + 1 - (i + 1), by omega, hx₃, tk₃, m₃, nx₃, i + 1, rfl, ?_, F₃, fun p hp => N₃ p (.tail _ hp), hn₃, hJ₃, hlt, rfl⟩
      refine W.frame _ _ _ hst₁ fun b hb o e => ?_
      rcases hfp b hb with rfl | ⟨o₀, ho₀⟩
      · have := (N₃ _ (.head _)).1
        rw [hio] at e
        cases e
        exact this
      · have := F₁.keep b o₀ ho₀
        rw [e] at this
        cases this
        exact F₃.keep b _ ho₀
    cases f with
    | ret v => exact h₃
    | brk => exact h₃
    | next => exact fin h₃
    | cont => exact fin h₃
  · have hin : i = n := by omega
    subst hin
    refine W.done _ _ _ hst' fun h₁ tk₁ hk₁ => wpAny_execs_nil ?_
    obtain ⟨F₁, N₁⟩ := step h₁ hk₁
    exact done h₁ tk₁ m' nx hJ F₁ N₁

/-- a loop over a list that the base holds -/
theorem loop_list {target : Expr} {body : List Stmt} {Q : Flow → Shared → Prop} {l : Addr} {vs : List Value} (J : Nat → (Str → Option Value) → List (Addr × Obj) → Prop)
    (hh : A.handled = none) (hgo : ∀ it v, letOwnedTupleGo target it v = pure ()) (hl : h₀.IsList l vs.toArray) (F : Fr h₀ L s.heap m) (N : News h₀ L s.heap news) (h0 : J 0 m news)
    (turn : ∀ i v I io h tk m₁ nx, vs[i]? = some v → J i m₁ nx → Fr h₀ L h m₁ → News h₀ L h ((I, io) :: nx) → (∀ p ∈ nx, p.1 ≠ I) → (∀ p ∈ news, p.1 < I) → L < I →
      wpAny (model prog w) A (assign target env v) (fun _ s₂ => wpAny (model prog w) A (execs body env) (TnE h₀ L (I, io) (J (i + 1)) { s with heap := h, toks := tk } Q) (fun _ _ => False) s₂) (fun _ _ => False) { s with heap := h, toks := tk })
    (done : ∀ h tk m₁ nx, J vs.length m₁ nx → Fr h₀ L h m₁ → News h₀ L h nx → Q .next { s with heap := h, toks := tk }) :
    LoopAt prog w A target body env Q (.ref l) s := by
  have hls : s.heap.IsList l vs.toArray := hl.at fun o e => F.keep l o e
  obtain ⟨ol, hol, _⟩ := id hl
  have hlt : l < h₀.objs.size := Heap.lt_size hol
  have hne : l ≠ s.heap.objs.size := Nat.ne_of_lt (Nat.lt_trans (Nat.lt_of_lt_of_le hlt F.above) F.ns.lt)
  have hsL := F.ns.lt
  refine wpAny_pyIter_list hls ?_
  have W := Walks.list (prog := prog) (w := w) hh s.heap.objs.size l hne vs.toArray
  rw [show vs.toArray.size = vs.length from by simp] at W
  refine for_walk J W ?_ ?_ ?_ (Nat.ne_of_gt hsL) hgo ⟨⟨_, Heap.get?_push_size _ rfl, rfl, rfl⟩, hls.at fun o e => Heap.get?_push_of_some _ e⟩ (F.push _) (fun p hp => ⟨Heap.get?_push_of_some _ (N p hp).1, (N p hp).2⟩)
    (fun p hp => Nat.ne_of_lt (Heap.lt_size (N p hp).1)) h0 ?_ done
  · intro b hb
    rcases List.mem_cons.mp hb with rfl | hb
    · exact .inl rfl
    · rw [List.mem_singleton.mp hb]; exact .inr ⟨ol, hol⟩
  · rintro i h ⟨⟨o, ho, _⟩, _⟩
    exact ⟨o, ho⟩
  · exact Heap.get?_none_of_le (Nat.le_trans F.above (Nat.le_of_lt hsL))
  · intro i v io h tk m₁ nx _ hP hJ F₁ N₁ hn₁
    exact turn i v _ io h tk m₁ nx (by simpa using hP) hJ F₁ N₁ hn₁ (fun p hp => Heap.lt_size (N p hp).1) hsL
end
end Mine

namespace Mine
section
variable {prog : Program} {w : World} {A : Around} {s : Shared} {h₀ : Heap} {L : Addr} {m : Str → Option Value} {env : Env} {news : List (Addr × Obj)}

def TnE2 (h₀ : Heap) (L : Addr) (p₁ p₂ : Addr × Obj) (J : (Str → Option Value) → List (Addr × Obj) → Prop) (s₁ : Shared) (Q : Flow → Shared → Prop) (f : Flow) (s₂ : Shared) : Prop :=
  match f with
  | .ret v => Q (.ret v) s₂
  | .brk => Q .next s₂
  | _ => ∃ h' tk' m' nx', s₂ = { s₁ with heap := h', toks := tk' } ∧ Fr h₀ L h' m' ∧ News h₀ L h' (p₁ :: p₂ :: nx') ∧ (∀ p ∈ nx', p.1 ≠ p₁.1 ∧ p.1 ≠ p₂.1) ∧ J m' nx'

/-- a loop «for i, x in enumerate(l)» over a list of the ledger -/
theorem loop_enum {xi xv : Str} {pi pv pt : Pos} {x1 : Nat} {body : List Stmt} {Q : Flow → Shared → Prop} {l : Addr} {vs : List Value} {c : Nat} (J : Nat → (Str → Option Value) → List (Addr × Obj) → Prop)
    (hh : A.handled = none) (hxi : env.kindOf xi = some .local) (hxv : env.kindOf xv = some .local) (hp : (env.scope.kind == .class || (env.scope.kind == .module && env.locals != env.globals)) = false) (hL : env.locals = L)
    (hl : (l, listOf vs.toArray c) ∈ news) (F : Fr h₀ L s.heap m) (N : News h₀ L s.heap news) (h0 : J 0 m news) (hJl : ∀ i m nx, J i m nx → (l, listOf vs.toArray c) ∈ nx)
    (turn : ∀ i v ti e eo it io h tk m₁ nx, vs[i]? = some v → J i m₁ nx → Fr h₀ L h (fun y => if y = xv then some v else if y = xi then some (.int (i : Int) ti) else m₁ y) → News h₀ L h ((e, eo) :: (it, io) :: nx) →
      (∀ p ∈ nx, p.1 ≠ e ∧ p.1 ≠ it) → (∀ p ∈ news, p.1 < it) → it < e → L < it →
      wpAny (model prog w) A (execs body env) (TnE2 h₀ L (e, eo) (it, io) (J (i + 1)) { s with heap := h, toks := tk } Q) (fun _ _ => False) { s with heap := h, toks := tk })
    (done : ∀ h tk m₁ nx, J vs.length m₁ nx → Fr h₀ L h m₁ → News h₀ L h nx → Q .next { s with heap := h, toks := tk }) :
    wpAny (model prog w) A (call (.type "enumerate") [.ref l]) (fun xv' s₁ => LoopAt prog w A (.Tuple [.Name xi pi, .Name xv pv] x1 pt) body env Q xv' s₁) (fun _ _ => False) s := by
  subst hL
  have hls : s.heap.IsList l vs.toArray := ⟨_, N.get hl, rfl, c, rfl⟩
  have hsL := ltN F.ns.lt
  refine call_enumerate_list hls fun H hE hI hz hk => ?_
  unfold LoopAt
  refine wpAny_pyIter_enum hE ?_
  have hfree : ∀ b, s.heap.objs.size ≤ b → h₀.get? b = none := fun b hb => Heap.get?_none_of_le (Nat.le_trans F.above (Nat.le_trans (Nat.le_of_lt hsL) hb))
  refine codeAny_forLoop_any
    (fun k s' => ∃ h' tk m' nx i old, s' = { s with heap := h', toks := tk } ∧ IsEnum h' (s.heap.objs.size + 1) s.heap.objs.size ((i : Nat) : Int) old ∧ h'.IsListIter s.heap.objs.size l i ∧ Fr h₀ env.locals h' m' ∧ News h₀ env.locals h' nx ∧
      (∀ p ∈ nx, p.1 ≠ s.heap.objs.size + 1 ∧ p.1 ≠ s.heap.objs.size) ∧ J i m' nx ∧ i ≤ vs.length ∧ k = vs.length + 1 - i) ?_ (vs.length + 1)
    ⟨H, s.toks, m, news, 0, .none, rfl, hE, hI, ⟨F.ns.keeps hk, fun b o e => hk b o (F.keep b o e), F.above⟩, fun p hp => ⟨hk _ _ (N p hp).1, (N p hp).2⟩,
      fun p hp => by have := ltN (Heap.lt_size (N p hp).1); exact ⟨by refine neN ?_; omega, by refine neN ?_; omega⟩, h0, Nat.zero_le _, rfl⟩
  rintro k s' ⟨h', tk, m', nx, i, old, rfl, hE', hI', F', N', hn', hJ, hi, rfl⟩
  have hne : s.heap.objs.size + 1 ≠ s.heap.objs.size := by omega
  have hlx := hJl _ _ _ hJ
  have hl' : h'.IsList l vs.toArray := ⟨_, N'.get hlx, rfl, c, rfl⟩
  have hle := hn' _ hlx
  have hLe : env.locals ≠ s.heap.objs.size + 1 := by refine neN ?_; omega
  have hLi : env.locals ≠ s.heap.objs.size := by refine neN ?_; omega
  have step : ∀ h₁ : Heap, (∀ b o, b ≠ s.heap.objs.size + 1 → b ≠ s.heap.objs.size → h'.get? b = some o → h₁.get? b = some o) → Fr h₀ env.locals h₁ m' ∧ News h₀ env.locals h₁ nx := fun h₁ hk₁ =>
    ⟨⟨F'.ns.at' fun o e => hk₁ _ o hLe hLi e, fun b o e => hk₁ b o (by
      rintro rfl; rw [hfree _ (by omega)] at e; cases e) (by rintro rfl; rw [hfree _ (by omega)] at e; cases e) (F'.keep b o e), F'.above⟩, fun p hp => ⟨hk₁ _ _ (hn' p hp).1 (hn' p hp).2 (N' p hp).1, (N' p hp).2⟩⟩
  cases hv : vs[i]? with
  | none =>
    have hsz : i = vs.length := Nat.le_antisymm hi (by simpa using hv)
    subst hsz
    refine wpAny_pyNext_enum_end hh hE' hI' hl' (by simp) fun h₁ he₁ => wpAny_execs_nil ?_
    obtain ⟨F₁, N₁⟩ := step h₁ fun b o _ hb e => he₁ b o hb e
    exact done h₁ tk m' nx hJ F₁ N₁
  | some v =>
    have hlt : i < vs.length := (List.getElem?_eq_some_iff.mp hv).1
    have hes : s.heap.objs.size + 1 < h'.objs.size := ltN (Heap.lt_size hE')
    refine wpAny_pyNext_enum_item hE' hI' hl' (x := v) (by simpa using hv) hne fun h₁ heo hit₁ ht₁ hz₁ hk₁ => ?_
    refine wpAny_letOwnedTupleGo_enum heo fun h₂ he₂ hs₂ => ?_
    replace hs₂ : Heap.SameBut (s.heap.objs.size + 1) h₁ h₂ := hs₂
    have ht₂ : h₂.IsTuple h'.objs.size #[.int i tk, v] := ⟨_, (hs₂.2 _ (Nat.ne_of_gt hes)).trans ht₁, rfl, _, rfl⟩
    have hz₂ : h₂.objs.size = h'.objs.size + 1 := hs₂.1.trans hz₁
    refine wpAny_assign_Tuple hh ht₂ rfl rfl fun h₃ hx₃ => ?_
    replace hx₃ : Heap.ExtBut h₂.objs.size h₂ h₃ := hx₃
    have old₃ : ∀ b o, b < h'.objs.size → h₂.get? b = some o → h₃.get? b = some o := fun b o hb x => hx₃ b o (by rw [hz₂]; exact Nat.ne_of_lt (Nat.lt_succ_of_lt hb)) x
    obtain ⟨F₃, N₃⟩ := step h₃ fun b o hbe hbi e => old₃ b o (Heap.lt_size e) ((hs₂.2 b hbe).trans (hk₁ b o hbe hbi e))
    have e₃ : IsEnum h₃ (s.heap.objs.size + 1) s.heap.objs.size ((i : Int) + 1) v := old₃ _ _ hes he₂
    have i₃ : h₃.IsListIter s.heap.objs.size l (i + 1) := by
      obtain ⟨o, ho, r⟩ := hit₁
      exact ⟨o, old₃ _ _ (by refine ltN ?_; omega) ((hs₂.2 _ (by refine neN ?_; omega)).trans ho), r⟩
    show wpAny _ A (do holding [v] (assign (.Name xi pi) env (.int i tk)); do holding [] (assign (.Name xv pv) env v); pure ()) _ _ _
    refine wpAny_bind (wpAny_holding (wpAny_assign_Name (wpAny_storeName_local hxi F₃.ns (fun h₄ hn₄ hs₄ => ?_) hp)))
    replace hs₄ : Heap.SameBut env.locals h₃ h₄ := hs₄
    have F₄ := F₃.set hn₄ hs₄
    have N₄ := N₃.set hs₄
    refine wpAny_bind (wpAny_holding (wpAny_assign_Name (wpAny_storeName_local hxv F₄.ns (fun h₅ hn₅ hs₅ => wpAny_pure ?_) hp)))
    replace hs₅ : Heap.SameBut env.locals h₄ h₅ := hs₅
    have F₅ := F₄.set hn₅ hs₅
    have N₅ := N₄.set hs₅
    have e₅ : IsEnum h₅ (s.heap.objs.size + 1) s.heap.objs.size ((i : Int) + 1) v := (hs₅.2 _ (Ne.symm hLe)).trans ((hs₄.2 _ (Ne.symm hLe)).trans e₃)
    obtain ⟨io, hio, hic, hid⟩ := i₃
    have i₅ : h₅.get? s.heap.objs.size = some io := (hs₅.2 _ (Ne.symm hLi)).trans ((hs₄.2 _ (Ne.symm hLi)).trans hio)
    have N₆ : News h₀ env.locals h₅ ((s.heap.objs.size + 1, _) :: (s.heap.objs.size, io) :: nx) := fun p hp => by
      rcases List.mem_cons.mp hp with rfl | hp
      · exact ⟨e₅, Ne.symm hLe, hfree _ (by omega)⟩
      rcases List.mem_cons.mp hp with rfl | hp
      · exact ⟨i₅, Ne.symm hLi, hfree _ (by omega)⟩
      · exact N₅ p hp
    refine wpAny_noRaise ?_
    refine wpAny_mono (turn i v _ _ _ _ io h₅ _ m' nx hv hJ F₅ N₆ hn' (fun p hp => Heap.lt_size (N p hp).1) (by refine ltN ?_; omega) hsL) (fun f s₃ h₆ => ?_) fun _ _ x => x
    have fin : (∃ h'' tk' m'' nx', s₃ = { s with heap := h'', toks := tk' } ∧ Fr h₀ env.locals h'' m'' ∧ News h₀ env.locals h'' ((s.heap.objs.size + 1, _) :: (s.heap.objs.size, io) :: nx') ∧ (∀ p ∈ nx', p.1 ≠ s.heap.objs.size + 1 ∧ p.1 ≠ s.heap.objs.size) ∧ J (i + 1) m'' nx') → _ := fun ⟨hx, tkx, mx, nxx, ex, Fx, Nx, hnx, hJx⟩ =>
      (⟨vs.length + 1 - (i + 1), by omega, hx, tkx, mx, nxx, i + 1, v, ex, (Nx _ (.head _)).1, ⟨io, (Nx _ (.tail _ (.head _))).1, hic, hid⟩, Fx, fun p hp => Nx p (.tail _ (.tail _ hp)), hnx, hJx, hlt, rfl⟩ :
        ∃ m, m < vs.length + 1 - i ∧ ∃ h' tk m' nx j old, s₃ = { s with heap := h', toks := tk } ∧ IsEnum h' (s.heap.objs.size + 1) s.heap.objs.size ((j : Nat) : Int) old ∧ h'.IsListIter s.heap.objs.size l j ∧ Fr h₀ env.locals h' m' ∧ News h₀ env.locals h' nx ∧
      (∀ p ∈ nx, p.1 ≠ s.heap.objs.size + 1 ∧ p.1 ≠ s.heap.objs.size) ∧ J j m' nx ∧ j ≤ vs.length ∧ m = vs.length + 1 - j)
    cases f with
    | ret v => exact h₆
    | brk => exact h₆
    | next => exact fin h₆
    | cont => exact fin h₆
end
end Mine

namespace Mine
abbrev TK (prog : Program) (w : World) := tupleKind (intKind prog w)
abbrev tupObj (its : List Value) : Obj := { cls := .type "tuple", data := .seq its.toArray }

section
variable {prog : Program} {w : World} {A : Around} {s : Shared} {h₀ h h' : Heap} {L : Addr} {m : Str → Option Value} {env : Env} {news : List (Addr × Obj)} {E : Value → Shared → Prop}

theorem isTup_keeps {k : List Int} {a : Addr} (x : (TK prog w).is h k a) (e : ∀ o, h.get? a = some o → h'.get? a = some o) : (TK prog w).is h' k a :=
  let ⟨o, items, n, ho, r⟩ := x; ⟨o, items, n, e _ ho, r⟩
theorem dictH_keeps {d : Addr} {xs : List (List Int × Addr × Value)} (x : h.DictOfH (TK prog w) d xs) (e : ∀ b o, h.get? b = some o → h'.get? b = some o) : h'.DictOfH (TK prog w) d xs :=
  let ⟨o, es, ep, ho, hc, hd, he, hk, hn⟩ := x; ⟨o, es, ep, e _ _ ho, hc, hd, he, fun y hy => isTup_keeps (hk y hy) fun _ ho => e _ _ ho, hn⟩

theorem tup_is {a : Addr} {u v : Int} {tu tv : Tok} (ho : h.get? a = some (tupObj [.int u tu, .int v tv])) : (TK prog w).is h [u, v] a :=
  ⟨_, _, 0, ho, rfl, rfl, .cons (by show (intKind prog w).is u (.int u tu) = true; simp [intKind, Value.isInt]) (.cons (by show (intKind prog w).is v (.int v tv) = true; simp [intKind, Value.isInt]) .nil)⟩

/-- what the table says of u, v -/
def Says (xs : List (List Int × Addr × Value)) (W : Int → Int → Bool) (ns : List Int) : Prop :=
  ∀ u ∈ ns, ∀ v ∈ ns, u ≠ v → (atKey xs [u, v]).map (·.2) = some (.bool (W u v))

theorem won_item {value slice : Expr} {d t : Addr} {xs : List (List Int × Addr × Value)} {W : Int → Int → Bool} {ns : List Int} {u v : Int} {tu tv : Tok} {Q : Value → Shared → Prop}
    (hu : A.units + 1 < cLine) (F : Fr h₀ L s.heap m) (hD : h₀.DictOfH (TK prog w) d xs) (N : News h₀ L s.heap news) (ht : (t, tupObj [.int u tu, .int v tv]) ∈ news) (S : Says xs W ns) (h1 : u ∈ ns) (h2 : v ∈ ns) (h3 : u ≠ v)
    (h : Q (.bool (W u v)) { s with toks := s.toks + 3 })
    (hs : subscripted slice false (.ref d) (.ref t) = operate [.ref d, .ref t] (getItem (.ref d) (.ref t)) := by with_unfolding_all rfl) (hg : ∀ r, letTemporaryGo value (.ref d) r = pure () := by intro _; with_unfolding_all rfl) :
    wpAny (model prog w) A (subscriptTail value slice (.ref d) (.ref t)) Q E s := by
  obtain ⟨p, hp, hv⟩ := Option.map_eq_some_iff.mp (S u h1 v h2 h3)
  have hD' := dictH_keeps hD F.keep
  refine subscriptTail_builtin hD'.typeIs slot_dict_getitem.lookup (wpAny_getItem_heap (knd := TK prog w) (k := [u, v]) (tupleKind_room_in1 hu) (tup_is (N.get ht)) hD' hp ?_) hs hg
  rw [hv]
  exact h
end

/-- every address of the list is another one than d -/
def AllNe (d : Nat) : List (Addr × Obj) → Prop
  | [] => True
  | p :: r => @Ne Nat p.1 d ∧ AllNe d r
theorem allNe_of {d : Addr} : ∀ {l : List (Addr × Obj)}, (∀ p ∈ l, p.1 ≠ d) → AllNe d l
  | [], _ => trivial
  | p :: _, h => ⟨h p (.head _), allNe_of fun q hq => h q (.tail _ hq)⟩
theorem of_allNe {d : Addr} : ∀ {l : List (Addr × Obj)}, AllNe d l → ∀ p ∈ l, p.1 ≠ d
  | [], _, _, hp => nomatch hp
  | _ :: _, h, p, hp => by
    rcases List.mem_cons.mp hp with rfl | hp
    · exact h.1
    · exact of_allNe h.2 p hp

section
variable {prog : Program} {w : World} {A : Around} {s : Shared} {h₀ h₁ : Heap} {L L₁ : Addr} {m m₁ : Str → Option Value} {news : List (Addr × Obj)} {E : Value → Shared → Prop}
/-- the same, the table lying in the base of the frame below -/
theorem won_item2 {value slice : Expr} {d t : Addr} {xs : List (List Int × Addr × Value)} {W : Int → Int → Bool} {ns : List Int} {u v : Int} {tu tv : Tok} {Q : Value → Shared → Prop}
    (hu : A.units + 1 < cLine) (F : Fr h₀ L s.heap m) (FG : Fr h₁ L₁ h₀ m₁) (hD : h₁.DictOfH (TK prog w) d xs) (N : News h₀ L s.heap news) (ht : (t, tupObj [.int u tu, .int v tv]) ∈ news) (S : Says xs W ns) (h1 : u ∈ ns) (h2 : v ∈ ns) (h3 : u ≠ v)
    (h : Q (.bool (W u v)) { s with toks := s.toks + 3 })
    (hs : subscripted slice false (.ref d) (.ref t) = operate [.ref d, .ref t] (getItem (.ref d) (.ref t)) := by with_unfolding_all rfl) (hg : ∀ r, letTemporaryGo value (.ref d) r = pure () := by intro _; with_unfolding_all rfl) :
    wpAny (model prog w) A (subscriptTail value slice (.ref d) (.ref t)) Q E s :=
  won_item hu F (dictH_keeps hD FG.keep) N ht S h1 h2 h3 h hs hg
end

/-! the plain law of placing -/
section
variable (W : Int → Int → Bool)
def insAt (row : List Int) (v : Int) : Nat := row.findIdx fun u => W v u
def ins (row : List Int) (v : Int) : List Int := row.take (insAt W row v) ++ v :: row.drop (insAt W row v)
def place (l : List Int) : List Int := l.foldl (ins W) []
theorem insAt_hit {row : List Int} {v x : Int} {i : Nat} (h : ∀ j < i, ∀ y, row[j]? = some y → W v y = false) (hi : row[i]? = some x) (hx : W v x = true) : insAt W row v = i := by
  obtain ⟨hl, hg⟩ := List.getElem?_eq_some_iff.mp hi
  unfold insAt
  rw [List.findIdx_eq hl]
  refine ⟨by rw [hg]; exact hx, fun j hj => ?_⟩
  exact h j hj _ (List.getElem?_eq_getElem (Nat.lt_trans hj hl))
theorem insAt_miss {row : List Int} {v : Int} (h : ∀ j < row.length, ∀ y, row[j]? = some y → W v y = false) : insAt W row v = row.length := by
  unfold insAt
  rw [List.findIdx_eq_length]
  intro y hy
  obtain ⟨j, hj⟩ := List.mem_iff_getElem?.mp hy
  exact h j (List.getElem?_eq_some_iff.mp hj).1 y hj
theorem insAt_le (row : List Int) (v : Int) : insAt W row v ≤ row.length := List.findIdx_le_length
theorem insAt_length (row : List Int) (v : Int) : (ins W row v).length = row.length + 1 := by
  have := insAt_le W row v
  unfold ins
  simp only [List.length_append, List.length_cons, List.length_take, List.length_drop]
  omega
theorem ins_eq {row : List Int} {v : Int} {k : Nat} (h : k = insAt W row v) : row.take (k : Int).toNat ++ [v] ++ row.drop (k : Int).toNat = ins W row v := by
  subst h
  unfold ins
  simp
end
end Mine

namespace Mine
section
variable {prog : Program} {w : World} {A : Around} {s : Shared} {h₀ : Heap} {L : Addr} {m : Str → Option Value} {env : Env} {news : List (Addr × Obj)}

theorem updF_at {d : Addr} {o : Obj} {g : Obj → List (Addr × Obj)} (U : UpdF d o news g) : g o = news := by
  obtain ⟨pre, post, a, b, _, _⟩ := U.split
  rw [a, b]
theorem updF_mem {d : Addr} {o : Obj} {g : Obj → List (Addr × Obj)} (U : UpdF d o news g) {p : Addr × Obj} (hp : p ∈ news) (hne : p.1 ≠ d) (o' : Obj) : p ∈ g o' := by
  obtain ⟨pre, post, a, b, _, _⟩ := U.split
  rw [b]
  rw [a] at hp
  rcases List.mem_append.mp hp with h | h
  · exact List.mem_append_left _ h
  · rcases List.mem_cons.mp h with rfl | h
    · exact absurd rfl hne
    · exact List.mem_append_right _ (.tail _ h)
theorem updF_addr {d : Addr} {o : Obj} {g : Obj → List (Addr × Obj)} (U : UpdF d o news g) {o' : Obj} {p : Addr × Obj} (hp : p ∈ g o') : ∃ q ∈ news, q.1 = p.1 := by
  obtain ⟨pre, post, a, b, _, _⟩ := U.split
  rw [b] at hp
  rw [a]
  rcases List.mem_append.mp hp with h | h
  · exact ⟨p, List.mem_append_left _ h, rfl⟩
  · rcases List.mem_cons.mp h with rfl | h
    · exact ⟨(d, o), List.mem_append_right _ (.head _), rfl⟩
    · exact ⟨p, List.mem_append_right _ (.tail _ h), rfl⟩

/-- the end of a turn of an enumerating loop: the ledger is the next one, the frame keeps all but the two names -/
def EnE (h₀ : Heap) (L : Addr) (p₁ p₂ : Addr × Obj) (xi xv : Str) (m : Str → Option Value) (i : Nat) (G : List (Addr × Obj)) (P : Prop) (s₁ : Shared) (Q : Flow → Shared → Prop) (f : Flow) (s₂ : Shared) : Prop :=
  match f with
  | .ret v => Q (.ret v) s₂
  | .brk => Q .next s₂
  | _ => ∃ h' tk' m' t, s₂ = { s₁ with heap := h', toks := tk' } ∧ Fr h₀ L h' m' ∧ News h₀ L h' (p₁ :: p₂ :: G) ∧ P ∧ m' xi = some (.int (i : Int) t) ∧ ∀ y, y ≠ xv → y ≠ xi → m' y = m y

/-- «for i, x in enumerate(l)», l of the ledger and not empty; G: what the ledger is before the turn i; P: what holds -/
theorem loop_enumG {xi xv : Str} {pi pv pt : Pos} {x1 : Nat} {body : List Stmt} {Q : Flow → Shared → Prop} {l : Addr} {vs : List Value} {c : Nat} (G : Nat → List (Addr × Obj)) (P : Nat → Prop)
    (F : Fr h₀ L s.heap m) (N : News h₀ L s.heap news) (hG : G 0 = news) (hl : ∀ i, (l, listOf vs.toArray c) ∈ G i) (hadr : ∀ i, ∀ p ∈ G i, ∃ q ∈ news, q.1 = p.1) (hne : vs ≠ []) (hP0 : P 0)
    (hL : env.locals = L) (hh : A.handled = none) (hxi : env.kindOf xi = some .local) (hxv : env.kindOf xv = some .local) (hp : (env.scope.kind == .class || (env.scope.kind == .module && env.locals != env.globals)) = false)
    (turn : ∀ (i : Nat) (v : Value) (ti : Tok) (e : Addr) (eo : Obj) (it : Addr) (io : Obj) (h : Heap) (tk : Nat), vs[i]? = some v → P i → Fr h₀ L h (fun y => if y = xv then some v else if y = xi then some (.int (i : Int) ti) else m y) → News h₀ L h ((e, eo) :: (it, io) :: G i) →
      (∀ p ∈ news, p.1 < it) → it < e → L < it →
      wpAny (model prog w) A (execs body env) (EnE h₀ L (e, eo) (it, io) xi xv m i (G (i + 1)) (P (i + 1)) { s with heap := h, toks := tk } Q) (fun _ _ => False) { s with heap := h, toks := tk })
    (done : ∀ (h : Heap) (tk : Nat) (u : Option Value) (t : Tok), P vs.length → Fr h₀ L h (fun y => if y = xv then u else if y = xi then some (.int ((vs.length : Int) - 1) t) else m y) → News h₀ L h (G vs.length) → Q .next { s with heap := h, toks := tk }) :
    wpAny (model prog w) A (call (.type "enumerate") [.ref l]) (fun xv' s₁ => LoopAt prog w A (.Tuple [.Name xi pi, .Name xv pv] x1 pt) body env Q xv' s₁) (fun _ _ => False) s := by
  have hl0 := hl 0
  rw [hG] at hl0
  refine loop_enum (fun i m₁ nx => nx = G i ∧ P i ∧ (i = 0 ∨ ∃ t, m₁ xi = some (.int ((i : Int) - 1) t)) ∧ ∀ y, y ≠ xv → y ≠ xi → m₁ y = m y) hh hxi hxv hp hL hl0 F N ⟨hG.symm, hP0, .inl rfl, fun _ _ _ => rfl⟩ ?_ ?_ ?_
  · rintro i m nx ⟨rfl, _, _⟩
    exact hl i
  · rintro i v ti e eo it io h tk m₁ nx hv ⟨rfl, hPi, _, hm⟩ F₁ N₁ hn hlt hie hLi
    have em : (fun y => if y = xv then some v else if y = xi then some (.int (i : Int) ti) else m₁ y) = fun y => if y = xv then some v else if y = xi then some (.int (i : Int) ti) else m y := by
      funext y
      by_cases h1 : y = xv
      · simp [h1]
      · by_cases h2 : y = xi
        · simp [h2]
        · simp only [if_neg h1, if_neg h2]; exact hm y h1 h2
    rw [em] at F₁
    refine wpAny_mono (turn i v ti e eo it io h tk hv hPi F₁ N₁ hlt hie hLi) (fun f s₂ hf => ?_) fun _ _ x => x
    have fin : (∃ h' tk' m' t, s₂ = { s with heap := h', toks := tk' } ∧ Fr h₀ L h' m' ∧ News h₀ L h' ((e, eo) :: (it, io) :: G (i + 1)) ∧ P (i + 1) ∧ m' xi = some (.int (i : Int) t) ∧ ∀ y, y ≠ xv → y ≠ xi → m' y = m y) →
        ∃ h' tk' m' nx', s₂ = { s with heap := h', toks := tk' } ∧ Fr h₀ L h' m' ∧ News h₀ L h' ((e, eo) :: (it, io) :: nx') ∧ (∀ p ∈ nx', p.1 ≠ e ∧ p.1 ≠ it) ∧ nx' = G (i + 1) ∧ P (i + 1) ∧ (i + 1 = 0 ∨ ∃ t, m' xi = some (.int (((i + 1 : Nat) : Int) - 1) t)) ∧ ∀ y, y ≠ xv → y ≠ xi → m' y = m y := by
      rintro ⟨h', tk', m', t, e2, F', N', hP', ht, hm'⟩
      refine ⟨h', tk', m', _, e2, F', N', fun p hp => ?_, rfl, hP', .inr ⟨t, ?_⟩, hm'⟩
      · obtain ⟨q, hq, e3⟩ := hadr _ p hp
        have := ltN (hlt q hq)
        have h4 := ltN hie
        rw [e3] at this
        exact ⟨by refine neN ?_; omega, by refine neN ?_; omega⟩
      · rw [ht]; congr 2; omega
    cases f with
    | ret v => exact hf
    | brk => exact hf
    | next => exact fin hf
    | cont => exact fin hf
  · rintro h tk m₁ nx ⟨rfl, hPn, hi, hm⟩ F₁ N₁
    rcases hi with hi | ⟨t, ht⟩
    · exact absurd (List.length_eq_zero_iff.mp hi) hne
    · refine done h tk (m₁ xv) t hPn ?_ N₁
      have em : (fun y => if y = xv then m₁ xv else if y = xi then some (Value.int ((vs.length : Int) - 1) t) else m y) = m₁ := by
        funext y
        by_cases h1 : y = xv
        · simp [h1]
        · by_cases h2 : y = xi
          · subst h2; simp only [if_neg h1, if_true]; exact ht.symm
          · simp only [if_neg h1, if_neg h2]; exact (hm y h1 h2).symm
      rw [em]; exact F₁

/-- the same, where each turn appends its item to a list that a cell holds -/
theorem loop_asked {xi xv : Str} {pi pv pt : Pos} {x1 : Nat} {body : List Stmt} {Q : Flow → Shared → Prop} {l al ca : Addr} {ocl : Obj} {vs : List Value} {c n₀ : Nat} {g : Obj → List (Addr × Obj)} (P : Nat → Prop)
    (F : Fr h₀ L s.heap m) (N : News h₀ L s.heap news) (hl : (l, listOf vs.toArray c) ∈ news) (_hcell : (ca, ocl) ∈ news) (_hd : ocl.data = .cell (some (.ref al))) (U : UpdF al (listOf #[] n₀) news g) (hal : l ≠ al) (hne : vs ≠ []) (hP0 : P 0)
    (hL : env.locals = L) (hh : A.handled = none) (hxi : env.kindOf xi = some .local) (hxv : env.kindOf xv = some .local) (hp : (env.scope.kind == .class || (env.scope.kind == .module && env.locals != env.globals)) = false)
    (turn : ∀ (i : Nat) (v : Value) (ti : Tok) (e : Addr) (eo : Obj) (it : Addr) (io : Obj) (h : Heap) (tk : Nat), vs[i]? = some v → P i → Fr h₀ L h (fun y => if y = xv then some v else if y = xi then some (.int (i : Int) ti) else m y) → News h₀ L h ((e, eo) :: (it, io) :: g (listOf (vs.take i).toArray (n₀ + i))) →
      (∀ p ∈ news, p.1 < it) → it < e → L < it →
      wpAny (model prog w) A (execs body env) (EnE h₀ L (e, eo) (it, io) xi xv m i (g (listOf ((vs.take i).toArray.push v) (n₀ + i + 1))) (P (i + 1)) { s with heap := h, toks := tk } Q) (fun _ _ => False) { s with heap := h, toks := tk })
    (done : ∀ (h : Heap) (tk : Nat) (u : Option Value) (t : Tok), P vs.length → Fr h₀ L h (fun y => if y = xv then u else if y = xi then some (.int ((vs.length : Int) - 1) t) else m y) → News h₀ L h (g (listOf vs.toArray (n₀ + vs.length))) → Q .next { s with heap := h, toks := tk }) :
    wpAny (model prog w) A (call (.type "enumerate") [.ref l]) (fun xv' s₁ => LoopAt prog w A (.Tuple [.Name xi pi, .Name xv pv] x1 pt) body env Q xv' s₁) (fun _ _ => False) s := by
  refine loop_enumG (fun i => g (listOf (vs.take i).toArray (n₀ + i))) P F N (by simpa using updF_at U) (fun i => updF_mem U hl hal _) (fun i p hp => updF_addr U hp) hne hP0 hL hh hxi hxv hp ?_ ?_
  · intro i v ti e eo it io h tk hv hPi F₁ N₁ hlt hie hLi
    have e1 : vs.take (i + 1) = vs.take i ++ [v] := by rw [List.take_add_one, hv]; rfl
    have e2 : listOf (vs.take (i + 1)).toArray (n₀ + (i + 1)) = listOf ((vs.take i).toArray.push v) (n₀ + i + 1) := by
      rw [e1]; simp [Nat.add_assoc]
    show wpAny _ _ _ (EnE _ _ _ _ _ _ _ _ (g (listOf (vs.take (i + 1)).toArray (n₀ + (i + 1)))) _ _ _) _ _
    rw [e2]
    exact turn i v ti e eo it io h tk hv hPi F₁ N₁ hlt hie hLi
  · intro h tk u t hPn F₁ N₁
    rw [List.take_length] at N₁
    exact done h tk u t hPn F₁ N₁
end
end Mine
namespace Mine
section
variable {prog : Program} {w : World} {A : Around} {s : Shared} {h₀ : Heap} {L : Addr} {m : Str → Option Value} {news : List (Addr × Obj)} {E : Value → Shared → Prop}
/-- what a cut call hands back -/
def CutPost (h₀ : Heap) (L : Addr) (m : Str → Option Value) (g : Obj → List (Addr × Obj)) (vs : List Value) (at' : Nat) (s : Shared) (v : Value) (s' : Shared) : Prop :=
  ∃ t h' tk' n', v = .int (at' : Int) t ∧ s' = { s with heap := h', toks := tk' } ∧ Fr h₀ L h' m ∧ News h₀ L h' (g (listOf (vs.take (at' + 1)).toArray n'))
theorem CutPost.intro {h₀ : Heap} {L : Addr} {m : Str → Option Value} {g : Obj → List (Addr × Obj)} {vs : List Value} {at' : Nat} {s : Shared} {x : Int} {t : Tok} {h' : Heap} {tk' n' : Nat} (e : x = (at' : Int)) (F : Fr h₀ L h' m) (N : News h₀ L h' (g (listOf (vs.take (at' + 1)).toArray n'))) :
    CutPost h₀ L m g vs at' s (.int x t) { s with heap := h', toks := tk' } := ⟨t, h', tk', n', by rw [e], rfl, F, N⟩
theorem EnE.next {h₀ : Heap} {L : Addr} {p₁ p₂ : Addr × Obj} {xi xv : Str} {m m' : Str → Option Value} {i : Nat} {G news : List (Addr × Obj)} {P : Prop} {s₁ : Shared} {Q : Flow → Shared → Prop} {h' : Heap} {tk' : Nat} {t : Tok}
    (F : Fr h₀ L h' m') (N : News h₀ L h' news) (hs : ∀ p ∈ p₁ :: p₂ :: G, p ∈ news) (hP : P) (hi : m' xi = some (.int (i : Int) t)) (hm : ∀ y, y ≠ xv → y ≠ xi → m' y = m y) : EnE h₀ L p₁ p₂ xi xv m i G P s₁ Q .next { s₁ with heap := h', toks := tk' } :=
  ⟨h', tk', m', t, rfl, F, fun p hp => N p (hs p hp), hP, hi, hm⟩
theorem news_sub {h₀ h : Heap} {L : Addr} {l l' : List (Addr × Obj)} (N : News h₀ L h l) (hs : ∀ p ∈ l', p ∈ l) : News h₀ L h l' := fun p hp => N p (hs p hp)
theorem take_push {us : List Value} {i : Nat} {v : Value} (h : us[i]? = some v) : (us.take (i + 1)).toArray = (us.take i).toArray.push v := by
  rw [List.take_add_one, h]; simp
/-- a call cut: what it hands back is an int «at», and the list that the cell ca holds is the first at + 1 items -/
theorem call_cut {f : Value} {args : List Value} {al ca : Addr} {ocl : Obj} {n₀ : Nat} {g : Obj → List (Addr × Obj)} {Q : Value → Shared → Prop} (vs : List Value) (at' : Nat)
    (_F : Fr h₀ L s.heap m) (_N : News h₀ L s.heap news) (_hcell : (ca, ocl) ∈ news) (_hd : ocl.data = .cell (some (.ref al))) (_U : UpdF al (listOf #[] n₀) news g)
    (h1 : wpAny (model prog w) A (call f args) (CutPost h₀ L m g vs at' s) (fun _ _ => False) s)
    (h2 : ∀ t h' tk' n', Fr h₀ L h' m → News h₀ L h' (g (listOf (vs.take (at' + 1)).toArray n')) → Q (.int (at' : Int) t) { s with heap := h', toks := tk' }) :
    wpAny (model prog w) A (call f args) Q E s :=
  wpAny_noRaise (wpAny_mono h1 (fun v s' ⟨t, h', tk', n', e1, e2, F', N'⟩ => by subst e1 e2; exact h2 t h' tk' n' F' N') fun _ _ x => x)
end
end Mine

namespace Mine
section
variable {prog : Program} {w : World} {A : Around} {s : Shared} {E : Value → Shared → Prop}
theorem rangeFields_at {r : Addr} {a b c : Int} {t u v : Tok} {Q : Int × Int × Int → Shared → Prop} (hr : IsRange s.heap r a b c t u v) (h : Q (a, b, c) s) :
    wpAny (model prog w) A (Builtin.Range.rangeFields (.ref r)) Q E s := by
  unfold Builtin.Range.rangeFields
  refine wpAny_bind (wpAny_field hr rfl (x := .int a t) rfl (wpAny_bind (wpAny_pure ?_)))
  refine wpAny_bind (wpAny_field hr rfl (x := .int b u) rfl (wpAny_bind (wpAny_pure ?_)))
  refine wpAny_bind (wpAny_field hr rfl (x := .int c v) rfl (wpAny_bind (wpAny_pure ?_)))
  exact wpAny_pure h
theorem notin_range {r : Addr} {a b c k : Int} {t u v tk : Tok} {Q : Value → Shared → Prop} (hr : IsRange s.heap r a b c t u v) (h : Q (.bool (!(Builtin.Range.rangePlace? a b c k).isSome)) s) :
    wpAny (model prog w) A (compareOp .NotIn (.int k tk) (.ref r)) Q E s := by
  have hT : s.TypeIs (.ref r) "range" := ⟨_, hr, rfl⟩
  show wpAny _ _ (do return .bool (!(← contains (.ref r) (.int k tk)))) Q E s
  refine wpAny_bind ?_
  unfold contains
  try with_reducible refine wpAny_holding ?_
  refine wpAny_bind (wpAny_specialOf hT F.slot_range_contains.lookup ?_)
  show wpAny _ _ (if (some (Value.builtin "range.__contains__") == some Value.none) = true then _ else _) _ E s
  rw [if_neg (by rw [beq_builtin_none]; exact Bool.false_ne_true)]
  refine wpAny_bind (wpAny_callSpecialUnlessNone?_slot (name := Str.ofString "__contains__") hT F.slot_range_contains
    (wpAny_call_entry F.slot_range_contains hT F.entry_range_contains ?_ (F.args_range_contains_2 _ _)))
  show wpAny _ _ (rule "range.contains.reckoned" >>= _) _ _ s
  refine wpAny_bind (wpAny_rule (wpAny_bind (rangeFields_at hr ?_)))
  exact wpAny_pure ⟨_, rfl, wpAny_truthy_bool (wpAny_pure h)⟩
theorem place_in {b k : Int} (h0 : 0 ≤ k) (h1 : k < b) : (Builtin.Range.rangePlace? 0 b 1 k).isSome = true := by
  unfold Builtin.Range.rangePlace?
  simp [h0, h1, Int.emod_one]
theorem notin_range_in {r : Addr} {b k : Int} {t u v tk : Tok} {Q : Value → Shared → Prop} (hr : IsRange s.heap r 0 b 1 t u v) (h0 : 0 ≤ k) (h1 : k < b) (h : Q (.bool false) s) :
    wpAny (model prog w) A (compareOp .NotIn (.int k tk) (.ref r)) Q E s :=
  notin_range hr (by rw [place_in h0 h1]; exact h)
end
end Mine
namespace Mine
section
variable {prog : Program} {w : World} {A : Around} {s : Shared} {E : Value → Shared → Prop} {h₀ : Heap} {L : Addr} {news : List (Addr × Obj)}
theorem ne_same {a b : Addr} {us ws : List Value} {ns ms : List Int} {c c' : Nat} {Q : Value → Shared → Prop} (N : News h₀ L s.heap news) (ha : (a, listOf us.toArray c) ∈ news) (hb : (b, listOf ws.toArray c') ∈ news) (hi : IntsAre us ns) (hi' : IntsAre ws ms) (e : ns = ms) (hu : A.units + 64 < cLine)
    (h : Q (.bool false) s) : wpAny (model prog w) A (compareOp .NotEq (.ref a) (.ref b)) Q E s :=
  ne_intsK ⟨_, N.get ha, rfl, c, rfl⟩ hi ⟨_, N.get hb, rfl, c', rfl⟩ hi' hu (by rw [e, decide_eq_true rfl]; exact h)
end
end Mine
namespace Mine
section
variable {prog : Program} {w : World} {A : Around} {s : Shared} {E : Value → Shared → Prop} {h₀ : Heap} {L : Addr} {m : Str → Option Value} {news : List (Addr × Obj)}
theorem slice_from {value slice : Expr} {l : Addr} {us : List Value} {ns : List Int} {c : Nat} {x : Int} {tx : Tok} {Q : Value → Shared → Prop} (F : Fr h₀ L s.heap m) (N : News h₀ L s.heap news) (hm : (l, listOf us.toArray c) ∈ news) (hi : IntsAre us ns) (h0 : 0 ≤ x) (hz : us.length ≤ 1000)
    (h : ∀ D h' ws, Fr h₀ L h' m → News h₀ L h' ((D, listOf (List.toArray ws) 0) :: news) → IntsAre ws (ns.drop x.toNat) → ws.length ≤ us.length → (∀ q ∈ news, q.1 < D) → Q (.ref D) { s with heap := h' })
    (hs : subscripted slice false (.ref l) (.ref s.heap.objs.size) = operate [.ref s.heap.objs.size, .ref l] (getItem (.ref l) (.ref s.heap.objs.size))) (ht : ∀ r, letTemporaryGo value (.ref l) r = pure ()) :
    wpAny (model prog w) A (subscriptTail value slice (.ref l) (.ref s.heap.objs.size)) Q E { s with heap := s.heap.push { cls := .type "slice", data := .fields #[.int x tx, .none, .none] } } := by
  refine slice_list F N (⟨_, N.get hm, rfl, c, rfl⟩ : s.heap.IsList l us.toArray) (.int x tx) .none (fun h' F' N' => ?_) hs ht (by rw [sizeLine_eq, List.size_toArray]; omega)
  exact h _ h' (slicePick us.toArray (some x) none none).toList F' (by simpa using N') (slice_ints_fromW hi h0) (by have := slicePick_size_le us.toArray (some x) none none; simpa using this) fun q hq => Nat.lt_succ_of_lt (Heap.lt_size (N q hq).1)
theorem slice_upto {value slice : Expr} {l : Addr} {us : List Value} {ns : List Int} {c : Nat} {x : Int} {tx : Tok} {Q : Value → Shared → Prop} (F : Fr h₀ L s.heap m) (N : News h₀ L s.heap news) (hm : (l, listOf us.toArray c) ∈ news) (hi : IntsAre us ns) (h0 : 0 ≤ x) (hz : us.length ≤ 1000)
    (h : ∀ D h' ws, Fr h₀ L h' m → News h₀ L h' ((D, listOf (List.toArray ws) 0) :: news) → IntsAre ws (ns.take x.toNat) → ws.length ≤ us.length → (∀ q ∈ news, q.1 < D) → Q (.ref D) { s with heap := h' })
    (hs : subscripted slice false (.ref l) (.ref s.heap.objs.size) = operate [.ref s.heap.objs.size, .ref l] (getItem (.ref l) (.ref s.heap.objs.size))) (ht : ∀ r, letTemporaryGo value (.ref l) r = pure ()) :
    wpAny (model prog w) A (subscriptTail value slice (.ref l) (.ref s.heap.objs.size)) Q E { s with heap := s.heap.push { cls := .type "slice", data := .fields #[.none, .int x tx, .none] } } := by
  refine slice_list F N (⟨_, N.get hm, rfl, c, rfl⟩ : s.heap.IsList l us.toArray) .none (.int x tx) (fun h' F' N' => ?_) hs ht (by rw [sizeLine_eq, List.size_toArray]; omega)
  exact h _ h' (slicePick us.toArray none (some x) none).toList F' (by simpa using N') (slice_ints_uptoW hi h0) (by have := slicePick_size_le us.toArray none (some x) none; simpa using this) fun q hq => Nat.lt_succ_of_lt (Heap.lt_size (N q hq).1)
theorem add_lists {l b : Addr} {us ws : List Value} {ns ms : List Int} {c c' : Nat} {Q : Value → Shared → Prop} (F : Fr h₀ L s.heap m) (N : News h₀ L s.heap news) (hl : (l, listOf us.toArray c) ∈ news) (hb : (b, listOf ws.toArray c') ∈ news) (hi : IntsAre us ns) (hj : IntsAre ws ms) (hz : us.length + ws.length ≤ 1000)
    (h : ∀ D h' vs, Fr h₀ L h' m → News h₀ L h' ((D, listOf (List.toArray vs) 0) :: news) → IntsAre vs (ns ++ ms) → vs.length = us.length + ws.length → (∀ q ∈ news, q.1 < D) → Q (.ref D) { s with heap := h' }) :
    wpAny (model prog w) A (binaryOp .Add (.ref l) (.ref b)) Q E s :=
  add_lists_ints (hsz := by rw [sizeLine_eq, ← hi.length, ← hj.length]; omega) (vs := us) (ws := ws) F N ⟨_, N.get hl, rfl, c, rfl⟩ ⟨_, N.get hb, rfl, c', rfl⟩ hi hj fun h' F' N' hI => h _ h' _ F' N' hI List.length_append fun q hq => Heap.lt_size (N q hq).1
end
end Mine

namespace Mine
section
variable {prog : Program} {w : World} {A : Around} {s : Shared} {E : Value → Shared → Prop} {h₀ : Heap} {L : Addr} {m : Str → Option Value} {env : Env}

/-- a comprehension over a range whose test never holds: an empty list -/
def CompNone (prog : Program) (w : World) (A : Around) (h₀ : Heap) (L : Addr) (m : Str → Option Value) (env : Env) (scope : Scope) (cl : List (Str × Addr)) (x : Str) (test : Expr) (Q : Value → Shared → Prop) (xv : Value) (s₁ : Shared) : Prop :=
  ∃ (news : List (Addr × Obj)) (r : Addr) (n : Nat) (b₀ : Int) (t₀ u₀ v₀ : Tok), xv = .ref r ∧ IsRange s₁.heap r 1 b₀ 1 t₀ u₀ v₀ ∧ b₀ = (n : Int) + 1 ∧ n ≤ 1000 ∧ Fr h₀ L s₁.heap m ∧ News h₀ L s₁.heap news ∧
    (∀ (C : Addr) (k : Nat) (t : Tok) (s₂ : Shared) (m₂ : Str → Option Value), k < n → Fr h₀ C s₂.heap m₂ → News h₀ C s₂.heap news → m₂ x = some (.int ((k : Int) + 1) t) →
      wpAny (model prog w) A (isTrue test (compEnvC scope cl C env) (eval test (compEnvC scope cl C env))) (fun ok s₃ => ok = false ∧ Keeps s₂ s₃) (fun _ _ => False) s₂) ∧
    (∀ D h' tk c, Fr h₀ L h' m → News h₀ L h' ((D, listOf #[] c) :: news) → Q (.ref D) { s₁ with heap := h', toks := tk })

theorem comp_none {elt iter test : Expr} {x : Str} {px : Pos} {scope : Scope} {cl : List (Str × Addr)} {pos : Pos} {Q : Value → Shared → Prop} (_F : Fr h₀ L s.heap m)
    (h : wpAny (model prog w) A (eval iter env) (fun xv s₁ => CompNone prog w A h₀ L m env scope cl x test Q xv s₁) (fun _ _ => False) s)
    (hh : A.handled = none) (hclos : closureFor scope env = pure cl) (hcell : ∀ y ∈ scope.names, y.2 ≠ .cell) (hkind : scope.kind = .function)
    (hnames : ∀ y ∈ scope.names, y.2 = .local → scope.names.lookup y.1 = some .local) (hx : scope.names.lookup x = some .local) (hs : ∀ x, foldedSetIterable iter env x = pure x) :
    wpAny (model prog w) A (eval (.ListComp elt [⟨.Name x px, iter, [test], 0⟩] scope pos) env) Q (fun _ _ => False) s := by
  refine ListComp_DCr (h₀ := h₀) (L := L) (m := m) (pz := fun _ => false) (d := fun _ => PyData.none) hh hclos hcell hkind hnames hx (wpAny_mono h (fun xv s₁ h₁ => ?_) fun _ _ e => e) hs
  obtain ⟨news, r, n, b₀, t₀, u₀, v₀, rfl, hr, rfl, hn, F, N, htest, hQ⟩ := h₁
  refine ⟨news, r, 1, (n : Int) + 1, 1, t₀, u₀, v₀, n, rfl, hr, ?_, ?_, ?_, F, N, ?_, ?_, ?_⟩
  · exact small_one (by omega) (by omega) (by omega) (by omega)
  · unfold Builtin.Range.rangeSize
    simp only [Int.zero_lt_one, gt_iff_lt, if_true, Int.ediv_one]
    split <;> omega
  · rw [sizeLine_eq]; omega
  · intro C a v s₂ m₂ E' hC ha hv hns hm hk
    obtain ⟨k, hk', rfl⟩ : ∃ k : Nat, k < n ∧ a = (k : Int) + 1 := by
      simp only [rangeInts, List.mem_map, List.mem_range] at ha
      obtain ⟨k, hk', rfl⟩ := ha
      exact ⟨k, hk', by omega⟩
    obtain ⟨t, rfl⟩ : ∃ t, v = .int ((k : Int) + 1) t := hv
    have hCL := ltN (Nat.lt_of_lt_of_le F.ns.lt hC)
    have F₂ : Fr h₀ C s₂.heap m₂ := ⟨hns, fun b o e => hk b o (F.keep b o e), Nat.le_trans F.above (Nat.le_of_lt hCL)⟩
    have N₂ : News h₀ C s₂.heap news := fun p hp => ⟨hk _ _ (N p hp).1, Nat.ne_of_lt (Nat.lt_of_lt_of_le (Heap.lt_size (N p hp).1) hC), (N p hp).2.2⟩
    refine wpAny_tests_one (wpAny_noRaise (htest C k t s₂ m₂ hk' F₂ N₂ hm))
  · intro C a v s₂ m₂ E' _ _ _ hf
    cases hf
  · intro D ys h' tk F' N' hD hl hpl hca
    have hys : ys = [] := by
      have := hca.length_eq
      rw [show ((rangeInts 1 1 n).filter fun _ => false) = [] from List.filter_eq_nil_iff.mpr (by simp)] at this
      simpa using this
    subst hys
    obtain ⟨⟨c, hc⟩, hne⟩ := hpl
    refine hQ D h' tk c F' fun p hp => ?_
    rcases List.mem_cons.mp hp with rfl | hp
    · exact ⟨hc, fun e => (by
        have := F'.ns
        obtain ⟨oL, es, ep, hL, hd, _⟩ := this
        rw [← e] at hL
        rw [hc] at hL
        cases hL
        cases hd), hD⟩
    · exact N' p hp
end
end Mine

namespace Mine
section
variable {prog : Program} {w : World} {A : Around} {s : Shared} {E : Value → Shared → Prop} {h₀ : Heap} {L C : Addr} {m : Str → Option Value} {env : Env} {news : List (Addr × Obj)} {scope : Scope} {cl : List (Str × Addr)} {x : Str} {pos : Pos} {v : Value} {c : Addr} {o : Obj}
theorem nameB_L {M : Model} {Q : Value → Shared → Prop} (F : Fr h₀ C s.heap m) (hv : m x = some v) (h : Q v s) (hk : (compEnvC scope cl C env).scope.kind = .function) (hx : (compEnvC scope cl C env).kindOf x = some .local) (hd : (x == ("__debug__" : Str)) = false) :
    wpAny M A (eval (.Name x pos) (compEnvC scope cl C env)) Q E s := wpAny_Name (wpAny_loadName_local hk hx F.ns hv h) hd
theorem nameB_C {M : Model} {Q : Value → Shared → Prop} (N : News h₀ C s.heap news) (hc : cl.lookup x = some c) (hm : (c, o) ∈ news) (hd : o.data = .cell (some v)) (h : Q v s) (hk : (compEnvC scope cl C env).scope.kind = .function) (hx : (compEnvC scope cl C env).kindOf x = some .cell) (hb : (x == ("__debug__" : Str)) = false) :
    wpAny M A (eval (.Name x pos) (compEnvC scope cl C env)) Q E s := wpAny_Name (wpAny_loadName_cell hk hx hc ⟨o, N.get hm, hd⟩ h) hb
theorem item_at {value slice : Expr} {l : Addr} {us : List Value} {ns : List Int} {n : Nat} {k : Int} {u : Tok} {Q : Value → Shared → Prop} (N : News h₀ L s.heap news) (hm : (l, listOf us.toArray n) ∈ news) (hi : IntsAre us ns)
    (h0 : 0 ≤ k) (h1 : k < ns.length) (hz : ns.length ≤ 1000) (h : ∀ t, Q (.int (ns.getD k.toNat 0) t) s)
    (hs : subscripted slice false (.ref l) (.int k u) = operate [.ref l, .int k u] (getItem (.ref l) (.int k u))) :
    wpAny (model prog w) A (subscriptTail value slice (.ref l) (.int k u)) Q E s :=
  item_anyK ⟨_, N.get hm, rfl, n, rfl⟩ hi h0 h1 (by omega) h hs
end
end Mine

namespace Mine
section
variable (W : Int → Int → Bool)
theorem ins_perm (row : List Int) (v : Int) : (ins W row v).Perm (v :: row) := by
  unfold ins
  refine List.perm_middle.trans ?_
  rw [List.take_append_drop]
theorem foldl_ins_perm : ∀ (l row : List Int), (l.foldl (ins W) row).Perm (row ++ l)
  | [], row => by simp
  | v :: l, row => by
    refine (foldl_ins_perm l (ins W row v)).trans ?_
    refine ((ins_perm W row v).append_right l).trans ?_
    exact List.perm_middle.symm
theorem place_perm (l : List Int) : (place W l).Perm l := foldl_ins_perm W l []
theorem place_succ {l : List Int} {i : Nat} {v : Int} (h : l[i]? = some v) : place W (l.take (i + 1)) = ins W (place W (l.take i)) v := by
  unfold place
  rw [List.take_add_one, h, List.foldl_append]
  rfl
theorem ins_nil (v : Int) : ins W [] v = [v] := rfl
theorem ins_cons_hit {x v : Int} (r : List Int) (h : W v x = true) : ins W (x :: r) v = v :: x :: r := by
  unfold ins insAt
  simp [List.findIdx_cons, h]
theorem ins_cons_miss {x v : Int} (r : List Int) (h : W v x = false) : ins W (x :: r) v = x :: ins W r v := by
  unfold ins insAt
  simp [List.findIdx_cons, h]

/-- behind each one, everybody has beaten the next one -/
def Ch : List Int → Prop
  | [] => True
  | [_] => True
  | x :: y :: r => W x y = true ∧ Ch (y :: r)
theorem Ch.tail {x : Int} : ∀ {r : List Int}, Ch W (x :: r) → Ch W r
  | [], _ => trivial
  | _ :: _, h => h.2
theorem ch_ins {v : Int} : ∀ {row : List Int}, Ch W row → (∀ u ∈ row, W u v = !W v u) → Ch W (ins W row v)
  | [], _, _ => trivial
  | x :: r, h, ht => by
    cases hx : W v x with
    | true => rw [ins_cons_hit W r hx]; exact ⟨hx, h⟩
    | false =>
      rw [ins_cons_miss W r hx]
      have ih := ch_ins (h.tail) fun u hu => ht u (.tail _ hu)
      have hxv : W x v = true := by rw [ht x (.head _), hx]; rfl
      cases r with
      | nil => exact ⟨hxv, trivial⟩
      | cons y r =>
        cases hy : W v y with
        | true =>
          rw [ins_cons_hit W r hy] at ih ⊢
          exact ⟨hxv, ih⟩
        | false =>
          rw [ins_cons_miss W r hy] at ih ⊢
          exact ⟨h.1, ih⟩
theorem ch_place {ord : List Int} (hn : ord.Nodup) (ht : ∀ u ∈ ord, ∀ v ∈ ord, u ≠ v → W u v = !W v u) : ∀ i, Ch W (place W (ord.take i))
  | 0 => trivial
  | i + 1 => by
    cases hv : ord[i]? with
    | none =>
      have hl : ord.length ≤ i := by simpa using hv
      have := ch_place hn ht i
      rw [List.take_of_length_le hl] at this
      rw [List.take_of_length_le (Nat.le_succ_of_le hl)]
      exact this
    | some v =>
      rw [place_succ W hv]
      refine ch_ins W (ch_place hn ht i) fun u hu => ?_
      have hu' : u ∈ ord.take i := (place_perm W _).mem_iff.mp hu
      refine ht u (List.mem_of_mem_take hu') v (List.mem_of_getElem? hv) ?_
      rintro rfl
      obtain ⟨j, hj⟩ := List.mem_iff_getElem?.mp hu'
      have hji : j < i := by
        have := (List.getElem?_eq_some_iff.mp hj).1
        rw [List.length_take] at this
        omega
      rw [List.getElem?_take_of_lt hji] at hj
      have hl := (List.getElem?_eq_some_iff.mp hv).1
      have := (List.getElem?_inj hl hn).mp (hv.trans hj.symm)
      omega
theorem ch_at : ∀ {row : List Int} {j : Nat}, Ch W row → j + 1 < row.length → W (row.getD j 0) (row.getD (j + 1) 0) = true
  | [], _, _, h => absurd h (Nat.not_lt_zero _)
  | [_], _, _, h => by simp at h
  | x :: y :: r, 0, h, _ => h.1
  | x :: y :: r, j + 1, h, hl => by
    have := ch_at (row := y :: r) (j := j) h.2 (by simpa using hl)
    simpa using this
theorem place_fresh {ord : List Int} (hn : ord.Nodup) {i : Nat} {v : Int} (hv : ord[i]? = some v) {x : Int} (hx : x ∈ place W (ord.take i)) : x ∈ ord ∧ v ≠ x := by
  have hu' : x ∈ ord.take i := (place_perm W _).mem_iff.mp hx
  refine ⟨List.mem_of_mem_take hu', ?_⟩
  rintro rfl
  obtain ⟨j, hj⟩ := List.mem_iff_getElem?.mp hu'
  have hji : j < i := by
    have := (List.getElem?_eq_some_iff.mp hj).1
    rw [List.length_take] at this
    omega
  rw [List.getElem?_take_of_lt hji] at hj
  have hl := (List.getElem?_eq_some_iff.mp hv).1
  have := (List.getElem?_inj hl hn).mp (hv.trans hj.symm)
  omega
theorem place_nodup {ord : List Int} (hn : ord.Nodup) (i : Nat) : (place W (ord.take i)).Nodup :=
  (place_perm W _).nodup_iff.mpr (hn.sublist (List.take_sublist _ _))
theorem place_step {ord : List Int} (hn : ord.Nodup) (ht : ∀ u ∈ ord, ∀ v ∈ ord, u ≠ v → W u v = !W v u) {i : Nat} {v : Int} (hv : ord[i]? = some v) :
    ∀ j, j + 1 < (ins W (place W (ord.take i)) v).length → (ins W (place W (ord.take i)) v).getD j 0 ∈ ord ∧ (ins W (place W (ord.take i)) v).getD (j + 1) 0 ∈ ord ∧
      (ins W (place W (ord.take i)) v).getD j 0 ≠ (ins W (place W (ord.take i)) v).getD (j + 1) 0 ∧ W ((ins W (place W (ord.take i)) v).getD j 0) ((ins W (place W (ord.take i)) v).getD (j + 1) 0) = true := by
  rw [← place_succ W hv]
  have hmem : ∀ x ∈ place W (ord.take (i + 1)), x ∈ ord := fun x hx => List.mem_of_mem_take ((place_perm W _).mem_iff.mp hx)
  have hnd := place_nodup W hn (i + 1)
  have hch := ch_place W hn ht (i + 1)
  generalize place W (ord.take (i + 1)) = row at *
  intro j hj
  have e1 : row.getD j 0 = row[j] := by simp [List.getD, Nat.lt_of_succ_lt hj]
  have e2 : row.getD (j + 1) 0 = row[j + 1] := by simp [List.getD, hj]
  refine ⟨?_, ?_, ?_, ch_at W hch hj⟩
  · rw [e1]; exact hmem _ (List.getElem_mem _)
  · rw [e2]; exact hmem _ (List.getElem_mem _)
  · rw [e1, e2]
    intro e
    have := (List.getElem_inj hnd).mp e
    omega
end
end Mine

namespace Mine
section
variable {prog : Program} {w : World} {A : Around} {s : Shared} {h₀ : Heap} {L : Addr} {m : Str → Option Value} {env : Env} {news : List (Addr × Obj)}

/-- the end of a turn of a while: the invariant holds at a smaller measure -/
def WhE (h₀ : Heap) (L : Addr) (J : Nat → (Str → Option Value) → List (Addr × Obj) → Prop) (n : Nat) (s₁ : Shared) (Q : Flow → Shared → Prop) (f : Flow) (s₂ : Shared) : Prop :=
  match f with
  | .ret v => Q (.ret v) s₂
  | .brk => Q .next s₂
  | _ => ∃ n' < n, ∃ h' tk' m' nx', s₂ = { s₁ with heap := h', toks := tk' } ∧ Fr h₀ L h' m' ∧ News h₀ L h' nx' ∧ J n' m' nx'
def WhT (prog : Program) (w : World) (A : Around) (body : List Stmt) (env : Env) (h₀ : Heap) (L : Addr) (J : Nat → (Str → Option Value) → List (Addr × Obj) → Prop) (n : Nat) (s₁ : Shared) (Q : Flow → Shared → Prop) (b : Bool) (s₂ : Shared) : Prop :=
  (b = true → wpAny (model prog w) A (execs body env) (WhE h₀ L J n s₁ Q) (fun _ _ => False) s₂) ∧ (b = false → Q .next s₂)

theorem while_walk {test : Expr} {body : List Stmt} {pos : Pos} {Q : Flow → Shared → Prop} (J : Nat → (Str → Option Value) → List (Addr × Obj) → Prop) (n : Nat)
    (F : Fr h₀ L s.heap m) (N : News h₀ L s.heap news) (h0 : J n m news)
    (turn : ∀ n h tk m₁ nx, J n m₁ nx → Fr h₀ L h m₁ → News h₀ L h nx →
      wpAny (model prog w) A (isTrue test env (eval test env)) (WhT prog w A body env h₀ L J n { s with heap := h, toks := tk } Q) (fun _ _ => False) { s with heap := h, toks := tk }) :
    wpAny (model prog w) A (exec (.While test body [] pos) env) Q (fun _ _ => False) s := by
  refine wpAny_While (codeAny_mono (codeAny_whileLoop (R := fun r s' => match r with | .ok f => Q f s' | .error _ => False)
    (fun k s' => ∃ h' tk m' nx, s' = { s with heap := h', toks := tk } ∧ Fr h₀ L h' m' ∧ News h₀ L h' nx ∧ J k m' nx) ?_ n ⟨s.heap, s.toks, m, news, rfl, F, N, h0⟩) ?_)
  · rintro k s' ⟨h', tk, m', nx, rfl, F', N', hJ⟩
    refine wpAny_noRaise (wpAny_mono (turn k h' tk m' nx hJ F' N') (fun b s₂ hb => ?_) fun _ _ x => x)
    cases b with
    | false =>
      simp only [Bool.false_eq_true, if_false]
      exact wpAny_execs_nil (hb.2 rfl)
    | true =>
      simp only [if_true]
      refine wpAny_noRaise (wpAny_mono (hb.1 rfl) (fun f s₃ hf => ?_) fun _ _ x => x)
      have fin : (∃ n' < k, ∃ h₂ tk₂ m₂ nx₂, s₃ = { s with heap := h₂, toks := tk₂ } ∧ Fr h₀ L h₂ m₂ ∧ News h₀ L h₂ nx₂ ∧ J n' m₂ nx₂) →
          ∃ m, m < k ∧ ∃ h' tk m' nx, s₃ = { s with heap := h', toks := tk } ∧ Fr h₀ L h' m' ∧ News h₀ L h' nx ∧ J m m' nx :=
        fun ⟨n', hn', h₂, tk₂, m₂, nx₂, e, r⟩ => ⟨n', hn', h₂, tk₂, m₂, nx₂, e, r⟩
      cases f with
      | ret v => exact hf
      | brk => exact hf
      | next => exact fin hf
      | cont => exact fin hf
  · intro r s' hr
    cases r with
    | ok f => exact hr
    | error e => exact hr.elim

/-- a loop over a range, by any invariant -/
theorem loop_range {target : Expr} {body : List Stmt} {Q : Flow → Shared → Prop} {r : Addr} {b : Int} {t₀ u₀ v₀ : Tok} (n : Nat) (J : Nat → (Str → Option Value) → List (Addr × Obj) → Prop)
    (F : Fr h₀ L s.heap m) (N : News h₀ L s.heap news) (hh : A.handled = none) (hgo : ∀ it v, letOwnedTupleGo target it v = pure ()) (hr : IsRange s.heap r 0 b 1 t₀ u₀ v₀) (hb : b = (n : Int)) (hn : n ≤ 1000) (h0 : J 0 m news)
    (turn : ∀ i t I io h tk m₁ nx, i < n → J i m₁ nx → Fr h₀ L h m₁ → News h₀ L h ((I, io) :: nx) → (∀ p ∈ nx, p.1 ≠ I) → (∀ p ∈ news, p.1 < I) → L < I →
      wpAny (model prog w) A (assign target env (.int (i : Int) t)) (fun _ s₂ => wpAny (model prog w) A (execs body env) (TnE h₀ L (I, io) (J (i + 1)) { s with heap := h, toks := tk } Q) (fun _ _ => False) s₂) (fun _ _ => False) { s with heap := h, toks := tk })
    (done : ∀ h tk m₁ nx, J n m₁ nx → Fr h₀ L h m₁ → News h₀ L h nx → Q .next { s with heap := h, toks := tk }) :
    LoopAt prog w A target body env Q (.ref r) s := by
  subst hb
  have hsL := F.ns.lt
  have hsize : Builtin.Range.rangeSize 0 (n : Int) 1 = (n : Int) := by
    unfold Builtin.Range.rangeSize
    simp only [Int.zero_lt_one, gt_iff_lt, if_true, Int.ediv_one]
    split <;> omega
  refine wpAny_pyIter_range hr (small_one (by omega) (by omega) (by omega) (by omega)) ?_
  have W := Walks.range (prog := prog) (w := w) hh s.heap.objs.size 0 1 n
  refine for_walk J W ?_ ?_ ?_ (Nat.ne_of_gt hsL) hgo (by show IsRangeIter _ _ _ _ _; rw [hsize]; simpa using Heap.get?_push_size _ rfl) (F.push _) (fun p hp => ⟨Heap.get?_push_of_some _ (N p hp).1, (N p hp).2⟩)
    (fun p hp => Nat.ne_of_lt (Heap.lt_size (N p hp).1)) h0 ?_ done
  · intro b hb
    exact .inl (List.mem_singleton.mp hb)
  · intro i h hst
    exact ⟨_, hst⟩
  · exact Heap.get?_none_of_le (Nat.le_trans F.above (Nat.le_of_lt hsL))
  · intro i v io h tk m₁ nx hi hP hJ F₁ N₁ hn₁
    obtain ⟨t, rfl⟩ := hP
    have e : (0 : Int) + (i : Int) * 1 = i := by omega
    rw [e]
    exact turn i t _ io h tk m₁ nx hi hJ F₁ N₁ hn₁ (fun p hp => Heap.lt_size (N p hp).1) hsL
end
end Mine
namespace Mine
section
variable {h₀ h : Heap} {L : Addr} {m : Str → Option Value}
/-- what is known of a local variable, written into the frame's words -/
theorem fr_know {x : Str} {v : Value} (hx : m x = some v) (F : Fr h₀ L h m) : Fr h₀ L h (fun y => if y = x then some v else m y) := by
  have e : (fun y => if y = x then some v else m y) = m := by
    funext y
    split
    · next h => rw [h, hx]
    · rfl
  rw [e]
  exact F
theorem fr_know2 {x1 x2 : Str} {v1 v2 : Value} (h1 : m x1 = some v1) (h2 : m x2 = some v2) (F : Fr h₀ L h m) : Fr h₀ L h (fun y => if y = x1 then some v1 else if y = x2 then some v2 else m y) := by
  have e : (fun y => if y = x1 then some v1 else if y = x2 then some v2 else m y) = m := by
    funext y
    by_cases q1 : y = x1
    · subst q1; simp [h1, h2]
    by_cases q2 : y = x2
    · subst q2; simp [h1, h2, *]
    simp [q1, q2]
  rw [e]
  exact F
theorem fr_know3 {x1 x2 x3 : Str} {v1 v2 v3 : Value} (h1 : m x1 = some v1) (h2 : m x2 = some v2) (h3 : m x3 = some v3) (F : Fr h₀ L h m) : Fr h₀ L h (fun y => if y = x1 then some v1 else if y = x2 then some v2 else if y = x3 then some v3 else m y) := by
  have e : (fun y => if y = x1 then some v1 else if y = x2 then some v2 else if y = x3 then some v3 else m y) = m := by
    funext y
    by_cases q1 : y = x1
    · subst q1; simp [h1, h2, h3]
    by_cases q2 : y = x2
    · subst q2; simp [h1, h2, h3, *]
    by_cases q3 : y = x3
    · subst q3; simp [h1, h2, h3, *]
    simp [q1, q2, q3]
  rw [e]
  exact F
theorem fr_know4 {x1 x2 x3 x4 : Str} {v1 v2 v3 v4 : Value} (h1 : m x1 = some v1) (h2 : m x2 = some v2) (h3 : m x3 = some v3) (h4 : m x4 = some v4) (F : Fr h₀ L h m) : Fr h₀ L h (fun y => if y = x1 then some v1 else if y = x2 then some v2 else if y = x3 then some v3 else if y = x4 then some v4 else m y) := by
  have e : (fun y => if y = x1 then some v1 else if y = x2 then some v2 else if y = x3 then some v3 else if y = x4 then some v4 else m y) = m := by
    funext y
    by_cases q1 : y = x1
    · subst q1; simp [h1, h2, h3, h4]
    by_cases q2 : y = x2
    · subst q2; simp [h1, h2, h3, h4, *]
    by_cases q3 : y = x3
    · subst q3; simp [h1, h2, h3, h4, *]
    by_cases q4 : y = x4
    · subst q4; simp [h1, h2, h3, h4, *]
    simp [q1, q2, q3, q4]
  rw [e]
  exact F
theorem fr_know5 {x1 x2 x3 x4 x5 : Str} {v1 v2 v3 v4 v5 : Value} (h1 : m x1 = some v1) (h2 : m x2 = some v2) (h3 : m x3 = some v3) (h4 : m x4 = some v4) (h5 : m x5 = some v5) (F : Fr h₀ L h m) : Fr h₀ L h (fun y => if y = x1 then some v1 else if y = x2 then some v2 else if y = x3 then some v3 else if y = x4 then some v4 else if y = x5 then some v5 else m y) := by
  have e : (fun y => if y = x1 then some v1 else if y = x2 then some v2 else if y = x3 then some v3 else if y = x4 then some v4 else if y = x5 then some v5 else m y) = m := by
    funext y
    by_cases q1 : y = x1
    · subst q1; simp [h1, h2, h3, h4, h5]
    by_cases q2 : y = x2
    · subst q2; simp [h1, h2, h3, h4, h5, *]
    by_cases q3 : y = x3
    · subst q3; simp [h1, h2, h3, h4, h5, *]
    by_cases q4 : y = x4
    · subst q4; simp [h1, h2, h3, h4, h5, *]
    by_cases q5 : y = x5
    · subst q5; simp [h1, h2, h3, h4, h5, *]
    simp [q1, q2, q3, q4, q5]
  rw [e]
  exact F
end
end Mine

namespace Mine
section
variable {prog : Program} {w : World} {A : Around} {s : Shared} {E : Value → Shared → Prop} {h₀ : Heap} {L : Addr} {m : Str → Option Value} {env : Env}

theorem carried_int {y : Value} {n : Int} (h : ∃ t, y = .int n t) : Carried y (.int n) := by
  obtain ⟨t, rfl⟩ := h
  exact .int n t
theorem newPlain_news {news : List (Addr × Obj)} {h' : Heap} {D : Addr} {ys : List Value} (F' : Fr h₀ L h' m) (N' : News h₀ L h' news) (hD : h₀.get? D = none) (hp : NewPlain h' news D ys.toArray) : ∃ c, News h₀ L h' ((D, listOf ys.toArray c) :: news) := by
  have hne := hp.ne_locals F'
  obtain ⟨⟨c, hc⟩, _⟩ := hp
  refine ⟨c, fun p hp => ?_⟩
  rcases List.mem_cons.mp hp with rfl | hp
  · exact ⟨hc, hne, hD⟩
  · exact N' p hp

/-- a comprehension over a range from zero -/
def CompR (prog : Program) (w : World) (A : Around) (h₀ : Heap) (L : Addr) (m : Str → Option Value) (env : Env) (scope : Scope) (cl : List (Str × Addr)) (x : Str) (ifs : List Expr) (elt : Expr) (pz : Nat → Bool) (f : Nat → Int) (mf : Addr → Str → Option Value) (Qf : Addr → Shared → Prop) (xv : Value) (s₁ : Shared) : Prop :=
  ∃ (news : List (Addr × Obj)) (r : Addr) (n : Nat) (b₀ : Int) (t₀ u₀ v₀ : Tok), xv = .ref r ∧ IsRange s₁.heap r 0 b₀ 1 t₀ u₀ v₀ ∧ b₀ = (n : Int) ∧ n ≤ 1000 ∧ Fr h₀ L s₁.heap m ∧ News h₀ L s₁.heap news ∧
    (∀ (C : Addr) (k : Nat) (t : Tok) (s₂ : Shared) (m₂ : Str → Option Value), k < n → Fr h₀ C s₂.heap m₂ → News h₀ C s₂.heap news → m₂ x = some (.int (k : Int) t) →
      wpAny (model prog w) A (forIn ifs true fun c r => if r = true then do let ok ← isTrue c (compEnvC scope cl C env) (eval c (compEnvC scope cl C env)); pure (ForInStep.yield ok) else pure (ForInStep.yield r)) (fun ok s₃ => ok = pz k ∧ Keeps s₂ s₃) (fun _ _ => False) s₂) ∧
    (∀ (C : Addr) (k : Nat) (t : Tok) (s₂ : Shared) (m₂ : Str → Option Value), k < n → Fr h₀ C s₂.heap m₂ → News h₀ C s₂.heap news → m₂ x = some (.int (k : Int) t) →
      wpAny (model prog w) A (eval elt (compEnvC scope cl C env)) (fun y s₃ => (∃ t', y = .int (f k) t') ∧ Keeps s₂ s₃) (fun _ _ => False) s₂) ∧
    (∀ D ys c h' tk, IntsAre ys (((List.range n).filter pz).map f) → Fr h₀ L h' (mf D) → News h₀ L h' ((D, listOf (List.toArray ys) c) :: news) → (∀ p ∈ news, p.1 ≠ D) → Qf D { s₁ with heap := h', toks := tk })

theorem comp_range {elt iter : Expr} {ifs : List Expr} {x : Str} {px : Pos} {scope : Scope} {cl : List (Str × Addr)} {pos : Pos} {Q : Value → Shared → Prop} (pz : Nat → Bool) (f : Nat → Int) (_F : Fr h₀ L s.heap m)
    (h : wpAny (model prog w) A (eval iter env) (fun xv s₁ => CompR prog w A h₀ L m env scope cl x ifs elt pz f (fun _ => m) (fun D => Q (.ref D)) xv s₁) (fun _ _ => False) s)
    (hh : A.handled = none) (hclos : closureFor scope env = pure cl) (hcell : ∀ y ∈ scope.names, y.2 ≠ .cell) (hkind : scope.kind = .function)
    (hnames : ∀ y ∈ scope.names, y.2 = .local → scope.names.lookup y.1 = some .local) (hx : scope.names.lookup x = some .local) (hs : ∀ x, foldedSetIterable iter env x = pure x) :
    wpAny (model prog w) A (eval (.ListComp elt [⟨.Name x px, iter, ifs, 0⟩] scope pos) env) Q E s := by
  refine wpAny_noRaise ?_
  refine ListComp_DCr (h₀ := h₀) (L := L) (m := m) (pz := fun a => pz a.toNat) (d := fun a => PyData.int (f a.toNat)) hh hclos hcell hkind hnames hx (wpAny_mono h (fun xv s₁ h₁ => ?_) fun _ _ e => e) hs
  obtain ⟨news, r, n, b₀, t₀, u₀, v₀, rfl, hr, rfl, hn, F, N, htest, helt, hQ⟩ := h₁
  have conv : ∀ (C : Addr) (a : Int) (v : Value) (s₂ : Shared) (m₂ : Str → Option Value), s₁.heap.objs.size ≤ C → a ∈ rangeInts 0 1 n → ItemKind.int.is a v → s₂.heap.Ns (compEnvC scope cl C env).locals m₂ → (∀ b o, s₁.heap.get? b = some o → s₂.heap.get? b = some o) →
      ∃ (k : Nat) (t : Tok), k < n ∧ a = (k : Int) ∧ v = .int (k : Int) t ∧ Fr h₀ C s₂.heap m₂ ∧ News h₀ C s₂.heap news := by
    intro C a v s₂ m₂ hC ha hv hns hk
    obtain ⟨k, hk', rfl⟩ : ∃ k : Nat, k < n ∧ a = (k : Int) := by
      simp only [rangeInts, List.mem_map, List.mem_range] at ha
      obtain ⟨k, hk', rfl⟩ := ha
      exact ⟨k, hk', by omega⟩
    obtain ⟨t, rfl⟩ : ∃ t, v = .int (k : Int) t := hv
    have hCL := ltN (Nat.lt_of_lt_of_le F.ns.lt hC)
    exact ⟨k, t, hk', rfl, rfl, ⟨hns, fun b o e => hk b o (F.keep b o e), Nat.le_trans F.above (Nat.le_of_lt hCL)⟩, fun p hp => ⟨hk _ _ (N p hp).1, Nat.ne_of_lt (Nat.lt_of_lt_of_le (Heap.lt_size (N p hp).1) hC), (N p hp).2.2⟩⟩
  refine ⟨news, r, 0, (n : Int), 1, t₀, u₀, v₀, n, rfl, hr, ?_, ?_, ?_, F, N, ?_, ?_, ?_⟩
  · exact small_one (by omega) (by omega) (by omega) (by omega)
  · unfold Builtin.Range.rangeSize
    simp only [Int.zero_lt_one, gt_iff_lt, if_true, Int.ediv_one]
    split <;> omega
  · rw [sizeLine_eq]; omega
  · intro C a v s₂ m₂ E' hC ha hv hns hm hk
    obtain ⟨k, t, hk', rfl, rfl, F₂, N₂⟩ := conv C a v s₂ m₂ hC ha hv hns hk
    exact wpAny_noRaise (by rw [Int.toNat_natCast]; exact htest C k t s₂ m₂ hk' F₂ N₂ hm)
  · intro C a v s₂ m₂ E' hC ha hv hf hns hm hk
    obtain ⟨k, t, hk', rfl, rfl, F₂, N₂⟩ := conv C a v s₂ m₂ hC ha hv hns hk
    refine wpAny_noRaise (wpAny_mono (helt C k t s₂ m₂ hk' F₂ N₂ hm) (fun y s₃ hy => ⟨?_, hy.2⟩) fun _ _ x => x)
    rw [Int.toNat_natCast]
    exact carried_int hy.1
  · intro D ys h' tk F' N' hD hl hpl hca
    obtain ⟨c, N₂⟩ := newPlain_news F' N' hD hpl
    refine hQ D ys c h' tk ?_ F' N₂ hpl.2
    have e : ((rangeInts 0 1 n).filter fun a => pz a.toNat).map (fun a => PyData.int (f a.toNat)) = (((List.range n).filter pz).map f).map PyData.int := by
      simp only [rangeInts, List.filter_map, List.map_map]
      have e1 : ((fun a : Int => pz a.toNat) ∘ fun i : Nat => (0 : Int) + (i : Int) * 1) = pz := by
        funext i; simp
      rw [e1]
      congr 1
      funext i; simp
    rw [e] at hca
    exact IntsAre.ofCarried hca

/-- the copy of a list of ints by a comprehension -/
def CompC (h₀ : Heap) (L : Addr) (m : Str → Option Value) (mf : Addr → Str → Option Value) (Qf : Addr → Shared → Prop) (xv : Value) (s₁ : Shared) : Prop :=
  ∃ (news : List (Addr × Obj)) (r : Addr) (us : List Value) (ns : List Int), xv = .ref r ∧ s₁.heap.IsList r us.toArray ∧ IntsAre us ns ∧ ns.length ≤ 1000 ∧ Fr h₀ L s₁.heap m ∧ News h₀ L s₁.heap news ∧
    (∀ D ys c h' tk, IntsAre ys ns → Fr h₀ L h' (mf D) → News h₀ L h' ((D, listOf (List.toArray ys) c) :: news) → (∀ p ∈ news, p.1 ≠ D) → Qf D { s₁ with heap := h', toks := tk })
theorem comp_copy {iter : Expr} {x : Str} {px py : Pos} {scope : Scope} {cl : List (Str × Addr)} {pos : Pos} {Q : Value → Shared → Prop} (_F : Fr h₀ L s.heap m)
    (h : wpAny (model prog w) A (eval iter env) (fun xv s₁ => CompC h₀ L m (fun _ => m) (fun D => Q (.ref D)) xv s₁) (fun _ _ => False) s)
    (hh : A.handled = none) (hclos : closureFor scope env = pure cl) (hcell : ∀ y ∈ scope.names, y.2 ≠ .cell) (hkind : scope.kind = .function)
    (hnames : ∀ y ∈ scope.names, y.2 = .local → scope.names.lookup y.1 = some .local) (hx : scope.names.lookup x = some .local) (hs : ∀ x, foldedSetIterable iter env x = pure x)
    (hkx : ∀ C, (compEnvC scope cl C env).kindOf x = some .local) (hdb : (x == ("__debug__" : Str)) = false) :
    wpAny (model prog w) A (eval (.ListComp (.Name x py) [⟨.Name x px, iter, [], 0⟩] scope pos) env) Q E s := by
  refine wpAny_noRaise ?_
  refine ListComp_DCn (K := .int) (h₀ := h₀) (L := L) (m := m) (pz := fun _ => true) (d := fun a => PyData.int a) hh hclos hcell hkind hnames hx (wpAny_mono h (fun xv s₁ h₁ => ?_) fun _ _ e => e) hs
  obtain ⟨news, r, us, ns, rfl, hl, hi, hn, F, N, hQ⟩ := h₁
  refine ⟨news, r, us, ns, rfl, hl, hi.areOf, by rw [sizeLine_eq]; omega, F, N, ?_, ?_, ?_⟩
  · intro C a v s₂ m₂ E' _ _ _ _ _ _
    exact wpAny_tests_nil ⟨rfl, ⟨_, _, rfl, fun _ _ e => e⟩⟩
  · intro C a v s₂ m₂ E' hC ha hv _ hns hm hk
    have F₂ : Fr h₀ C s₂.heap m₂ := ⟨hns, fun b o e => hk b o (F.keep b o e), Nat.le_trans F.above (Nat.le_of_lt (Nat.lt_of_lt_of_le F.ns.lt hC))⟩
    refine nameB_L (E := E') F₂ hm ?_ hkind (hkx C) hdb
    exact ⟨carried_int hv, ⟨_, _, rfl, fun _ _ e => e⟩⟩
  · intro D ys h' tk F' N' hD hl hpl hca
    obtain ⟨c, N₂⟩ := newPlain_news F' N' hD hpl
    refine hQ D ys c h' tk ?_ F' N₂ hpl.2
    rw [List.filter_eq_self.mpr (fun _ _ => rfl)] at hca
    exact IntsAre.ofCarried hca
theorem comp_rangeA {elt iter : Expr} {ifs : List Expr} {x : Str} {px : Pos} {scope : Scope} {cl : List (Str × Addr)} {pos : Pos} {y : Str} {qy spos : Pos} {Q : Flow → Shared → Prop} (pz : Nat → Bool) (f : Nat → Int) (_F : Fr h₀ L s.heap m)
    (h : wpAny (model prog w) A (eval iter env) (fun xv s₁ => CompR prog w A h₀ L m env scope cl x ifs elt pz f (fun D z => if z = y then some (.ref D) else m z) (fun _ => Q .next) xv s₁) (fun _ _ => False) s)
    (hsw : swapsWith (.ListComp elt [⟨.Name x px, iter, ifs, 0⟩] scope pos) (some (.Name y qy)) spos.line env = pure true) (hL : env.locals = L) (hy : env.kindOf y = some .local) (hp : (env.scope.kind == .class || (env.scope.kind == .module && env.locals != env.globals)) = false)
    (hh : A.handled = none) (hclos : closureFor scope env = pure cl) (hcell : ∀ y ∈ scope.names, y.2 ≠ .cell) (hkind : scope.kind = .function)
    (hnames : ∀ y ∈ scope.names, y.2 = .local → scope.names.lookup y.1 = some .local) (hx : scope.names.lookup x = some .local) (hs : ∀ x, foldedSetIterable iter env x = pure x) :
    wpAny (model prog w) A (exec (.Assign [.Name y qy] (.ListComp elt [⟨.Name x px, iter, ifs, 0⟩] scope pos) spos) env) Q E s := by
  refine wpAny_noRaise ?_
  refine Assign_ListComp_DCr (h₀ := h₀) (L := L) (m := m) (pz := fun a => pz a.toNat) (d := fun a => PyData.int (f a.toNat)) hsw hL hh hclos hcell hkind hnames hx hy hp (wpAny_mono h (fun xv s₁ h₁ => ?_) fun _ _ e => e) hs
  obtain ⟨news, r, n, b₀, t₀, u₀, v₀, rfl, hr, rfl, hn, F, N, htest, helt, hQ⟩ := h₁
  have conv : ∀ (C : Addr) (a : Int) (v : Value) (s₂ : Shared) (m₂ : Str → Option Value), s₁.heap.objs.size ≤ C → a ∈ rangeInts 0 1 n → ItemKind.int.is a v → s₂.heap.Ns (compEnvC scope cl C env).locals m₂ → (∀ b o, s₁.heap.get? b = some o → s₂.heap.get? b = some o) →
      ∃ (k : Nat) (t : Tok), k < n ∧ a = (k : Int) ∧ v = .int (k : Int) t ∧ Fr h₀ C s₂.heap m₂ ∧ News h₀ C s₂.heap news := by
    intro C a v s₂ m₂ hC ha hv hns hk
    obtain ⟨k, hk', rfl⟩ : ∃ k : Nat, k < n ∧ a = (k : Int) := by
      simp only [rangeInts, List.mem_map, List.mem_range] at ha
      obtain ⟨k, hk', rfl⟩ := ha
      exact ⟨k, hk', by omega⟩
    obtain ⟨t, rfl⟩ : ∃ t, v = .int (k : Int) t := hv
    have hCL := ltN (Nat.lt_of_lt_of_le F.ns.lt hC)
    exact ⟨k, t, hk', rfl, rfl, ⟨hns, fun b o e => hk b o (F.keep b o e), Nat.le_trans F.above (Nat.le_of_lt hCL)⟩, fun p hp => ⟨hk _ _ (N p hp).1, Nat.ne_of_lt (Nat.lt_of_lt_of_le (Heap.lt_size (N p hp).1) hC), (N p hp).2.2⟩⟩
  refine ⟨news, r, 0, (n : Int), 1, t₀, u₀, v₀, n, rfl, hr, ?_, ?_, ?_, F, N, ?_, ?_, ?_⟩
  · exact small_one (by omega) (by omega) (by omega) (by omega)
  · unfold Builtin.Range.rangeSize
    simp only [Int.zero_lt_one, gt_iff_lt, if_true, Int.ediv_one]
    split <;> omega
  · rw [sizeLine_eq]; omega
  · intro C a v s₂ m₂ E' hC ha hv hns hm hk
    obtain ⟨k, t, hk', rfl, rfl, F₂, N₂⟩ := conv C a v s₂ m₂ hC ha hv hns hk
    exact wpAny_noRaise (by rw [Int.toNat_natCast]; exact htest C k t s₂ m₂ hk' F₂ N₂ hm)
  · intro C a v s₂ m₂ E' hC ha hv hf hns hm hk
    obtain ⟨k, t, hk', rfl, rfl, F₂, N₂⟩ := conv C a v s₂ m₂ hC ha hv hns hk
    refine wpAny_noRaise (wpAny_mono (helt C k t s₂ m₂ hk' F₂ N₂ hm) (fun y s₃ hy => ⟨?_, hy.2⟩) fun _ _ x => x)
    rw [Int.toNat_natCast]
    exact carried_int hy.1
  · intro D ys h' tk F' N' hD hl hpl hca
    obtain ⟨c, N₂⟩ := newPlain_news F' N' hD hpl
    refine hQ D ys c h' tk ?_ F' N₂ hpl.2
    have e : ((rangeInts 0 1 n).filter fun a => pz a.toNat).map (fun a => PyData.int (f a.toNat)) = (((List.range n).filter pz).map f).map PyData.int := by
      simp only [rangeInts, List.filter_map, List.map_map]
      have e1 : ((fun a : Int => pz a.toNat) ∘ fun i : Nat => (0 : Int) + (i : Int) * 1) = pz := by
        funext i; simp
      rw [e1]
      congr 1
      funext i; simp
    rw [e] at hca
    exact IntsAre.ofCarried hca

theorem comp_copyA {iter : Expr} {x : Str} {px py : Pos} {scope : Scope} {cl : List (Str × Addr)} {pos : Pos} {y : Str} {qy spos : Pos} {Q : Flow → Shared → Prop} (_F : Fr h₀ L s.heap m)
    (h : wpAny (model prog w) A (eval iter env) (fun xv s₁ => CompC h₀ L m (fun D z => if z = y then some (.ref D) else m z) (fun _ => Q .next) xv s₁) (fun _ _ => False) s)
    (hsw : swapsWith (.ListComp (.Name x py) [⟨.Name x px, iter, [], 0⟩] scope pos) (some (.Name y qy)) spos.line env = pure true) (hL : env.locals = L) (hy : env.kindOf y = some .local) (hp : (env.scope.kind == .class || (env.scope.kind == .module && env.locals != env.globals)) = false)
    (hh : A.handled = none) (hclos : closureFor scope env = pure cl) (hcell : ∀ y ∈ scope.names, y.2 ≠ .cell) (hkind : scope.kind = .function)
    (hnames : ∀ y ∈ scope.names, y.2 = .local → scope.names.lookup y.1 = some .local) (hx : scope.names.lookup x = some .local) (hs : ∀ x, foldedSetIterable iter env x = pure x)
    (hkx : ∀ C, (compEnvC scope cl C env).kindOf x = some .local) (hdb : (x == ("__debug__" : Str)) = false) :
    wpAny (model prog w) A (exec (.Assign [.Name y qy] (.ListComp (.Name x py) [⟨.Name x px, iter, [], 0⟩] scope pos) spos) env) Q E s := by
  refine wpAny_noRaise ?_
  refine Assign_ListComp_DCn (K := .int) (h₀ := h₀) (L := L) (m := m) (pz := fun _ => true) (d := fun a => PyData.int a) hsw hL hh hclos hcell hkind hnames hx hy hp (wpAny_mono h (fun xv s₁ h₁ => ?_) fun _ _ e => e) hs
  obtain ⟨news, r, us, ns, rfl, hl, hi, hn, F, N, hQ⟩ := h₁
  refine ⟨news, r, us, ns, rfl, hl, hi.areOf, by rw [sizeLine_eq]; omega, F, N, ?_, ?_, ?_⟩
  · intro C a v s₂ m₂ E' _ _ _ _ _ _
    exact wpAny_tests_nil ⟨rfl, ⟨_, _, rfl, fun _ _ e => e⟩⟩
  · intro C a v s₂ m₂ E' hC ha hv _ hns hm hk
    have F₂ : Fr h₀ C s₂.heap m₂ := ⟨hns, fun b o e => hk b o (F.keep b o e), Nat.le_trans F.above (Nat.le_of_lt (Nat.lt_of_lt_of_le F.ns.lt hC))⟩
    refine nameB_L (E := E') F₂ hm ?_ hkind (hkx C) hdb
    exact ⟨carried_int hv, ⟨_, _, rfl, fun _ _ e => e⟩⟩
  · intro D ys h' tk F' N' hD hl hpl hca
    obtain ⟨c, N₂⟩ := newPlain_news F' N' hD hpl
    refine hQ D ys c h' tk ?_ F' N₂ hpl.2
    rw [List.filter_eq_self.mpr (fun _ _ => rfl)] at hca
    exact IntsAre.ofCarried hca
end
end Mine

namespace Mine
section
variable {K : Type} [DecidableEq K] {xs : List (K × Addr × Value)} {k k' : K} {a : Addr} {v : Value}
theorem at_put_ne (h : k' ≠ k) : ∀ xs : List (K × Addr × Value), atKey (xs.map (putAt k v)) k' = atKey xs k'
  | [] => rfl
  | x :: r => by
    have ih := at_put_ne h r
    unfold atKey at ih ⊢
    rw [List.map_cons, List.find?_cons, List.find?_cons]
    by_cases h1 : x.1 = k
    · have e1 : (putAt k v x).1 = k := by unfold putAt; rw [if_pos h1]; exact h1
      rw [e1, h1]
      simp only [show ¬ k = k' from fun e => h e.symm, decide_false]
      exact ih
    · have e1 : putAt k v x = x := by unfold putAt; rw [if_neg h1]
      rw [e1]
      by_cases h2 : x.1 = k'
      · simp only [h2, decide_true]
      · simp only [h2, decide_false]
        exact ih
theorem at_put_same : ∀ xs : List (K × Addr × Value), (atKey xs k).isSome = true → (atKey (xs.map (putAt k v)) k).map (·.2) = some v
  | [], h => by cases h
  | x :: r, h => by
    unfold atKey at h ⊢
    rw [List.map_cons, List.find?_cons]
    by_cases h1 : x.1 = k
    · have e1 : putAt k v x = (x.1, x.2.1, v) := by unfold putAt; rw [if_pos h1]
      rw [e1]
      simp only [h1, decide_true]
      rfl
    · have e1 : putAt k v x = x := by unfold putAt; rw [if_neg h1]
      rw [e1]
      rw [List.find?_cons] at h
      simp only [h1, decide_false] at h ⊢
      exact at_put_same r h
theorem at_stored_ne (h : k' ≠ k) : atKey (storedH xs k a v) k' = atKey xs k' := by
  unfold storedH
  split
  · exact at_put_ne h xs
  · unfold atKey
    rw [List.find?_append]
    simp only [List.find?_cons, List.find?_nil, show ¬ k = k' from fun e => h e.symm, decide_false, Option.or_none]
theorem at_stored_same : (atKey (storedH xs k a v) k).map (·.2) = some v := by
  unfold storedH
  split
  · next h => exact at_put_same xs h
  · next h =>
    have hn : atKey xs k = none := by simpa using h
    unfold atKey at hn ⊢
    rw [Option.map_eq_none_iff] at hn
    rw [List.find?_append, hn]
    simp
theorem stored_length : (storedH xs k a v).length ≤ xs.length + 1 := by
  unfold storedH
  split <;> simp
end

/-- what stands at a pair -/
def At (xs : List (List Int × Addr × Value)) (a b : Int) : Option Value := (atKey xs [a, b]).map (·.2)
theorem At_same {xs : List (List Int × Addr × Value)} {a b : Int} {t : Addr} {v : Value} : At (storedH xs [a, b] t v) a b = some v := at_stored_same
theorem At_ne {xs : List (List Int × Addr × Value)} {a b c d : Int} {t : Addr} {v : Value} (h : ¬ (c = a ∧ d = b)) : At (storedH xs [a, b] t v) c d = At xs c d := by
  unfold At
  rw [at_stored_ne (fun e => h ?_)]
  injection e with e1 e2
  injection e2 with e2 _
  exact ⟨e1, e2⟩
def Tour (xs : List (List Int × Addr × Value)) (a b : Int) : Prop := ∃ c, At xs a b = some (.bool c) ∧ At xs b a = some (.bool (!c))
theorem Tour.new {xs : List (List Int × Addr × Value)} {u v : Int} {t1 t2 : Addr} {c : Bool} (h : u ≠ v) : Tour (storedH (storedH xs [u, v] t1 (.bool c)) [v, u] t2 (.bool !c)) u v :=
  ⟨c, by rw [At_ne (fun e => h e.1)]; exact At_same, At_same⟩
theorem Tour.old {xs : List (List Int × Addr × Value)} {u v a b : Int} {t1 t2 : Addr} {c : Bool} (h : ¬ (a = u ∧ b = v)) (h' : ¬ (a = v ∧ b = u)) (T : Tour xs a b) : Tour (storedH (storedH xs [u, v] t1 (.bool c)) [v, u] t2 (.bool !c)) a b := by
  obtain ⟨d, h1, h2⟩ := T
  exact ⟨d, by rw [At_ne h', At_ne h]; exact h1, by rw [At_ne (fun e => h ⟨e.2, e.1⟩), At_ne (fun e => h' ⟨e.2, e.1⟩)]; exact h2⟩
def wonOf (xs : List (List Int × Addr × Value)) (u v : Int) : Bool := match At xs u v with | some (.bool c) => c | _ => false
/-- the ints below n -/
abbrev upTo (n : Nat) : List Int := (List.range n).map fun i : Nat => (i : Int)
theorem mem_upTo {n : Nat} {x : Int} : x ∈ upTo n ↔ ∃ i : Nat, i < n ∧ x = (i : Int) := by
  simp only [upTo, List.mem_map, List.mem_range]
  exact ⟨fun ⟨i, h, e⟩ => ⟨i, h, e.symm⟩, fun ⟨i, h, e⟩ => ⟨i, h, e.symm⟩⟩
theorem tour_says {xs : List (List Int × Addr × Value)} {n : Nat} (h : ∀ i j : Nat, i < j → j < n → Tour xs i j) : Says xs (wonOf xs) (upTo n) ∧ ∀ u ∈ upTo n, ∀ v ∈ upTo n, u ≠ v → wonOf xs u v = !wonOf xs v u := by
  have key : ∀ u ∈ upTo n, ∀ v ∈ upTo n, u ≠ v → Tour xs u v ∨ Tour xs v u := fun u hu v hv hne => by
    obtain ⟨i, hi, rfl⟩ := mem_upTo.mp hu
    obtain ⟨j, hj, rfl⟩ := mem_upTo.mp hv
    have hij : i ≠ j := fun e => hne (by rw [e])
    rcases Nat.lt_or_gt_of_ne hij with hl | hl
    · exact .inl (h i j hl hj)
    · exact .inr (h j i hl hi)
  refine ⟨fun u hu v hv hne => ?_, fun u hu v hv hne => ?_⟩
  · show At xs u v = _
    unfold wonOf
    rcases key u hu v hv hne with ⟨c, h1, h2⟩ | ⟨c, h1, h2⟩
    · rw [h1]
    · rw [h2]
  · unfold wonOf
    rcases key u hu v hv hne with ⟨c, h1, h2⟩ | ⟨c, h1, h2⟩
    · rw [h1, h2]; simp
    · rw [h1, h2]

/-- a table of the ledger, its keys' tuples in the list «keys» -/
def DK (prog : Program) (w : World) (od : Obj) (keys : List (Addr × Obj)) (xs : List (List Int × Addr × Value)) : Prop :=
  od.ExactDict ∧ ∃ es ep, od.data = .dict es ep ∧ es.toList = xs.map (entryOfKey (TK prog w)) ∧ (xs.map (·.1)).Nodup ∧ ∀ x ∈ xs, ∃ ok, (x.2.1, ok) ∈ keys ∧ TupKeyObj (intKind prog w) x.1 ok

section
variable {prog : Program} {w : World} {A : Around} {s : Shared} {E : Value → Shared → Prop} {h₀ h : Heap} {L d : Addr} {m : Str → Option Value} {news keys keys' : List (Addr × Obj)} {od : Obj} {xs : List (List Int × Addr × Value)}
theorem DK.dict (T : DK prog w od keys xs) (hd : h.get? d = some od) (hk : ∀ p ∈ keys, h.get? p.1 = some p.2) : h.DictOfH (TK prog w) d xs := by
  obtain ⟨hc, es, ep, h1, h2, h3, h4⟩ := T
  exact ⟨od, es, ep, hd, hc, h1, h2, fun x hx => let ⟨ok, hm, t⟩ := h4 x hx; t.key (hk _ hm), h3⟩
theorem DK.mono (T : DK prog w od keys xs) (hk : ∀ p ∈ keys, p ∈ keys') : DK prog w od keys' xs := by
  obtain ⟨hc, es, ep, h1, h2, h3, h4⟩ := T
  exact ⟨hc, es, ep, h1, h2, h3, fun x hx => let ⟨ok, hm, t⟩ := h4 x hx; ⟨ok, hk _ hm, t⟩⟩
theorem DK.empty {K' : Type} [DecidableEq K'] {knd' : KeyKind prog w K'} (hd : od.IsDictOf knd' []) : DK prog w od keys [] := by
  obtain ⟨es, ep, hc, hdat, _, hp, _⟩ := hd
  have he : es.toList = [] := List.length_eq_zero_iff.mp hp.length
  exact ⟨hc, es, ep, hdat, he, List.nodup_nil, fun _ hx => by cases hx⟩

theorem set_tab {t : Addr} {u v : Int} {tu tv : Tok} {val : Value} {Q : Unit → Shared → Prop} (hu : A.units + 1 < cLine) (F : Fr h₀ L s.heap m) (N : News h₀ L s.heap news) (hd : (d, od) ∈ news) (T : DK prog w od keys xs)
    (hk : ∀ p ∈ keys, p ∈ news ∧ p.1 ≠ d) (ht : (t, tupObj [.int u tu, .int v tv]) ∈ keys) (hz : xs.length ≤ 1000)
    (hQ : ∀ h' od', Fr h₀ L h' m → (∀ rest, (∀ p ∈ rest, p ∈ news ∧ p.1 ≠ d) → News h₀ L h' ((d, od') :: rest)) → DK prog w od' keys (storedH xs [u, v] t val) → Q () { s with heap := h', toks := s.toks + 3 }) :
    wpAny (model prog w) A (setItem (.ref d) (.ref t) val) Q E s := by
  have hD : s.heap.DictOfH (TK prog w) d xs := T.dict (N _ hd).1 fun p hp => (N p (hk p hp).1).1
  obtain ⟨hc, es, ep, h1, h2, h3, h4⟩ := T
  refine wpAny_setItem_heap (knd := TK prog w) (tupleKind_room_in1 hu) (tup_is (N.get (hk _ ht).1)) hD (fun h' hm' hs => ?_) (by rw [sizeLine_eq]; omega)
  obtain ⟨o', es', ep', ho', hc', hd', he', _, hn'⟩ := hm'
  refine hQ h' o' (F.change hs (N _ hd).2.1 (N.fresh hd)) (fun rest hr p hp => ?_) ⟨hc', es', ep', hd', he', hn', fun x hx => ?_⟩
  · rcases List.mem_cons.mp hp with rfl | hp
    · exact ⟨ho', (N _ hd).2⟩
    · obtain ⟨hm, hne⟩ := hr p hp
      refine ⟨?_, (N p hm).2⟩
      exact hs.extBut _ _ hne (N p hm).1
  · rcases mem_storedH hx with ⟨y, hy, e1, e2⟩ | ⟨e1, e2⟩
    · obtain ⟨oky, hmk, tk⟩ := h4 y hy
      exact ⟨oky, by rw [e2]; exact hmk, by rw [e1]; exact tk⟩
    · refine ⟨_, by rw [e2]; exact ht, ?_⟩
      rw [e1]
      exact TupKeyObj.made (.cons (by show (intKind prog w).is u (.int u tu) = true; simp [intKind, Value.isInt]) (.cons (by show (intKind prog w).is v (.int v tv) = true; simp [intKind, Value.isInt]) .nil))

theorem cut_at : ∀ {us : List Value} {k : Nat}, (hk : k < us.length) → kl_cut us k = some (us.take k, us[k], us.drop (k + 1))
  | _ :: _, 0, _ => rfl
  | x :: r, k + 1, hk => by
    have hk' : k < r.length := Nat.lt_of_succ_lt_succ hk
    unfold kl_cut
    rw [cut_at hk']
    rfl
theorem erase_ints {us : List Value} {ns : List Int} (h : IntsAre us ns) : ∀ k, IntsAre (us.eraseIdx k) (ns.eraseIdx k) := by
  induction h with
  | nil => intro k; exact .nil
  | cons n t r ih =>
    intro k
    cases k with
    | zero => exact r
    | succ k => exact .cons n t (ih k)
theorem pop_int {us : List Value} {ns : List Int} {D : Addr} {n : Nat} {i : Int} {u : Tok} {news' : List (Addr × Obj)} {Q : Value → Shared → Prop} (F : Fr h₀ L s.heap m) (N : News h₀ L s.heap news) (hi : IntsAre us ns) (h0 : 0 ≤ i) (h1 : i < ns.length) (hz : ns.length ≤ 1000)
    (U : Upd D (listOf us.toArray n) (listOf (us.eraseIdx i.toNat).toArray (n + 1)) news news')
    (h : ∀ h' t, Fr h₀ L h' m → News h₀ L h' news' → IntsAre (us.eraseIdx i.toNat) (ns.eraseIdx i.toNat) → Q (.int (ns.getD i.toNat 0) t) { s with heap := h' }) :
    wpAny (model prog w) A (call (.builtin "list.pop") [.ref D, .int i u]) Q E s := by
  have hl := hi.length
  have hk : i.toNat < us.length := by omega
  obtain ⟨t, ht⟩ := hi.get i.toNat ns[i.toNat] (List.getElem?_eq_getElem (by omega))
  have e1 : us[i.toNat] = .int (ns.getD i.toNat 0) t := by
    rw [List.getElem?_eq_getElem hk] at ht
    rw [Option.some.inj ht, List.getD_eq_getElem?_getD, List.getElem?_eq_getElem (by omega)]
    rfl
  have e2 : us.take i.toNat ++ us.drop (i.toNat + 1) = us.eraseIdx i.toNat := (List.eraseIdx_eq_take_drop_succ us i.toNat).symm
  refine kl_popAt F N ?_ ?_ (cut_at hk) (by rw [e2]; exact U) (by rw [sizeLine_eq]; simp; omega) fun h' F' N' => ?_
  · unfold Builtin.List.listFitsIndex
    simp only [Bool.and_eq_true, decide_eq_true_eq]
    omega
  · unfold seqIndex?
    simp only [if_neg (show ¬ i < 0 by omega)]
    rw [if_pos]
    simp only [Bool.and_eq_true, decide_eq_true_eq, List.size_toArray]
    omega
  · rw [e1]
    exact h h' t F' N' (erase_ints hi _)
theorem erase_perm {ns : List Int} {k : Nat} (hk : k < ns.length) : (ns.eraseIdx k ++ [ns.getD k 0]).Perm ns := by
  rw [List.getD_eq_getElem?_getD, List.getElem?_eq_getElem hk]
  have e : ns = ns.take k ++ ns[k] :: ns.drop (k + 1) := by rw [List.getElem_cons_drop, List.take_append_drop]
  rw [List.eraseIdx_eq_take_drop_succ]
  refine (List.perm_append_comm).trans ?_
  conv => rhs; rw [e]
  show (ns[k] :: (List.take k ns ++ List.drop (k + 1) ns)).Perm _
  exact List.perm_middle.symm
theorem pow_hide {a e : Int} {t u : Tok} {Q : Value → Shared → Prop} (h0 : 0 ≤ e) (h1 : e ≤ 1000000) (ha : 0 < a) (ha3 : a ≤ 3) (hb : a ^ e.toNat < 1073741824) (h : ∀ q : Int, 0 < q → q < 1073741824 → Q (.int q s.toks) { s with toks := s.toks + 1 }) :
    wpAny (model prog w) A (binaryOp .Pow (.int a t) (.int e u)) Q E s :=
  pow_int_small h0 h1 (by omega) (h _ (Int.pow_pos ha) hb)
theorem pow_lt {a k n : Nat} {b : Int} (ha : 0 < a) (hk : k ≤ n) (hb : ((a ^ n : Nat) : Int) < b) : (a : Int) ^ k < b := by
  have h1 : a ^ k ≤ a ^ n := Nat.pow_le_pow_right ha hk
  have h2 : ((a ^ k : Nat) : Int) = (a : Int) ^ k := by push_cast; rfl
  omega
theorem news_drop {a b c : Addr × Obj} {rest : List (Addr × Obj)} (N : News h₀ L h (a :: b :: c :: rest)) : News h₀ L h (a :: b :: rest) := news_sub N fun p hp => by
  rcases List.mem_cons.mp hp with rfl | hp
  · exact .head _
  rcases List.mem_cons.mp hp with rfl | hp
  · exact .tail _ (.head _)
  exact .tail _ (.tail _ (.tail _ hp))
end
end Mine
namespace Mine
theorem upTo_nodup (n : Nat) : (upTo n).Nodup := by
  unfold upTo
  rw [List.nodup_iff_pairwise_ne, List.pairwise_map]
  refine (List.nodup_iff_pairwise_ne.mp List.nodup_range).imp fun h e => h (Int.ofNat_inj.mp e)
theorem upTo_length (n : Nat) : (upTo n).length = n := by simp [upTo]
theorem says_perm {xs : List (List Int × Addr × Value)} {W : Int → Int → Bool} {a b : List Int} (h : a.Perm b) (S : Says xs W b) : Says xs W a := fun u hu v hv => S u (h.mem_iff.mp hu) v (h.mem_iff.mp hv)
end Mine
namespace Mine
theorem news_tail {h₀ h : Heap} {L : Addr} {a : Addr × Obj} {rest : List (Addr × Obj)} (N : News h₀ L h (a :: rest)) : News h₀ L h rest := news_sub N fun _ hp => .tail _ hp
end Mine
namespace Mine
/-- the ledger after a call that keeps all but the table at 33 -/
theorem news_more {h₀ h h' : Heap} {L : Addr} {o r2 od r1 c3 c2 c1 t38 o2 : Addr × Obj} {tb : Obj} {keys tabs : List (Addr × Obj)} (N' : News h₀ L h' (o :: tabs)) (N : News h₀ L h (r2 :: o2 :: od :: r1 :: c3 :: c2 :: c1 :: (33, tb) :: t38 :: keys))
    (hk : ∀ b x, h.get? b = some x → b ≠ 33 → h'.get? b = some x) (hne : o2.1 ≠ 33 ∧ r1.1 ≠ 33 ∧ c3.1 ≠ 33 ∧ c2.1 ≠ 33 ∧ c1.1 ≠ 33 ∧ t38.1 ≠ 33) : News h₀ L h' (o :: r1 :: o2 :: c3 :: c2 :: c1 :: t38 :: tabs) := by
  have up : ∀ q, q ∈ (r2 :: o2 :: od :: r1 :: c3 :: c2 :: c1 :: (33, tb) :: t38 :: keys) → q.1 ≠ 33 → h'.get? q.1 = some q.2 ∧ q.1 ≠ L ∧ h₀.get? q.1 = none := fun q hq hn => ⟨hk _ _ (N q hq).1 hn, (N q hq).2⟩
  intro p hp
  simp only [List.mem_cons] at hp
  rcases hp with h | h | h | h | h | h | h | h
  · exact N' p (by simp [h])
  · rw [h]; exact up r1 (by simp) hne.2.1
  · rw [h]; exact up o2 (by simp) hne.1
  · rw [h]; exact up c3 (by simp) hne.2.2.1
  · rw [h]; exact up c2 (by simp) hne.2.2.2.1
  · rw [h]; exact up c1 (by simp) hne.2.2.2.2.1
  · rw [h]; exact up t38 (by simp) hne.2.2.2.2.2
  · exact N' p (.tail _ h)
end Mine

namespace Mine
theorem upTo_le (n : Nat) : (upTo n).Pairwise (· ≤ ·) := by
  unfold upTo
  rw [List.pairwise_map]
  exact (List.pairwise_lt_range (n := n)).imp fun h => by omega
theorem sorted_upTo {l : List Int} {n : Nat} (p : l.Perm (upTo n)) (o : l.Pairwise (· ≤ ·)) : l = upTo n :=
  List.Perm.eq_of_pairwise (fun _ _ _ _ a b => Int.le_antisymm a b) o (upTo_le n) p
abbrev gtW (u v : Int) : Bool := decide (u > v)
theorem ch_desc : ∀ {l : List Int}, Ch gtW l → l.Pairwise (fun a b => b ≤ a)
  | [], _ => .nil
  | [_], _ => List.pairwise_singleton _ _
  | x :: y :: r, h => by
    have hr := ch_desc h.tail
    have hxy : x > y := of_decide_eq_true (by cases h; assumption)
    refine List.pairwise_cons.mpr ⟨fun z hz => ?_, hr⟩
    rcases List.mem_cons.mp hz with rfl | hz
    · omega
    · have := (List.pairwise_cons.mp hr).1 z hz
      omega
theorem place_desc {ord : List Int} {n : Nat} (hp : ord.Perm (upTo n)) : place gtW ord = (upTo n).reverse := by
  have hnd : ord.Nodup := hp.nodup_iff.mpr (upTo_nodup n)
  have hch := ch_place gtW hnd (fun u _ v _ hne => by
    show decide (u > v) = !decide (v > u)
    by_cases h : u > v
    · rw [decide_eq_true h, decide_eq_false (by omega)]; rfl
    · rw [decide_eq_false h, decide_eq_true (by omega)]; rfl) ord.length
  rw [List.take_length] at hch
  refine List.Perm.eq_of_pairwise (le := fun a b => b ≤ a) (fun _ _ _ _ a b => Int.le_antisymm b a) (ch_desc hch) ?_ (((place_perm gtW ord).trans hp).trans (List.reverse_perm _).symm)
  rw [List.pairwise_reverse]
  exact upTo_le n
end Mine
namespace Mine
section
variable {prog : Program} {w : World} {A : Around} {s : Shared} {E : Value → Shared → Prop} {h₀ : Heap} {L : Addr} {m : Str → Option Value} {news : List (Addr × Obj)}
theorem rangeInts_upTo (n : Nat) : rangeInts 0 1 n = upTo n := by
  unfold rangeInts upTo
  congr 1
  funext i
  omega
theorem rangeSize_upTo (n : Nat) : Builtin.Range.rangeSize 0 (n : Int) 1 = (n : Int) := by
  unfold Builtin.Range.rangeSize
  simp only [Int.zero_lt_one, gt_iff_lt, if_true, Int.ediv_one]
  split <;> omega
theorem list_upTo {r : Addr} {b : Int} {t u v : Tok} {n : Nat} {Q : Value → Shared → Prop} (F : Fr h₀ L s.heap m) (N : News h₀ L s.heap news) (hr : IsRange s.heap r 0 b 1 t u v) (hb : b = (n : Int)) (hn : n ≤ 1000) (hh : A.handled = none)
    (h : ∀ D ys c h' tk, IntsAre ys (upTo n) → Fr h₀ L h' m → News h₀ L h' ((D, listOf (List.toArray ys) c) :: news) → (∀ p ∈ news, p.1 < D) → Q (.ref D) { s with heap := h', toks := tk }) :
    wpAny (model prog w) A (call (.type "list") [.ref r]) Q E s := by
  subst hb
  refine list_rangeD hh F N hr (small_one (by omega) (by omega) (by omega) (by omega)) (rangeSize_upTo n) (by omega) fun h' tk ys F' N' _ hD hl hp hc => ?_
  obtain ⟨c, N2⟩ := newPlain_news F' N' hD hp
  refine h _ ys c h' tk ?_ F' N2 fun p hp => Heap.lt_size (N p hp).1
  rw [rangeInts_upTo] at hc
  exact IntsAre.ofCarried hc
end
end Mine
namespace Mine
theorem news_cut {h₀ h : Heap} {L : Addr} {a : Addr × Obj} {rest : List (Addr × Obj)} (N : News h₀ L h (a :: rest)) : ∃ R, R = rest ∧ News h₀ L h (a :: R) := ⟨rest, rfl, N⟩
def Pl (xs : List (List Int × Addr × Value)) (a b : Int) : Prop := At xs a b = some (.bool (decide (b < a)))
theorem Pl.new {xs : List (List Int × Addr × Value)} {a b : Int} {t : Addr} {c : Bool} (hc : c = decide (b < a)) : Pl (storedH xs [a, b] t (.bool c)) a b := by
  unfold Pl; rw [At_same, hc]
theorem Pl.old {xs : List (List Int × Addr × Value)} {a b c d : Int} {t : Addr} {v : Value} (h : ¬ (c = a ∧ d = b)) (p : Pl xs c d) : Pl (storedH xs [a, b] t v) c d := by
  unfold Pl; rw [At_ne h]; exact p
theorem pl_says {xs : List (List Int × Addr × Value)} {n : Nat} (h : ∀ a b : Nat, a < n → b < n → Pl xs a b) : Says xs gtW (upTo n) := fun u hu v hv _ => by
  obtain ⟨i, hi, rfl⟩ := mem_upTo.mp hu
  obtain ⟨j, hj, rfl⟩ := mem_upTo.mp hv
  exact h i j hi hj
theorem gt_tour (u v : Int) (h : u ≠ v) : gtW u v = !gtW v u := by
  show decide (u > v) = !decide (v > u)
  by_cases h : u > v
  · rw [decide_eq_true h, decide_eq_false (by omega)]; rfl
  · rw [decide_eq_false h, decide_eq_true (by omega)]; rfl
end Mine
namespace Mine
theorem news_cut2 {h₀ h : Heap} {L d : Addr} {o : Obj} {rest : List (Addr × Obj)} (N : News h₀ L h ((d, o) :: rest)) (hl : AllLt d rest) : ∃ R, R = rest ∧ News h₀ L h ((d, o) :: R) ∧ ∀ p ∈ R, @LT.lt Nat _ p.1 d := ⟨rest, rfl, N, kst_ltOf hl⟩
end Mine

namespace Mine
section
variable {prog : Program} {w : World} {A : Around} {s : Shared} {h₀ : Heap} {L : Addr} {m : Str → Option Value} {env : Env} {news : List (Addr × Obj)} {E : Value → Shared → Prop}
/-- what a call hands back that stores nothing: an int -/
def IdxPost (h₀ : Heap) (L : Addr) (m : Str → Option Value) (news : List (Addr × Obj)) (at' : Nat) (s : Shared) (v : Value) (s' : Shared) : Prop :=
  ∃ t h' tk', v = .int (at' : Int) t ∧ s' = { s with heap := h', toks := tk' } ∧ Fr h₀ L h' m ∧ News h₀ L h' news
theorem IdxPost.intro {at' : Nat} {x : Int} {t : Tok} {h' : Heap} {tk' : Nat} (e : x = (at' : Int)) (F : Fr h₀ L h' m) (N : News h₀ L h' news) :
    IdxPost h₀ L m news at' s (.int x t) { s with heap := h', toks := tk' } := ⟨t, h', tk', by rw [e], rfl, F, N⟩
theorem call_idx {f : Value} {args : List Value} {Q : Value → Shared → Prop} (at' : Nat) (_F : Fr h₀ L s.heap m) (_N : News h₀ L s.heap news)
    (h1 : wpAny (model prog w) A (call f args) (IdxPost h₀ L m news at' s) (fun _ _ => False) s)
    (h2 : ∀ t h' tk', Fr h₀ L h' m → News h₀ L h' news → Q (.int (at' : Int) t) { s with heap := h', toks := tk' }) :
    wpAny (model prog w) A (call f args) Q E s :=
  wpAny_noRaise (wpAny_mono h1 (fun v s' ⟨t, h', tk', e1, e2, F', N'⟩ => by subst e1 e2; exact h2 t h' tk' F' N') fun _ _ x => x)

/-- an enumerating loop that stores nothing -/
theorem loop_same {xi xv : Str} {pi pv pt : Pos} {x1 : Nat} {body : List Stmt} {Q : Flow → Shared → Prop} {l : Addr} {vs : List Value} {c : Nat} (P : Nat → Prop)
    (F : Fr h₀ L s.heap m) (N : News h₀ L s.heap news) (hl : (l, listOf vs.toArray c) ∈ news) (hne : vs ≠ []) (hP0 : P 0)
    (hL : env.locals = L) (hh : A.handled = none) (hxi : env.kindOf xi = some .local) (hxv : env.kindOf xv = some .local) (hp : (env.scope.kind == .class || (env.scope.kind == .module && env.locals != env.globals)) = false)
    (turn : ∀ (i : Nat) (v : Value) (ti : Tok) (e : Addr) (eo : Obj) (it : Addr) (io : Obj) (h : Heap) (tk : Nat), vs[i]? = some v → P i → Fr h₀ L h (fun y => if y = xv then some v else if y = xi then some (.int (i : Int) ti) else m y) → News h₀ L h ((e, eo) :: (it, io) :: news) →
      (∀ p ∈ news, p.1 < it) → it < e → L < it →
      wpAny (model prog w) A (execs body env) (EnE h₀ L (e, eo) (it, io) xi xv m i news (P (i + 1)) { s with heap := h, toks := tk } Q) (fun _ _ => False) { s with heap := h, toks := tk })
    (done : ∀ (h : Heap) (tk : Nat) (u : Option Value) (t : Tok), P vs.length → Fr h₀ L h (fun y => if y = xv then u else if y = xi then some (.int ((vs.length : Int) - 1) t) else m y) → News h₀ L h news → Q .next { s with heap := h, toks := tk }) :
    wpAny (model prog w) A (call (.type "enumerate") [.ref l]) (fun xv' s₁ => LoopAt prog w A (.Tuple [.Name xi pi, .Name xv pv] x1 pt) body env Q xv' s₁) (fun _ _ => False) s :=
  loop_enumG (fun _ => news) P F N rfl (fun _ => hl) (fun _ p hp => ⟨p, hp, rfl⟩) hne hP0 hL hh hxi hxv hp turn done
end

section
variable {prog : Program} {w : World} {A : Around} {s : Shared} {h₀ : Heap} {L : Addr} {news : List (Addr × Obj)} {E : Value → Shared → Prop}
theorem ne_diff {a b : Addr} {us ws : List Value} {ns ms : List Int} {c c' : Nat} {Q : Value → Shared → Prop} (N : News h₀ L s.heap news) (ha : (a, listOf us.toArray c) ∈ news) (hb : (b, listOf ws.toArray c') ∈ news) (hi : IntsAre us ns) (hi' : IntsAre ws ms) (e : ns ≠ ms) (hu : A.units + 64 < cLine)
    (h : Q (.bool true) s) : wpAny (model prog w) A (compareOp .NotEq (.ref a) (.ref b)) Q E s :=
  ne_intsK ⟨_, N.get ha, rfl, c, rfl⟩ hi ⟨_, N.get hb, rfl, c', rfl⟩ hi' hu (by rw [decide_eq_false e]; exact h)
end
/-- is x above b -/
abbrev abW (b x : Int) : Bool := decide (b < x)
theorem above_first {gs : List Int} {b : Int} {pz : Nat → Bool} (hz : ∀ k, k < gs.length → pz k = abW b (gs.getD k 0)) :
    (((List.range gs.length).filter pz = []) → insAt abW gs b = gs.length) ∧
    (∀ k r, (List.range gs.length).filter pz = k :: r → insAt abW gs b = k) := by
  have hg : ∀ j x, gs[j]? = some x → j < gs.length ∧ gs.getD j 0 = x := fun j x h => by
    refine ⟨(List.getElem?_eq_some_iff.mp h).1, ?_⟩
    rw [List.getD_eq_getElem?_getD, h]; rfl
  constructor
  · intro h
    refine insAt_miss abW fun j hj y hy => ?_
    have h1 := List.filter_eq_nil_iff.mp h j (List.mem_range.mpr hj)
    rw [hz j hj, (hg j y hy).2] at h1
    simpa using h1
  · intro k r h
    have h1 : (List.range gs.length).find? pz = some k := by rw [← List.head?_filter, h]; rfl
    rw [List.find?_range_eq_some] at h1
    obtain ⟨h2, h3, h4⟩ := h1
    have hk := List.mem_range.mp h3
    refine insAt_hit abW (fun j hj y hy => ?_) (List.getElem?_eq_getElem hk) ?_
    · have h5 := h4 j hj
      rw [hz j (by omega), (hg j y hy).2] at h5
      simpa using h5
    · rw [hz k hk, (hg k _ (List.getElem?_eq_getElem hk)).2] at h2
      exact h2
end Mine

namespace Mine
set_option maxHeartbeats 8000000 in
theorem good_true {cl : Str → Option Addr} {mean : ExcName → Option Value} {xs : List Int} {s₁ s' : Shared} {L : Addr} {m : Str → Option Value} (F : Fr s₁.heap L s'.heap m) (hg : s'.gens = #[]) (hos : s'.os = s₁.os) :
    GoodW Challenge.rw_bz6013_01.row.claim cl mean [ofPy (PyData.list (List.map PyData.int xs))] s₁ (.ok (.ret (.bool true))) s' :=
  goodW_bool F hg (raisesW_false (by wrow_none_raised)) (by wrow_post) hos
theorem good_is {cl : Str → Option Addr} {mean : ExcName → Option Value} {xs : List Int} {s₁ s' : Shared} {L : Addr} {m : Str → Option Value} {b : Bool} (F : Fr s₁.heap L s'.heap m) (hg : s'.gens = #[]) (hos : s'.os = s₁.os) (hb : b = true) :
    GoodW Challenge.rw_bz6013_01.row.claim cl mean [ofPy (PyData.list (List.map PyData.int xs))] s₁ (.ok (.ret (.bool b))) s' := by
  subst hb
  exact good_true F hg hos
end Mine

namespace Mine

local macro_rules | `(tactic| walk_at "subscriptTail") => `(tactic| (k_here; (with_reducible show wpAny _ _ (subscriptTail _ (Expr.Tuple _ _ _) (Value.ref _) (Value.ref _)) _ _ _); k_dflt (refine' won_item2 ?hu ?F ?FG ?hD ?N ?ht ?S ?h1 ?h2 ?h3 ?_ ?hs ?hg; (case F => k_asm); (case FG => k_asm); (case hD => assumption); (case N => k_asm); (case ht => k_mem); (case S => assumption); (case hu => units_room); (case h1 => assumption); (case h2 => assumption); (case h3 => assumption); (case hs => with_unfolding_all rfl); (case hg => (intro _; with_unfolding_all rfl)); k_whole)))

local macro_rules | `(tactic| walk_at "compareOp NotIn int ref") => `(tactic| (k_here; k_dflt (refine' notin_range_in ?hr ?h0 ?h1 ?_; (case hr => (rename IsRange _ _ _ _ _ _ _ _ => rgX); exact rgX); (case h0 => omega); (case h1 => omega); k_whole)))

local macro_rules | `(tactic| walk_at "compareOp NotEq ref ref") => `(tactic| (k_here; (with_reducible show wpAny _ _ (compareOp CmpOp.NotEq (Value.ref _) (Value.ref _)) _ _ _); k_dflt (refine' ne_same ?N ?a ?b ?i ?j ?e ?u ?_; (case N => k_asm); (case a => k_mem); (case b => k_mem); (case i => first | assumption | exact IntsAre.nil); (case j => first | assumption | exact IntsAre.nil); (case e => rfl); (case u => units_room); k_whole)))

local macro_rules | `(tactic| walk_at "subscriptTail Name Slice ref ref") => `(tactic| (k_here; (with_reducible show wpAny _ _ (subscriptTail _ (Expr.Slice (some _) none none _) (Value.ref _) (Value.ref _)) _ _ _); k_dflt (refine' slice_from ?F ?N ?m ?i ?z0 ?z1 ?_ ?hs ?ht; (case F => k_asm); (case N => k_asm); (case m => k_mem); (case i => assumption); (case z0 => omega); (case z1 => omega); (case hs => with_unfolding_all rfl); (case ht => (intro _; with_unfolding_all rfl)); k_whole); intro D' h' ws' F' N' hI' hz' l1; (try k_lt l1); (try k_sweep)))
local macro_rules | `(tactic| walk_at "subscriptTail Name Slice ref ref") => `(tactic| (k_here; (with_reducible show wpAny _ _ (subscriptTail _ (Expr.Slice none (some _) none _) (Value.ref _) (Value.ref _)) _ _ _); k_dflt (refine' slice_upto ?F ?N ?m ?i ?z0 ?z1 ?_ ?hs ?ht; (case F => k_asm); (case N => k_asm); (case m => k_mem); (case i => assumption); (case z0 => omega); (case z1 => omega); (case hs => with_unfolding_all rfl); (case ht => (intro _; with_unfolding_all rfl)); k_whole); intro D' h' ws' F' N' hI' hz' l1; (try k_lt l1); (try k_sweep)))
local macro_rules | `(tactic| walk_at "binaryOp Add ref ref") => `(tactic| (k_here; (with_reducible show wpAny _ _ (binaryOp .Add (Value.ref _) (Value.ref _)) _ _ _); k_dflt (refine' add_lists ?F ?N ?a ?b ?i ?j ?z1 ?_; (case F => k_asm); (case N => k_asm); (case a => k_mem); (case b => k_mem); (case i => first | assumption | exact IntsAre.cons _ _ .nil); (case j => first | assumption | exact IntsAre.cons _ _ .nil); (case z1 => first | omega | (simp only [List.length_cons, List.length_nil] at *; omega)); k_whole); intro D' h' ws' F' N' hI' hz' l1; (try simp only [List.length_cons, List.length_nil] at hz'); (try k_lt l1); (try k_sweep)))

local macro_rules | `(tactic| walk_at "eval Name") => `(tactic| (k_here; (with_reducible show wpAny _ _ (eval _ (compEnvC _ _ _ _)) _ _ _); k_dflt (first
  | (refine' nameB_L ?F ?v ?_ ?a ?b ?d; (case a => rfl); (case b => rfl); (case d => decide); (case F => k_asm); (case v => assumption); k_whole)
  | (refine' nameB_C ?N ?c ?m ?d ?_ ?a ?b ?e; (case a => rfl); (case b => rfl); (case e => decide); (case N => k_asm); (case c => rfl); (case m => k_mem); (case d => k_asm); k_whole))))
local macro_rules | `(tactic| walk_at "subscriptTail") => `(tactic| (k_here; (with_reducible show wpAny _ _ (subscriptTail _ _ (Value.ref _) (Value.int _ _)) _ _ _); k_dflt (refine' item_at ?N ?m ?i ?z0 ?z1 ?z2 ?_ ?hs; (case N => k_asm); (case m => k_mem); (case i => assumption); (case z0 => omega); (case z1 => omega); (case z2 => omega); (case hs => with_unfolding_all rfl); k_whole); intro _))

abbrev lamQual : Str := ((Str.ofString "_law_placed" : Str) ++ ".<locals>.") ++ Str.ofString "<lambda>"
/-- the table of the code objects of «_law_placed»: empty, or with the lambda's -/
def TabSt (tabs : List (Addr × Obj)) : Prop :=
  tabs = [(33, tabObj #[])] ∨ ∃ (c : Addr) (oc : Obj) (vs : Array Value) (t : Tok), tabs = [(c, oc), (33, tabObj #[rawInt 38, rawInt 35, .ref c])] ∧ oc.data = .fields vs ∧ vs[1]? = some (.str lamQual t) ∧ @Ne Nat c 33

def PJ (L' d : Addr) (tabs₀ : List (Addr × Obj)) (W : Int → Int → Bool) (ord : List Int) (i : Nat) (_m : Str → Option Value) (nx : List (Addr × Obj)) : Prop :=
  ∃ rl us c ov oa orr ow tabs, nx = (rl, listOf (List.toArray us) c) :: (L' + 1 + 1 + 1 + 1, ov) :: (L' + 1 + 1 + 1, oa) :: (L' + 1 + 1, orr) :: (L' + 1, ow) :: tabs ∧ IntsAre us (place W (ord.take i)) ∧
    orr.data = .cell (some (.ref rl)) ∧ ow.data = .cell (some (.ref d)) ∧ (∃ x, ov.data = .cell x) ∧ (∃ x, oa.data = .cell x) ∧ @LT.lt Nat _ (L' + 1 + 1 + 1 + 1) rl ∧ @LT.lt Nat _ 33 rl ∧ TabSt tabs ∧ OwnOff tabs [L' + 1 + 1 + 1 + 1, L' + 1 + 1 + 1, L' + 1 + 1, L' + 1] ∧ ∀ p ∈ tabs₀, p.1 ≠ 33 → p ∈ tabs

section
variable {h₀ h' : Heap} {L' d I rl : Addr} {W : Int → Int → Bool} {ord us : List Int} {i c : Nat} {m' : Str → Option Value} {news tabs tabs₀ : List (Addr × Obj)} {io orr ow ov oa : Obj} {s₁ : Shared} {Q : Flow → Shared → Prop} {tk' : Nat} {vs : List Value}
theorem pj_end {f : Flow} (hf : f = .next ∨ f = .cont) (F : Fr h₀ L' h' m') (N : News h₀ L' h' news) (m0 : (I, io) ∈ news) (m1 : (L' + 1 + 1, orr) ∈ news) (e1 : orr.data = .cell (some (.ref rl))) (m2 : (rl, listOf (List.toArray vs) c) ∈ news) (hI : IntsAre vs (place W (ord.take (i + 1))))
    (m3 : (L' + 1 + 1 + 1 + 1, ov) ∈ news) (e3 : ∃ x, ov.data = .cell x) (m4 : (L' + 1 + 1 + 1, oa) ∈ news) (e4 : ∃ x, oa.data = .cell x) (m5 : (L' + 1, ow) ∈ news) (e5 : ow.data = .cell (some (.ref d)))
    (l1 : @LT.lt Nat _ (L' + 1 + 1 + 1 + 1) rl) (l2 : @LT.lt Nat _ 33 rl) (mt : ∀ p ∈ tabs, p ∈ news) (hT : TabSt tabs) (ho : OwnOff tabs [L' + 1 + 1 + 1 + 1, L' + 1 + 1 + 1, L' + 1 + 1, L' + 1])
    (hn : @Ne Nat rl I ∧ @Ne Nat (L' + 1 + 1 + 1 + 1) I ∧ @Ne Nat (L' + 1 + 1 + 1) I ∧ @Ne Nat (L' + 1 + 1) I ∧ @Ne Nat (L' + 1) I) (ht : ∀ p ∈ tabs, p.1 ≠ I) (hkp : ∀ p ∈ tabs₀, p.1 ≠ 33 → p ∈ tabs) :
    TnE h₀ L' (I, io) (PJ L' d tabs₀ W ord (i + 1)) s₁ Q f { s₁ with heap := h', toks := tk' } := by
  have fin : ∃ h'' tk'' m'' nx', ({ s₁ with heap := h', toks := tk' } : Shared) = { s₁ with heap := h'', toks := tk'' } ∧ Fr h₀ L' h'' m'' ∧ News h₀ L' h'' ((I, io) :: nx') ∧ (∀ p ∈ nx', p.1 ≠ I) ∧ PJ L' d tabs₀ W ord (i + 1) m'' nx' := by
    refine ⟨h', tk', m', _, rfl, F, fun p hp => ?_, fun p hp => ?_, rl, vs, c, ov, oa, orr, ow, tabs, rfl, hI, e1, e5, e3, e4, l1, l2, hT, ho, hkp⟩
    · rcases List.mem_cons.mp hp with rfl | hp
      · exact N _ m0
      rcases List.mem_cons.mp hp with rfl | hp
      · exact N _ m2
      rcases List.mem_cons.mp hp with rfl | hp
      · exact N _ m3
      rcases List.mem_cons.mp hp with rfl | hp
      · exact N _ m4
      rcases List.mem_cons.mp hp with rfl | hp
      · exact N _ m1
      rcases List.mem_cons.mp hp with rfl | hp
      · exact N _ m5
      · exact N _ (mt p hp)
    · rcases List.mem_cons.mp hp with rfl | hp
      · exact hn.1
      rcases List.mem_cons.mp hp with rfl | hp
      · exact hn.2.1
      rcases List.mem_cons.mp hp with rfl | hp
      · exact hn.2.2.1
      rcases List.mem_cons.mp hp with rfl | hp
      · exact hn.2.2.2.1
      rcases List.mem_cons.mp hp with rfl | hp
      · exact hn.2.2.2.2
      · exact ht p hp
  rcases hf with rfl | rfl <;> exact fin
theorem pj_next {cc : Addr} {oc : Obj} {vc : Array Value} {tc : Tok} (F : Fr h₀ L' h' m') (N : News h₀ L' h' news) (m0 : (I, io) ∈ news) (m1 : (L' + 1 + 1, orr) ∈ news) (e1 : orr.data = .cell (some (.ref rl))) (m2 : (rl, listOf (List.toArray vs) c) ∈ news) (hI : IntsAre vs (place W (ord.take (i + 1))))
    (m3 : (L' + 1 + 1 + 1 + 1, ov) ∈ news) (e3 : ∃ x, ov.data = .cell x) (m4 : (L' + 1 + 1 + 1, oa) ∈ news) (e4 : ∃ x, oa.data = .cell x) (m5 : (L' + 1, ow) ∈ news) (e5 : ow.data = .cell (some (.ref d)))
    (l1 : @LT.lt Nat _ (L' + 1 + 1 + 1 + 1) rl) (l2 : @LT.lt Nat _ 33 rl) (t1 : (33, tabObj #[rawInt 38, rawInt 35, .ref cc]) ∈ news) (t2 : (cc, oc) ∈ news) (t3 : oc.data = .fields vc) (t4 : vc[1]? = some (.str lamQual tc)) (t5 : @Ne Nat cc 33)
    (t6 : @Ne Nat cc (L' + 1 + 1 + 1 + 1) ∧ @Ne Nat cc (L' + 1 + 1 + 1) ∧ @Ne Nat cc (L' + 1 + 1) ∧ @Ne Nat cc (L' + 1)) (t7 : @Ne Nat cc I) (t8 : @Ne Nat 33 I) (t9 : @LT.lt Nat _ 33 L')
    (hn : @Ne Nat rl I ∧ @Ne Nat (L' + 1 + 1 + 1 + 1) I ∧ @Ne Nat (L' + 1 + 1 + 1) I ∧ @Ne Nat (L' + 1 + 1) I ∧ @Ne Nat (L' + 1) I) (hkp : ∀ p ∈ tabs₀, p.1 ≠ 33 → p ∈ [(cc, oc), (33, tabObj #[rawInt 38, rawInt 35, .ref cc])]) :
    TnE h₀ L' (I, io) (PJ L' d tabs₀ W ord (i + 1)) s₁ Q .next { s₁ with heap := h', toks := tk' } := by
  refine pj_end (tabs := [(cc, oc), (33, tabObj #[rawInt 38, rawInt 35, .ref cc])]) (.inl rfl) F N m0 m1 e1 m2 hI m3 e3 m4 e4 m5 e5 l1 l2 ?_ (.inr ⟨cc, oc, vc, tc, rfl, t3, t4, t5⟩) ?_ hn ?_ hkp
  · intro p hp
    rcases List.mem_cons.mp hp with rfl | hp
    · exact t2
    · rw [List.mem_singleton.mp hp]; exact t1
  · intro p hp b hb
    simp only [List.mem_cons, List.not_mem_nil, or_false] at hb
    refine neN ?_
    rcases List.mem_cons.mp hp with rfl | hp
    · rcases hb with rfl | rfl | rfl | rfl
      · exact t6.1
      · exact t6.2.1
      · exact t6.2.2.1
      · exact t6.2.2.2
    · rw [List.mem_singleton.mp hp]
      dsimp only
      rcases hb with rfl | rfl | rfl | rfl <;> omega
  · intro p hp
    rcases List.mem_cons.mp hp with rfl | hp
    · exact t7
    · rw [List.mem_singleton.mp hp]; exact t8
theorem tabs_cases (hT : TabSt tabs) (ho : OwnOff tabs [L' + 1 + 1 + 1 + 1, L' + 1 + 1 + 1, L' + 1 + 1, L' + 1]) :
    tabs = [(33, tabObj #[])] ∨ ∃ (c : Addr) (oc : Obj) (vs : Array Value) (t : Tok), tabs = [(c, oc), (33, tabObj #[rawInt 38, rawInt 35, .ref c])] ∧ oc.data = .fields vs ∧ vs[1]? = some (.str lamQual t) ∧ @Ne Nat c 33 ∧
      (@Ne Nat c (L' + 1 + 1 + 1 + 1) ∧ @Ne Nat c (L' + 1 + 1 + 1) ∧ @Ne Nat c (L' + 1 + 1) ∧ @Ne Nat c (L' + 1)) := by
  rcases hT with rfl | ⟨c, oc, vs, t, rfl, h1, h2, h3⟩
  · exact .inl rfl
  · exact .inr ⟨c, oc, vs, t, rfl, h1, h2, h3, ho _ (.head _) _ (.head _), ho _ (.head _) _ (.tail _ (.head _)), ho _ (.head _) _ (.tail _ (.tail _ (.head _))), ho _ (.head _) _ (.tail _ (.tail _ (.tail _ (.head _))))⟩
end

set_option maxHeartbeats 8000000 in
theorem placed_spec {w : World} {p : Program} {loose : List Str} {mean : ExcName → Option Value} {mg mb : Str → Option Value} {env : Env} {A₀ : Around} {base h₀ : Heap} {L : Addr} {m : Str → Option Value} {s : Shared} {Q : Value → Shared → Prop}
    {o d : Addr} {vs : List Value} {ord : List Int} {W : Int → Int → Bool} {tabs₀ : List (Addr × Obj)} {xs : List (List Int × Addr × Value)}
    (B : Below A₀ base [] h₀) (F : Fr h₀ L s.heap m) (X : (hd.heap_39 w.params).In h₀) (N : News h₀ L s.heap tabs₀) (hT₀ : TabSt tabs₀) (T : Top p loose mean mg mb h₀) (hf : env.frame = some L) (hk : env.scope.kind = .function)
    (hC : CodeHd h₀ 35 33) (hol : s.heap.IsList o vs.toArray) (hoi : IntsAre vs ord) (hot : ∀ p ∈ tabs₀, p.1 ≠ o) (hz : ord.length ≤ 60)
    (hD : s.heap.DictOfH (TK Challenge.rw_bz6013_01.row.prog w) d xs) (hdt : ∀ p ∈ tabs₀, p.1 ≠ d ∧ ∀ x ∈ xs, p.1 ≠ x.2.1) (S : Says xs W ord) (hnd : ord.Nodup) (htour : ∀ u ∈ ord, ∀ v ∈ ord, u ≠ v → W u v = !W v u)
    (hret : ∀ r us c h' tk' tabs', IntsAre us (place W ord) → Fr h₀ L h' m → News h₀ L h' ((r, listOf (List.toArray us) c) :: tabs') → TabSt tabs' → (∀ b o, s.heap.get? b = some o → b ≠ 33 → h'.get? b = some o) → @LT.lt Nat _ s.heap.objs.size r → Q (.ref r) { s with heap := h', toks := tk' }) :
    wpAny (model Challenge.rw_bz6013_01.row.prog w) (callerA.deeper env) (call (.ref 36) [.ref o, .ref d]) Q (fun _ _ => False) s := by
  w_top off
  have hX := X; revert hX; k_fill; intro _hX; clear _hX
  refine wpAny_call ?_
  k_dflt (refine' enter_cells B F X N T ?kA hf hk ?k6 ?k7 ?k8 ?k9 ?kB ?kD ?_ ?c2 ?c3 ?c4; (case kA => exact rfl); (case k6 => k_is); (case k7 => k_is); (case k8 => k_room); (case k9 => exact BindsTo.of_eq rfl); (case kB => exact rfl); (case kD => decide +kernel); (case c2 => exact rfl); (case c3 => exact rfl); (case c4 => exact rfl))
  intro g' L' h' tk' cells' FG' GS' F' N' Y' B' X' T' l1 hsz
  have hsub : ∀ b o, s.heap.get? b = some o → (∀ p ∈ tabs₀, p.1 ≠ b) → g'.get? b = some o := fun b o e n => GS' b o e fun hm => by
    obtain ⟨q, hq, e2⟩ := List.mem_map.mp hm
    exact n q hq e2
  have hol' : g'.IsList o vs.toArray := by
    obtain ⟨oo, ho, r⟩ := hol
    exact ⟨oo, hsub _ _ ho hot, r⟩
  have hD' : g'.DictOfH (TK Challenge.rw_bz6013_01.row.prog w) d xs := by
    obtain ⟨od, es, ep, ho, hc, hd, he, hk', hn⟩ := hD
    exact ⟨od, es, ep, hsub _ _ ho (fun p hp => (hdt p hp).1), hc, hd, he, fun x hx => isTup_keeps (hk' x hx) fun o' ho' => hsub _ _ ho' (fun p hp => (hdt p hp).2 x hx), hn⟩
  have hoff₀ : OwnOff tabs₀ [L' + 1 + 1 + 1 + 1, L' + 1 + 1 + 1, L' + 1 + 1, L' + 1] := fun p hp b hb => by
    have h1 := ltN (l1 p hp)
    simp only [List.mem_cons, List.not_mem_nil, or_false] at hb
    refine neN ?_
    rcases hb with rfl | rfl | rfl | rfl <;> omega
  have h33L : @LT.lt Nat _ 33 L' := by
    rcases hT₀ with rfl | ⟨_, _, _, _, rfl, _⟩
    · exact l1 _ (.head _)
    · exact l1 _ (.tail _ (.head _))
  have hC' := hC.keeps FG'.keep
  obtain ⟨ov, oa, orr, ow, hE, dv, da, dr, dw⟩ := CellsAre.four Y'
  subst hE; clear Y'
  simp only [List.cons_append, List.nil_append] at N'
  replace dv : ov.data = .cell none := dv
  replace da : oa.data = .cell none := da
  replace dr : orr.data = .cell none := dr
  replace dw : ow.data = .cell (some (.ref d)) := dw
  try dsimp only
  try k_unmd
  try k_fold
  repeat' ((fail_if_success (with_reducible show wpAny _ _ (exec (Stmt.For _ _ _ _ _) _) _ _ _)); first | (k_unfold; (try dsimp only)) | (k_end; wrow_close) | walk1 | (dsimp only; walk1) | (dsimp only; k_unfold; (try dsimp only)) | (leave1; walk_say "STEP leave1"; try dsimp only) | fail "no step")
  refine for_start ?_
  repeat' ((fail_if_success (with_reducible show wpAny _ _ (exec (Stmt.For _ _ _ _ _) _) _ _ _)); first | (k_unfold; (try dsimp only)) | (k_end; wrow_close) | walk1 | (dsimp only; walk1) | (dsimp only; k_unfold; (try dsimp only)) | (leave1; walk_say "STEP leave1"; try dsimp only) | fail "no step")
  rename Fr _ _ _ _ => F1
  rename News _ _ _ _ => N1
  rename (_ ∧ _) => hl9
  refine loop_list (PJ L' d tabs₀ W ord) rfl (fun _ _ => rfl) hol' F1 N1 ?h0 ?turn ?done
  case h0 => exact ⟨_, [], _, _, _, _, _, tabs₀, rfl, .nil, by assumption, dw, ⟨_, dv⟩, ⟨_, da⟩, hl9.1, by have := hl9.1; omega, hT₀, hoff₀, fun _ h _ => h⟩
  case done =>
    intro h2 tk2 m2 nx2 hJ F2 N2
    clear F1 N1
    obtain ⟨rl, us, c, ov, oa, orr, ow, tabs, rfl, hus, dr, dw, ⟨xv, dv⟩, ⟨xa, da⟩, hrl, hrl3, hT, hoff, hk0⟩ := hJ
    have eo : ord.take vs.length = ord := List.take_of_length_le (Nat.le_of_eq hoi.length.symm)
    rw [eo] at hus
    have keep : ∀ b o, s.heap.get? b = some o → b ≠ 33 → h2.get? b = some o := fun b o e hb => by
      by_cases hm : ∃ p ∈ tabs₀, p.1 = b
      · obtain ⟨p, hp, rfl⟩ := hm
        have e2 := (N p hp).1
        rw [e] at e2
        cases e2
        exact (N2 _ (.tail _ (.tail _ (.tail _ (.tail _ (.tail _ (hk0 p hp hb))))))).1
      · exact F2.keep b o (hsub b o e fun p hp q => hm ⟨p, hp, q⟩)
    have hlr : @LT.lt Nat _ s.heap.objs.size rl := by rw [hsz]; omega
    (try k_unmd)
    (try dsimp only)
    repeat' (first | (k_unfold; (try dsimp only)) | (k_end; wrow_close) | walk1 | (dsimp only; walk1) | (dsimp only; k_unfold; (try dsimp only)) | (leave1; walk_say "STEP leave1"; try dsimp only) | fail "no step")
    rename Fr _ _ _ _ => F6
    rename News _ _ _ _ => N6
    exact hret rl us c h2 tk2 tabs hus F6 (news_sub N6 fun p hp => (List.mem_cons.mp hp).elim (fun e => e ▸ .head _) fun hp => .tail _ (.tail _ (.tail _ (.tail _ (.tail _ hp))))) hT keep hlr
  intro i v I io h1 tk1 m1 nx1 hv hJ F2 N2 hnI hltI hLI
  clear F1 N1
  obtain ⟨rl, us, c, ov, oa, orr, ow, tabs, rfl, hus, dr, dw, ⟨xv, dv⟩, ⟨xa, da⟩, hrl, hrl3, hT, hoff, hk0⟩ := hJ
  obtain ⟨vi, tv, hvi, rfl⟩ : ∃ n t, ord[i]? = some n ∧ v = .int n t := by
    have hil : i < ord.length := by rw [← hoi.length]; exact (List.getElem?_eq_some_iff.mp hv).1
    obtain ⟨t, ht⟩ := hoi.get i ord[i] (List.getElem?_eq_getElem hil)
    rw [hv] at ht
    exact ⟨_, t, List.getElem?_eq_getElem hil, Option.some.inj ht⟩
  have hsucc := place_succ W hvi
  have hchain := place_step W hnd htour hvi
  have hfresh : ∀ x ∈ place W (ord.take i), x ∈ ord ∧ vi ≠ x := fun x hx => place_fresh W hnd hvi hx
  have q1 : vi ∈ ord := List.mem_of_getElem? hvi
  have hlenr : (place W (ord.take i)).length ≤ 60 := by
    rw [(place_perm W _).length_eq, List.length_take]; omega
  generalize hrow : place W (ord.take i) = row at *
  have hlen : us.length ≤ 60 := by rw [hus.length]; exact hlenr
  have hMk := kstMark
  refine wpAny_assign_Name ?_
  replace hnI := allNe_of hnI
  simp only [AllNe] at hnI
  replace hLI := ltN hLI
  have hnT : ∀ p ∈ tabs, p.1 ≠ I := of_allNe hnI.2.2.2.2.2
  have hT2 := hT
  have h33I : @Ne Nat 33 I := by omega
  rcases tabs_cases hT hoff with rfl | ⟨cc, oc, vc, tc, rfl, hoc, hvc, hc3, hc4⟩
  all_goals
    simp only [AllNe, and_true] at hnI
    k_unmd
    k_fold
    repeat' ((fail_if_success (with_reducible show wpAny _ _ (exec (Stmt.For _ _ _ _ _) _) _ _ _)); (fail_if_success (with_reducible show wpAny _ _ (call (.type "enumerate") _) _ _ _)); (fail_if_success (with_reducible show wpAny _ _ (call (.ref 21) _) _ _ _)); (fail_if_success (with_reducible show wpAny _ _ (eval (Expr.ListComp _ _ _ _) _) _ _ _)); first | (k_unfold; (try dsimp only)) | (k_end; wrow_close) | walk1 | (dsimp only; walk1) | (dsimp only; k_unfold; (try dsimp only)) | (leave1; walk_say "STEP leave1"; try dsimp only) | fail "no step")
    · (try k_unmd)
      (try k_unfold)
      (try dsimp only)
      have e0 : row = [] := of_decide_eq_true (by assumption)
      subst e0
      rename Fr _ _ _ _ => F6
      rename News _ _ _ _ => N6
      refine pj_end (.inr rfl) F6 N6 (by k_mem) (by k_mem) (by assumption) (by k_mem) (by rw [hsucc]; exact (IntsAre.cons vi tv .nil : IntsAre _ [vi])) (by k_mem) ⟨_, by assumption⟩ (by k_mem) ⟨_, by assumption⟩ (by k_mem) (by assumption) (by omega) (by omega) (by k_sub) hT2 hoff (by omega) hnT hk0
    · have hrne : row ≠ [] := of_decide_eq_false (by assumption)
      rename Fr _ _ _ _ => F3
      rename News _ _ _ _ => N3
      obtain ⟨at', hat⟩ : ∃ k, k = insAt W row vi := ⟨_, rfl⟩
      refine call_cut (ca := L' + 1 + 1 + 1) us at' F3 N3 (by k_mem) (by k_asm) (by k_updF) ?_ ?_
      rotate_left
      · skip
        intro t8 h8 tk8 n8 F8 N8
        have hatle : at' ≤ row.length := by rw [hat]; exact insAt_le W row vi
        have hAsk := hus.take (at' + 1)
        clear F3 N3
        (try dsimp only at N8)
        k_unmd
        (try k_unfold)
        (try dsimp only)
        repeat' ((fail_if_success (with_reducible show wpAny _ _ (exec (Stmt.For _ _ _ _ _) _) _ _ _)); (fail_if_success (with_reducible show wpAny _ _ (call (.type "enumerate") _) _ _ _)); (fail_if_success (with_reducible show wpAny _ _ (call (.ref 21) _) _ _ _)); (fail_if_success (with_reducible show wpAny _ _ (eval (Expr.ListComp _ _ _ _) _) _ _ _)); first | (k_unfold; (try dsimp only)) | (k_end; wrow_close) | walk1 | (dsimp only; walk1) | (dsimp only; k_unfold; (try dsimp only)) | (leave1; walk_say "STEP leave1"; try dsimp only) | fail "no step")
        rename IntsAre _ _ => hI9
        rw [ins_eq W hat] at hI9
        have hlen9 := insAt_length W row vi
        refine wpAny_noRaise ?_
        rename Fr _ _ _ _ => F9
        refine comp_none F9 ?_ (by with_unfolding_all rfl) (by with_unfolding_all rfl) (by decide) (by with_unfolding_all rfl) (by decide) (by with_unfolding_all rfl) (by intro _; with_unfolding_all rfl)
        repeat' ((fail_if_success (with_reducible show wpAny _ _ (exec (Stmt.For _ _ _ _ _) _) _ _ _)); (fail_if_success (with_reducible show wpAny _ _ (call (.type "enumerate") _) _ _ _)); (fail_if_success (with_reducible show wpAny _ _ (call (.ref 21) _) _ _ _)); first | (k_unfold; (try dsimp only)) | (k_end; wrow_close) | walk1 | (dsimp only; walk1) | (dsimp only; k_unfold; (try dsimp only)) | (leave1; walk_say "STEP leave1"; try dsimp only) | fail "no step")
        rename Fr _ _ _ _ => F10
        rename News _ _ _ _ => N10
        rename IsRange _ _ _ _ _ _ _ _ => rg10
        refine ⟨_, _, row.length, _, _, _, _, rfl, rg10, by omega, by omega, F10, N10, ?_, ?_⟩
        · intro C11 k11 t11 s11 m11 hk11 F11 N11 hm11
          refine isTrue_not ?_
          repeat' ((fail_if_success (with_reducible show wpAny _ _ (newTuple _) _ _ _)); (fail_if_success (with_reducible show wpAny _ _ (exec (Stmt.For _ _ _ _ _) _) _ _ _)); (fail_if_success (with_reducible show wpAny _ _ (call (.type "enumerate") _) _ _ _)); (fail_if_success (with_reducible show wpAny _ _ (call (.ref 21) _) _ _ _)); first | (k_unfold; (try dsimp only)) | (k_end; wrow_close) | walk1 | (dsimp only; walk1) | (dsimp only; k_unfold; (try dsimp only)) | (leave1; walk_say "STEP leave1"; try dsimp only) | fail "no step")
          obtain ⟨g1, g2, g3, g4⟩ := hchain k11 (by omega)
          have e11 : ((k11 : Int) + 1 - 1).toNat = k11 := by omega
          have e12 : ((k11 : Int) + 1).toNat = k11 + 1 := by omega
          rw [e11, e12]
          refine wpAny_newTuple ?_ (by rw [sizeLine_eq]; exact Nat.le_of_ble_eq_true rfl)
          refine won_item (by units_room) (F11.push _) hD' (N11.push F11 _) (List.Mem.head _) S g1 g2 g3 ?_ (by with_unfolding_all rfl) (by intro _; with_unfolding_all rfl)
          refine wpAny_truthy_bool ⟨by rw [g4]; rfl, _, _, rfl, fun b o e => Heap.get?_push_of_some _ e⟩
        · intro D11 h11 tk11 c11 F11 N11
          clear F10 N10
          dsimp only
          k_unmd
          repeat' ((fail_if_success (with_reducible show wpAny _ _ (exec (Stmt.For _ _ _ _ _) _) _ _ _)); (fail_if_success (with_reducible show wpAny _ _ (call (.type "enumerate") _) _ _ _)); (fail_if_success (with_reducible show wpAny _ _ (call (.ref 21) _) _ _ _)); (fail_if_success (with_reducible show wpAny _ _ (eval (Expr.ListComp _ _ _ _) _) _ _ _)); first | (k_unfold; (try dsimp only)) | (k_end; wrow_close) | walk1 | (dsimp only; walk1) | (dsimp only; k_unfold; (try dsimp only)) | (leave1; walk_say "STEP leave1"; try dsimp only) | fail "no step")
          rename Fr _ _ _ _ => F12
          rename News _ _ _ _ => N12
          (try simp only [Array.empty_append] at N12)
          skip
          refine pj_next F12 N12 (by k_mem) (by k_mem) (by assumption) (by k_mem) (by rw [hsucc]; exact hI9) (by k_mem) ⟨_, by assumption⟩ (by k_mem) ⟨_, by assumption⟩ (by k_mem) (by assumption) (by omega) (by omega) (by k_mem) (by k_mem) (by assumption) (by assumption) (by omega) (by omega) (by omega) (by omega) h33L (by omega) (by first | exact hk0 | exact fun p hp h => absurd (congrArg Prod.fst (List.mem_singleton.mp (hk0 p hp h))) h)
      · k_fold
        walk1
        repeat' ((fail_if_success (with_reducible show wpAny _ _ (exec (Stmt.For _ _ _ _ _) _) _ _ _)); (fail_if_success (with_reducible show wpAny _ _ (call (.type "enumerate") _) _ _ _)); (fail_if_success (with_reducible show wpAny _ _ (eval (Expr.ListComp _ _ _ _) _) _ _ _)); first | (k_unfold; (try dsimp only)) | (k_end; wrow_close) | walk1 | (dsimp only; walk1) | (dsimp only; k_unfold; (try dsimp only)) | (leave1; walk_say "STEP leave1"; try dsimp only) | fail "no step")
        refine wpAny_noRaise ?_
        refine for_start ?_
        repeat' ((fail_if_success (with_reducible show wpAny _ _ (exec (Stmt.For _ _ _ _ _) _) _ _ _)); (fail_if_success (with_reducible show wpAny _ _ (call (.type "enumerate") _) _ _ _)); (fail_if_success (with_reducible show wpAny _ _ (eval (Expr.ListComp _ _ _ _) _) _ _ _)); first | (k_unfold; (try dsimp only)) | (k_end; wrow_close) | walk1 | (dsimp only; walk1) | (dsimp only; k_unfold; (try dsimp only)) | (leave1; walk_say "STEP leave1"; try dsimp only) | fail "no step")
        rename Fr g' _ _ _ => FG3
        rename Fr _ _ _ _ => F4
        rename News _ _ _ _ => N4
        have hD3 := dictH_keeps hD' FG3.keep
        refine loop_asked (ca := L' + 1 + 1 + 1) (fun i => ∀ j < i, ∀ x, row[j]? = some x → W vi x = false) F4 N4 (by k_mem) (by k_mem) (by k_asm) (by k_updF) (by k_ne) (fun e => by rw [e] at hus; cases hus; exact hrne rfl) (fun j hj => absurd hj (Nat.not_lt_zero _)) rfl rfl rfl rfl rfl ?_ ?_
        rotate_left
        · skip
          intro h5 tk5 u5 t5 hP5 F5 N5
          dsimp only
          repeat' ((fail_if_success (with_reducible show wpAny _ _ (exec (Stmt.For _ _ _ _ _) _) _ _ _)); (fail_if_success (with_reducible show wpAny _ _ (call (.type "enumerate") _) _ _ _)); (fail_if_success (with_reducible show wpAny _ _ (eval (Expr.ListComp _ _ _ _) _) _ _ _)); first | (k_unfold; (try dsimp only)) | (k_end; wrow_close) | walk1 | (dsimp only; walk1) | (dsimp only; k_unfold; (try dsimp only)) | (leave1; walk_say "STEP leave1"; try dsimp only) | fail "no step")
          have e9 : at' = us.length := by rw [hat, insAt_miss W (fun j hj => hP5 j (by rw [hus.length]; exact hj)), hus.length]
          subst e9
          (try k_unmd)
          (try k_unfold)
          (try dsimp only)
          rename Fr _ _ _ _ => F6
          rename News _ _ _ _ => N6
          have e10 : us.take (us.length + 1) = us := List.take_of_length_le (Nat.le_succ _)
          refine CutPost.intro (n' := 0 + us.length) (by omega) F6 ?_
          rw [e10]
          exact N6
        · intro i2 v2 t2 e2 eo2 it2 io2 h2 tk2 hv2 hP2 F5 N5 hlt2 hie2 hLi2
          obtain ⟨x2, tx2, hx2, rfl⟩ : ∃ n t, row[i2]? = some n ∧ v2 = .int n t := by
            have hil : i2 < row.length := by rw [← hus.length]; exact (List.getElem?_eq_some_iff.mp hv2).1
            obtain ⟨t, ht⟩ := hus.get i2 row[i2] (List.getElem?_eq_getElem hil)
            rw [hv2] at ht
            exact ⟨_, t, List.getElem?_eq_getElem hil, Option.some.inj ht⟩
          have q2 := (hfresh x2 (List.mem_of_getElem? hx2)).1
          have q3 := (hfresh x2 (List.mem_of_getElem? hx2)).2
          k_lt hlt2
          replace hie2 := ltN hie2
          replace hLi2 := ltN hLi2
          clear N3 F3 N4 F4
          try dsimp only at N5
          k_unmd
          k_fold
          repeat' ((fail_if_success (with_reducible show wpAny _ _ (exec (Stmt.For _ _ _ _ _) _) _ _ _)); (fail_if_success (with_reducible show wpAny _ _ (call (.type "enumerate") _) _ _ _)); (fail_if_success (with_reducible show wpAny _ _ (eval (Expr.ListComp _ _ _ _) _) _ _ _)); first | (k_unfold; (try dsimp only)) | (k_end; wrow_close) | walk1 | (dsimp only; walk1) | (dsimp only; k_unfold; (try dsimp only)) | (leave1; walk_say "STEP leave1"; try dsimp only) | fail "no step")
          · have e9 : at' = i2 := hat.trans (insAt_hit W hP2 hx2 (by assumption))
            subst e9
            dsimp only [EnE]
            repeat' ((fail_if_success (with_reducible show wpAny _ _ (exec (Stmt.For _ _ _ _ _) _) _ _ _)); (fail_if_success (with_reducible show wpAny _ _ (call (.type "enumerate") _) _ _ _)); (fail_if_success (with_reducible show wpAny _ _ (eval (Expr.ListComp _ _ _ _) _) _ _ _)); first | (k_unfold; (try dsimp only)) | (k_end; wrow_close) | walk1 | (dsimp only; walk1) | (dsimp only; k_unfold; (try dsimp only)) | (leave1; walk_say "STEP leave1"; try dsimp only) | fail "no step")
            rename Fr _ _ _ _ => F6
            rename News _ _ _ _ => N6
            refine CutPost.intro (n' := 0 + at' + 1) rfl F6 ?_
            rw [take_push hv2]
            exact news_sub N6 (by k_sub)
          · rename Fr _ _ _ _ => F6
            rename News _ _ _ _ => N6
            refine' EnE.next F6 N6 (by k_sub) ?_ rfl (fun y h7 h8 => by simp only [if_neg h7, if_neg h8])
            intro j hj x hx
            rcases Nat.lt_succ_iff_lt_or_eq.mp hj with hj | rfl
            · exact hP2 j hj x hx
            · rw [hx2] at hx; cases hx; assumption
end Mine

namespace Mine

def NJ1 (D : Addr) (ys : List Value) (c : Nat) (t4 : Tok) (news₀ : List (Addr × Obj)) (_i : Nat) (m : Str → Option Value) (nx : List (Addr × Obj)) : Prop :=
  nx = (D, listOf (List.toArray ys) c) :: news₀ ∧ (∃ a t, m (Str.ofString "last") = some (.int a t)) ∧ m (Str.ofString "found") = some (.ref D) ∧ m (Str.ofString "many") = some (.int 4 t4)
def NJ2 (D : Addr) (t4 : Tok) (news₀ : List (Addr × Obj)) (n : Nat) (m : Str → Option Value) (nx : List (Addr × Obj)) : Prop :=
  ∃ us fs c, nx = (D, listOf (List.toArray us) c) :: news₀ ∧ IntsAre us fs ∧ fs.length + n = 4 ∧ (∃ a t, m (Str.ofString "last") = some (.int a t)) ∧ m (Str.ofString "found") = some (.ref D) ∧ m (Str.ofString "many") = some (.int 4 t4)

set_option maxHeartbeats 8000000 in
theorem numbers_spec {w : World} {p : Program} {loose : List Str} {mean : ExcName → Option Value} {mg mb : Str → Option Value} {env : Env} {A₀ : Around} {base h₀ : Heap} {L : Addr} {m : Str → Option Value} {s : Shared} {Q : Value → Shared → Prop}
    {l : Addr} {t4 : Tok} {vs : List Value} {script : List Int} {news₀ : List (Addr × Obj)}
    (B : Below A₀ base [] h₀) (F : Fr h₀ L s.heap m) (X : (hd.heap_39 w.params).In h₀) (N : News h₀ L s.heap news₀) (T : Top p loose mean mg mb h₀) (hf : env.frame = some L) (hk : env.scope.kind = .function)
    (hol : s.heap.IsList l vs.toArray) (hoi : IntsAre vs script) (hot : ∀ p ∈ news₀, p.1 ≠ l) (hz : script.length ≤ 63)
    (hret : ∀ r us fs c h' tk', IntsAre us fs → fs.length = 4 → Fr h₀ L h' m → News h₀ L h' ((r, listOf (List.toArray us) c) :: news₀) → (∀ b o, s.heap.get? b = some o → h'.get? b = some o) → (∀ b o, s.heap.get? b = some o → b ≠ r) → Q (.ref r) { s with heap := h', toks := tk' }) :
    wpAny (model Challenge.rw_bz6013_01.row.prog w) (callerA.deeper env) (call (.ref 26) [.ref l, .int 4 t4]) Q (fun _ _ => False) s := by
  w_top off
  have hX := X; revert hX; k_fill; intro _hX; clear _hX
  refine wpAny_call ?_
  k_dflt (refine' enter_cells B F X N T ?kA hf hk ?k6 ?k7 ?k8 ?k9 ?kB ?kD ?_ ?c2 ?c3 ?c4; (case kA => exact rfl); (case k6 => k_is); (case k7 => k_is); (case k8 => k_room); (case k9 => exact BindsTo.of_eq rfl); (case kB => exact rfl); (case kD => decide +kernel); (case c2 => exact rfl); (case c3 => exact rfl); (case c4 => exact rfl))
  intro g' L' h' tk' cells' FG' GS' F' N' Y' B' X' T' l1 hsz
  have hsub : ∀ b o, s.heap.get? b = some o → (∀ p ∈ news₀, p.1 ≠ b) → g'.get? b = some o := fun b o e n => GS' b o e fun hm => by
    obtain ⟨q, hq, e2⟩ := List.mem_map.mp hm
    exact n q hq e2
  have hol' : g'.IsList l vs.toArray := by
    obtain ⟨oo, ho, r⟩ := hol
    exact ⟨oo, hsub _ _ ho hot, r⟩
  cases Y'
  simp only [List.nil_append] at N'
  have hMk := kstMark
  try dsimp only
  try k_unmd
  try k_fold
  repeat' ((fail_if_success (with_reducible show wpAny _ _ (exec (Stmt.Assign _ (Expr.ListComp _ _ _ _) _) _) _ _ _)); (fail_if_success (with_reducible show wpAny _ _ (exec (Stmt.While _ _ _ _) _) _ _ _)); first | (k_unfold; (try dsimp only)) | (k_end; wrow_close) | walk1 | (dsimp only; walk1) | (dsimp only; k_unfold; (try dsimp only)) | (leave1; walk_say "STEP leave1"; try dsimp only) | fail "no step")
  rename Fr _ _ _ _ => F1
  refine comp_copyA F1 ?_ (by with_unfolding_all rfl) rfl (by with_unfolding_all rfl) (by with_unfolding_all rfl) (by with_unfolding_all rfl) (by with_unfolding_all rfl) (by decide) (by with_unfolding_all rfl) (by decide) (by with_unfolding_all rfl) (by intro _; with_unfolding_all rfl) (by intro _; with_unfolding_all rfl) (by decide)
  repeat' ((fail_if_success (with_reducible show wpAny _ _ (exec (Stmt.While _ _ _ _) _) _ _ _)); (fail_if_success (with_reducible show wpAny _ _ (exec (Stmt.For _ _ _ _ _) _) _ _ _)); first | (k_unfold; (try dsimp only)) | (k_end; wrow_close) | walk1 | (dsimp only; walk1) | (dsimp only; k_unfold; (try dsimp only)) | (leave1; walk_say "STEP leave1"; try dsimp only) | fail "no step")
  rename Fr _ _ _ _ => F2
  rename News _ _ _ _ => N2
  rename IntsAre _ (List.take 4 script) => hi2
  refine ⟨_, _, _, _, rfl, ⟨_, (N2 _ (.head _)).1, rfl, _, rfl⟩, hi2, by simp only [List.length_take]; omega, F2, N2, ?_⟩
  intro D3 ys3 c3 h3 tk3 hi3 F3 N3 hn3
  have hn4 : ∀ p ∈ news₀, p.1 ≠ D3 := fun p hp => hn3 p (.tail _ hp)
  have hoff : OwnOff news₀ [D3] := fun p hp b hb => by rw [List.mem_singleton.mp hb]; exact hn4 p hp
  clear F2
  replace N3 := news_sub N3 (l' := (D3, listOf (List.toArray ys3) c3) :: news₀) (fun p hp => (List.mem_cons.mp hp).elim (fun e => e ▸ .head _) fun hp => .tail _ (.tail _ hp))
  clear N2
  repeat' ((fail_if_success (with_reducible show wpAny _ _ (exec (Stmt.While _ _ _ _) _) _ _ _)); (fail_if_success (with_reducible show wpAny _ _ (exec (Stmt.For _ _ _ _ _) _) _ _ _)); first | (k_unfold; (try dsimp only)) | (k_end; wrow_close) | walk1 | (dsimp only; walk1) | (dsimp only; k_unfold; (try dsimp only)) | (leave1; walk_say "STEP leave1"; try dsimp only) | fail "no step")
  rename Fr _ _ _ _ => F4
  rename News _ _ _ _ => N4
  refine for_start ?_
  repeat' ((fail_if_success (with_reducible show wpAny _ _ (exec (Stmt.While _ _ _ _) _) _ _ _)); (fail_if_success (with_reducible show wpAny _ _ (exec (Stmt.For _ _ _ _ _) _) _ _ _)); first | (k_unfold; (try dsimp only)) | (k_end; wrow_close) | walk1 | (dsimp only; walk1) | (dsimp only; k_unfold; (try dsimp only)) | (leave1; walk_say "STEP leave1"; try dsimp only) | fail "no step")
  refine loop_list (NJ1 D3 ys3 c3 t4 news₀) rfl (fun _ _ => rfl) hol' F4 N4 ⟨rfl, ⟨_, _, by with_unfolding_all rfl⟩, by with_unfolding_all rfl, by with_unfolding_all rfl⟩ ?_ ?_
  · intro i v I io h5 tk5 m5 nx5 hv hJ F5 N5 hnI hltI hLI
    obtain ⟨rfl, ⟨a5, t5, hm5⟩, hm6, hm7⟩ := hJ
    obtain ⟨vi, tv, hvi, rfl⟩ : ∃ n t, script[i]? = some n ∧ v = .int n t := by
      have hil : i < script.length := by rw [← hoi.length]; exact (List.getElem?_eq_some_iff.mp hv).1
      obtain ⟨t, ht⟩ := hoi.get i script[i] (List.getElem?_eq_getElem hil)
      rw [hv] at ht
      exact ⟨_, t, List.getElem?_eq_getElem hil, Option.some.inj ht⟩
    clear F4 N4
    replace F5 := fr_know hm5 F5
    refine wpAny_assign_Name ?_
    k_unmd
    k_fold
    repeat' ((fail_if_success (with_reducible show wpAny _ _ (exec (Stmt.While _ _ _ _) _) _ _ _)); (fail_if_success (with_reducible show wpAny _ _ (exec (Stmt.For _ _ _ _ _) _) _ _ _)); first | (k_unfold; (try dsimp only)) | (k_end; wrow_close) | walk1 | (dsimp only; walk1) | (dsimp only; k_unfold; (try dsimp only)) | (leave1; walk_say "STEP leave1"; try dsimp only) | fail "no step")
    rename Fr _ _ _ _ => F6
    rename News _ _ _ _ => N6
    exact ⟨_, _, _, _, rfl, F6, N6, hnI, rfl, ⟨_, _, by with_unfolding_all rfl⟩, hm6, hm7⟩
  intro h5 tk5 m5 nx5 hJ F5 N5
  clear F4 N4
  obtain ⟨rfl, ⟨a5, t5, hm5⟩, hm6, hm7⟩ := hJ
  dsimp only
  repeat' ((fail_if_success (with_reducible show wpAny _ _ (exec (Stmt.While _ _ _ _) _) _ _ _)); (fail_if_success (with_reducible show wpAny _ _ (exec (Stmt.For _ _ _ _ _) _) _ _ _)); first | (k_unfold; (try dsimp only)) | (k_end; wrow_close) | walk1 | (dsimp only; walk1) | (dsimp only; k_unfold; (try dsimp only)) | (leave1; walk_say "STEP leave1"; try dsimp only) | fail "no step")
  rename Fr _ _ _ _ => F6
  rename News _ _ _ _ => N6
  refine while_walk (NJ2 D3 t4 news₀) (4 - min 4 script.length) F6 N6 ⟨_, _, _, rfl, hi3, by simp only [List.length_take]; omega, ⟨_, _, hm5⟩, hm6, hm7⟩ ?_
  intro n7 h7 tk7 m7 nx7 hJ F7 N7
  clear F6 N6
  obtain ⟨us, fs, c, rfl, hus, hn, ⟨a7, t7, hm7⟩, hm8, hm9⟩ := hJ
  have hlen : us.length = fs.length := hus.length
  replace F7 := fr_know3 hm7 hm8 hm9 F7
  repeat' ((fail_if_success (with_reducible show wpAny _ _ (exec (Stmt.While _ _ _ _) _) _ _ _)); (fail_if_success (with_reducible show wpAny _ _ (exec (Stmt.For _ _ _ _ _) _) _ _ _)); first | (k_unfold; (try dsimp only)) | (k_end; wrow_close) | walk1 | (dsimp only; walk1) | (dsimp only; k_unfold; (try dsimp only)) | (leave1; walk_say "STEP leave1"; try dsimp only) | fail "no step")
  refine ⟨fun hb => ?_, fun hb => ?_⟩
  · have hb' := of_decide_eq_true hb
    clear hb
    k_unmd
    k_fold
    repeat' ((fail_if_success (with_reducible show wpAny _ _ (exec (Stmt.While _ _ _ _) _) _ _ _)); (fail_if_success (with_reducible show wpAny _ _ (exec (Stmt.For _ _ _ _ _) _) _ _ _)); first | (k_unfold; (try dsimp only)) | (k_end; wrow_close) | walk1 | (dsimp only; walk1) | (dsimp only; k_unfold; (try dsimp only)) | (leave1; walk_say "STEP leave1"; try dsimp only) | fail "no step")
    rename Fr _ _ _ _ => F8
    rename News _ _ _ _ => N8
    refine ⟨n7 - 1, by omega, _, _, _, _, rfl, F8, N8, us ++ [_], fs ++ [_], _, by rw [← List.push_toArray], hus.append (.cons _ _ .nil), by rw [List.length_append]; simp only [List.length_cons, List.length_nil]; omega, ⟨_, _, by with_unfolding_all rfl⟩, by with_unfolding_all rfl, by with_unfolding_all rfl⟩
  · have hb' := of_decide_eq_false hb
    clear hb
    dsimp only
    repeat' ((fail_if_success (with_reducible show wpAny _ _ (exec (Stmt.While _ _ _ _) _) _ _ _)); (fail_if_success (with_reducible show wpAny _ _ (exec (Stmt.For _ _ _ _ _) _) _ _ _)); first | (k_unfold; (try dsimp only)) | (k_end; wrow_close) | walk1 | (dsimp only; walk1) | (dsimp only; k_unfold; (try dsimp only)) | (leave1; walk_say "STEP leave1"; try dsimp only) | fail "no step")
    rename Fr h₀ _ _ _ => F8
    rename News h₀ _ _ _ => N8
    have hkeep : ∀ b o, s.heap.get? b = some o → h7.get? b = some o := fun b o e => by
      by_cases hm : ∃ p ∈ news₀, p.1 = b
      · obtain ⟨p, hp, rfl⟩ := hm
        have e2 := (N p hp).1
        rw [e] at e2
        cases e2
        exact (N8 _ (.tail _ hp)).1
      · exact F7.keep b o (hsub b o e fun p hp q => hm ⟨p, hp, q⟩)
    refine hret D3 us fs c h7 _ hus (by omega) F8 N8 hkeep fun b o e q => ?_
    subst q
    have e2 := (N7 _ (.head _)).2.2
    rw [hsub b o e hn4] at e2
    cases e2
end Mine

namespace Mine

def WJ1 (prog : Program) (w : World) (l d : Addr) (n : Int) (tn : Tok) (news₀ : List (Addr × Obj)) (i : Nat) (m : Str → Option Value) (nx : List (Addr × Obj)) : Prop :=
  ∃ od keys xs, nx = (d, od) :: (keys ++ news₀) ∧ DK prog w od keys xs ∧ xs.length ≤ 14 * i ∧ (∀ a b : Nat, a < b → b < i → Tour xs a b) ∧ (∀ p ∈ keys, p.1 ≠ d ∧ ∀ q ∈ news₀, q.1 ≠ p.1) ∧
    m (Str.ofString "found") = some (.ref l) ∧ m (Str.ofString "n") = some (.int n tn) ∧ m (Str.ofString "won") = some (.ref d)
def WJ2 (prog : Program) (w : World) (l d : Addr) (n : Int) (tn : Tok) (news₀ : List (Addr × Obj)) (I : Addr) (io : Obj) (i : Nat) (tv : Tok) (j : Nat) (m : Str → Option Value) (nx : List (Addr × Obj)) : Prop :=
  ∃ od keys xs, nx = (I, io) :: (d, od) :: (keys ++ news₀) ∧ DK prog w od keys xs ∧ xs.length ≤ 14 * i + 2 * j ∧ (∀ a b : Nat, a < b → b < i → Tour xs a b) ∧ (∀ a : Nat, a < j → Tour xs a i) ∧ (∀ p ∈ keys, p.1 ≠ d ∧ p.1 ≠ I ∧ ∀ q ∈ news₀, q.1 ≠ p.1) ∧
    m (Str.ofString "found") = some (.ref l) ∧ m (Str.ofString "n") = some (.int n tn) ∧ m (Str.ofString "won") = some (.ref d) ∧ m (Str.ofString "v") = some (.int (i : Int) tv)

def WJ3 (l d o D : Addr) (n : Nat) (nn : Int) (tn : Tok) (od : Obj) (keys news₀ : List (Addr × Obj)) (k : Nat) (m : Str → Option Value) (nx : List (Addr × Obj)) : Prop :=
  ∃ us ls c1 ws os c2, nx = (o, listOf (List.toArray ws) c2) :: (D, listOf (List.toArray us) c1) :: (d, od) :: (keys ++ news₀) ∧ IntsAre us ls ∧ IntsAre ws os ∧ (os ++ ls).Perm (upTo n) ∧ ls.length = k ∧
    m (Str.ofString "found") = some (.ref l) ∧ m (Str.ofString "n") = some (.int nn tn) ∧ m (Str.ofString "won") = some (.ref d) ∧ m (Str.ofString "left") = some (.ref D) ∧ m (Str.ofString "order_of") = some (.ref o)

set_option maxHeartbeats 8000000 in
theorem won_spec {w : World} {p : Program} {loose : List Str} {mean : ExcName → Option Value} {mg mb : Str → Option Value} {env : Env} {A₀ : Around} {base h₀ : Heap} {L : Addr} {m : Str → Option Value} {s : Shared} {Q : Value → Shared → Prop}
    {l : Addr} {vs : List Value} {fs : List Int} {news₀ : List (Addr × Obj)}
    (B : Below A₀ base [] h₀) (F : Fr h₀ L s.heap m) (X : (hd.heap_39 w.params).In h₀) (N : News h₀ L s.heap news₀) (T : Top p loose mean mg mb h₀) (hf : env.frame = some L) (hk : env.scope.kind = .function)
    (hol : s.heap.IsList l vs.toArray) (hoi : IntsAre vs fs) (hot : ∀ p ∈ news₀, p.1 ≠ l) (hz : fs.length = 4)
    (hret : ∀ (r d o : Addr) (od : Obj) (n : Nat) (tn : Tok) us ord c xs keys W h' tk', 1 ≤ n → n ≤ 7 → IntsAre us ord → ord.Perm (upTo n) → Fr h₀ L h' m → News h₀ L h' ((r, tupObj [.int (n : Int) tn, .ref d, .ref o]) :: (o, listOf (List.toArray us) c) :: (d, od) :: (keys ++ news₀)) →
      DK Challenge.rw_bz6013_01.row.prog w od keys xs → Says xs W (upTo n) → (∀ u ∈ upTo n, ∀ v ∈ upTo n, u ≠ v → W u v = !W v u) → (∀ b o, s.heap.get? b = some o → h'.get? b = some o) →
      (∀ b x, s.heap.get? b = some x → b ≠ r ∧ b ≠ o ∧ b ≠ d ∧ ∀ p ∈ keys, b ≠ p.1) → (@Ne Nat o d ∧ ∀ p ∈ keys, p.1 ≠ o ∧ p.1 ≠ d) → Q (.ref r) { s with heap := h', toks := tk' }) :
    wpAny (model Challenge.rw_bz6013_01.row.prog w) (callerA.deeper env) (call (.ref 31) [.ref l]) Q (fun _ _ => False) s := by
  w_top off
  have hX := X; revert hX; k_fill; intro _hX; clear _hX
  refine wpAny_call ?_
  k_dflt (refine' enter_cells B F X N T ?kA hf hk ?k6 ?k7 ?k8 ?k9 ?kB ?kD ?_ ?c2 ?c3 ?c4; (case kA => exact rfl); (case k6 => k_is); (case k7 => k_is); (case k8 => k_room); (case k9 => exact BindsTo.of_eq rfl); (case kB => exact rfl); (case kD => decide +kernel); (case c2 => exact rfl); (case c3 => exact rfl); (case c4 => exact rfl))
  intro g' L' h' tk' cells' FG' GS' F' N' Y' B' X' T' l1 hsz
  have hsub : ∀ b o, s.heap.get? b = some o → (∀ p ∈ news₀, p.1 ≠ b) → g'.get? b = some o := fun b o e n => GS' b o e fun hm => by
    obtain ⟨q, hq, e2⟩ := List.mem_map.mp hm
    exact n q hq e2
  have hol' : g'.IsList l vs.toArray := by
    obtain ⟨oo, ho, r⟩ := hol
    exact ⟨oo, hsub _ _ ho hot, r⟩
  cases Y'
  simp only [List.nil_append] at N'
  have hMk := kstMark
  try dsimp only
  try k_unmd
  try k_fold
  repeat' ((fail_if_success (with_reducible show wpAny _ _ (exec (Stmt.Assign _ (Expr.ListComp _ _ _ _) _) _) _ _ _)); (fail_if_success (with_reducible show wpAny _ _ (exec (Stmt.While _ _ _ _) _) _ _ _)); (fail_if_success (with_reducible show wpAny _ _ (exec (Stmt.For _ _ _ _ _) _) _ _ _)); first | (k_unfold; (try dsimp only)) | (k_end; wrow_close) | walk1 | (dsimp only; walk1) | (dsimp only; k_unfold; (try dsimp only)) | (leave1; walk_say "STEP leave1"; try dsimp only) | fail "no step")
  obtain ⟨n, hn1, hn7, en⟩ : ∃ n : Nat, 1 ≤ n ∧ n ≤ 7 ∧ 1 + (fs.getD (Int.toNat 0) 0).fmod 7 = (n : Int) := by
    have h1 := Int.fmod_nonneg_of_pos (fs.getD (Int.toNat 0) 0) (show (0 : Int) < 7 by omega)
    have h2 := Int.fmod_lt_of_pos (fs.getD (Int.toNat 0) 0) (show (0 : Int) < 7 by omega)
    exact ⟨(1 + (fs.getD (Int.toNat 0) 0).fmod 7).toNat, by omega, by omega, by omega⟩
  rename Obj.IsDictOf (intKind _ _) _ _ => hdi
  refine for_start ?_
  repeat' ((fail_if_success (with_reducible show wpAny _ _ (exec (Stmt.Assign _ (Expr.ListComp _ _ _ _) _) _) _ _ _)); (fail_if_success (with_reducible show wpAny _ _ (exec (Stmt.While _ _ _ _) _) _ _ _)); (fail_if_success (with_reducible show wpAny _ _ (exec (Stmt.For _ _ _ _ _) _) _ _ _)); first | (k_unfold; (try dsimp only)) | (k_end; wrow_close) | walk1 | (dsimp only; walk1) | (dsimp only; k_unfold; (try dsimp only)) | (leave1; walk_say "STEP leave1"; try dsimp only) | fail "no step")
  rename Fr _ _ _ _ => F2
  rename News _ _ _ _ => N2
  rename IsRange _ _ _ _ _ _ _ _ => rg
  rename (∀ (p : Addr × Obj), p ∈ news₀ → p.fst < _) => hld
  have hd0 : ∀ q ∈ news₀, q.1 ≠ _ := fun q hq => Nat.ne_of_lt (hld q hq)
  refine loop_range n (WJ1 Challenge.rw_bz6013_01.row.prog w l _ _ _ news₀) F2 N2 rfl (fun _ _ => rfl) rg en (by omega)
    ⟨_, [], [], rfl, DK.empty hdi, Nat.zero_le _, fun a b _ h => absurd h (Nat.not_lt_zero _), fun p hp => (by cases hp), by with_unfolding_all rfl, by with_unfolding_all rfl, by with_unfolding_all rfl⟩ ?_ ?_
  · intro i tv I io h3 tk3 m3 nx3 hi hJ F3 N3 hnI hltI hLI
    obtain ⟨od, keys, xs, rfl, hDK, hxz, hT, hkk, hm1, hm2, hm3⟩ := hJ
    clear F2 N2
    replace F3 := fr_know3 hm1 hm2 hm3 F3
    refine wpAny_assign_Name ?_
    k_unmd
    k_fold
    repeat' ((fail_if_success (with_reducible show wpAny _ _ (exec (Stmt.Assign _ (Expr.ListComp _ _ _ _) _) _) _ _ _)); (fail_if_success (with_reducible show wpAny _ _ (exec (Stmt.While _ _ _ _) _) _ _ _)); (fail_if_success (with_reducible show wpAny _ _ (exec (Stmt.For _ _ _ _ _) _) _ _ _)); first | (k_unfold; (try dsimp only)) | (k_end; wrow_close) | walk1 | (dsimp only; walk1) | (dsimp only; k_unfold; (try dsimp only)) | (leave1; walk_say "STEP leave1"; try dsimp only) | fail "no step")
    refine for_start ?_
    repeat' ((fail_if_success (with_reducible show wpAny _ _ (exec (Stmt.Assign _ (Expr.ListComp _ _ _ _) _) _) _ _ _)); (fail_if_success (with_reducible show wpAny _ _ (exec (Stmt.While _ _ _ _) _) _ _ _)); (fail_if_success (with_reducible show wpAny _ _ (exec (Stmt.For _ _ _ _ _) _) _ _ _)); first | (k_unfold; (try dsimp only)) | (k_end; wrow_close) | walk1 | (dsimp only; walk1) | (dsimp only; k_unfold; (try dsimp only)) | (leave1; walk_say "STEP leave1"; try dsimp only) | fail "no step")
    rename Fr _ _ _ _ => F4
    rename News _ _ _ _ => N4
    rename IsRange _ _ _ _ _ _ _ _ => rg4
    refine loop_range i (WJ2 Challenge.rw_bz6013_01.row.prog w l _ _ _ news₀ I io i _) F4 N4 rfl (fun _ _ => rfl) rg4 rfl (by omega)
      ⟨od, keys, xs, rfl, hDK, hxz, hT, fun a h => absurd h (Nat.not_lt_zero _), fun p hp => ⟨(hkk p hp).1, hnI p (.tail _ (List.mem_append.mpr (.inl hp))), (hkk p hp).2⟩, by with_unfolding_all rfl, by with_unfolding_all rfl, by with_unfolding_all rfl, by with_unfolding_all rfl⟩ ?_ ?_
    · intro j tj I2 io2 h5 tk5 m5 nx5 hj hJ F5 N5 hnI2 hltI2 hLI2
      obtain ⟨od5, keys5, xs5, rfl, hDK5, hxz5, hT5, hTi5, hkk5, hm1, hm2, hm3, hm4⟩ := hJ
      clear F4 N4 rg4
      replace F5 := fr_know4 hm1 hm2 hm3 hm4 F5
      refine wpAny_assign_Name ?_
      k_unmd
      k_fold
      repeat' ((fail_if_success (with_reducible show wpAny _ _ (binaryOp .Pow _ _) _ _ _)); (fail_if_success (with_reducible show wpAny _ _ (setItem _ _ _) _ _ _)); first | (k_unfold; (try dsimp only)) | (k_end; wrow_close) | walk1 | (dsimp only; walk1) | (dsimp only; k_unfold; (try dsimp only)) | (leave1; walk_say "STEP leave1"; try dsimp only) | fail "no step")
      have he1 : 0 ≤ ((i : Int) * ((i : Int) - 1)).fdiv 2 ∧ ((i : Int) * ((i : Int) - 1)).fdiv 2 ≤ 15 := by
        rcases (by omega : i = 0 ∨ i = 1 ∨ i = 2 ∨ i = 3 ∨ i = 4 ∨ i = 5 ∨ i = 6) with rfl | rfl | rfl | rfl | rfl | rfl | rfl <;> decide
      refine pow_hide (by omega) (by omega) (by decide) (by decide) (pow_lt (a := 2) (n := 29) (by decide) (by omega) (by decide)) ?_
      intro q hq0 hq1
      repeat' ((fail_if_success (with_reducible show wpAny _ _ (newTuple _) _ _ _)); (fail_if_success (with_reducible show wpAny _ _ (setItem _ _ _) _ _ _)); first | (k_unfold; (try dsimp only)) | (k_end; wrow_close) | walk1 | (dsimp only; walk1) | (dsimp only; k_unfold; (try dsimp only)) | (leave1; walk_say "STEP leave1"; try dsimp only) | fail "no step")
      rename Fr _ _ _ _ => F6
      rename News _ _ _ _ => N6
      generalize (((fs.getD (Int.toNat 1) 0).fdiv q).fmod 2 == 1) = c at *
      have hlt6 := fun p hp => Heap.lt_size (N6 p hp).1
      have hij : (j : Int) ≠ (i : Int) := by omega
      refine wpAny_newTuple ?_ (by rw [sizeLine_eq]; exact Nat.le_of_ble_eq_true rfl)
      refine set_tab (od := od5) (keys := (_, tupObj [.int (j : Int) tj, .int (i : Int) tv]) :: keys5) (by units_room) (F6.push _) (N6.push F6 _) (.tail _ (.tail _ (.tail _ (.head _)))) (hDK5.mono fun p hp => .tail _ hp) ?_ (.head _) (by omega) ?_
      · intro p hp
        rcases List.mem_cons.mp hp with rfl | hp
        · exact ⟨.head _, Nat.ne_of_gt (hlt6 _ (.tail _ (.tail _ (.head _))))⟩
        · exact ⟨.tail _ (.tail _ (.tail _ (.tail _ (List.mem_append.mpr (.inl hp))))), (hkk5 p hp).1⟩
      intro h7 od7 F7 N7 hDK7
      have N8 := N7 ((I2, io2) :: (I, io) :: (_, tupObj [.int (j : Int) tj, .int (i : Int) tv]) :: (keys5 ++ news₀)) (fun p hp => by
        rcases List.mem_cons.mp hp with rfl | hp
        · exact ⟨.tail _ (.head _), fun e => hnI2 _ (.tail _ (.head _)) e.symm⟩
        rcases List.mem_cons.mp hp with rfl | hp
        · exact ⟨.tail _ (.tail _ (.head _)), fun e => hnI _ (.head _) e.symm⟩
        rcases List.mem_cons.mp hp with rfl | hp
        · exact ⟨.head _, Nat.ne_of_gt (hlt6 _ (.tail _ (.tail _ (.head _))))⟩
        · refine ⟨.tail _ (.tail _ (.tail _ (.tail _ hp))), ?_⟩
          rcases List.mem_append.mp hp with hp | hp
          · exact (hkk5 p hp).1
          · exact hd0 p hp)
      clear N7 N6 F6
      k_unmd
      k_fold
      repeat' ((fail_if_success (with_reducible show wpAny _ _ (newTuple _) _ _ _)); (fail_if_success (with_reducible show wpAny _ _ (setItem _ _ _) _ _ _)); first | (k_unfold; (try dsimp only)) | (k_end; wrow_close) | walk1 | (dsimp only; walk1) | (dsimp only; k_unfold; (try dsimp only)) | (leave1; walk_say "STEP leave1"; try dsimp only) | fail "no step")
      have hlt8 := fun p hp => Heap.lt_size (N8 p hp).1
      refine wpAny_newTuple ?_ (by rw [sizeLine_eq]; exact Nat.le_of_ble_eq_true rfl)
      refine set_tab (od := od7) (keys := (_, tupObj [.int (i : Int) tv, .int (j : Int) tj]) :: (_, tupObj [.int (j : Int) tj, .int (i : Int) tv]) :: keys5) (by units_room) (F7.push _) (N8.push F7 _) (.tail _ (.head _)) (hDK7.mono fun p hp => .tail _ hp) ?_ (.head _) (Nat.le_trans stored_length (by omega)) ?_
      · intro p hp
        rcases List.mem_cons.mp hp with rfl | hp
        · exact ⟨.head _, Nat.ne_of_gt (hlt8 _ (.head _))⟩
        rcases List.mem_cons.mp hp with rfl | hp
        · exact ⟨.tail _ (.tail _ (.tail _ (.tail _ (.head _)))), Nat.ne_of_gt (hlt6 _ (.tail _ (.tail _ (.head _))))⟩
        · exact ⟨.tail _ (.tail _ (.tail _ (.tail _ (.tail _ (List.mem_append.mpr (.inl hp)))))), (hkk5 p hp).1⟩
      intro h9 od9 F9 N9 hDK9
      have N10 := N9 ((I2, io2) :: (I, io) :: (_, tupObj [.int (i : Int) tv, .int (j : Int) tj]) :: (_, tupObj [.int (j : Int) tj, .int (i : Int) tv]) :: (keys5 ++ news₀)) (fun p hp => by
        rcases List.mem_cons.mp hp with rfl | hp
        · exact ⟨.tail _ (.tail _ (.head _)), fun e => hnI2 _ (.tail _ (.head _)) e.symm⟩
        rcases List.mem_cons.mp hp with rfl | hp
        · exact ⟨.tail _ (.tail _ (.tail _ (.head _))), fun e => hnI _ (.head _) e.symm⟩
        rcases List.mem_cons.mp hp with rfl | hp
        · exact ⟨.head _, Nat.ne_of_gt (hlt8 _ (.head _))⟩
        rcases List.mem_cons.mp hp with rfl | hp
        · exact ⟨.tail _ (.tail _ (.tail _ (.tail _ (.head _)))), Nat.ne_of_gt (hlt6 _ (.tail _ (.tail _ (.head _))))⟩
        · refine ⟨.tail _ (.tail _ (.tail _ (.tail _ (.tail _ hp)))), ?_⟩
          rcases List.mem_append.mp hp with hp | hp
          · exact (hkk5 p hp).1
          · exact hd0 p hp)
      clear N9
      (try k_unmd)
      (try dsimp only)
      repeat' ((fail_if_success (with_reducible show wpAny _ _ (newTuple _) _ _ _)); (fail_if_success (with_reducible show wpAny _ _ (setItem _ _ _) _ _ _)); first | (k_unfold; (try dsimp only)) | (k_end; wrow_close) | walk1 | (dsimp only; walk1) | (dsimp only; k_unfold; (try dsimp only)) | (leave1; walk_say "STEP leave1"; try dsimp only) | fail "no step")
      have z1 := hlt6 _ (.head _)
      have z2 := hlt6 _ (.tail _ (.head _))
      have z3 := hlt8 _ (.tail _ (.head _))
      have z4 := hlt8 _ (.tail _ (.tail _ (.head _)))
      have zd := hnI2 _ (.tail _ (.head _))
      rename Fr _ _ _ _ => F10
      exact ⟨_, _, _, _, rfl, F10, news_sub N10 (l' := (I2, io2) :: (I, io) :: (_, od9) :: (((_, tupObj [.int (i : Int) tv, .int (j : Int) tj]) :: (_, tupObj [.int (j : Int) tj, .int (i : Int) tv]) :: keys5) ++ news₀)) (fun p hp => by
          simp only [List.mem_cons, List.mem_append, List.cons_append] at hp ⊢
          rcases hp with h | h | h | h | h | h | h <;> simp [h]),
        (fun p hp => by
          simp only [List.mem_cons, List.mem_append, List.cons_append] at hp
          rcases hp with h | h | h | h | h | h
          · rw [h]; exact hnI2 _ (.head _)
          · rw [h]; exact zd
          · rw [h]; exact Nat.ne_of_gt z3
          · rw [h]; exact Nat.ne_of_gt z1
          · exact hnI2 _ (.tail _ (.tail _ (List.mem_append.mpr (.inl h))))
          · exact hnI2 _ (.tail _ (.tail _ (List.mem_append.mpr (.inr h))))),
        od9, _, _, rfl, hDK9, Nat.le_trans stored_length (Nat.le_trans (Nat.succ_le_succ stored_length) (by omega)),
        fun a b hab hbi => Tour.old (by omega) (by omega) (hT5 a b hab hbi),
        fun a ha => (Nat.lt_succ_iff_lt_or_eq.mp ha).elim (fun ha => Tour.old (by omega) (by omega) (hTi5 a ha)) (fun e => by rw [e]; exact Tour.new hij),
        (fun p hp => by
          simp only [List.mem_cons] at hp
          rcases hp with h | h | h
          · rw [h]; exact ⟨Nat.ne_of_gt (hlt8 _ (.head _)), Nat.ne_of_gt z4, fun q hq => Nat.ne_of_lt (hlt8 q (.tail _ (.tail _ (.tail _ (.tail _ (List.mem_append.mpr (.inr hq)))))))⟩
          · rw [h]; exact ⟨Nat.ne_of_gt (hlt6 _ (.tail _ (.tail _ (.head _)))), Nat.ne_of_gt z2, fun q hq => Nat.ne_of_lt (hlt6 q (.tail _ (.tail _ (.tail _ (List.mem_append.mpr (.inr hq))))))⟩
          · exact hkk5 p h),
        by with_unfolding_all rfl, by with_unfolding_all rfl, by with_unfolding_all rfl, by with_unfolding_all rfl⟩
    · intro h5 tk5 m5 nx5 hJ F5 N5
      obtain ⟨od5, keys5, xs5, rfl, hDK5, hxz5, hT5, hTi5, hkk5, hm1, hm2, hm3, hm4⟩ := hJ
      clear F4 N4 rg4
      (try k_unmd)
      (try dsimp only)
      repeat' ((fail_if_success (with_reducible show wpAny _ _ (exec (Stmt.Assign _ (Expr.ListComp _ _ _ _) _) _) _ _ _)); (fail_if_success (with_reducible show wpAny _ _ (exec (Stmt.While _ _ _ _) _) _ _ _)); (fail_if_success (with_reducible show wpAny _ _ (exec (Stmt.For _ _ _ _ _) _) _ _ _)); (fail_if_success (with_reducible show wpAny _ _ (setItem _ _ _) _ _ _)); first | (k_unfold; (try dsimp only)) | (k_end; wrow_close) | walk1 | (dsimp only; walk1) | (dsimp only; k_unfold; (try dsimp only)) | (leave1; walk_say "STEP leave1"; try dsimp only) | fail "no step")
      rename Fr _ _ _ _ => F6
      rename News _ _ _ _ => N6
      have zd := hnI _ (.head _)
      exact ⟨_, _, _, _, rfl, F6, N6, (fun p hp => by
          rcases List.mem_cons.mp hp with rfl | hp
          · exact zd
          · rcases List.mem_append.mp hp with hp | hp
            · exact (hkk5 p hp).2.1
            · exact hnI p (.tail _ (List.mem_append.mpr (.inr hp)))),
        od5, keys5, xs5, rfl, hDK5, by omega, fun a b hab hbi => (Nat.lt_succ_iff_lt_or_eq.mp hbi).elim (fun hb => hT5 a b hab hb) (fun e => by rw [e] at hab ⊢; exact hTi5 a hab),
        fun p hp => ⟨(hkk5 p hp).1, (hkk5 p hp).2.2⟩, hm1, hm2, hm3⟩
  · intro h5 tk5 m5 nx5 hJ F5 N5
    obtain ⟨od5, keys5, xs5, rfl, hDK5, hxz5, hT5, hkk5, hm1, hm2, hm3⟩ := hJ
    clear F2 N2 rg
    replace F5 := fr_know3 hm1 hm2 hm3 F5
    (try k_unmd)
    (try dsimp only)
    repeat' ((fail_if_success (with_reducible show wpAny _ _ (exec (Stmt.Assign _ (Expr.ListComp _ _ _ _) _) _) _ _ _)); (fail_if_success (with_reducible show wpAny _ _ (exec (Stmt.While _ _ _ _) _) _ _ _)); (fail_if_success (with_reducible show wpAny _ _ (exec (Stmt.For _ _ _ _ _) _) _ _ _)); (fail_if_success (with_reducible show wpAny _ _ (setItem _ _ _) _ _ _)); first | (k_unfold; (try dsimp only)) | (k_end; wrow_close) | walk1 | (dsimp only; walk1) | (dsimp only; k_unfold; (try dsimp only)) | (leave1; walk_say "STEP leave1"; try dsimp only) | fail "no step")
    rename Fr _ _ _ _ => F6
    refine comp_rangeA (fun _ => true) (fun k => (k : Int)) F6 ?_ (by with_unfolding_all rfl) rfl (by with_unfolding_all rfl) (by with_unfolding_all rfl) (by with_unfolding_all rfl) (by with_unfolding_all rfl) (by decide) (by with_unfolding_all rfl) (by decide) (by with_unfolding_all rfl) (by intro _; with_unfolding_all rfl)
    repeat' ((fail_if_success (with_reducible show wpAny _ _ (exec (Stmt.Assign _ (Expr.ListComp _ _ _ _) _) _) _ _ _)); (fail_if_success (with_reducible show wpAny _ _ (exec (Stmt.While _ _ _ _) _) _ _ _)); (fail_if_success (with_reducible show wpAny _ _ (exec (Stmt.For _ _ _ _ _) _) _ _ _)); (fail_if_success (with_reducible show wpAny _ _ (setItem _ _ _) _ _ _)); first | (k_unfold; (try dsimp only)) | (k_end; wrow_close) | walk1 | (dsimp only; walk1) | (dsimp only; k_unfold; (try dsimp only)) | (leave1; walk_say "STEP leave1"; try dsimp only) | fail "no step")
    rename Fr _ _ _ _ => F7
    rename News _ _ _ _ => N7
    rename IsRange _ _ _ _ _ _ _ _ => rg
    refine ⟨_, _, n, _, _, _, _, rfl, rg, en, by omega, F7, N7, ?_, ?_, ?_⟩
    · intro C k t s₂ m₂ hk F8 N8 hm
      exact wpAny_tests_nil ⟨rfl, _, _, rfl, fun _ _ e => e⟩
    · intro C k t s₂ m₂ hk F8 N8 hm
      exact nameB_L F8 hm ⟨⟨_, rfl⟩, _, _, rfl, fun _ _ e => e⟩ (by with_unfolding_all rfl) (by with_unfolding_all rfl) (by decide)
    intro D ys c h9 tk9 hys F9 N9 hn9
    have e9 : ((List.range n).filter fun _ => true).map (fun k : Nat => (k : Int)) = upTo n := by rw [List.filter_eq_self.mpr (fun _ _ => rfl)]
    rw [e9] at hys
    clear F7 N7 rg
    (try k_unmd)
    (try dsimp only)
    repeat' ((fail_if_success (with_reducible show wpAny _ _ (exec (Stmt.Assign _ (Expr.ListComp _ _ _ _) _) _) _ _ _)); (fail_if_success (with_reducible show wpAny _ _ (exec (Stmt.While _ _ _ _) _) _ _ _)); (fail_if_success (with_reducible show wpAny _ _ (exec (Stmt.For _ _ _ _ _) _) _ _ _)); (fail_if_success (with_reducible show wpAny _ _ (setItem _ _ _) _ _ _)); first | (k_unfold; (try dsimp only)) | (k_end; wrow_close) | walk1 | (dsimp only; walk1) | (dsimp only; k_unfold; (try dsimp only)) | (leave1; walk_say "STEP leave1"; try dsimp only) | fail "no step")
    rename Fr _ _ _ _ => F10
    rename News _ _ _ _ => N10
    rename (_ ∧ _ ∧ AllLt _ _) => hl10
    have hdD : @Ne Nat _ D := hn9 _ (.head _)
    have hDo := ltN hl10.1
    have hdo := ltN hl10.2.1
    have hoff := (show OwnOff (keys5 ++ news₀) [_, D] from fun p hp b hb => by
      rcases List.mem_cons.mp hb with rfl | hb
      · exact neN (Nat.ne_of_lt (kst_ltOf hl10.2.2 p hp))
      · rw [List.mem_singleton.mp hb]; exact hn9 p (.tail _ hp))
    refine while_walk (WJ3 l _ _ D n _ _ od5 keys5 news₀) n F10 N10 ⟨ys, upTo n, c, [], [], 0, rfl, hys, .nil, List.Perm.refl _, by simp [upTo], by with_unfolding_all rfl, by with_unfolding_all rfl, by with_unfolding_all rfl, by with_unfolding_all rfl, by with_unfolding_all rfl⟩ ?_
    intro k h11 tk11 m11 nx11 hJ F11 N11
    clear F10 N10
    obtain ⟨us, ls, c1, ws, os, c2, rfl, hus, hws, hperm, hlk, hm1, hm2, hm3, hm4, hm5⟩ := hJ
    replace F11 := fr_know5 hm1 hm2 hm3 hm4 hm5 F11
    have hpl : os.length + ls.length = n := by rw [← List.length_append, hperm.length_eq]; simp [upTo]
    have hul : us.length = ls.length := hus.length
    have hwl : ws.length = os.length := hws.length
    repeat' ((fail_if_success (with_reducible show wpAny _ _ (exec (Stmt.Assign _ (Expr.ListComp _ _ _ _) _) _) _ _ _)); (fail_if_success (with_reducible show wpAny _ _ (exec (Stmt.While _ _ _ _) _) _ _ _)); (fail_if_success (with_reducible show wpAny _ _ (exec (Stmt.For _ _ _ _ _) _) _ _ _)); (fail_if_success (with_reducible show wpAny _ _ (setItem _ _ _) _ _ _)); (fail_if_success (with_reducible show wpAny _ _ (binaryOp .Pow _ _) _ _ _)); first | (k_unfold; (try dsimp only)) | (k_end; wrow_close) | walk1 | (dsimp only; walk1) | (dsimp only; k_unfold; (try dsimp only)) | (leave1; walk_say "STEP leave1"; try dsimp only) | fail "no step")
    rename Fr _ _ _ _ => F12
    rename News _ _ _ _ => N12
    replace N12 := news_sub N12 (l' := (_, listOf (List.toArray ws) c2) :: (D, listOf (List.toArray us) c1) :: (_, od5) :: (keys5 ++ news₀)) (fun p hp => .tail _ hp)
    refine ⟨fun hb => ?_, fun hb => ?_⟩
    · have hpos : 0 < ls.length := by
        rcases ls with _ | ⟨x, r⟩
        · simp at hb
        · exact Nat.succ_pos _
      clear hb
      k_unmd
      k_fold
      repeat' ((fail_if_success (with_reducible show wpAny _ _ (exec (Stmt.Assign _ (Expr.ListComp _ _ _ _) _) _) _ _ _)); (fail_if_success (with_reducible show wpAny _ _ (exec (Stmt.While _ _ _ _) _) _ _ _)); (fail_if_success (with_reducible show wpAny _ _ (exec (Stmt.For _ _ _ _ _) _) _ _ _)); (fail_if_success (with_reducible show wpAny _ _ (setItem _ _ _) _ _ _)); (fail_if_success (with_reducible show wpAny _ _ (binaryOp .Pow _ _) _ _ _)); first | (k_unfold; (try dsimp only)) | (k_end; wrow_close) | walk1 | (dsimp only; walk1) | (dsimp only; k_unfold; (try dsimp only)) | (leave1; walk_say "STEP leave1"; try dsimp only) | fail "no step")
      refine pow_hide (by omega) (by omega) (by decide) (by decide) (pow_lt (a := 3) (n := 7) (by decide) (by omega) (by decide)) ?_
      intro q hq0 hq1
      repeat' ((fail_if_success (with_reducible show wpAny _ _ (call (.builtin "list.pop") _) _ _ _)); first | (k_unfold; (try dsimp only)) | (k_end; wrow_close) | walk1 | (dsimp only; walk1) | (dsimp only; k_unfold; (try dsimp only)) | (leave1; walk_say "STEP leave1"; try dsimp only) | fail "no step")
      rename Fr _ _ _ _ => F13
      rename News _ _ _ _ => N13
      have hidx0 := Int.fmod_nonneg_of_pos ((fs.getD (Int.toNat 2) 0).fdiv q) (show (0 : Int) < (ls.length : Int) by omega)
      have hidx1 := Int.fmod_lt_of_pos ((fs.getD (Int.toNat 2) 0).fdiv q) (show (0 : Int) < (ls.length : Int) by omega)
      refine pop_int F13 N13 hus hidx0 hidx1 (by omega) (by k_upd) ?_
      intro h14 t14 F14 N14 hi14
      clear F13 N13
      (try dsimp only [List.nil_append, List.cons_append] at N14)
      (try k_unmd)
      (try dsimp only)
      repeat' ((fail_if_success (with_reducible show wpAny _ _ (call (.builtin "list.pop") _) _ _ _)); first | (k_unfold; (try dsimp only)) | (k_end; wrow_close) | walk1 | (dsimp only; walk1) | (dsimp only; k_unfold; (try dsimp only)) | (leave1; walk_say "STEP leave1"; try dsimp only) | fail "no step")
      rename Fr _ _ _ _ => F15
      rename News _ _ _ _ => N15
      have hk15 : (((fs.getD (Int.toNat 2) 0).fdiv q).fmod (ls.length : Int)).toNat < ls.length := by omega
      refine ⟨ls.length - 1, by omega, _, _, _, _, rfl, F15, N15, _, _, _, ws ++ [_], os ++ [_], _, by rw [← List.push_toArray], hi14, hws.append (.cons _ _ .nil), ?_, List.length_eraseIdx_of_lt hk15, by with_unfolding_all rfl, by with_unfolding_all rfl, by with_unfolding_all rfl, by with_unfolding_all rfl, by with_unfolding_all rfl⟩
      rw [List.append_assoc]
      exact (List.Perm.append_left os (List.perm_append_comm.trans (erase_perm hk15))).trans hperm
    · have h0 : ls = [] := by simpa using hb
      clear hb
      subst h0
      rw [List.append_nil] at hperm
      have hlt12 := fun p hp => Heap.lt_size (N12 p hp).1
      (try k_unmd)
      (try dsimp only)
      repeat' ((fail_if_success (with_reducible show wpAny _ _ (exec (Stmt.Assign _ (Expr.ListComp _ _ _ _) _) _) _ _ _)); (fail_if_success (with_reducible show wpAny _ _ (exec (Stmt.While _ _ _ _) _) _ _ _)); (fail_if_success (with_reducible show wpAny _ _ (exec (Stmt.For _ _ _ _ _) _) _ _ _)); (fail_if_success (with_reducible show wpAny _ _ (setItem _ _ _) _ _ _)); (fail_if_success (with_reducible show wpAny _ _ (binaryOp .Pow _ _) _ _ _)); first | (k_unfold; (try dsimp only)) | (k_end; wrow_close) | walk1 | (dsimp only; walk1) | (dsimp only; k_unfold; (try dsimp only)) | (leave1; walk_say "STEP leave1"; try dsimp only) | fail "no step")
      rename Fr h₀ _ _ _ => F16
      rename News h₀ _ _ _ => N16
      rename Fr g' _ _ _ => FL
      rename News g' _ _ _ => NL
      rw [en] at N16
      have tail5 : ∀ {a b c e : Addr × Obj} {q : Addr × Obj}, q ∈ news₀ → q ∈ a :: b :: c :: e :: (keys5 ++ news₀) := fun hq => .tail _ (.tail _ (.tail _ (.tail _ (List.mem_append.mpr (.inr hq)))))
      have fresh : ∀ a, g'.get? a = none → (∀ q ∈ news₀, q.1 ≠ a) → ∀ b x, s.heap.get? b = some x → b ≠ a := fun a hg hq b x e h => by
        subst h
        rw [hsub b x e hq] at hg
        cases hg
      refine hret _ _ _ od5 n _ ws os c2 xs5 keys5 (wonOf xs5) _ _ hn1 hn7 hws hperm F16 (news_drop N16) hDK5 (tour_says hT5).1 (tour_says hT5).2 ?_ ?_ ?_
      · intro b o e
        by_cases hm : ∃ p ∈ news₀, p.1 = b
        · obtain ⟨p, hp, rfl⟩ := hm
          have e2 := (N p hp).1
          rw [e] at e2
          cases e2
          exact (N16 _ (tail5 hp)).1
        · exact FL.keep b o (hsub b o e fun p hp q => hm ⟨p, hp, q⟩)
      · intro b x e
        refine ⟨fresh _ (NL _ (.head _)).2.2 (fun q hq => Nat.ne_of_lt (hlt12 q (.tail _ (.tail _ (.tail _ (List.mem_append.mpr (.inr hq))))))) b x e,
          fresh _ (NL _ (.tail _ (.head _))).2.2 (fun q hq => Nat.ne_of_lt (kst_ltOf hl10.2.2 q (List.mem_append.mpr (.inr hq)))) b x e,
          fresh _ (NL _ (.tail _ (.tail _ (.tail _ (.head _))))).2.2 hd0 b x e,
          fun p hp => fresh _ (NL p (.tail _ (.tail _ (.tail _ (.tail _ (List.mem_append.mpr (.inl hp))))))).2.2 (hkk5 p hp).2 b x e⟩
      · exact ⟨Nat.ne_of_gt hdo, fun p hp => ⟨Nat.ne_of_lt (kst_ltOf hl10.2.2 p (List.mem_append.mpr (.inl hp))), (hkk5 p hp).1⟩⟩
end Mine

namespace Mine

local macro_rules | `(tactic| walk_at "eval Name") => `(tactic| (k_here; (with_reducible show wpAny _ _ (eval _ (compEnvC _ _ _ _)) _ _ _); k_dflt (first
  | (refine' nameB_L ?F ?v ?_ ?a ?b ?d; (case a => rfl); (case b => rfl); (case d => decide); (case F => k_asm); (case v => assumption); k_whole)
  | (refine' nameB_C ?N ?c ?m ?d ?_ ?a ?b ?e; (case a => rfl); (case b => rfl); (case e => decide); (case N => k_asm); (case c => rfl); (case m => k_mem); (case d => k_asm); k_whole))))
local macro_rules | `(tactic| walk_at "subscriptTail") => `(tactic| (k_here; (with_reducible show wpAny _ _ (subscriptTail _ _ (Value.ref _) (Value.int _ _)) _ _ _); k_dflt (refine' item_at ?N ?m ?i ?z0 ?z1 ?z2 ?_ ?hs; (case N => k_asm); (case m => k_mem); (case i => assumption); (case z0 => omega); (case z1 => omega); (case z2 => omega); (case hs => with_unfolding_all rfl); k_whole); intro _))

theorem cell_nf {o : Obj} {x : Option Value} (h : o.data = .cell x) : ∀ vs, o.data ≠ .fields vs := by
  intro vs e
  rw [h] at e
  cases e
theorem tab_ne {tabs : List (Addr × Obj)} {h : Heap} (hT : TabSt tabs) (hg : ∀ p ∈ tabs, h.get? p.1 = some p.2) {a : Addr} {o : Obj} (ha : h.get? a = some o) (h33 : @Ne Nat 33 a) (hd : ∀ vs, o.data ≠ .fields vs) : ∀ p ∈ tabs, p.1 ≠ a := by
  rcases hT with rfl | ⟨c, oc, vs, t, rfl, h1, h2, h3⟩
  · intro p hp
    rw [List.mem_singleton.mp hp]
    exact h33
  · intro p hp
    rcases List.mem_cons.mp hp with rfl | hp
    · intro e
      have h4 := hg _ (.head _)
      rw [e, ha] at h4
      cases h4
      exact hd _ h1
    · rw [List.mem_singleton.mp hp]
      exact h33
theorem tab_ne38 {tabs : List (Addr × Obj)} {h : Heap} (hT : TabSt tabs) (hg : ∀ p ∈ tabs, h.get? p.1 = some p.2) (ha : h.get? 38 = some (tabObj #[])) : ∀ p ∈ tabs, p.1 ≠ 38 := by
  rcases hT with rfl | ⟨c, oc, vs, t, rfl, h1, h2, h3⟩
  · intro p hp
    rw [List.mem_singleton.mp hp]
    decide
  · intro p hp
    rcases List.mem_cons.mp hp with rfl | hp
    · intro e
      have h4 := hg _ (.head _)
      rw [e, ha] at h4
      cases h4
      cases h1
      cases h2
    · rw [List.mem_singleton.mp hp]
      show @Ne Nat 33 38
      decide
theorem tab33 {tabs : List (Addr × Obj)} (hT : TabSt tabs) : ∃ tb, (33, tb) ∈ tabs := by
  rcases hT with rfl | ⟨c, oc, vs, t, rfl, h1, h2, h3⟩
  · exact ⟨_, .head _⟩
  · exact ⟨_, .tail _ (.head _)⟩
theorem in_app {α : Type} {q a : α} {k r : List α} (h : q ∈ r) : q ∈ a :: (k ++ r) := .tail _ (List.mem_append.mpr (.inr h))
theorem news_T {h₀ h : Heap} {L : Addr} {d r3 r1 c3 c2 c1 t38 o2 : Addr × Obj} {keys tabs : List (Addr × Obj)} (N : News h₀ L h (d :: (keys ++ r3 :: r1 :: o2 :: c3 :: c2 :: c1 :: t38 :: tabs))) : News h₀ L h tabs :=
  news_sub N fun _ hq => in_app (.tail _ (.tail _ (.tail _ (.tail _ (.tail _ (.tail _ (.tail _ hq)))))))
/-- the ledger after the second call -/
theorem news_more2 {h₀ h h' : Heap} {L : Addr} {o d r3 r1 c3 c2 c1 t38 o2 : Addr × Obj} {keys tabs tabs₀ : List (Addr × Obj)} (N' : News h₀ L h' (o :: tabs)) (N : News h₀ L h (d :: (keys ++ r3 :: r1 :: o2 :: c3 :: c2 :: c1 :: t38 :: tabs₀)))
    (hk : ∀ b x, h.get? b = some x → b ≠ 33 → h'.get? b = some x) (hne : r1.1 ≠ 33 ∧ c3.1 ≠ 33 ∧ c2.1 ≠ 33 ∧ c1.1 ≠ 33 ∧ t38.1 ≠ 33) : News h₀ L h' (o :: r1 :: c3 :: c2 :: c1 :: t38 :: tabs) := by
  have up : ∀ q, q ∈ (d :: (keys ++ r3 :: r1 :: o2 :: c3 :: c2 :: c1 :: t38 :: tabs₀)) → q.1 ≠ 33 → h'.get? q.1 = some q.2 ∧ q.1 ≠ L ∧ h₀.get? q.1 = none := fun q hq hn => ⟨hk _ _ (N q hq).1 hn, (N q hq).2⟩
  intro p hp
  simp only [List.mem_cons] at hp
  rcases hp with h | h | h | h | h | h | h
  · exact N' p (by simp [h])
  · rw [h]; exact up r1 (by simp) hne.1
  · rw [h]; exact up c3 (by simp) hne.2.1
  · rw [h]; exact up c2 (by simp) hne.2.2.1
  · rw [h]; exact up c1 (by simp) hne.2.2.2.1
  · rw [h]; exact up t38 (by simp) hne.2.2.2.2
  · exact N' p (.tail _ h)
def LJ1 (prog : Program) (w : World) (d o : Addr) (n : Nat) (tn : Tok) (rest : List (Addr × Obj)) (i : Nat) (m : Str → Option Value) (nx : List (Addr × Obj)) : Prop :=
  ∃ od keys xs, nx = (d, od) :: (keys ++ rest) ∧ DK prog w od keys xs ∧ xs.length ≤ 7 * i ∧ (∀ a b : Nat, a < n → b < i → Pl xs a b) ∧ (∀ p ∈ keys, p.1 ≠ d ∧ ∀ q ∈ rest, q.1 ≠ p.1) ∧
    m (Str.ofString "n") = some (.int (n : Int) tn) ∧ m (Str.ofString "order_of") = some (.ref o) ∧ m (Str.ofString "plain") = some (.ref d)
def LJ2 (prog : Program) (w : World) (d o : Addr) (n : Nat) (tn : Tok) (rest : List (Addr × Obj)) (I : Addr) (io : Obj) (i : Nat) (tv : Tok) (j : Nat) (m : Str → Option Value) (nx : List (Addr × Obj)) : Prop :=
  ∃ od keys xs, nx = (I, io) :: (d, od) :: (keys ++ rest) ∧ DK prog w od keys xs ∧ xs.length ≤ 7 * i + j ∧ (∀ a b : Nat, a < n → b < i → Pl xs a b) ∧ (∀ a : Nat, a < j → Pl xs a i) ∧ (∀ p ∈ keys, p.1 ≠ d ∧ p.1 ≠ I ∧ ∀ q ∈ rest, q.1 ≠ p.1) ∧
    m (Str.ofString "n") = some (.int (n : Int) tn) ∧ m (Str.ofString "order_of") = some (.ref o) ∧ m (Str.ofString "plain") = some (.ref d) ∧ m (Str.ofString "v") = some (.int (i : Int) tv)

set_option maxHeartbeats 8000000 in
theorem law_walk : PySem.Challenge.rw_bz6013_01.Holds := by
  w_top off
  refine hd ?_
  k_go0
  (all_goals try k_fold)
  repeat' ((fail_if_success (with_reducible show wpAny _ _ (call (.ref 26) _) _ _ _)); (fail_if_success (with_reducible show wpAny _ _ (call (.ref 31) _) _ _ _)); (fail_if_success (with_reducible show wpAny _ _ (call (.ref 36) _) _ _ _)); (fail_if_success (with_reducible show wpAny _ _ (exec (Stmt.Assign _ (Expr.ListComp _ _ _ _) _) _) _ _ _)); (fail_if_success (with_reducible show wpAny _ _ (exec (Stmt.For _ _ _ _ _) _) _ _ _)); (fail_if_success (with_reducible show wpAny _ _ (exec (Stmt.While _ _ _ _) _) _ _ _)); first | (k_unfold; (try dsimp only)) | (k_end; wrow_close) | walk1 | (dsimp only; walk1) | (dsimp only; k_unfold; (try dsimp only)) | (leave1; walk_say "STEP leave1"; try dsimp only) | fail "no step")
  rename Fr _ _ _ _ => F0
  rename News _ _ _ _ => N0
  rename IntsAre _ _ => hI0
  rename (_ ∧ _) => hl0
  rename (¬ (63 : Int) < _) => hlen0
  have hLL := hl0.1
  refine wpAny_noRaise ?_
  k_dflt (refine' numbers_spec ?n1 ?n2 ?n3 ?n4 ?n5 ?n6 ?n7 ?n8 ?n9 ?n10 ?n11 ?n12)
  case n1 => k_asm
  case n2 => exact F0
  case n3 => k_asm
  case n4 => exact N0
  case n5 => k_asm
  case n6 => rfl
  case n7 => rfl
  case n8 => exact Heap.IsList.at lifted (fun o e => F0.keep _ o e)
  case n9 => exact hI0
  case n10 =>
    intro p hp e
    obtain ⟨o, ho, _⟩ := lifted
    have h2 := (N0 p hp).2.2
    rw [e, ho] at h2
    cases h2
  case n11 => omega
  intro r1 us1 fs c1 h1 tk1 hI1 hf4 F1 N1 hk1 hfr1
  have hr1 := fun (p : Addr × Obj) hp => hfr1 p.1 p.2 (N0 p hp).1
  replace hr1 := allNe_of hr1
  simp only [AllNe, and_true] at hr1
  clear F0 N0 hk1 hfr1
  (try k_unmd)
  (try dsimp only)
  repeat' ((fail_if_success (with_reducible show wpAny _ _ (call (.ref 26) _) _ _ _)); (fail_if_success (with_reducible show wpAny _ _ (call (.ref 31) _) _ _ _)); (fail_if_success (with_reducible show wpAny _ _ (call (.ref 36) _) _ _ _)); (fail_if_success (with_reducible show wpAny _ _ (exec (Stmt.Assign _ (Expr.ListComp _ _ _ _) _) _) _ _ _)); (fail_if_success (with_reducible show wpAny _ _ (exec (Stmt.For _ _ _ _ _) _) _ _ _)); (fail_if_success (with_reducible show wpAny _ _ (exec (Stmt.While _ _ _ _) _) _ _ _)); first | (k_unfold; (try dsimp only)) | (k_end; wrow_close) | walk1 | (dsimp only; walk1) | (dsimp only; k_unfold; (try dsimp only)) | (leave1; walk_say "STEP leave1"; try dsimp only) | fail "no step")
  rename Fr _ _ _ _ => F2
  rename News _ _ _ _ => N2
  try simp only [List.cons_append, List.nil_append] at N2
  refine wpAny_noRaise ?_
  k_dflt (refine' won_spec (fs := fs) ?wn_1 ?wn_2 ?wn_3 (news_tail N2) ?wn_5 ?wn_6 ?wn_7 ?wn_8 ?wn_9 ?wn_10 ?wn_11 ?wn_12)
  case wn_1 => k_asm
  case wn_2 => exact F2
  case wn_3 => k_asm
  case wn_5 => k_asm
  case wn_6 => rfl
  case wn_7 => rfl
  case wn_8 => exact ⟨_, (N2 _ (.head _)).1, rfl, _, rfl⟩
  case wn_9 => exact hI1
  case wn_10 => exact of_allNe (by simp only [AllNe, and_true]; exact hr1)
  case wn_11 => exact hf4
  intro r2 d2 o2 od2 n tn us2 ord c2 xs keys W h2 tk2 hn1 hn7 hI2 hperm F3 N3 hDK hSays hTour hk2 hfr2 hdist
  have hold := fun (p : Addr × Obj) hp => hfr2 p.1 p.2 (N2 p hp).1
  have hr2 := allNe_of fun p hp => (hold p hp).1
  have ho2 := allNe_of fun p hp => (hold p hp).2.1
  have hd2 := allNe_of fun p hp => (hold p hp).2.2.1
  simp only [AllNe, and_true] at hr2 ho2 hd2
  have hkeep2 := fun (p : Addr × Obj) hp => (hk2 p.1 p.2 (N2 p hp).1)
  have N4 : News _ _ h2 ((r2, tupObj [Value.int (n : Int) tn, Value.ref d2, Value.ref o2]) :: (o2, listOf us2.toArray c2) :: (d2, od2) :: (r1, listOf us1.toArray c1) :: _ :: _ :: _ :: _ :: _ :: keys) := fun p hp => by
    rcases List.mem_cons.mp hp with rfl | hp
    · exact N3 _ (.head _)
    rcases List.mem_cons.mp hp with rfl | hp
    · exact N3 _ (.tail _ (.head _))
    rcases List.mem_cons.mp hp with rfl | hp
    · exact N3 _ (.tail _ (.tail _ (.head _)))
    rcases List.mem_cons.mp hp with rfl | hp
    · exact ⟨hkeep2 _ (.head _), (N2 _ (.head _)).2⟩
    rcases List.mem_cons.mp hp with rfl | hp
    · exact N3 _ (.tail _ (.tail _ (.tail _ (List.mem_append.mpr (.inr (.head _))))))
    rcases List.mem_cons.mp hp with rfl | hp
    · exact N3 _ (.tail _ (.tail _ (.tail _ (List.mem_append.mpr (.inr (.tail _ (.head _)))))))
    rcases List.mem_cons.mp hp with rfl | hp
    · exact N3 _ (.tail _ (.tail _ (.tail _ (List.mem_append.mpr (.inr (.tail _ (.tail _ (.head _))))))))
    rcases List.mem_cons.mp hp with rfl | hp
    · exact N3 _ (.tail _ (.tail _ (.tail _ (List.mem_append.mpr (.inr (.tail _ (.tail _ (.tail _ (.head _)))))))))
    rcases List.mem_cons.mp hp with rfl | hp
    · exact N3 _ (.tail _ (.tail _ (.tail _ (List.mem_append.mpr (.inr (.tail _ (.tail _ (.tail _ (.tail _ (.head _))))))))))
    exact N3 _ (.tail _ (.tail _ (.tail _ (List.mem_append.mpr (.inl hp)))))
  have hk33 := (hold (33, tabObj #[]) (.tail _ (.tail _ (.tail _ (.tail _ (.head _)))))).2.2.2
  clear N3 hk2 hkeep2 hfr2 hold
  (try k_unmd)
  (try dsimp only)
  repeat' ((fail_if_success (with_reducible show wpAny _ _ (call (.ref 26) _) _ _ _)); (fail_if_success (with_reducible show wpAny _ _ (call (.ref 31) _) _ _ _)); (fail_if_success (with_reducible show wpAny _ _ (call (.ref 36) _) _ _ _)); (fail_if_success (with_reducible show wpAny _ _ (exec (Stmt.Assign _ (Expr.ListComp _ _ _ _) _) _) _ _ _)); (fail_if_success (with_reducible show wpAny _ _ (exec (Stmt.For _ _ _ _ _) _) _ _ _)); (fail_if_success (with_reducible show wpAny _ _ (exec (Stmt.While _ _ _ _) _) _ _ _)); first | (k_unfold; (try dsimp only)) | (k_end; wrow_close) | walk1 | (dsimp only; walk1) | (dsimp only; k_unfold; (try dsimp only)) | (leave1; walk_say "STEP leave1"; try dsimp only) | fail "no step")
  rename Fr _ _ _ _ => F5
  rename News _ _ _ _ => N5
  have hlen2 : ord.length = n := by rw [hperm.length_eq, upTo_length]
  refine wpAny_noRaise ?_
  k_dflt (refine' placed_spec (tabs₀ := [(33, tabObj #[])]) (W := W) (xs := xs) (ord := ord) ?p_1 ?p_2 ?p_3 ?p_4 (.inl rfl) ?p_5 ?p_6 ?p_7 ?p_8 ?p_9 ?p_10 ?p_11 ?p_12 ?p_13 ?p_14 ?p_15 ?p_16 ?p_17 ?p_18)
  case p_1 => k_asm
  case p_2 => exact F5
  case p_3 => k_asm
  case p_4 => exact news_sub N5 fun p hp => by rw [List.mem_singleton.mp hp]; exact (.tail _ (.tail _ (.tail _ (.tail _ (.tail _ (.tail _ (.tail _ (.head _))))))))
  case p_5 => k_asm
  case p_6 => rfl
  case p_7 => rfl
  case p_8 => assumption
  case p_9 => exact ⟨_, (N5 _ (.tail _ (.head _))).1, rfl, _, rfl⟩
  case p_10 => exact hI2
  case p_11 => exact fun p hp => by rw [List.mem_singleton.mp hp]; exact ho2.2.2.2.2.1
  case p_12 => omega
  case p_13 => exact hDK.dict (N5 _ (.tail _ (.tail _ (.head _)))).1 fun p hp => (N5 p (.tail _ (.tail _ (.tail _ (.tail _ (.tail _ (.tail _ (.tail _ (.tail _ (.tail _ hp)))))))))).1
  case p_14 =>
    intro p hp
    rw [List.mem_singleton.mp hp]
    refine ⟨hd2.2.2.2.2.1, fun x hx => ?_⟩
    obtain ⟨_, es, ep, _, _, _, h4⟩ := hDK
    obtain ⟨ok, hm, _⟩ := h4 x hx
    exact hk33 _ hm
  case p_15 => exact says_perm hperm hSays
  case p_16 => exact hperm.nodup_iff.mpr (upTo_nodup n)
  case p_17 => exact fun u hu v hv => hTour u (hperm.mem_iff.mp hu) v (hperm.mem_iff.mp hv)
  intro r3 us3 c3 h6 tk6 tabs6 hI3 F6 N6 hT6 hk6 hsz6
  have N7 := news_more N6 N5 hk6 ⟨fun e => ho2.2.2.2.2.1 e.symm, fun e => hr1.2.2.2.1 e.symm, by show @Ne Nat (_ + 1 + 1 + 1) 33; omega, by show @Ne Nat (_ + 1 + 1) 33; omega, by show @Ne Nat (_ + 1) 33; omega, by decide⟩
  clear N6 N5 hk6
  (try k_unmd)
  (try dsimp only)
  repeat' ((fail_if_success (with_reducible show wpAny _ _ (call (.ref 26) _) _ _ _)); (fail_if_success (with_reducible show wpAny _ _ (call (.ref 31) _) _ _ _)); (fail_if_success (with_reducible show wpAny _ _ (call (.ref 36) _) _ _ _)); (fail_if_success (with_reducible show wpAny _ _ (exec (Stmt.Assign _ (Expr.ListComp _ _ _ _) _) _) _ _ _)); (fail_if_success (with_reducible show wpAny _ _ (exec (Stmt.For _ _ _ _ _) _) _ _ _)); (fail_if_success (with_reducible show wpAny _ _ (exec (Stmt.While _ _ _ _) _) _ _ _)); first | (k_unfold; (try dsimp only)) | (k_end; wrow_close) | walk1 | (dsimp only; walk1) | (dsimp only; k_unfold; (try dsimp only)) | (leave1; walk_say "STEP leave1"; try dsimp only) | fail "no step")
  rename Fr _ _ _ _ => F8
  rename News _ _ _ _ => N8
  have hrl : us3.length = n := by rw [hI3.length, (place_perm W ord).length_eq, hlen2]
  k_dflt (refine' kso_sorted ?s1 ?s2 ?s3 ?s4 ?s5 ?s6)
  case s1 => exact F8
  case s2 => exact N8
  case s3 => exact ⟨_, (N8 _ (.head _)).1, rfl, _, rfl⟩
  case s4 => exact hI3
  case s5 => rw [← hI3.length]; omega
  intro D9 v9 n9 c9 h9 F9 N9 lt9 i9 e9 p9 o9 b9
  have e10 : n9 = upTo n := sorted_upTo (p9.trans ((place_perm W ord).trans hperm)) o9
  subst e10
  clear F8 N8 b9 p9 o9 e9
  (try k_unmd)
  (try dsimp only)
  repeat' ((fail_if_success (with_reducible show wpAny _ _ (call (.ref 26) _) _ _ _)); (fail_if_success (with_reducible show wpAny _ _ (call (.ref 31) _) _ _ _)); (fail_if_success (with_reducible show wpAny _ _ (call (.ref 36) _) _ _ _)); (fail_if_success (with_reducible show wpAny _ _ (exec (Stmt.Assign _ (Expr.ListComp _ _ _ _) _) _) _ _ _)); (fail_if_success (with_reducible show wpAny _ _ (exec (Stmt.For _ _ _ _ _) _) _ _ _)); (fail_if_success (with_reducible show wpAny _ _ (exec (Stmt.While _ _ _ _) _) _ _ _)); (fail_if_success (with_reducible show wpAny _ _ (call (.type "list") _) _ _ _)); (fail_if_success (with_reducible show wpAny _ _ (compareOp _ (Value.ref _) (Value.ref _)) _ _ _)); first | (k_unfold; (try dsimp only)) | (k_end; wrow_close) | walk1 | (dsimp only; walk1) | (dsimp only; k_unfold; (try dsimp only)) | (leave1; walk_say "STEP leave1"; try dsimp only) | fail "no step")
  rename Fr _ _ _ _ => F10
  rename News _ _ _ _ => N10
  rename IsRange _ _ _ _ _ _ _ _ => rg10
  refine list_upTo F10 N10 rg10 rfl (by omega) (by with_unfolding_all rfl) ?_
  intro D11 v11 c11 h11 tk11 i11 F11 N11 lt11
  clear F10 N10 rg10
  (try k_unmd)
  (try dsimp only)
  repeat' ((fail_if_success (with_reducible show wpAny _ _ (call (.ref 26) _) _ _ _)); (fail_if_success (with_reducible show wpAny _ _ (call (.ref 31) _) _ _ _)); (fail_if_success (with_reducible show wpAny _ _ (call (.ref 36) _) _ _ _)); (fail_if_success (with_reducible show wpAny _ _ (exec (Stmt.Assign _ (Expr.ListComp _ _ _ _) _) _) _ _ _)); (fail_if_success (with_reducible show wpAny _ _ (exec (Stmt.For _ _ _ _ _) _) _ _ _)); (fail_if_success (with_reducible show wpAny _ _ (exec (Stmt.While _ _ _ _) _) _ _ _)); (fail_if_success (with_reducible show wpAny _ _ (call (.type "list") _) _ _ _)); (fail_if_success (with_reducible show wpAny _ _ (compareOp _ (Value.ref _) (Value.ref _)) _ _ _)); first | (k_unfold; (try dsimp only)) | (k_end; wrow_close) | walk1 | (dsimp only; walk1) | (dsimp only; k_unfold; (try dsimp only)) | (leave1; walk_say "STEP leave1"; try dsimp only) | fail "no step")
  rename News _ _ _ _ => N12
  refine ne_same N12 (.tail _ (.head _)) (.head _) i9 i11 rfl (by units_room) ?_
  have N13 := news_sub N12 (fun p hp => .tail _ (.tail _ hp))
  clear N12 lt11 lt9
  (try k_unmd)
  (try dsimp only)
  repeat' ((fail_if_success (with_reducible show wpAny _ _ (call (.ref 26) _) _ _ _)); (fail_if_success (with_reducible show wpAny _ _ (call (.ref 31) _) _ _ _)); (fail_if_success (with_reducible show wpAny _ _ (call (.ref 36) _) _ _ _)); (fail_if_success (with_reducible show wpAny _ _ (exec (Stmt.Assign _ (Expr.ListComp _ _ _ _) _) _) _ _ _)); (fail_if_success (with_reducible show wpAny _ _ (exec (Stmt.For _ _ _ _ _) _) _ _ _)); (fail_if_success (with_reducible show wpAny _ _ (exec (Stmt.While _ _ _ _) _) _ _ _)); (fail_if_success (with_reducible show wpAny _ _ (call (.type "list") _) _ _ _)); (fail_if_success (with_reducible show wpAny _ _ (compareOp _ (Value.ref _) (Value.ref _)) _ _ _)); first | (k_unfold; (try dsimp only)) | (k_end; wrow_close) | walk1 | (dsimp only; walk1) | (dsimp only; k_unfold; (try dsimp only)) | (leave1; walk_say "STEP leave1"; try dsimp only) | fail "no step")
  rename Obj.IsDictOf (intKind _ _) _ _ => hdi
  rename (_ ∧ _ ∧ _ ∧ _ ∧ _ ∧ _ ∧ _ ∧ AllLt _ _) => hl14
  rename News _ _ _ _ => N14
  obtain ⟨rest, hrest, N15, hltR⟩ := news_cut2 N14 hl14
  have hd0 : ∀ q ∈ rest, q.1 ≠ _ := fun q hq => Nat.ne_of_lt (hltR q hq)
  clear N14
  refine wpAny_noRaise ?_
  refine for_start ?_
  repeat' ((fail_if_success (with_reducible show wpAny _ _ (call (.ref 26) _) _ _ _)); (fail_if_success (with_reducible show wpAny _ _ (call (.ref 31) _) _ _ _)); (fail_if_success (with_reducible show wpAny _ _ (call (.ref 36) _) _ _ _)); (fail_if_success (with_reducible show wpAny _ _ (exec (Stmt.Assign _ (Expr.ListComp _ _ _ _) _) _) _ _ _)); (fail_if_success (with_reducible show wpAny _ _ (exec (Stmt.For _ _ _ _ _) _) _ _ _)); (fail_if_success (with_reducible show wpAny _ _ (exec (Stmt.While _ _ _ _) _) _ _ _)); (fail_if_success (with_reducible show wpAny _ _ (call (.type "list") _) _ _ _)); (fail_if_success (with_reducible show wpAny _ _ (compareOp _ (Value.ref _) (Value.ref _)) _ _ _)); first | (k_unfold; (try dsimp only)) | (k_end; wrow_close) | walk1 | (dsimp only; walk1) | (dsimp only; k_unfold; (try dsimp only)) | (leave1; walk_say "STEP leave1"; try dsimp only) | fail "no step")
  rename Fr _ _ _ _ => F16
  rename News _ _ _ _ => N16
  rename IsRange _ _ _ _ _ _ _ _ => rg16
  refine loop_range n (LJ1 Challenge.rw_bz6013_01.row.prog _ _ o2 n tn rest) F16 N16 (by with_unfolding_all rfl) (fun _ _ => rfl) rg16 rfl (by omega)
    ⟨_, [], [], rfl, DK.empty hdi, Nat.zero_le _, fun a b _ h => absurd h (Nat.not_lt_zero _), fun p hp => (by cases hp), by with_unfolding_all rfl, by with_unfolding_all rfl, by with_unfolding_all rfl⟩ ?_ ?_
  · intro i tv I io h3 tk3 m3 nx3 hi hJ F3 N3 hnI hltI hLI
    obtain ⟨od, keys, xs, rfl, hDK, hxz, hT, hkk, hm1, hm2, hm3⟩ := hJ
    clear F16 N16
    replace F3 := fr_know3 hm1 hm2 hm3 F3
    refine wpAny_assign_Name ?_
    k_unmd
    k_fold
    repeat' ((fail_if_success (with_reducible show wpAny _ _ (exec (Stmt.Assign _ (Expr.ListComp _ _ _ _) _) _) _ _ _)); (fail_if_success (with_reducible show wpAny _ _ (exec (Stmt.While _ _ _ _) _) _ _ _)); (fail_if_success (with_reducible show wpAny _ _ (exec (Stmt.For _ _ _ _ _) _) _ _ _)); first | (k_unfold; (try dsimp only)) | (k_end; wrow_close) | walk1 | (dsimp only; walk1) | (dsimp only; k_unfold; (try dsimp only)) | (leave1; walk_say "STEP leave1"; try dsimp only) | fail "no step")
    refine for_start ?_
    repeat' ((fail_if_success (with_reducible show wpAny _ _ (exec (Stmt.Assign _ (Expr.ListComp _ _ _ _) _) _) _ _ _)); (fail_if_success (with_reducible show wpAny _ _ (exec (Stmt.While _ _ _ _) _) _ _ _)); (fail_if_success (with_reducible show wpAny _ _ (exec (Stmt.For _ _ _ _ _) _) _ _ _)); first | (k_unfold; (try dsimp only)) | (k_end; wrow_close) | walk1 | (dsimp only; walk1) | (dsimp only; k_unfold; (try dsimp only)) | (leave1; walk_say "STEP leave1"; try dsimp only) | fail "no step")
    rename Fr _ _ _ _ => F4
    rename News _ _ _ _ => N4
    rename IsRange _ _ _ _ _ _ _ _ => rg4
    refine loop_range n (LJ2 Challenge.rw_bz6013_01.row.prog _ _ o2 n tn rest I io i tv) F4 N4 (by with_unfolding_all rfl) (fun _ _ => rfl) rg4 rfl (by omega)
      ⟨od, keys, xs, rfl, hDK, hxz, hT, fun a h => absurd h (Nat.not_lt_zero _), fun p hp => ⟨(hkk p hp).1, hnI p (.tail _ (List.mem_append.mpr (.inl hp))), (hkk p hp).2⟩, by with_unfolding_all rfl, by with_unfolding_all rfl, by with_unfolding_all rfl, by with_unfolding_all rfl⟩ ?_ ?_
    · intro j tj I2 io2 h5 tk5 m5 nx5 hj hJ F5 N5 hnI2 hltI2 hLI2
      obtain ⟨od5, keys5, xs5, rfl, hDK5, hxz5, hT5, hTi5, hkk5, hm1, hm2, hm3, hm4⟩ := hJ
      clear F4 N4 rg4
      replace F5 := fr_know4 hm1 hm2 hm3 hm4 F5
      refine wpAny_assign_Name ?_
      k_unmd
      k_fold
      repeat' ((fail_if_success (with_reducible show wpAny _ _ (newTuple _) _ _ _)); (fail_if_success (with_reducible show wpAny _ _ (setItem _ _ _) _ _ _)); first | (k_unfold; (try dsimp only)) | (k_end; wrow_close) | walk1 | (dsimp only; walk1) | (dsimp only; k_unfold; (try dsimp only)) | (leave1; walk_say "STEP leave1"; try dsimp only) | fail "no step")
      rename Fr _ _ _ _ => F6
      rename News _ _ _ _ => N6
      have hlt6 := fun p hp => Heap.lt_size (N6 p hp).1
      refine wpAny_newTuple ?_ (by rw [sizeLine_eq]; exact Nat.le_of_ble_eq_true rfl)
      refine set_tab (od := od5) (keys := (_, tupObj [.int (j : Int) tj, .int (i : Int) tv]) :: keys5) (by units_room) (F6.push _) (N6.push F6 _) (.tail _ (.tail _ (.tail _ (.head _)))) (hDK5.mono fun p hp => .tail _ hp) ?_ (.head _) (by omega) ?_
      · intro p hp
        rcases List.mem_cons.mp hp with rfl | hp
        · exact ⟨.head _, Nat.ne_of_gt (hlt6 _ (.tail _ (.tail _ (.head _))))⟩
        · exact ⟨.tail _ (.tail _ (.tail _ (.tail _ (List.mem_append.mpr (.inl hp))))), (hkk5 p hp).1⟩
      intro h9 od9 F9 N9 hDK9
      have N10 := N9 ((I2, io2) :: (I, io) :: (_, tupObj [.int (j : Int) tj, .int (i : Int) tv]) :: (keys5 ++ rest)) (fun p hp => by
        rcases List.mem_cons.mp hp with rfl | hp
        · exact ⟨.tail _ (.head _), fun e => hnI2 _ (.tail _ (.head _)) e.symm⟩
        rcases List.mem_cons.mp hp with rfl | hp
        · exact ⟨.tail _ (.tail _ (.head _)), fun e => hnI _ (.head _) e.symm⟩
        rcases List.mem_cons.mp hp with rfl | hp
        · exact ⟨.head _, Nat.ne_of_gt (hlt6 _ (.tail _ (.tail _ (.head _))))⟩
        · refine ⟨.tail _ (.tail _ (.tail _ (.tail _ hp))), ?_⟩
          rcases List.mem_append.mp hp with hp | hp
          · exact (hkk5 p hp).1
          · exact hd0 p hp)
      clear N9 N6 F6
      (try k_unmd)
      (try dsimp only)
      repeat' ((fail_if_success (with_reducible show wpAny _ _ (newTuple _) _ _ _)); (fail_if_success (with_reducible show wpAny _ _ (setItem _ _ _) _ _ _)); first | (k_unfold; (try dsimp only)) | (k_end; wrow_close) | walk1 | (dsimp only; walk1) | (dsimp only; k_unfold; (try dsimp only)) | (leave1; walk_say "STEP leave1"; try dsimp only) | fail "no step")
      have z1 := hlt6 _ (.head _)
      have z2 := hlt6 _ (.tail _ (.head _))
      have zd := hnI2 _ (.tail _ (.head _))
      rename Fr _ _ _ _ => F10
      exact ⟨_, _, _, _, rfl, F10, news_sub N10 (l' := (I2, io2) :: (I, io) :: (_, od9) :: (((_, tupObj [.int (j : Int) tj, .int (i : Int) tv]) :: keys5) ++ rest)) (fun p hp => by
          simp only [List.mem_cons, List.mem_append, List.cons_append] at hp ⊢
          rcases hp with h | h | h | h | h | h <;> simp [h]),
        (fun p hp => by
          simp only [List.mem_cons, List.mem_append, List.cons_append] at hp
          rcases hp with h | h | h | h | h
          · rw [h]; exact hnI2 _ (.head _)
          · rw [h]; exact zd
          · rw [h]; exact Nat.ne_of_gt z1
          · exact hnI2 _ (.tail _ (.tail _ (List.mem_append.mpr (.inl h))))
          · exact hnI2 _ (.tail _ (.tail _ (List.mem_append.mpr (.inr h))))),
        od9, _, _, rfl, hDK9, Nat.le_trans stored_length (by omega),
        fun a b ha hb => Pl.old (by omega) (hT5 a b ha hb),
        fun a ha => (Nat.lt_succ_iff_lt_or_eq.mp ha).elim (fun ha => Pl.old (by omega) (hTi5 a ha)) (fun e => by rw [e]; exact Pl.new rfl),
        (fun p hp => by
          simp only [List.mem_cons] at hp
          rcases hp with h | h
          · rw [h]; exact ⟨Nat.ne_of_gt (hlt6 _ (.tail _ (.tail _ (.head _)))), Nat.ne_of_gt z2, fun q hq => Nat.ne_of_lt (hlt6 q (.tail _ (.tail _ (.tail _ (List.mem_append.mpr (.inr hq))))))⟩
          · exact hkk5 p h),
        by with_unfolding_all rfl, by with_unfolding_all rfl, by with_unfolding_all rfl, by with_unfolding_all rfl⟩
    · intro h5 tk5 m5 nx5 hJ F5 N5
      obtain ⟨od5, keys5, xs5, rfl, hDK5, hxz5, hT5, hTi5, hkk5, hm1, hm2, hm3, hm4⟩ := hJ
      clear F4 N4 rg4
      (try k_unmd)
      (try dsimp only)
      repeat' ((fail_if_success (with_reducible show wpAny _ _ (exec (Stmt.Assign _ (Expr.ListComp _ _ _ _) _) _) _ _ _)); (fail_if_success (with_reducible show wpAny _ _ (exec (Stmt.While _ _ _ _) _) _ _ _)); (fail_if_success (with_reducible show wpAny _ _ (exec (Stmt.For _ _ _ _ _) _) _ _ _)); (fail_if_success (with_reducible show wpAny _ _ (setItem _ _ _) _ _ _)); first | (k_unfold; (try dsimp only)) | (k_end; wrow_close) | walk1 | (dsimp only; walk1) | (dsimp only; k_unfold; (try dsimp only)) | (leave1; walk_say "STEP leave1"; try dsimp only) | fail "no step")
      rename Fr _ _ _ _ => F6
      rename News _ _ _ _ => N6
      have zd := hnI _ (.head _)
      exact ⟨_, _, _, _, rfl, F6, N6, (fun p hp => by
          rcases List.mem_cons.mp hp with rfl | hp
          · exact zd
          · rcases List.mem_append.mp hp with hp | hp
            · exact (hkk5 p hp).2.1
            · exact hnI p (.tail _ (List.mem_append.mpr (.inr hp)))),
        od5, keys5, xs5, rfl, hDK5, by omega, fun a b ha hb => (Nat.lt_succ_iff_lt_or_eq.mp hb).elim (fun hb => hT5 a b ha hb) (fun e => by rw [e]; exact hTi5 a ha),
        fun p hp => ⟨(hkk5 p hp).1, (hkk5 p hp).2.2⟩, hm1, hm2, hm3⟩
  intro h17 tk17 m17 nx17 hJ F17 N17
  obtain ⟨od17, keys17, xs17, rfl, hDK17, hxz17, hT17, hkk17, hm1, hm2, hm3⟩ := hJ
  clear F16 N16 rg16
  replace F17 := fr_know3 hm1 hm2 hm3 F17
  subst hrest
  (try k_unmd)
  (try dsimp only)
  repeat' ((fail_if_success (with_reducible show wpAny _ _ (call (.ref 26) _) _ _ _)); (fail_if_success (with_reducible show wpAny _ _ (call (.ref 31) _) _ _ _)); (fail_if_success (with_reducible show wpAny _ _ (call (.ref 36) _) _ _ _)); (fail_if_success (with_reducible show wpAny _ _ (exec (Stmt.Assign _ (Expr.ListComp _ _ _ _) _) _) _ _ _)); (fail_if_success (with_reducible show wpAny _ _ (exec (Stmt.For _ _ _ _ _) _) _ _ _)); (fail_if_success (with_reducible show wpAny _ _ (exec (Stmt.While _ _ _ _) _) _ _ _)); (fail_if_success (with_reducible show wpAny _ _ (call (.type "list") _) _ _ _)); (fail_if_success (with_reducible show wpAny _ _ (compareOp _ (Value.ref _) (Value.ref _)) _ _ _)); first | (k_unfold; (try dsimp only)) | (k_end; wrow_close) | walk1 | (dsimp only; walk1) | (dsimp only; k_unfold; (try dsimp only)) | (leave1; walk_say "STEP leave1"; try dsimp only) | fail "no step")
  obtain ⟨tb, htb⟩ := tab33 hT6
  have hg6 := fun p hp => (news_T N17 p hp).1
  have ho2' := (N17 _ (in_app (.tail _ (.tail _ (.head _))))).1
  have hd17 := (N17 _ (.head _)).1
  have hkk33 : ∀ q ∈ keys17, @Ne Nat 33 q.1 := fun q hq => (hkk17 q hq).2 _ (.tail _ (.tail _ (.tail _ (.tail _ (.tail _ (.tail _ (.tail _ htb)))))))
  have hd33 : @Ne Nat 33 _ := hd0 _ (.tail _ (.tail _ (.tail _ (.tail _ (.tail _ (.tail _ (.tail _ htb)))))))
  refine wpAny_noRaise ?_
  k_dflt (refine' placed_spec (tabs₀ := tabs6) (W := gtW) (xs := xs17) (ord := ord) ?u_1 ?u_2 ?u_3 ?u_4 hT6 ?u_5 ?u_6 ?u_7 ?u_8 ?u_9 ?u_10 ?u_11 ?u_12 ?u_13 ?u_14 ?u_15 ?u_16 ?u_17 ?u_18)
  case u_1 => k_asm
  case u_2 => exact F17
  case u_3 => k_asm
  case u_4 => exact news_T N17
  case u_5 => k_asm
  case u_6 => rfl
  case u_7 => rfl
  case u_8 => assumption
  case u_9 => exact ⟨_, ho2', rfl, _, rfl⟩
  case u_10 => exact hI2
  case u_11 => exact tab_ne hT6 hg6 ho2' ho2.2.2.2.2.1 (fun vs e => by cases e)
  case u_12 => omega
  case u_13 => exact hDK17.dict hd17 fun p hp => (N17 p (.tail _ (List.mem_append.mpr (.inl hp)))).1
  case u_14 =>
    intro p hp
    refine ⟨hd0 p (.tail _ (.tail _ (.tail _ (.tail _ (.tail _ (.tail _ (.tail _ hp))))))), fun x hx => ?_⟩
    obtain ⟨_, es, ep, _, _, _, h4⟩ := hDK17
    obtain ⟨ok, hm, _⟩ := h4 x hx
    exact (hkk17 _ hm).2 p (.tail _ (.tail _ (.tail _ (.tail _ (.tail _ (.tail _ (.tail _ hp)))))))
  case u_15 => exact says_perm hperm (pl_says hT17)
  case u_16 => exact hperm.nodup_iff.mpr (upTo_nodup n)
  case u_17 => exact fun u hu v hv h => gt_tour u v h
  intro r4 us4 c4 h18 tk18 tabs18 hI4 F18 N18 hT18 hk18 hsz18
  rw [place_desc hperm] at hI4
  have N19 := news_more2 N18 N17 hk18 ⟨fun e => hr1.2.2.2.1 e.symm, by show @Ne Nat (_ + 1 + 1 + 1) 33; omega, by show @Ne Nat (_ + 1 + 1) 33; omega, by show @Ne Nat (_ + 1) 33; omega, by decide⟩
  clear N18 N17 hk18 hg6 ho2' hd17 hDK17 hT17 hkk17 hkk33
  (try k_unmd)
  (try dsimp only)
  repeat' ((fail_if_success (with_reducible show wpAny _ _ (call (.ref 26) _) _ _ _)); (fail_if_success (with_reducible show wpAny _ _ (call (.ref 31) _) _ _ _)); (fail_if_success (with_reducible show wpAny _ _ (call (.ref 36) _) _ _ _)); (fail_if_success (with_reducible show wpAny _ _ (exec (Stmt.Assign _ (Expr.ListComp _ _ _ _) _) _) _ _ _)); (fail_if_success (with_reducible show wpAny _ _ (exec (Stmt.For _ _ _ _ _) _) _ _ _)); (fail_if_success (with_reducible show wpAny _ _ (exec (Stmt.While _ _ _ _) _) _ _ _)); (fail_if_success (with_reducible show wpAny _ _ (call (.type "list") _) _ _ _)); (fail_if_success (with_reducible show wpAny _ _ (compareOp _ (Value.ref _) (Value.ref _)) _ _ _)); first | (k_unfold; (try dsimp only)) | (k_end; wrow_close) | walk1 | (dsimp only; walk1) | (dsimp only; k_unfold; (try dsimp only)) | (leave1; walk_say "STEP leave1"; try dsimp only) | fail "no step")
  rename Fr _ _ _ _ => F20
  rename News _ _ _ _ => N20
  rename IsRange _ _ _ _ _ _ _ _ => rg20
  refine list_upTo F20 N20 rg20 rfl (by omega) (by with_unfolding_all rfl) ?_
  intro D21 v21 c21 h21 tk21 i21 F21 N21 lt21
  clear F20 N20 rg20
  (try k_unmd)
  (try dsimp only)
  repeat' ((fail_if_success (with_reducible show wpAny _ _ (call (.ref 26) _) _ _ _)); (fail_if_success (with_reducible show wpAny _ _ (call (.ref 31) _) _ _ _)); (fail_if_success (with_reducible show wpAny _ _ (call (.ref 36) _) _ _ _)); (fail_if_success (with_reducible show wpAny _ _ (exec (Stmt.Assign _ (Expr.ListComp _ _ _ _) _) _) _ _ _)); (fail_if_success (with_reducible show wpAny _ _ (exec (Stmt.For _ _ _ _ _) _) _ _ _)); (fail_if_success (with_reducible show wpAny _ _ (exec (Stmt.While _ _ _ _) _) _ _ _)); (fail_if_success (with_reducible show wpAny _ _ (call (.type "list") _) _ _ _)); (fail_if_success (with_reducible show wpAny _ _ (compareOp _ (Value.ref _) (Value.ref _)) _ _ _)); (fail_if_success (with_reducible show wpAny _ _ (subscriptTail _ (Expr.Slice _ _ _ _) _ _) _ _ _)); first | (k_unfold; (try dsimp only)) | (k_end; wrow_close) | walk1 | (dsimp only; walk1) | (dsimp only; k_unfold; (try dsimp only)) | (leave1; walk_say "STEP leave1"; try dsimp only) | fail "no step")
  refine kba_turn (value' := PySem.Expr.Name (PySem.Str.ofString "_") ⟨0, 0, 0, 0⟩) (fun _ => rfl) ?_
  k_dflt (refine' krv_ints ?v_1 ?v_2 ?v_3 ?v_4 ?v_5 ?v_6 ?v_7 ?v_8 ?v_9)
  case v_1 => exact F21
  case v_2 => exact N21
  case v_3 => exact ⟨_, (N21 _ (.head _)).1, rfl, _, rfl⟩
  case v_4 => exact IsPart.int _ _
  case v_5 => exact i21
  case v_7 => with_unfolding_all rfl
  case v_8 => intro _; rfl
  case v_9 => rw [List.size_toArray, i21.length, upTo_length, sizeLine_eq]; omega
  intro D22 v22 h22 F22 N22 lt22 i22 _
  clear F21 N21 lt21
  (try k_unmd)
  (try dsimp only)
  repeat' ((fail_if_success (with_reducible show wpAny _ _ (call (.ref 26) _) _ _ _)); (fail_if_success (with_reducible show wpAny _ _ (call (.ref 31) _) _ _ _)); (fail_if_success (with_reducible show wpAny _ _ (call (.ref 36) _) _ _ _)); (fail_if_success (with_reducible show wpAny _ _ (exec (Stmt.Assign _ (Expr.ListComp _ _ _ _) _) _) _ _ _)); (fail_if_success (with_reducible show wpAny _ _ (exec (Stmt.For _ _ _ _ _) _) _ _ _)); (fail_if_success (with_reducible show wpAny _ _ (exec (Stmt.While _ _ _ _) _) _ _ _)); (fail_if_success (with_reducible show wpAny _ _ (call (.type "list") _) _ _ _)); (fail_if_success (with_reducible show wpAny _ _ (compareOp _ (Value.ref _) (Value.ref _)) _ _ _)); (fail_if_success (with_reducible show wpAny _ _ (subscriptTail _ (Expr.Slice _ _ _ _) _ _) _ _ _)); first | (k_unfold; (try dsimp only)) | (k_end; wrow_close) | walk1 | (dsimp only; walk1) | (dsimp only; k_unfold; (try dsimp only)) | (leave1; walk_say "STEP leave1"; try dsimp only) | fail "no step")
  rename News _ _ _ _ => N23
  refine ne_same N23 (.tail _ (.tail _ (.head _))) (.head _) hI4 i22 rfl (by units_room) ?_
  have N24 := news_sub N23 (fun p hp => .tail _ (.tail _ (.tail _ hp)))
  clear N23 lt22
  (try k_unmd)
  (try dsimp only)
  repeat' ((fail_if_success (with_reducible show wpAny _ _ (call (.ref 26) _) _ _ _)); (fail_if_success (with_reducible show wpAny _ _ (call (.ref 31) _) _ _ _)); (fail_if_success (with_reducible show wpAny _ _ (call (.ref 36) _) _ _ _)); (fail_if_success (with_reducible show wpAny _ _ (eval (Expr.ListComp _ _ _ _) _) _ _ _)); (fail_if_success (with_reducible show wpAny _ _ (exec (Stmt.For _ _ _ _ _) _) _ _ _)); (fail_if_success (with_reducible show wpAny _ _ (exec (Stmt.While _ _ _ _) _) _ _ _)); (fail_if_success (with_reducible show wpAny _ _ (call (.type "list") _) _ _ _)); (fail_if_success (with_reducible show wpAny _ _ (compareOp _ (Value.ref _) (Value.ref _)) _ _ _)); first | (k_unfold; (try dsimp only)) | (k_end; wrow_close) | walk1 | (dsimp only; walk1) | (dsimp only; k_unfold; (try dsimp only)) | (leave1; walk_say "STEP leave1"; try dsimp only) | fail "no step")
  rename Fr _ _ _ _ => F25
  refine comp_range (fun _ => true) (fun k => ((fs.getD (Int.toNat 3) 0).fdiv ((k : Int) + 1)).fmod 9) F25 ?_ (by with_unfolding_all rfl) (by with_unfolding_all rfl) (by decide) (by with_unfolding_all rfl) (by decide) (by with_unfolding_all rfl) (by intro _; with_unfolding_all rfl)
  repeat' ((fail_if_success (with_reducible show wpAny _ _ (call (.ref 26) _) _ _ _)); (fail_if_success (with_reducible show wpAny _ _ (call (.ref 31) _) _ _ _)); (fail_if_success (with_reducible show wpAny _ _ (call (.ref 36) _) _ _ _)); (fail_if_success (with_reducible show wpAny _ _ (eval (Expr.ListComp _ _ _ _) _) _ _ _)); (fail_if_success (with_reducible show wpAny _ _ (exec (Stmt.For _ _ _ _ _) _) _ _ _)); (fail_if_success (with_reducible show wpAny _ _ (exec (Stmt.While _ _ _ _) _) _ _ _)); (fail_if_success (with_reducible show wpAny _ _ (call (.type "list") _) _ _ _)); (fail_if_success (with_reducible show wpAny _ _ (compareOp _ (Value.ref _) (Value.ref _)) _ _ _)); first | (k_unfold; (try dsimp only)) | (k_end; wrow_close) | walk1 | (dsimp only; walk1) | (dsimp only; k_unfold; (try dsimp only)) | (leave1; walk_say "STEP leave1"; try dsimp only) | fail "no step")
  rename Fr _ _ _ _ => F26
  rename News _ _ _ _ => N26
  rename IsRange _ _ _ _ _ _ _ _ => rg26
  obtain ⟨k6, hk1, hk6, ek⟩ : ∃ k : Nat, 1 ≤ k ∧ k ≤ 6 ∧ 1 + ((fs.getD (Int.toNat 0) 0).fdiv 7).fmod 6 = (k : Int) := by
    have h1 := Int.fmod_nonneg_of_pos ((fs.getD (Int.toNat 0) 0).fdiv 7) (show (0 : Int) < 6 by omega)
    have h2 := Int.fmod_lt_of_pos ((fs.getD (Int.toNat 0) 0).fdiv 7) (show (0 : Int) < 6 by omega)
    exact ⟨(1 + ((fs.getD (Int.toNat 0) 0).fdiv 7).fmod 6).toNat, by omega, by omega, by omega⟩
  refine ⟨_, _, k6, _, _, _, _, rfl, rg26, ek, by omega, F26, N26, ?_, ?_, ?_⟩
  · intro C k t s₂ m₂ hk F8 N8 hm
    exact wpAny_tests_nil ⟨rfl, _, _, rfl, fun _ _ e => e⟩
  · intro C k t s₂ m₂ hk F8 N8 hm
    clear F26 N26
    repeat' ((fail_if_success (with_reducible show wpAny _ _ (call (.ref 26) _) _ _ _)); (fail_if_success (with_reducible show wpAny _ _ (call (.ref 31) _) _ _ _)); (fail_if_success (with_reducible show wpAny _ _ (call (.ref 36) _) _ _ _)); (fail_if_success (with_reducible show wpAny _ _ (eval (Expr.ListComp _ _ _ _) _) _ _ _)); (fail_if_success (with_reducible show wpAny _ _ (exec (Stmt.For _ _ _ _ _) _) _ _ _)); (fail_if_success (with_reducible show wpAny _ _ (exec (Stmt.While _ _ _ _) _) _ _ _)); (fail_if_success (with_reducible show wpAny _ _ (call (.type "list") _) _ _ _)); (fail_if_success (with_reducible show wpAny _ _ (compareOp _ (Value.ref _) (Value.ref _)) _ _ _)); first | (k_unfold; (try dsimp only)) | (k_end; wrow_close) | walk1 | (dsimp only; walk1) | (dsimp only; k_unfold; (try dsimp only)) | (leave1; walk_say "STEP leave1"; try dsimp only) | fail "no step")
    exact ⟨_, _, rfl, fun _ _ e => e⟩
  intro D27 v27 c27 h27 tk27 i27 F27 N27 ne27
  obtain ⟨gs, hgs⟩ : ∃ gs, gs = ((List.range k6).filter (fun _ => true)).map (fun k : Nat => ((fs.getD (Int.toNat 3) 0).fdiv ((k : Int) + 1)).fmod 9) := ⟨_, rfl⟩
  rw [← hgs] at i27
  have hgl : gs.length = k6 := by rw [hgs, List.length_map, List.filter_eq_self.mpr (fun _ _ => rfl), List.length_range]
  clear F26 N26 rg26 hgs
  have h33L : @LT.lt Nat _ 33 _ := hl0.1
  have hg18 := fun p hp => (N27 p (.tail _ (.tail _ (.tail _ (.tail _ (.tail _ (.tail _ hp))))))).1
  have hn3 := tab_ne hT18 hg18 (N27 _ (.tail _ (.tail _ (.head _)))).1 (show @Ne Nat 33 (_ + 1 + 1 + 1) by omega) (cell_nf (by assumption))
  have hn2 := tab_ne hT18 hg18 (N27 _ (.tail _ (.tail _ (.tail _ (.head _))))).1 (show @Ne Nat 33 (_ + 1 + 1) by omega) (cell_nf (by assumption))
  have hn1' := tab_ne hT18 hg18 (N27 _ (.tail _ (.tail _ (.tail _ (.tail _ (.head _)))))).1 (show @Ne Nat 33 (_ + 1) by omega) (cell_nf (by assumption))
  have hn38 := tab_ne38 hT18 hg18 (N27 _ (.tail _ (.tail _ (.tail _ (.tail _ (.tail _ (.head _))))))).1
  have hoff18 := (show OwnOff tabs18 [_, _, _, 38] from fun p hp b hb => by
    rcases List.mem_cons.mp hb with rfl | hb
    · exact hn3 p hp
    rcases List.mem_cons.mp hb with rfl | hb
    · exact hn2 p hp
    rcases List.mem_cons.mp hb with rfl | hb
    · exact hn1' p hp
    rw [List.mem_singleton.mp hb]
    exact hn38 p hp)
  replace ne27 := allNe_of ne27
  simp only [AllNe] at ne27
  clear hg18 hn3 hn2 hn1' hn38
  (try dsimp only at F27)
  (try k_unmd)
  (try dsimp only)
  repeat' ((fail_if_success (with_reducible show wpAny _ _ (call (.ref 26) _) _ _ _)); (fail_if_success (with_reducible show wpAny _ _ (call (.ref 31) _) _ _ _)); (fail_if_success (with_reducible show wpAny _ _ (call (.ref 36) _) _ _ _)); (fail_if_success (with_reducible show wpAny _ _ (exec (Stmt.Assign _ (Expr.ListComp _ _ _ _) _) _) _ _ _)); (fail_if_success (with_reducible show wpAny _ _ (exec (Stmt.For _ _ _ _ _) _) _ _ _)); (fail_if_success (with_reducible show wpAny _ _ (exec (Stmt.While _ _ _ _) _) _ _ _)); (fail_if_success (with_reducible show wpAny _ _ (call (.type "list") _) _ _ _)); (fail_if_success (with_reducible show wpAny _ _ (compareOp _ (Value.ref _) (Value.ref _)) _ _ _)); first | (k_unfold; (try dsimp only)) | (k_end; wrow_close) | walk1 | (dsimp only; walk1) | (dsimp only; k_unfold; (try dsimp only)) | (leave1; walk_say "STEP leave1"; try dsimp only) | fail "no step")
  rename Fr _ _ _ _ => F28
  refine comp_rangeA (fun k => decide (gs.getD (Int.toNat (k : Int)) 0 > (fs.getD (Int.toNat 1) 0).fmod 9)) (fun k => (k : Int)) F28 ?_ (by with_unfolding_all rfl) rfl (by with_unfolding_all rfl) (by with_unfolding_all rfl) (by with_unfolding_all rfl) (by with_unfolding_all rfl) (by decide) (by with_unfolding_all rfl) (by decide) (by with_unfolding_all rfl) (by intro _; with_unfolding_all rfl)
  repeat' ((fail_if_success (with_reducible show wpAny _ _ (exec (Stmt.Assign _ (Expr.ListComp _ _ _ _) _) _) _ _ _)); (fail_if_success (with_reducible show wpAny _ _ (exec (Stmt.While _ _ _ _) _) _ _ _)); (fail_if_success (with_reducible show wpAny _ _ (exec (Stmt.For _ _ _ _ _) _) _ _ _)); (fail_if_success (with_reducible show wpAny _ _ (setItem _ _ _) _ _ _)); first | (k_unfold; (try dsimp only)) | (k_end; wrow_close) | walk1 | (dsimp only; walk1) | (dsimp only; k_unfold; (try dsimp only)) | (leave1; walk_say "STEP leave1"; try dsimp only) | fail "no step")
  rename Fr _ _ _ _ => F29
  rename News _ _ _ _ => N29
  rename IsRange _ _ _ _ _ _ _ _ => rg29
  refine ⟨_, _, gs.length, _, _, _, _, rfl, rg29, rfl, by omega, F29, N29, ?_, ?_, ?_⟩
  · intro C k t s₂ m₂ hk F8 N8 hm
    refine wpAny_tests_one ?_
    clear F29 N29
    repeat' ((fail_if_success (with_reducible show wpAny _ _ (call (.ref 26) _) _ _ _)); (fail_if_success (with_reducible show wpAny _ _ (call (.ref 31) _) _ _ _)); (fail_if_success (with_reducible show wpAny _ _ (call (.ref 36) _) _ _ _)); (fail_if_success (with_reducible show wpAny _ _ (eval (Expr.ListComp _ _ _ _) _) _ _ _)); (fail_if_success (with_reducible show wpAny _ _ (exec (Stmt.For _ _ _ _ _) _) _ _ _)); (fail_if_success (with_reducible show wpAny _ _ (exec (Stmt.While _ _ _ _) _) _ _ _)); (fail_if_success (with_reducible show wpAny _ _ (call (.type "list") _) _ _ _)); (fail_if_success (with_reducible show wpAny _ _ (compareOp _ (Value.ref _) (Value.ref _)) _ _ _)); first | (k_unfold; (try dsimp only)) | (k_end; wrow_close) | walk1 | (dsimp only; walk1) | (dsimp only; k_unfold; (try dsimp only)) | (leave1; walk_say "STEP leave1"; try dsimp only) | fail "no step")
    exact ⟨_, _, rfl, fun _ _ e => e⟩
  · intro C k t s₂ m₂ hk F8 N8 hm
    exact nameB_L F8 hm ⟨⟨_, rfl⟩, _, _, rfl, fun _ _ e => e⟩ (by with_unfolding_all rfl) (by with_unfolding_all rfl) (by decide)
  intro D30 v30 c30 h30 tk30 i30 F30 N30 ne30
  clear F29 N29 rg29
  replace ne30 := allNe_of ne30
  simp only [AllNe] at ne30
  (try dsimp only at F30)
  (try k_unmd)
  (try dsimp only)
  repeat' ((fail_if_success (with_reducible show wpAny _ _ (call (.ref 26) _) _ _ _)); (fail_if_success (with_reducible show wpAny _ _ (call (.ref 31) _) _ _ _)); (fail_if_success (with_reducible show wpAny _ _ (call (.ref 36) _) _ _ _)); (fail_if_success (with_reducible show wpAny _ _ (exec (Stmt.Assign _ (Expr.ListComp _ _ _ _) _) _) _ _ _)); (fail_if_success (with_reducible show wpAny _ _ (exec (Stmt.For _ _ _ _ _) _) _ _ _)); (fail_if_success (with_reducible show wpAny _ _ (exec (Stmt.While _ _ _ _) _) _ _ _)); (fail_if_success (with_reducible show wpAny _ _ (call (.type "list") _) _ _ _)); (fail_if_success (with_reducible show wpAny _ _ (compareOp _ (Value.ref _) (Value.ref _)) _ _ _)); (fail_if_success (with_reducible show wpAny _ _ (call (.ref 21) _) _ _ _)); first | (k_unfold; (try dsimp only)) | (k_end; wrow_close) | walk1 | (dsimp only; walk1) | (dsimp only; k_unfold; (try dsimp only)) | (leave1; walk_say "STEP leave1"; try dsimp only) | fail "no step")
  rename Fr _ _ _ _ => F31
  rename News _ _ _ _ => N31
  have hpz : ∀ k, k < gs.length → (fun k : Nat => decide (gs.getD (Int.toNat (k : Int)) 0 > (fs.getD (Int.toNat 1) 0).fmod 9)) k = abW ((fs.getD (Int.toNat 1) 0).fmod 9) (gs.getD k 0) := fun k _ => rfl
  have hgne : v27 ≠ [] := fun e => by
    have h := i27.length
    rw [e, hgl] at h
    simp only [List.length_nil] at h
    omega
  have hvl : v27.length = gs.length := i27.length
  obtain ⟨af1, af2⟩ := above_first hpz
  obtain ⟨at', hat⟩ : ∃ a, a = insAt abW gs ((fs.getD (Int.toNat 1) 0).fmod 9) := ⟨_, rfl⟩
  rw [← hat] at af1 af2
  refine call_idx at' F31 N31 ?_ ?_
  · clear af1 af2 hpz
    k_fold
    walk1
    repeat' ((fail_if_success (with_reducible show wpAny _ _ (exec (Stmt.For _ _ _ _ _) _) _ _ _)); (fail_if_success (with_reducible show wpAny _ _ (call (.type "enumerate") _) _ _ _)); (fail_if_success (with_reducible show wpAny _ _ (eval (Expr.ListComp _ _ _ _) _) _ _ _)); first | (k_unfold; (try dsimp only)) | (k_end; wrow_close) | walk1 | (dsimp only; walk1) | (dsimp only; k_unfold; (try dsimp only)) | (leave1; walk_say "STEP leave1"; try dsimp only) | fail "no step")
    refine wpAny_noRaise ?_
    refine for_start ?_
    repeat' ((fail_if_success (with_reducible show wpAny _ _ (exec (Stmt.For _ _ _ _ _) _) _ _ _)); (fail_if_success (with_reducible show wpAny _ _ (call (.type "enumerate") _) _ _ _)); (fail_if_success (with_reducible show wpAny _ _ (eval (Expr.ListComp _ _ _ _) _) _ _ _)); first | (k_unfold; (try dsimp only)) | (k_end; wrow_close) | walk1 | (dsimp only; walk1) | (dsimp only; k_unfold; (try dsimp only)) | (leave1; walk_say "STEP leave1"; try dsimp only) | fail "no step")
    rename Fr _ _ _ _ => F4
    rename News _ _ _ _ => N4
    refine loop_same (fun i => ∀ j < i, ∀ x, gs[j]? = some x → abW ((fs.getD (Int.toNat 1) 0).fmod 9) x = false) F4 N4 (by k_mem) hgne (fun j hj => absurd hj (Nat.not_lt_zero _)) rfl rfl rfl rfl rfl ?_ ?_
    rotate_left
    · skip
      intro h5 tk5 u5 t5 hP5 F5 N5
      dsimp only
      repeat' ((fail_if_success (with_reducible show wpAny _ _ (exec (Stmt.For _ _ _ _ _) _) _ _ _)); (fail_if_success (with_reducible show wpAny _ _ (call (.type "enumerate") _) _ _ _)); (fail_if_success (with_reducible show wpAny _ _ (eval (Expr.ListComp _ _ _ _) _) _ _ _)); first | (k_unfold; (try dsimp only)) | (k_end; wrow_close) | walk1 | (dsimp only; walk1) | (dsimp only; k_unfold; (try dsimp only)) | (leave1; walk_say "STEP leave1"; try dsimp only) | fail "no step")
      have e9 : at' = v27.length := by rw [hat, insAt_miss abW (fun j hj => hP5 j (by rw [hvl]; exact hj)), hvl]
      (try k_unmd)
      (try k_unfold)
      (try dsimp only)
      rename Fr _ _ _ _ => F6
      rename News _ _ _ _ => N6
      refine IdxPost.intro (by rw [e9]; omega) F6 ?_
      exact N6
    · intro i2 v2 t2 e2 eo2 it2 io2 h2 tk2 hv2 hP2 F5 N5 hlt2 hie2 hLi2
      obtain ⟨x2, tx2, hx2, rfl⟩ : ∃ n t, gs[i2]? = some n ∧ v2 = .int n t := by
        have hil : i2 < gs.length := by rw [← hvl]; exact (List.getElem?_eq_some_iff.mp hv2).1
        obtain ⟨t, ht⟩ := i27.get i2 gs[i2] (List.getElem?_eq_getElem hil)
        rw [hv2] at ht
        exact ⟨_, t, List.getElem?_eq_getElem hil, Option.some.inj ht⟩
      k_lt hlt2
      replace hie2 := ltN hie2
      replace hLi2 := ltN hLi2
      clear F4 N4
      try dsimp only at N5
      k_unmd
      k_fold
      repeat' ((fail_if_success (with_reducible show wpAny _ _ (exec (Stmt.For _ _ _ _ _) _) _ _ _)); (fail_if_success (with_reducible show wpAny _ _ (call (.type "enumerate") _) _ _ _)); (fail_if_success (with_reducible show wpAny _ _ (eval (Expr.ListComp _ _ _ _) _) _ _ _)); first | (k_unfold; (try dsimp only)) | (k_end; wrow_close) | walk1 | (dsimp only; walk1) | (dsimp only; k_unfold; (try dsimp only)) | (leave1; walk_say "STEP leave1"; try dsimp only) | fail "no step")
      · have e9 : at' = i2 := hat.trans (insAt_hit abW hP2 hx2 (decide_eq_true (by assumption)))
        subst e9
        dsimp only [EnE]
        repeat' ((fail_if_success (with_reducible show wpAny _ _ (exec (Stmt.For _ _ _ _ _) _) _ _ _)); (fail_if_success (with_reducible show wpAny _ _ (call (.type "enumerate") _) _ _ _)); (fail_if_success (with_reducible show wpAny _ _ (eval (Expr.ListComp _ _ _ _) _) _ _ _)); first | (k_unfold; (try dsimp only)) | (k_end; wrow_close) | walk1 | (dsimp only; walk1) | (dsimp only; k_unfold; (try dsimp only)) | (leave1; walk_say "STEP leave1"; try dsimp only) | fail "no step")
        rename Fr _ _ _ _ => F6
        rename News _ _ _ _ => N6
        refine IdxPost.intro rfl F6 ?_
        exact news_sub N6 (by k_sub)
      · rename Fr _ _ _ _ => F6
        rename News _ _ _ _ => N6
        refine' EnE.next F6 N6 (by k_sub) ?_ rfl (fun y h7 h8 => by simp only [if_neg h7, if_neg h8])
        intro j hj x hx
        rcases Nat.lt_succ_iff_lt_or_eq.mp hj with hj | rfl
        · exact hP2 j hj x hx
        · rw [hx2] at hx; cases hx; exact decide_eq_false (by assumption)
  intro t32 h32 tk32 F32 N32
  clear F31 N31
  generalize (List.range gs.length).filter (fun k : Nat => decide (gs.getD (Int.toNat (k : Int)) 0 > (fs.getD (Int.toNat 1) 0).fmod 9)) = fl at *
  clear hat hpz
  rcases hT18 with rfl | ⟨c18, oc18, vs18, t18, rfl, hoc18, hvc18, hc18⟩
  all_goals
    rcases fl with _ | ⟨k0, r0⟩
    · have e0 := af1 rfl
      subst e0
      replace i30 : IntsAre v30 [] := i30
      (try k_unmd)
      (try dsimp only)
      repeat' ((fail_if_success (with_reducible show wpAny _ _ (compareOp _ (Value.ref _) (Value.ref _)) _ _ _)); first | (k_unfold; (try dsimp only)) | (k_end; wrow_close) | walk1 | (dsimp only; walk1) | (dsimp only; k_unfold; (try dsimp only)) | (leave1; walk_say "STEP leave1"; try dsimp only) | fail "no step")
      rename Fr _ _ _ _ => F33
      rename News _ _ _ _ => N33
      refine ne_same N33 (by k_mem) (by k_mem) i30 .nil rfl (by units_room) ?_
      (try k_unmd)
      (try dsimp only)
      repeat' ((fail_if_success (with_reducible show wpAny _ _ (compareOp CmpOp.Eq (Value.int _ _) (Value.int _ _)) _ _ _)); first | (k_unfold; (try dsimp only)) | (k_end; wrow_close) | walk1 | (dsimp only; walk1) | (dsimp only; k_unfold; (try dsimp only)) | (leave1; walk_say "STEP leave1"; try dsimp only) | fail "no step")
      rename Fr _ _ _ _ => F34
      rename News _ _ _ _ => N34
      walk1
      refine And.intro ?_ ⟨GrownAt.of N34 (by k_mem), GrownAt.of N34 (by k_mem), trivial⟩
      exact good_is F34 (by assumption) rfl (beq_self_eq_true _)
    · have e0 := af2 k0 r0 rfl
      subst e0
      replace i30 : IntsAre v30 ((at' : Int) :: r0.map fun k : Nat => (k : Int)) := i30
      (try k_unmd)
      (try dsimp only)
      repeat' ((fail_if_success (with_reducible show wpAny _ _ (compareOp _ (Value.ref _) (Value.ref _)) _ _ _)); first | (k_unfold; (try dsimp only)) | (k_end; wrow_close) | walk1 | (dsimp only; walk1) | (dsimp only; k_unfold; (try dsimp only)) | (leave1; walk_say "STEP leave1"; try dsimp only) | fail "no step")
      rename Fr _ _ _ _ => F33
      rename News _ _ _ _ => N33
      refine ne_diff N33 (by k_mem) (by k_mem) i30 .nil (by intro h; cases h) (by units_room) ?_
      (try k_unmd)
      (try dsimp only)
      repeat' ((fail_if_success (with_reducible show wpAny _ _ (compareOp CmpOp.Eq (Value.int _ _) (Value.int _ _)) _ _ _)); first | (k_unfold; (try dsimp only)) | (k_end; wrow_close) | walk1 | (dsimp only; walk1) | (dsimp only; k_unfold; (try dsimp only)) | (leave1; walk_say "STEP leave1"; try dsimp only) | fail "no step")
      rename Fr _ _ _ _ => F34
      rename News _ _ _ _ => N34
      walk1
      refine And.intro ?_ ⟨GrownAt.of N34 (by k_mem), GrownAt.of N34 (by k_mem), trivial⟩
      exact good_is F34 (by assumption) rfl (beq_self_eq_true _)
end Mine


set_option maxHeartbeats 8000000 in
theorem PySem.Challenge.cw_bz6013_01_holds : PySem.Challenge.rw_bz6013_01.Holds := by
  exact Mine.law_walk
