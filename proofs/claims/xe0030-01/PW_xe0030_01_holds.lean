import PyProof.Rows.All
import Wide.All
import OpenK.AllK
import Wide.FinOn
import Lean
import PySem.Challenge.RW_xe0030_01
open PySem PySem.W PyProof.Rows PyProof.V PySem.Calls PySem.Spec
set_option Elab.async false
set_option maxRecDepth 100000
set_option maxHeartbeats 8000000
set_option compiler.extract_closed false
local macro_rules | `(tactic| omega) => `(tactic| first | decide | lia | omega (config := {}))
local macro_rules | `(tactic| k_lt $h:ident) => `(tactic| (replace $h := allLt_of $h; dsimp only [AllLt] at $h:ident))

namespace Mine
set_option synthInstance.maxSize 1 in
open_top hd for PySem.Challenge.rw_xe0030_01
end Mine

section

section
namespace Mine
/-- what a contract says of a call: at any place of the walk, from any frame, over any ledger -/
abbrev Spec (w : World) (f : Addr) (vs : List Value) (dep : Nat)
    (C : Heap → Addr → (Str → Option Value) → List (Addr × Obj) → Shared → (Value → Shared → Prop) → Prop) : Prop :=
  ∀ {p : Program} {loose : List Str} {mean : ExcName → Option Value} {mg mb : Str → Option Value} {news : List (Addr × Obj)} {dp un : Nat} {gd : Option (List Code)} {cn : Str} {cs : Scope} {a : Addr} {ccd : Value} {cl : List (Str × Addr)} {outer : List Env} {A₀ : Around} {base h₀ : Heap} {L : Addr} {m : Str → Option Value} {s : Shared} {Q E : Value → Shared → Prop},
    Below A₀ base outer h₀ → Fr h₀ L s.heap m → (Mine.hd.heap_39 w.params).In h₀ → News h₀ L s.heap news → Top p loose mean mg mb h₀ → cs.kind = .function →
    dp + dep < recursionLimit → un + 8 * dep < cLine → C h₀ L m news s Q →
      wpAny (model (RowW.prog (OpenRow.toRowW (OpenLaw.row PySem.Challenge.rw_xe0030_01))) w) (ktrTop dp un gd cn cs L a ccd cl outer) (call (.ref f) vs) Q E s

/-- what is wanted, by a letter; nothing is raised -/
theorem letQE {M : Model} {A : Around} {α : Type} {t : Sem α} {Q : α → Shared → Prop} {E : Value → Shared → Prop} {s : Shared}
    (h : ∀ (Q1 : α → Shared → Prop), (∀ f s', Q f s' → Q1 f s') → wpAny M A t Q1 (fun _ _ => False) s) : wpAny M A t Q E s := wpAny_noRaise (h Q fun _ _ z => z)
theorem roomD {dp a b R : Nat} (h : dp + a < R) (e : Nat.ble (1 + b) a = true) : dp + 1 + b < R := by
  have := Nat.le_of_ble_eq_true e
  omega
theorem roomU {un a b R : Nat} (h : un + 8 * a < R) (e : Nat.ble (3 + 8 * b) (8 * a) = true) : un + 3 + 8 * b < R := by
  have := Nat.le_of_ble_eq_true e
  omega
theorem lett {G : Prop} (h : ∀ P : Prop, (G → P) → P) : G := h G id
section
variable {prog : Program} {w : World} {A : Around} {E : Value → Shared → Prop} {s : Shared} {env : Env} {h₀ : Heap} {target : Expr} {body : List Stmt} {Q : Flow → Shared → Prop}
/-- a loop over items, by an invariant -/
theorem itemsInv {ws : List (Addr × String)} {keep : List (Addr × Obj)} (J : List Itm → (Str → Option Value) → List (Addr × Obj) → Prop)
    (step : ∀ a r m news v h tk, J (a :: r) m news → a.Is v h → Fr h₀ env.locals h m → AllObj ws (fun its => News h₀ env.locals h (its ++ news) →
      wpAny (model prog w) A (assign target env v) (fun _ s₂ => wpAny (model prog w) A (execs body env) (UnrPostW h₀ env.locals { s with heap := h, toks := tk } its (fun m' n' => SubL keep n' ∧ J r m' n') Q) E s₂) E { s with heap := h, toks := tk }))
    (done : ∀ m news h tk, J [] m news → Fr h₀ env.locals h m → News h₀ env.locals h news → Q .next { s with heap := h, toks := tk }) :
    ∀ (xs : List Itm) (m : Str → Option Value) (news : List (Addr × Obj)), J xs m news → ItemsRest prog w A E h₀ env target body Q s ws keep xs m news
  | [], m, news, hj => fun h tk F N => done m news h tk hj F N
  | a :: r, m, news, hj => by
    intro v h tk ha F
    have st := step a r m news v h tk hj ha F
    have all : ∀ (ws : List (Addr × String)) (k k' : List (Addr × Obj) → Prop), (∀ its, k its → k' its) → AllObj ws k → AllObj ws k' := by
      intro ws
      induction ws with
      | nil => intro k k' hk x; exact hk _ x
      | cons w r ih => intro k k' hk x o ho; exact ih _ _ (fun its y => hk _ y) (x o ho)
    refine all _ _ _ (fun its k N => ?_) st
    refine wpAny_mono (k N) (fun _ s₂ h₂ => wpAny_mono h₂ (fun f s₃ h₃ => ?_) fun _ _ e => e) fun _ _ e => e
    have en : UnrEndW h₀ env.locals { s with heap := h, toks := tk } its (fun m' n' => SubL keep n' ∧ J r m' n') s₃ → UnrEndW h₀ env.locals { s with heap := h, toks := tk } its (fun m' n' => SubL keep n' ∧ ItemsRest prog w A E h₀ env target body Q s ws keep r m' n') s₃ :=
      fun ⟨h', tk', m', news', e, F', N', off, sub, j⟩ => ⟨h', tk', m', news', e, F', N', off, sub, itemsInv J step done r m' news' j⟩
    cases f with
    | ret v => exact h₃
    | brk => exact h₃
    | next => exact en h₃
    | cont => exact en h₃

/-- a loop over items by an invariant; what is wanted behind a turn is a letter -/
theorem itemsInvR {I : Addr} {ty : String} {keep : List (Addr × Obj)} (J : List Itm → (Str → Option Value) → List (Addr × Obj) → Prop)
    (step : ∀ a r m news v h tk oI (R : Flow → Shared → Prop), J (a :: r) m news → a.Is v h → oI.cls = .type ty → Fr h₀ env.locals h m → News h₀ env.locals h ((I, oI) :: news) →
      (∀ f s', (f = .next ∨ f = .cont) → UnrEndW h₀ env.locals { s with heap := h, toks := tk } [(I, oI)] (fun m' n' => SubL keep n' ∧ J r m' n') s' → R f s') → (∀ s', Q .next s' → R .brk s') → (∀ v s', Q (.ret v) s' → R (.ret v) s') →
      wpAny (model prog w) A (assign target env v) (fun _ s₂ => wpAny (model prog w) A (execs body env) R E s₂) E { s with heap := h, toks := tk })
    (done : ∀ m news h tk, J [] m news → Fr h₀ env.locals h m → News h₀ env.locals h news → Q .next { s with heap := h, toks := tk }) (xs : List Itm) (m : Str → Option Value) (news : List (Addr × Obj)) (hj : J xs m news) :
    ItemsRest prog w A E h₀ env target body Q s [(I, ty)] keep xs m news :=
  itemsInv (ws := [(I, ty)]) (keep := keep) (Q := Q) J (fun a r m news v h tk hj ha F => AllObj.cons (w := (I, ty)) fun o hc => AllObj.nil fun N => step a r m news v h tk o (UnrPostW h₀ env.locals { s with heap := h, toks := tk } [(I, o)] (fun m' n' => SubL keep n' ∧ J r m' n') Q) hj ha hc F N (fun f _ e z => by rcases e with rfl | rfl <;> exact z) (fun _ z => z) (fun _ _ z => z)) done xs m news hj
theorem itemsInvR2 {I I' : Addr} {ty ty' : String} {keep : List (Addr × Obj)} (J : List Itm → (Str → Option Value) → List (Addr × Obj) → Prop)
    (step : ∀ a r m news v h tk oI oI' (R : Flow → Shared → Prop), J (a :: r) m news → a.Is v h → oI.cls = .type ty → oI'.cls = .type ty' → Fr h₀ env.locals h m → News h₀ env.locals h ((I, oI) :: (I', oI') :: news) →
      (∀ f s', (f = .next ∨ f = .cont) → UnrEndW h₀ env.locals { s with heap := h, toks := tk } [(I, oI), (I', oI')] (fun m' n' => SubL keep n' ∧ J r m' n') s' → R f s') → (∀ s', Q .next s' → R .brk s') → (∀ v s', Q (.ret v) s' → R (.ret v) s') →
      wpAny (model prog w) A (assign target env v) (fun _ s₂ => wpAny (model prog w) A (execs body env) R E s₂) E { s with heap := h, toks := tk })
    (done : ∀ m news h tk, J [] m news → Fr h₀ env.locals h m → News h₀ env.locals h news → Q .next { s with heap := h, toks := tk }) (xs : List Itm) (m : Str → Option Value) (news : List (Addr × Obj)) (hj : J xs m news) :
    ItemsRest prog w A E h₀ env target body Q s [(I, ty), (I', ty')] keep xs m news :=
  itemsInv (ws := [(I, ty), (I', ty')]) (keep := keep) (Q := Q) J (fun a r m news v h tk hj ha F => AllObj.cons (w := (I, ty)) fun o hc => AllObj.cons (w := (I', ty')) fun o' hc' => AllObj.nil fun N => step a r m news v h tk o o' (UnrPostW h₀ env.locals { s with heap := h, toks := tk } [(I, o), (I', o')] (fun m' n' => SubL keep n' ∧ J r m' n') Q) hj ha hc hc' F N (fun f _ e z => by rcases e with rfl | rfl <;> exact z) (fun _ z => z) (fun _ _ z => z)) done xs m news hj

/-- a loop over a range by ones, of any length -/
theorem iterRangeT {x : Str} {px : Pos} {r : Addr} {a₀ b₀ : Int} {t₀ u₀ v₀ : Tok} {n : Nat} {m₀ : Str → Option Value} {news : List (Addr × Obj)}
    (hh : A.handled = none) (hr : IsRange s.heap r a₀ b₀ 1 t₀ u₀ v₀) (hsmall : Builtin.Range.small a₀ b₀ 1 = true) (hn : Builtin.Range.rangeSize a₀ b₀ 1 = (n : Int)) (F : Fr h₀ env.locals s.heap m₀) (N : News h₀ env.locals s.heap news)
    (rest₀ : ∀ I : Addr, (∀ p ∈ news, p.1 < I) → ItemsRest prog w A E h₀ env (.Name x px) body Q s [(I, "range_iterator")] [] ((List.range n).map fun i => Itm.tok (Value.int (a₀ + ((i : Nat) : Int)))) m₀ news) :
    wpAny (model prog w) A (pyIter (.ref r)) (fun it s₂ => TurnsAt prog w A h₀ env (.Name x px) body Q E it s₂) E s := by
  refine wpAny_pyIter_range hr hsmall ?_
  refine ktu_core (tk0 := s.toks) (keep := []) (KTurns.ofWalks ((Walks.range hh s.heap.objs.size a₀ 1 n).bound) fun i v s Q E st q => wpAny_pure q) (by rw [List.length_map, List.length_range]) ?_ ?_ ?_ ?_ ?_ ?_ ?_ ?_ (F.push _) (fun p hp => ⟨Heap.get?_push_of_some _ (N p hp).1, (N p hp).2⟩) trivial (rest₀ _ fun p hp => Heap.lt_size (N p hp).1)
  · rintro i v h ⟨hi, t, rfl⟩
    refine ⟨.tok (Value.int (a₀ + (i : Int))), by rw [List.getElem?_map, List.getElem?_range hi]; rfl, t, ?_⟩
    rw [Int.mul_one]
  · intro i h st
    have e1 : ∃ o : Obj, h.get? s.heap.objs.size = some o ∧ o.cls = .type "range_iterator" := ⟨_, st, rfl⟩
    obtain ⟨oi, g, c⟩ := e1
    exact ⟨[(s.heap.objs.size, oi)], ⟨⟨rfl, c⟩, trivial⟩, fun p hp => by rw [List.mem_singleton.mp hp]; exact g⟩
  · intro b hb
    have hb' : b = s.heap.objs.size := by simpa using hb
    rw [hb']
    exact ⟨List.mem_cons_self .., next_is_new F⟩
  · intro b hb
    simpa using hb
  · intro b hb
    have hb' : b = s.heap.objs.size := by simpa using hb
    exact .inl (by simp [hb'])
  · intro hI
    have hb' : env.locals = s.heap.objs.size := by simpa using hI
    exact absurd F.ns.lt (hb' ▸ Nat.lt_irrefl _)
  · intro p hp hI
    exact absurd (Heap.lt_size (N p hp).1) ((List.mem_singleton.mp hI) ▸ Nat.lt_irrefl _)
  · show IsRangeIter _ _ _ _ _
    rw [hn]
    simpa using Heap.get?_push_size _ rfl
theorem iterRange {x : Str} {px : Pos} {r : Addr} {a₀ b₀ : Int} {t₀ u₀ v₀ : Tok} {m₀ : Str → Option Value} {news : List (Addr × Obj)}
    (hh : A.handled = none) (hr : IsRange s.heap r a₀ b₀ 1 t₀ u₀ v₀) (ha : -1000000 ≤ a₀ ∧ a₀ ≤ 1000000) (hb : -1000000 ≤ b₀ ∧ b₀ ≤ 1000000) (F : Fr h₀ env.locals s.heap m₀) (N : News h₀ env.locals s.heap news)
    (rest₀ : ∀ I : Addr, (∀ p ∈ news, p.1 < I) → ItemsRest prog w A E h₀ env (.Name x px) body Q s [(I, "range_iterator")] [] ((List.range (b₀ - a₀).toNat).map fun i => Itm.tok (Value.int (a₀ + ((i : Nat) : Int)))) m₀ news) :
    wpAny (model prog w) A (pyIter (.ref r)) (fun it s₂ => TurnsAt prog w A h₀ env (.Name x px) body Q E it s₂) E s :=
  iterRangeT hh hr (small_one (by omega) (by omega) (by omega) (by omega)) (rangeSize_nat a₀ b₀) F N rest₀
end
end Mine
end

section
namespace Mine
section
variable {prog : Program} {w : World} {A₀ A : Around} {s : Shared} {base h₀ : Heap} {outer : List Env} {L : Addr} {m mg mb : Str → Option Value} {env : Env} {news : List (Addr × Obj)} {K : Frag} {p : Program} {loose : List Str} {mean : ExcName → Option Value}
  {R : Result → Shared → Prop} {name qual : Str} {params : Arguments} {body : List Stmt} {scope : Scope} {dV kV doc pm cdv ct oc : Value} {an od : Option Addr} {osl : Array (Option Value)} {f : Addr} {args : Args} {binds : List (Str × Value)}

/-- the ground of a call: what stands, but the objects of a part of the ledger -/
abbrev gnd (h : Heap) (ar : List (Addr × Obj)) : Heap := hideAll h (ar.map (·.1))

/-- a plain def is entered; what stands at the call is its ground, a part of the ledger is its ledger -/
theorem enterS (ar : List (Addr × Obj)) (B : Below A₀ base outer h₀) (F : Fr h₀ L s.heap m) (X₀ : K.In h₀) (N : News h₀ L s.heap news) (T : Top p loose mean mg mb h₀) (hs : ∀ q ∈ ar, q ∈ news) (hA : A.frames = some (env :: outer)) (hf : env.frame = some L) (hke : env.scope.kind = .function)
    (ho : K.lookup f = some ⟨oc, od, .func (fnOf name qual params body scope dV kV doc pm an cdv ct), osl⟩) (hcd : codeIn K cdv qual = true) (hroom : A.depth < recursionLimit)
    (hbind : BindsTo s (fnOf name qual params body scope dV kV doc pm an cdv ct) args binds) (hloc : ∀ y ∈ binds, scope.names.lookup y.1 = some .local)
    (h : ∀ L' h₁ tk, Fr (gnd s.heap ar) L' h₁ (fun y => binds.reverse.lookup y) → News (gnd s.heap ar) L' h₁ ar → Below A base (env :: outer) (gnd s.heap ar) → K.In (gnd s.heap ar) → Top p loose mean mg mb (gnd s.heap ar) →
      Fr h₀ L (gnd s.heap ar) m →
      wpAny (model prog w) (A.deeper (envOf qual scope L' f cdv)) (execs body (envOf qual scope L' f cdv))
        (fun fl s' => R (.ok (.ret (match fl with | .ret v => v | _ => .none))) s')
        (fun e s' => wpAny (model prog w) (A.deeper (envOf qual scope L' f cdv)) (leaving (envOf qual scope L' f cdv) e) (fun _ s'' => R (.error e) s'') (fun e' s'' => R (.error e') s'') s')
        { s with heap := h₁, toks := tk })
    (hco : scope.isCoroutine = false) (hgen : scope.isGenerator = false) (hk : scope.kind = .function) (hcell : ∀ x ∈ scope.names, x.2 ≠ .cell) : codeAny (model prog w) A (.call (.ref f) args) R s := by
  have NA : News h₀ L s.heap ar := fun q hq => N q (hs q hq)
  obtain ⟨FG, BG, st, _⟩ := groundX (R := R) B F NA hA hf hke
  refine codeAny_call_def (fd := fnOf name qual params body scope dV kV doc pm an cdv ct) (body := body) (binds := binds) hroom ((X₀.keeps F.keep) _ _ ho) rfl (T.nolimit.keeps F.keep) (codeRec_of (X₀.keeps F.keep) hcd) rfl hbind hcell hloc (fun h₁ hns hk₁ => ?_) hco hgen hk
  exact h s.heap.objs.size h₁ _ ⟨hns, fun b o e => hk₁ b o (of_hideAll _ e), Nat.le_of_eq (hideAll_size _ _)⟩ (fun q hq => ⟨hk₁ _ _ (NA q hq).1, Nat.ne_of_lt (Heap.lt_size (NA q hq).1), hideAll_none _ (List.mem_map_of_mem hq)⟩) BG (X₀.keeps st) (T.keeps st) FG

/-- a def some of whose names are kept by closures is entered -/
theorem enterC (ar : List (Addr × Obj)) (B : Below A₀ base outer h₀) (F : Fr h₀ L s.heap m) (X₀ : K.In h₀) (N : News h₀ L s.heap news) (T : Top p loose mean mg mb h₀) (hs : ∀ q ∈ ar, q ∈ news) (hA : A.frames = some (env :: outer)) (hf : env.frame = some L) (hke : env.scope.kind = .function)
    (ho : K.lookup f = some ⟨oc, od, .func (fnOf name qual params body scope dV kV doc pm an cdv ct), osl⟩) (hcd : codeIn K cdv qual = true) (hroom : A.depth < recursionLimit)
    (hbind : BindsTo s (fnOf name qual params body scope dV kV doc pm an cdv ct) args binds) (hkind : (binds.all fun y => scope.names.lookup y.1 == some .local || scope.names.lookup y.1 == some .cell) = true)
    (hnd : ((cellsFrom 0 scope.names []).map (·.1)).Nodup)
    (h : ∀ L' h₁ tk cells, Fr (gnd s.heap ar) L' h₁ (bindL (envOfC qual scope L' f cdv).kindOf binds fun _ => none) → News (gnd s.heap ar) L' h₁ (cells ++ ar) →
      CellsAre (bindC (envOfC qual scope L' f cdv).kindOf binds fun _ => none) (cellsFrom (L' + 1) scope.names []) cells → (∀ q ∈ ar, q.1 < L') → Below A base (env :: outer) (gnd s.heap ar) → K.In (gnd s.heap ar) → Top p loose mean mg mb (gnd s.heap ar) →
      Fr h₀ L (gnd s.heap ar) m →
      wpAny (model prog w) (A.deeper (envOfC qual scope L' f cdv)) (execs body (envOfC qual scope L' f cdv))
        (fun fl s' => R (.ok (.ret (match fl with | .ret v => v | _ => .none))) s')
        (fun e s' => wpAny (model prog w) (A.deeper (envOfC qual scope L' f cdv)) (leaving (envOfC qual scope L' f cdv) e) (fun _ s'' => R (.error e) s'') (fun e' s'' => R (.error e') s'') s')
        { s with heap := h₁, toks := tk })
    (hco : scope.isCoroutine = false) (hgen : scope.isGenerator = false) (hk : scope.kind = .function) : codeAny (model prog w) A (.call (.ref f) args) R s := by
  have NA : News h₀ L s.heap ar := fun q hq => N q (hs q hq)
  obtain ⟨FG, BG, st, _⟩ := groundX (R := R) B F NA hA hf hke
  refine codeAny_call_function hroom ((X₀.keeps F.keep) _ _ ho) rfl hco hgen rfl (codeRec_of (X₀.keeps F.keep) hcd) (hbind _ _ _ _ ?_)
  refine wpAny_newFunctionEnv_cells hk (kindsX hkind _) fun env' he s' x => ?_
  subst he
  refine ⟨(T.nolimit.keeps F.keep).keeps x.toInCall.keep, codeAny_func ?_⟩
  obtain ⟨h₁, tk, rfl, _⟩ := x.done
  have hk₁ := x.toInCall.keep
  obtain ⟨cells, NC, Y⟩ := Cl.news (h₀ := s.heap) (Nat.le_refl _) fun n c hm => ⟨x.cell n c (lookup_of_mem_nodup (cellsFrom_names scope.names 0 (s.heap.objs.size + 1) [] [] rfl ▸ hnd) hm), x.above n c hm⟩
  refine h s.heap.objs.size h₁ tk cells ⟨x.toInCall.ns, fun b o e => hk₁ b o (of_hideAll _ e), Nat.le_of_eq (hideAll_size _ _)⟩ (fun q hq => ?_) Y (fun q hq => Heap.lt_size (NA q hq).1) BG (X₀.keeps st) (T.keeps st) FG
  rcases List.mem_append.mp hq with hq | hq
  · refine ⟨(NC q hq).1, (NC q hq).2.1, ?_⟩
    cases e : (gnd s.heap ar).get? q.1 with
    | none => rfl
    | some o => have := of_hideAll _ e; rw [(NC q hq).2.2] at this; cases this
  · exact ⟨hk₁ _ _ (NA q hq).1, Nat.ne_of_lt (Heap.lt_size (NA q hq).1), hideAll_none _ (List.mem_map_of_mem hq)⟩
end

section
variable {h₀ h h' : Heap} {L L' l : Addr} {m m' : Str → Option Value} {news ne ar : List (Addr × Obj)} {o : Obj}
theorem backF (FG : Fr h₀ L (gnd h ar) m) (F' : Fr (gnd h ar) L' h' m') : Fr h₀ L h' m := FG.keeps F'.keep
/-- the caller's ledger stands, where the callee's part of it does -/
theorem backN (N : News h₀ L h news) (F' : Fr (gnd h ar) L' h' m') (N' : News (gnd h ar) L' h' ne) (hs : ∀ q ∈ ar, q ∈ news) (he : ∀ q ∈ ar, q ∈ ne) : News h₀ L h' news := fun p hp => by
  refine ⟨?_, (N p hp).2⟩
  by_cases q : p.1 ∈ ar.map (·.1)
  · obtain ⟨r, hr, e⟩ := List.mem_map.mp q
    have e1 := (N r (hs r hr)).1
    rw [e, (N p hp).1] at e1
    have e2 := (N' r (he r hr)).1
    rw [e] at e2
    rw [e2, Option.some.inj e1]
  · exact F'.keep _ _ (hideAll_get _ (N p hp).1 q)
theorem backOff (N' : News (gnd h ar) L' h' ne) (hm : (l, o) ∈ ne) (hl : ∀ q ∈ ar, q.1 ≠ l) : h.get? l = none := by
  cases e : h.get? l with
  | none => rfl
  | some o' =>
    have e1 := (N' _ hm).2.2
    rw [hideAll_get _ e (fun q => by obtain ⟨r, hr, e2⟩ := List.mem_map.mp q; exact hl r hr e2)] at e1
    cases e1
theorem backN1 (F : Fr h₀ L h m) (N : News h₀ L h news) (F' : Fr (gnd h ar) L' h' m') (N' : News (gnd h ar) L' h' ne) (hs : ∀ q ∈ ar, q ∈ news) (he : ∀ q ∈ ar, q ∈ ne) (hm : (l, o) ∈ ne) (hl : ∀ q ∈ ar, q.1 ≠ l) : News h₀ L h' ((l, o) :: news) := fun p hp => by
  rcases List.mem_cons.mp hp with rfl | hp
  · have z := backOff N' hm hl
    refine ⟨(N' _ hm).1, fun e => ?_, ?_⟩
    · obtain ⟨oL, _, _, hL, _⟩ := F.ns
      have e' : l = L := e
      rw [e', hL] at z; cases z
    · cases q : h₀.get? l with
      | none => rfl
      | some o' => rw [F.keep _ _ q] at z; cases z
  · exact backN N F' N' hs he p hp
theorem backNe (N : News h₀ L h news) (N' : News (gnd h ar) L' h' ne) (hm : (l, o) ∈ ne) (hl : ∀ q ∈ ar, q.1 ≠ l) : ∀ p ∈ news, p.1 ≠ l := fun p hp e => by
  have z := backOff N' hm hl
  rw [← e, (N p hp).1] at z; cases z
def AllNe (d : Addr) : List (Addr × Obj) → Prop
  | [] => True
  | p :: r => @Ne Nat p.1 d ∧ AllNe d r
theorem allNe_of {d : Addr} : ∀ {l : List (Addr × Obj)}, (∀ p ∈ l, p.1 ≠ d) → AllNe d l
  | [], _ => trivial
  | p :: _, h => ⟨h p (.head _), allNe_of fun q hq => h q (.tail _ hq)⟩
theorem noneOf {P : Addr × Obj → Prop} : ∀ q ∈ ([] : List (Addr × Obj)), P q := fun _ h => nomatch h
theorem oneOf {P : Addr × Obj → Prop} {a : Addr × Obj} (h : P a) : ∀ q ∈ [a], P q := fun _ hq => by cases hq with | head => exact h | tail _ h => nomatch h
theorem twoOf {P : Addr × Obj → Prop} {a b : Addr × Obj} (h : P a) (h' : P b) : ∀ q ∈ [a, b], P q := fun _ hq => by
  cases hq with
  | head => exact h
  | tail _ hq => exact oneOf h' _ hq
theorem consOf {P : Addr × Obj → Prop} {a : Addr × Obj} {r : List (Addr × Obj)} (h : P a) (h' : ∀ q ∈ r, P q) : ∀ q ∈ a :: r, P q := fun _ hq => by
  cases hq with
  | head => exact h
  | tail _ hq => exact h' _ hq
end
theorem loadX_L {M : Model} {A : Around} {E : Value → Shared → Prop} {s : Shared} {h₀ : Heap} {L a : Addr} {m : Str → Option Value} {cn : Str} {cs : Scope} {ccd : Value} {cl : List (Str × Addr)} {x : Str} {v : Value} {Q : Value → Shared → Prop}
    (F : Fr h₀ L s.heap m) (hv : m x = some v) (h : Q v s) (hk : cs.kind = .function := by rfl) (hx : (envX cn cs L a ccd cl).kindOf x = some .local := by rfl) :
    wpAny M A (loadName (envX cn cs L a ccd cl) x) Q E s := wpAny_loadName_local hk hx F.ns hv h
theorem in_some {prog : Program} {w : World} {A : Around} {E : Value → Shared → Prop} {s : Shared} {d : Addr} {D : List (PyData × PyData)} {x : Str} {t : Tok} {dv : PyData} {Q : Value → Shared → Prop} (T : StrTab prog w s.heap d D) (hl : PySem.Spec.lookup (.str x) D = some dv) (h : Q (.bool true) { s with toks := s.toks + 1 }) :
    wpAny (model prog w) A (compareOp .In (.str x t) (.ref d)) Q E s := in_strTab T (by rw [hl]; exact h)
theorem in_none {prog : Program} {w : World} {A : Around} {E : Value → Shared → Prop} {s : Shared} {d : Addr} {D : List (PyData × PyData)} {x : Str} {t : Tok} {Q : Value → Shared → Prop} (T : StrTab prog w s.heap d D) (hl : PySem.Spec.lookup (.str x) D = none) (h : Q (.bool false) { s with toks := s.toks + 1 }) :
    wpAny (model prog w) A (compareOp .In (.str x t) (.ref d)) Q E s := in_strTab T (by rw [hl]; exact h)
def Halt (P : Prop) : Prop := P
theorem Halt.out {P : Prop} (h : Halt P) : P := h
end Mine
end

section
namespace Mine
open LCg LCt
section
variable {prog : Program} {w : World} {A : Around} {s : Shared} {h₀ : Heap} {L : Addr} {m : Str → Option Value} {env : Env}
theorem compEnd_mono {s₁ : Shared} {I C D : Addr} {oI oC oD : Obj} {S : List (Addr × Obj) → Prop} {r r' : Value → List (Addr × Obj) → Prop} {y : Value} {s₂ : Shared} (h : CompEnd h₀ L m s₁ I oI C oC D oD S r y s₂) (k : ∀ y n, r y n → r' y n) : CompEnd h₀ L m s₁ I oI C oC D oD S r' y s₂ :=
  let ⟨h', tk, n, e, F, N, o, hS, x⟩ := h; ⟨h', tk, n, e, F, N, o, hS, k _ _ x⟩
/-- a comprehension with a test, by an invariant -/
theorem compTInv {ct elt : Expr} {x : Str} {scope : Scope} {cl : List (Str × Addr)} {S : List (Addr × Obj) → Prop} {P : Nat → Value → Prop} {Fin : List Value → List (Addr × Obj) → Prop} {n : Nat} (J : Nat → List Value → List (Addr × Obj) → Prop)
    (step : ∀ i ys news v I oI C oC D m₂ h tk (E' : Value → Shared → Prop), i < n → J i ys news → P i v → NsObj oC m₂ → m₂ x = some v → Fr h₀ L h m → News h₀ L h ((I, oI) :: (C, oC) :: (D, LCg.lst ys) :: news) → Off3 I C D news → ((@Ne Nat I C) ∧ (@Ne Nat I D) ∧ (@Ne Nat C D)) →
      wpAny (model prog w) A (isTrue ct (compEnvC scope cl C env) (eval ct (compEnvC scope cl C env))) (fun ok s' => if ok = true then
        wpAny (model prog w) A (eval elt (compEnvC scope cl C env)) (CompEnd h₀ L m { s with heap := h, toks := tk } I oI C oC D (LCg.lst ys) S (fun y news' => J (i + 1) (ys ++ [y]) news')) E' s'
        else CompEnd h₀ L m { s with heap := h, toks := tk } I oI C oC D (LCg.lst ys) S (fun _ news' => J (i + 1) ys news') Value.none s') E' { s with heap := h, toks := tk })
    (fin : ∀ ys news, J n ys news → Fin ys news) : ∀ (k i : Nat) (ys : List Value) (news : List (Addr × Obj)), i + k = n → J i ys news → CompRestT prog w A h₀ L m env ct elt x scope cl s S P Fin k i ys news
  | 0, i, ys, news, e, j => fin ys news (by rw [← e]; exact j)
  | k + 1, i, ys, news, e, j => by
    intro v I oI C oC D m₂ h tk E' hP hC hx F N off ne
    refine wpAny_mono (step i ys news v I oI C oC D m₂ h tk E' (by omega) j hP hC hx F N off ne) (fun ok s' z => ?_) fun _ _ z => z
    cases ok with
    | true =>
      simp only [if_true] at z ⊢
      exact wpAny_mono z (fun y s₅ z => compEnd_mono z fun y n q => compTInv J step fin k (i + 1) _ n (by omega) q) fun _ _ z => z
    | false =>
      simp only [Bool.false_eq_true, if_false] at z ⊢
      exact compEnd_mono z fun y n q => compTInv J step fin k (i + 1) _ n (by omega) q
/-- a comprehension without a test, by an invariant -/
theorem compInv {elt : Expr} {x : Str} {scope : Scope} {cl : List (Str × Addr)} {S : List (Addr × Obj) → Prop} {P : Nat → Value → Prop} {Fin : List Value → List (Addr × Obj) → Prop} {n : Nat} (J : Nat → List Value → List (Addr × Obj) → Prop)
    (step : ∀ i ys news v I oI C oC D m₂ h tk (E' : Value → Shared → Prop), i < n → J i ys news → P i v → NsObj oC m₂ → m₂ x = some v → Fr h₀ L h m → News h₀ L h ((I, oI) :: (C, oC) :: (D, LCg.lst ys) :: news) → Off3 I C D news → ((@Ne Nat I C) ∧ (@Ne Nat I D) ∧ (@Ne Nat C D)) →
      wpAny (model prog w) A (eval elt (compEnvC scope cl C env)) (CompEnd h₀ L m { s with heap := h, toks := tk } I oI C oC D (LCg.lst ys) S (fun y news' => J (i + 1) (ys ++ [y]) news')) E' { s with heap := h, toks := tk })
    (fin : ∀ ys news, J n ys news → Fin ys news) : ∀ (k i : Nat) (ys : List Value) (news : List (Addr × Obj)), i + k = n → J i ys news → CompRest prog w A h₀ L m env elt x scope cl s S P Fin k i ys news
  | 0, i, ys, news, e, j => fin ys news (by rw [← e]; exact j)
  | k + 1, i, ys, news, e, j => by
    intro v I oI C oC D m₂ h tk E' hP hC hx F N off ne
    exact wpAny_mono (step i ys news v I oI C oC D m₂ h tk E' (by omega) j hP hC hx F N off ne) (fun y s₅ z => compEnd_mono z fun y n q => compInv J step fin k (i + 1) _ n (by omega) q) fun _ _ z => z
end
end Mine
end

section
namespace Mine
section
variable {prog : Program} {w : World} {A : Around} {E : Value → Shared → Prop} {s : Shared} {env : Env} {h₀ : Heap} {body orelse : List Stmt} {Q : Flow → Shared → Prop}
/-- the end of a turn of a loop that has an else -/
def TurnEnd (h₀ : Heap) (L : Addr) (s : Shared) (keep : Addr × Obj) (J : (Str → Option Value) → List (Addr × Obj) → Prop) (Q : Flow → Shared → Prop) (f : Flow) (s₃ : Shared) : Prop :=
  match f with
  | .next => ∃ h' tk m' news', s₃ = { s with heap := h', toks := tk } ∧ Fr h₀ L h' m' ∧ News h₀ L h' (keep :: news') ∧ (∀ p ∈ news', p.1 ≠ keep.1) ∧ J m' news'
  | .cont => ∃ h' tk m' news', s₃ = { s with heap := h', toks := tk } ∧ Fr h₀ L h' m' ∧ News h₀ L h' (keep :: news') ∧ (∀ p ∈ news', p.1 ≠ keep.1) ∧ J m' news'
  | .brk => Q .next s₃
  | .ret v => Q (.ret v) s₃
/-- a loop over a range by ones, with an else, by an invariant -/
theorem forElse {x : Str} {px : Pos} {r : Addr} {a₀ b₀ : Int} {t₀ u₀ v₀ : Tok} {m₀ : Str → Option Value} {news : List (Addr × Obj)} (J : Nat → (Str → Option Value) → List (Addr × Obj) → Prop)
    (hh : A.handled = none) (hr : IsRange s.heap r a₀ b₀ 1 t₀ u₀ v₀) (ha : -1000000 ≤ a₀ ∧ a₀ ≤ 1000000) (hb : -1000000 ≤ b₀ ∧ b₀ ≤ 1000000) (F : Fr h₀ env.locals s.heap m₀) (N : News h₀ env.locals s.heap news) (j0 : J 0 m₀ news)
    (step : ∀ i t m₁ news₁ h₁ tk₁ I o, i < (b₀ - a₀).toNat → (∀ p ∈ news, p.1 < I) → (∀ p ∈ news₁, p.1 ≠ I) → J i m₁ news₁ → Fr h₀ env.locals h₁ m₁ → News h₀ env.locals h₁ ((I, o) :: news₁) → o.cls = .type "range_iterator" →
      wpAny (model prog w) A (assign (.Name x px) env (.int (a₀ + (i : Int)) t)) (fun _ s₂ => wpAny (model prog w) A (execs body env) (TurnEnd h₀ env.locals { s with heap := h₁, toks := tk₁ } (I, o) (J (i + 1)) Q) E s₂) E { s with heap := h₁, toks := tk₁ })
    (done : ∀ m₁ news₁ h₁ tk₁, J (b₀ - a₀).toNat m₁ news₁ → Fr h₀ env.locals h₁ m₁ → News h₀ env.locals h₁ news₁ → wpAny (model prog w) A (execs orelse env) Q E { s with heap := h₁, toks := tk₁ })
    (hE : PassesOwn (model prog w) A env E := by passes_own) :
    wpAny (model prog w) A (pyIter (.ref r)) (fun it s₂ => codeAny (model prog w) A (.forLoop (.Name x px) it body orelse env) (fun r s' => match r with | .ok f => Q f s' | .error e => cameBackBy (model prog w) A env E e s') s₂) E s := by
  have hn := rangeSize_nat a₀ b₀
  refine wpAny_pyIter_range hr (small_one (by omega) (by omega) (by omega) (by omega)) ?_
  generalize hI : s.heap.objs.size = I
  generalize (b₀ - a₀).toNat = n at *
  have W := Walks.range (prog := prog) (w := w) hh I a₀ 1 n
  have hlt : ∀ p ∈ news, p.1 < I := fun p hp => hI ▸ Heap.lt_size (N p hp).1
  have hL : env.locals ≠ I := fun e => absurd F.ns.lt (by rw [hI, e]; exact Nat.lt_irrefl _)
  have h0I : h₀.get? I = none := by rw [← hI]; exact next_is_new F
  refine codeAny_forLoop_any (fun k s' => ∃ h' tk m' news' i, s' = { s with heap := h', toks := tk } ∧ IsRangeIter h' I (a₀ + (i : Nat) * 1) ((n : Int) - (i : Nat)) 1 ∧ Fr h₀ env.locals h' m' ∧ News h₀ env.locals h' news' ∧ (∀ p ∈ news', p.1 ≠ I) ∧ J i m' news' ∧ i ≤ n ∧ k = n + 1 - i) ?_ (n + 1) ?_
  · rintro k s' ⟨h', tk, m', news', i, rfl, st, F', N', hne, hJ, hi, rfl⟩
    have old : ∀ h₁ : Heap, (∀ b o, b ∉ [I] → h'.get? b = some o → h₁.get? b = some o) → Fr h₀ env.locals h₁ m' ∧ News h₀ env.locals h₁ news' := fun h₁ hk =>
      ⟨⟨F'.ns.at' fun o e => hk _ o (by simpa using hL) e, fun b o e => hk b o (fun q => by rw [List.mem_singleton.mp q, h0I] at e; cases e) (F'.keep b o e), F'.above⟩, fun p hp => ⟨hk _ _ (by simpa using hne p hp) (N' p hp).1, (N' p hp).2⟩⟩
    by_cases hlt' : i < n
    · refine W.item i _ _ _ hlt' st fun v h₁ tk₁ hv st' hk => ?_
      obtain ⟨t, rfl⟩ := hv
      rw [Int.mul_one]
      obtain ⟨F₁, N₁⟩ := old h₁ hk
      have e1 : ∃ o : Obj, h₁.get? I = some o ∧ o.cls = .type "range_iterator" := ⟨_, st', rfl⟩
      obtain ⟨o, g, c⟩ := e1
      refine wpAny_pure ?_
      have N₂ : News h₀ env.locals h₁ ((I, o) :: news') := fun p hp => by
        rcases List.mem_cons.mp hp with rfl | hp
        · exact ⟨g, fun e => hL e.symm, h0I⟩
        · exact N₁ p hp
      refine wpAny_mono (step i t m' news' h₁ tk₁ I o hlt' hlt hne hJ F₁ N₂ c) (fun _ s₂ h₂ => wpAny_passesOwn hE (wpAny_mono h₂ (fun f s₃ h₃ => ?_) fun _ _ e => e)) hE
      have fin : (∃ h' tk m' news', s₃ = { s with heap := h', toks := tk } ∧ Fr h₀ env.locals h' m' ∧ News h₀ env.locals h' ((I, o) :: news') ∧ (∀ p ∈ news', p.1 ≠ I) ∧ J (i + 1) m' news') →
          ∃ k, k < n + 1 - i ∧ ∃ h' tk m' news' i, s₃ = { s with heap := h', toks := tk } ∧ IsRangeIter h' I (a₀ + (i : Nat) * 1) ((n : Int) - (i : Nat)) 1 ∧ Fr h₀ env.locals h' m' ∧ News h₀ env.locals h' news' ∧ (∀ p ∈ news', p.1 ≠ I) ∧ J i m' news' ∧ i ≤ n ∧ k = n + 1 - i := by
        rintro ⟨h₃', tk₃, m₃, news₃, rfl, F₃, N₃, hne₃, hJ₃⟩
        refine ⟨n + 1 - (i + 1), Nat.sub_lt_sub_left (by omega) (Nat.lt_succ_self _), h₃', tk₃, m₃, news₃, i + 1, rfl, ?_, F₃, fun p hp => N₃ p (.tail _ hp), hne₃, hJ₃, hlt', rfl⟩
        have z := (N₃ (I, o) (.head _)).1
        have e2 : h₁.get? I = h₃'.get? I := g.trans z.symm
        exact W.frame _ _ _ st' fun b hb o' ho' => by
          rw [List.mem_singleton.mp hb] at ho' ⊢
          rw [← e2]; exact ho'
      cases f with
      | next => exact fin h₃
      | cont => exact fin h₃
      | brk => exact h₃
      | ret v => exact h₃
    · have hin : i = n := by omega
      subst hin
      refine W.done _ _ _ st fun h₁ tk₁ hk => ?_
      obtain ⟨F₁, N₁⟩ := old h₁ hk
      exact wpAny_passesOwn hE (done m' news' h₁ tk₁ hJ F₁ N₁)
  · refine ⟨_, _, m₀, news, 0, rfl, ?_, F.push _, fun p hp => ⟨Heap.get?_push_of_some _ (N p hp).1, (N p hp).2⟩, fun p hp => Nat.ne_of_lt (hlt p hp), j0, Nat.zero_le _, rfl⟩
    show IsRangeIter _ _ _ _ _
    rw [hn, ← hI]
    simpa using Heap.get?_push_size _ rfl
end
end Mine
end

section
namespace Mine
section
variable {prog : Program} {w : World} {A : Around} {E : Value → Shared → Prop} {s : Shared} {env : Env} {h₀ : Heap} {target : Expr} {body : List Stmt} {Q : Flow → Shared → Prop}
/-- a loop over a list, of any length -/
theorem iterList {x : Str} {px : Pos} {l : Addr} {lo : Obj} {vs : List Value} {n : Nat} {m₀ : Str → Option Value} {news : List (Addr × Obj)}
    (hh : A.handled = none) (F : Fr h₀ env.locals s.heap m₀) (N : News h₀ env.locals s.heap news) (hm : (l, lo) ∈ news) (hc : lo.cls = .type "list") (hd : lo.data = .seq vs.toArray n)
    (rest₀ : ∀ I : Addr, (∀ p ∈ news, p.1 < I) → ItemsRest prog w A E h₀ env (.Name x px) body Q s [(I, "list_iterator")] [(l, lo)] (vs.map Itm.val) m₀ news) :
    wpAny (model prog w) A (pyIter (.ref l)) (fun it s₂ => TurnsAt prog w A h₀ env (.Name x px) body Q E it s₂) E s := by
  have hax := N _ hm
  have hl : s.heap.IsList l vs.toArray := ⟨lo, hax.1, hc, n, hd⟩
  have hlt : l < s.heap.objs.size := Heap.lt_size hax.1
  refine wpAny_pyIter_list hl ?_
  refine ktu_core (tk0 := s.toks) (keep := [(l, lo)]) (KTurns.ofWalks (Walks.list hh s.heap.objs.size l (Nat.ne_of_lt hlt) vs.toArray) fun i v s Q E st q => wpAny_pure q) (by simp) ?_ ?_ ?_ ?_ ?_ ?_ ?_ ?_ (F.push _) (fun p hp => ⟨Heap.get?_push_of_some _ (N p hp).1, (N p hp).2⟩) (And.intro hm trivial) (rest₀ _ fun p hp => Heap.lt_size (N p hp).1)
  · intro i v h hP
    exact ⟨.val v, by rw [List.getElem?_map]; simp at hP; simp [hP], rfl⟩
  · rintro i h ⟨⟨oi, g, c, _⟩, _⟩
    exact ⟨[(s.heap.objs.size, oi)], ⟨⟨rfl, c⟩, trivial⟩, fun p hp => by rw [List.mem_singleton.mp hp]; exact g⟩
  · intro b hb
    have hb' : b = s.heap.objs.size := by simpa using hb
    rw [hb']
    exact ⟨List.mem_cons_self .., next_is_new F⟩
  · intro b hb
    simpa using hb
  · intro b hb
    have hb' : b = s.heap.objs.size ∨ b = l := by simpa using hb
    rcases hb' with e | e
    · exact .inl (by simp [e])
    · exact .inr ⟨lo, by simp [e]⟩
  · intro hI
    have hb' : env.locals = s.heap.objs.size ∨ env.locals = l := by simpa using hI
    rcases hb' with e | e
    · exact absurd F.ns.lt (e ▸ Nat.lt_irrefl _)
    · exact hax.2.1 e.symm
  · intro p hp hI
    exact absurd (Heap.lt_size (N p hp).1) ((List.mem_singleton.mp hI) ▸ Nat.lt_irrefl _)
  · exact ⟨⟨_, Heap.get?_push_size _ rfl, rfl, rfl⟩, hl.push _⟩
end
end Mine
end

section
namespace Mine
open LCg
/-- two addresses differ: a word that omega does not open -/
def NeA (a b : Nat) : Prop := a ≠ b
theorem NeA.out {a b : Nat} (h : NeA a b) : a ≠ b := h
theorem neA_eq {a b : Nat} : (a ≠ b) = NeA a b := rfl
def AllNeA (d : Addr) : List (Addr × Obj) → Prop
  | [] => True
  | p :: r => NeA p.1 d ∧ AllNeA d r
theorem allNeA_of {d : Addr} : ∀ {l : List (Addr × Obj)}, (∀ p ∈ l, p.1 ≠ d) → AllNeA d l
  | [], _ => trivial
  | p :: _, h => ⟨h p (.head _), allNeA_of fun q hq => h q (.tail _ hq)⟩
theorem nfe_cell {M : Model} {A : Around} {E : Value → Shared → Prop} {s : Shared} {scope : Scope} {globals : Addr} {cl : List (Str × Addr)} {qual : Str} {env : Env} {Q : Env → Shared → Prop}
    (hQ : Q (newEnv scope s.heap.objs.size globals (cellsFrom (s.heap.objs.size + 1) scope.names cl) qual none .none (some env) builtinsNs) { s with heap := pushCells (s.heap.push { cls := .type "dict", data := .dict #[] }) scope.names }) :
    wpAny M A (newFunctionEnv scope globals cl [] qual none .none (some env)) Q E s := by
  simp only [newFunctionEnv, Option.isSome_some, if_true]
  refine wpAny_bind (wpAny_alloc ?_)
  refine wpAny_bind (wpAny_layCells _ (fun name kind cells => by cases hkc : kind == NameKind.cell <;> simp [hkc]) _ _ _ _ ?_)
  rw [show ({ s with heap := s.heap.push { cls := .type "dict", data := .dict #[] } } : Shared).heap.objs.size = s.heap.objs.size + 1 from Heap.size_push ..]
  exact wpAny_bind (wpAny_pure (wpAny_pure hQ))
theorem lookup_relabel_cell {env : Env} : ∀ {names : List (Str × NameKind)} {x : Str}, names.lookup x = some .cell →
    (names.map fun (n, k) => if (k == NameKind.free && env.scope.kind == .function && env.kindOf n == some .cell) then (n, NameKind.cell) else (n, k)).lookup x = some .cell
  | [], _, h => by simp at h
  | (n, k) :: r, x, h => by
    have ih := @lookup_relabel_cell env r x
    show List.lookup x ((if (k == NameKind.free && env.scope.kind == .function && env.kindOf n == some .cell) = true then (n, NameKind.cell) else (n, k)) :: _) = _
    cases hx : x == n with
    | true =>
      simp only [List.lookup_cons, hx] at h
      cases h
      simp [List.lookup_cons, hx]
    | false =>
      simp only [List.lookup_cons, hx] at h
      by_cases hc : (k == NameKind.free && env.scope.kind == .function && env.kindOf n == some .cell) = true
      · rw [if_pos hc]; simp only [List.lookup_cons, hx]; exact ih h
      · rw [if_neg hc]; simp only [List.lookup_cons, hx]; exact ih h
/-- the turns of a comprehension over a range, whose variable is kept by a closure -/
def RestC (prog : Program) (w : World) (A : Around) (h₀ : Heap) (L : Addr) (m : Str → Option Value) (env : Env) (elt : Expr) (x : Str) (scope : Scope) (cl : List (Str × Addr)) (s : Shared) (P : Nat → Value → Prop)
    (Fin : List Value → List (Addr × Obj) → Prop) : Nat → Nat → List Value → List (Addr × Obj) → Prop
  | 0, _, ys, news => Fin ys news
  | k + 1, i, ys, news => ∀ v I oI C oC D cE oE m₂ h tk (E' : Value → Shared → Prop), P i v → NsObj oC m₂ → oE.data = .cell (some v) → Fr h₀ L h m → News h₀ L h ((I, oI) :: (C, oC) :: (D, lst ys) :: (cE, oE) :: news) → Off3 I C D ((cE, oE) :: news) → ((@Ne Nat I C) ∧ (@Ne Nat I D) ∧ (@Ne Nat C D)) → (∀ p ∈ news, p.1 ≠ cE) →
      wpAny (model prog w) A (eval elt (compEnvC scope ((x, cE) :: cl) C env)) (CompEnd h₀ L m { s with heap := h, toks := tk } I oI C oC D (lst ys) (fun _ => True) (fun y n' => ∃ news', n' = (cE, oE) :: news' ∧ (∀ p ∈ news', p.1 ≠ cE) ∧ RestC prog w A h₀ L m env elt x scope cl s P Fin k (i + 1) (ys ++ [y]) news')) E' { s with heap := h, toks := tk }
section
variable {prog : Program} {w : World} {A : Around} {E : Value → Shared → Prop} {s : Shared} {h₀ : Heap} {L : Addr} {m : Str → Option Value} {env : Env}
theorem block_C {elt iter : Expr} {x : Str} {px : Pos} {scope : Scope} {cl : List (Str × Addr)} {pos : Pos} {s₂ : Shared} {I : Addr} {n : Nat} {P : Nat → Value → Prop} {St : Nat → Heap → Prop} {news : List (Addr × Obj)}
    {Fin : List Value → List (Addr × Obj) → Prop} {RR : Value → Addr → Result → Shared → Prop}
    (W : Walks prog w A I [I] [I] n P St) (hsz : n ≤ sizeLine) (hIo : ∀ i h, St i h → ∃ o, h.get? I = some o)
    (hSt : ∀ i h h' o, St i h → h.get? I = some o → h'.get? I = some o → St i h')
    (hcf : ∀ n, cellsFrom n scope.names cl = (x, n) :: cl) (hpc : ∀ h, pushCells h scope.names = h.push { cls := .type "cell", data := .cell none }) (hkind : scope.kind = .function) (hx : scope.names.lookup x = some .cell) (hst : St 0 s₂.heap) (hIlt : I < s₂.heap.objs.size)
    (F : Fr h₀ L s₂.heap m) (N : News h₀ L s₂.heap news) (hIL : L ≠ I) (hI₀ : h₀.get? I = none) (off : ∀ p ∈ news, p.1 ≠ I)
    (R : RestC prog w A h₀ L m env elt x scope cl s₂ P Fin n 0 [] news)
    (hRR : ∀ D C h tk m' ys news', Fr h₀ L h m → News h₀ L h ((D, lst ys) :: news') → Off1 D news' → h.Ns C m' → h₀.get? C = none → h₀.get? D = none → C ≠ L → D ≠ L → C ≠ D → (∀ p ∈ news', p.1 ≠ C) → Fin ys news' → RR (.ref D) C (.ok .next) { s₂ with heap := h, toks := tk }) :
    wpAny (model prog w) A (newList []) (fun acc s₃ => wpAny (model prog w) A (newFunctionEnv scope env.globals cl [] env.qual none .none (some env)) (fun cenv s₄ =>
      codeAny (model prog w) A (.compStart (.ListComp elt [⟨.Name x px, iter, [], 0⟩] scope pos) 0 (.ref I) acc { cenv with scope := relabel scope env }) (RR acc cenv.locals) s₄) E s₃) E s₂ := by
  refine wpAny_newObj_type (nfe_cell ?_)
  dsimp only
  rw [hcf, hpc]
  generalize hH2 : s₂.heap.push { cls := .type "list", dict := none, data := .seq ([] : List Value).toArray } = H2
  have hC : H2.objs.size = s₂.heap.objs.size + 1 := by rw [← hH2, Heap.size_push]
  have hDC : s₂.heap.objs.size ≠ H2.objs.size := by rw [hC]; exact Nat.ne_of_lt (Nat.lt_succ_self _)
  generalize hh₁ : (H2.push { cls := .type "dict", data := .dict #[] }).push { cls := .type "cell", data := .cell none } = h₁
  have hcE : (H2.push { cls := .type "dict", data := .dict #[] }).objs.size = H2.objs.size + 1 := Heap.size_push ..
  have hns₁ : h₁.Ns H2.objs.size (fun _ => none) := by
    rw [← hh₁]
    exact (Heap.Ns.new H2 (.type "dict")).keeps fun b o e => Heap.get?_push_of_some _ e
  have up : ∀ b o, H2.get? b = some o → h₁.get? b = some o := fun b o e => hh₁ ▸ Heap.get?_push_of_some _ (Heap.get?_push_of_some _ e)
  have hcl₁ : h₁.get? (H2.objs.size + 1) = some { cls := .type "cell", data := .cell none } := by rw [← hh₁, ← hcE]; exact Heap.get?_push_size _ rfl
  have below : ∀ b, b < s₂.heap.objs.size → b ≠ H2.objs.size ∧ b ≠ s₂.heap.objs.size ∧ b ≠ H2.objs.size + 1 := fun b hb => ⟨by rw [hC]; exact Nat.ne_of_lt (Nat.lt_succ_of_lt hb), Nat.ne_of_lt hb, by rw [hC]; exact Nat.ne_of_lt (Nat.lt_succ_of_lt (Nat.lt_succ_of_lt hb))⟩
  have old : ∀ b o, s₂.heap.get? b = some o → h₁.get? b = some o := fun b o e => up b o (hH2 ▸ Heap.get?_push_of_some _ e)
  have hacc : h₁.get? s₂.heap.objs.size = some (lst []) := up _ _ (hH2 ▸ Heap.get?_push_size _ rfl)
  have hst₁ : St 0 h₁ := W.frame _ _ _ hst fun b _ o e => old b o e
  have fresh : ∀ a, s₂.heap.objs.size ≤ a → s₂.heap.get? a = none := fun a ha => by
    cases e : s₂.heap.get? a with
    | none => rfl
    | some o' => exact absurd (Heap.lt_size e) (Nat.not_lt.mpr ha)
  have fresh₀ : ∀ a, s₂.heap.objs.size ≤ a → h₀.get? a = none := fun a ha => by
    cases e : h₀.get? a with
    | none => rfl
    | some o' => have := F.keep a o' e; rw [fresh a ha] at this; cases this
  have hD₀ : h₀.get? s₂.heap.objs.size = none := fresh₀ _ (Nat.le_refl _)
  have hC₀ : h₀.get? H2.objs.size = none := fresh₀ _ (by rw [hC]; exact Nat.le_succ _)
  have hc₀ : h₀.get? (H2.objs.size + 1) = none := fresh₀ _ (by rw [hC]; exact Nat.le_succ_of_le (Nat.le_succ _))
  have hLlt : L < s₂.heap.objs.size := F.ns.lt
  have hDL : s₂.heap.objs.size ≠ L := Ne.symm (below L hLlt).2.1
  have hCL : H2.objs.size ≠ L := Ne.symm (below L hLlt).1
  have hcL : H2.objs.size + 1 ≠ L := Ne.symm (below L hLlt).2.2
  have hCI : I ≠ H2.objs.size := (below I hIlt).1
  have hDI : I ≠ s₂.heap.objs.size := (below I hIlt).2.1
  have hcI : H2.objs.size + 1 ≠ I := Ne.symm (below I hIlt).2.2
  have hcC : H2.objs.size ≠ H2.objs.size + 1 := Nat.ne_of_lt (Nat.lt_succ_self _)
  have hcD : H2.objs.size + 1 ≠ s₂.heap.objs.size := by rw [hC]; exact Ne.symm (Nat.ne_of_lt (Nat.lt_succ_of_lt (Nat.lt_succ_self _)))
  generalize H2.objs.size + 1 = c at *
  generalize hDd : s₂.heap.objs.size = D at *
  have off₀ : Off3 I H2.objs.size D ((c, { cls := .type "cell", data := .cell none }) :: news) := Off3.of fun p hp => by
    rcases List.mem_cons.mp hp with rfl | hp
    · exact ⟨hcI, Ne.symm hcC, hcD⟩
    · have z := Heap.lt_size (N p hp).1
      rw [hDd] at z
      exact ⟨off p hp, (below _ z).1, (below _ z).2.1⟩
  have loop : ∀ s₃ : Shared, s₃ = { s₂ with heap := h₁ } →
      codeAny (model prog w) A (.compLoop (.ListComp elt [⟨.Name x px, iter, [], 0⟩] scope pos) 0 (.ref I) (.ref D) (compEnvC scope ((x, c) :: cl) H2.objs.size env))
        (RR (.ref D) H2.objs.size) s₃ := by
    rintro s₃ rfl
    refine codeAny_compLoop_tests
      (fun k s' => ∃ h' tk i ys m' oE vo news', s' = { s₂ with heap := h', toks := tk } ∧ i ≤ n ∧ k = n + 1 - i ∧ ys.length = i ∧ St i h' ∧ Fr h₀ L h' m ∧ h'.Ns H2.objs.size m' ∧ oE.data = .cell vo ∧ News h₀ L h' ((D, lst ys) :: (c, oE) :: news') ∧
        Off3 I H2.objs.size D ((c, oE) :: news') ∧ (∀ p ∈ news', p.1 ≠ c) ∧ RestC prog w A h₀ L m env elt x scope cl s₂ P Fin (n - i) i ys news') ?_ (n + 1)
      ⟨h₁, s₂.toks, 0, [], _, _, none, news, rfl, Nat.zero_le _, rfl, rfl, hst₁, F.keeps old, hns₁, rfl, fun p hp => ?_, off₀, fun p hp => (below _ (hDd ▸ Heap.lt_size (N p hp).1)).2.2, R⟩
    · rintro k s' ⟨h', tk, i, ys, m', oE, vo, news', rfl, hi, rfl, hyl, hst', F', hn', hoE, N', off', hne, R'⟩
      by_cases hlt : i < n
      · obtain ⟨j, hj⟩ : ∃ j, n - i = j + 1 := ⟨n - i - 1, by omega⟩
        rw [hj] at R'
        refine W.item i _ _ _ hlt hst' fun v h₂ tk₂ hPv hst₂ hk₂ => ?_
        have off3 := off'.mem
        have N₂ : News h₀ L h₂ ((D, lst ys) :: (c, oE) :: news') := news_but N' hk₂ fun p hp => by
          rcases List.mem_cons.mp hp with rfl | hp
          · exact Ne.symm hDI
          · exact (off3 p hp).1
        have hn₂ : h₂.Ns H2.objs.size m' := hn'.at' fun o e => hk₂ _ o (by simpa using Ne.symm hCI) e
        refine wpAny_assign_Name (wpAny_storeName_cell (c := c) (v₀ := vo) (by simp [compEnvC, relabel, hkind]) (lookup_relabel_cell hx) (by simp [compEnvC]) ⟨oE, (N₂ _ (.tail _ (.head _))).1, hoE⟩ (fun h₃ hc₃ hs₃ => ?_))
        refine wpAny_tests_nil ?_
        simp only [if_true]
        have hst₃ : St (i + 1) h₃ := W.frame _ _ _ hst₂ fun b hb o e => hs₃.extBut b o (fun q => hcI (by have q' : b = c := q; rw [← q']; exact List.mem_singleton.mp hb)) e
        obtain ⟨oI, heI⟩ := hIo _ _ hst₃
        obtain ⟨oC, heC, hoC⟩ := ns_obj (hn₂.sameBut hs₃ hcC)
        obtain ⟨oE', heE, hoE'⟩ := hc₃
        have F₃ : Fr h₀ L h₃ m := (fr_but F' hk₂ hIL hI₀).change hs₃ hcL hc₀
        have off'' : Off3 I H2.objs.size D ((c, oE') :: news') := ⟨⟨hcI, Ne.symm hcC, hcD⟩, off'.2⟩
        have N₃ : News h₀ L h₃ ((I, oI) :: (H2.objs.size, oC) :: (D, lst ys) :: (c, oE') :: news') := fun p hp => by
          rcases List.mem_cons.mp hp with rfl | hp
          · exact ⟨heI, Ne.symm hIL, hI₀⟩
          rcases List.mem_cons.mp hp with rfl | hp
          · exact ⟨heC, hCL, hC₀⟩
          rcases List.mem_cons.mp hp with rfl | hp
          · have z := N₂ _ (.head _)
            exact ⟨hs₃.extBut _ _ (Ne.symm hcD) z.1, z.2⟩
          rcases List.mem_cons.mp hp with rfl | hp
          · exact ⟨heE, hcL, hc₀⟩
          · have z := N₂ p (.tail _ (.tail _ hp))
            exact ⟨hs₃.extBut _ _ (hne p hp) z.1, z.2⟩
        refine wpAny_mono (R' v I oI H2.objs.size oC D c oE' _ h₃ _ _ hPv hoC hoE' F₃ N₃ off'' ⟨hCI, hDI, Ne.symm hDC⟩ hne) (fun y s₄ h₄ => ?_) fun _ _ e => e
        refine Mine.lett fun gP gK => ?_
        obtain ⟨h₄, tk₄, news₀, rfl, F₄, N₄, off₄, _, news₄, rfl, hne₄, R₄⟩ := h₄
        refine gK ?_
        clear gK gP
        have zI := (N₄ (I, oI) List.mem_cons_self).1
        have zC := (N₄ (H2.objs.size, oC) (List.mem_cons_of_mem _ List.mem_cons_self)).1
        have zD := (N₄ (D, lst ys) (List.mem_cons_of_mem _ (List.mem_cons_of_mem _ List.mem_cons_self))).1
        have N₄' : News h₀ L h₄ ((c, oE') :: news₄) := fun p hp => N₄ p (List.mem_cons_of_mem _ (List.mem_cons_of_mem _ (List.mem_cons_of_mem _ hp)))
        have hst₄ : St (i + 1) h₄ := hSt _ _ _ _ hst₃ heI zI
        refine append_at (hsz := by show ys.toArray.size ≤ sizeLine; rw [List.size_toArray, hyl]; exact Nat.le_trans hi hsz) zD fun h₅ hs₅ hD₅ => ?_
        have off4 := off₄.mem
        refine ⟨n + 1 - (i + 1), by omega, h₅, tk₄, i + 1, ys ++ [y], _, oE', some v, news₄, rfl, hlt, rfl, by rw [List.length_append, List.length_singleton, hyl], W.frame _ _ _ hst₄ fun b hb o e => hs₅.extBut b o (fun q => hDI (by rw [← List.mem_singleton.mp hb]; exact q)) e, F₄.change hs₅ hDL hD₀,
          (hoC.ns zC).sameBut hs₅ (Ne.symm hDC), hoE', fun p hp => ?_, off₄, hne₄, ?_⟩
        · rcases List.mem_cons.mp hp with rfl | hp
          · exact ⟨hD₅.trans (congrArg some (lst_snoc ys y)), hDL, hD₀⟩
          · exact ⟨hs₅.extBut _ _ (off4 p hp).2.2 (N₄' p hp).1, (N₄' p hp).2⟩
        · rw [show n - (i + 1) = j by omega]
          exact R₄
      · obtain rfl : i = n := Nat.le_antisymm hi (Nat.not_lt.mp hlt)
        rw [Nat.sub_self] at R'
        refine W.done _ _ _ hst' fun h₂ tk₂ hk₂ => ?_
        have off3 := off'.mem
        have N₂ : News h₀ L h₂ ((D, lst ys) :: (c, oE) :: news') := news_but N' hk₂ fun p hp => by
          rcases List.mem_cons.mp hp with rfl | hp
          · exact Ne.symm hDI
          · exact (off3 p hp).1
        exact hRR _ _ h₂ tk₂ _ ys news' (fr_but F' hk₂ hIL hI₀) (fun p hp => N₂ p (by
          rcases List.mem_cons.mp hp with rfl | hp
          · exact .head _
          · exact .tail _ (.tail _ hp))) (Off3.one off'.2) (hn'.at' fun o e => hk₂ _ o (by simpa using Ne.symm hCI) e) hC₀ hD₀ hCL hDL (Ne.symm hDC) (fun p hp => (off3 p (.tail _ hp)).2.1) R'
    · rcases List.mem_cons.mp hp with rfl | hp
      · exact ⟨hacc, hDL, hD₀⟩
      rcases List.mem_cons.mp hp with rfl | hp
      · exact ⟨hcl₁, hcL, hc₀⟩
      · exact ⟨old _ _ (N p hp).1, (N p hp).2⟩
  exact codeAny_compStart_list (loop _ rfl) (W.self 0 _ _ _ hst₁ (loop _ rfl))
/-- where a comprehension over a range stands -/
def SrcC (prog : Program) (w : World) (A : Around) (h₀ : Heap) (L : Addr) (m : Str → Option Value) (env : Env) (elt : Expr) (x : Str) (scope : Scope) (cl : List (Str × Addr)) (Fin : Shared → List Value → List (Addr × Obj) → Prop) (xv : Value) (s₁ : Shared) : Prop :=
  ∃ r a b t u v n news, xv = .ref r ∧ A.handled = none ∧ Fr h₀ L s₁.heap m ∧ News h₀ L s₁.heap news ∧ IsRange s₁.heap r a b 1 t u v ∧ Builtin.Range.small a b 1 = true ∧ Builtin.Range.rangeSize a b 1 = ((n : Nat) : Int) ∧ n ≤ sizeLine ∧
    ∀ s₂ : Shared, (∃ h, s₂ = { s₁ with heap := h }) → RestC prog w A h₀ L m env elt x scope cl s₂ (fun i v => ∃ t, v = .int (a + (i : Int)) t) (Fin s₂) n 0 [] news
theorem SrcC.range {elt : Expr} {x : Str} {scope : Scope} {cl : List (Str × Addr)} {Fin : Shared → List Value → List (Addr × Obj) → Prop} {r : Addr} {a b : Int} {t u v : Tok} {n : Nat} {news : List (Addr × Obj)} {s₁ : Shared}
    (hh : A.handled = none) (F : Fr h₀ L s₁.heap m) (N : News h₀ L s₁.heap news) (hr : IsRange s₁.heap r a b 1 t u v) (hsm : Builtin.Range.small a b 1 = true) (hn : Builtin.Range.rangeSize a b 1 = ((n : Nat) : Int)) (hsz : n ≤ sizeLine)
    (h : ∀ g, RestC prog w A h₀ L m env elt x scope cl { s₁ with heap := g } (fun i v => ∃ t, v = .int (a + (i : Int)) t) (Fin { s₁ with heap := g }) n 0 [] news) :
    SrcC prog w A h₀ L m env elt x scope cl Fin (.ref r) s₁ := ⟨r, a, b, t, u, v, n, news, rfl, hh, F, N, hr, hsm, hn, hsz, fun _ ⟨g, e⟩ => e ▸ h g⟩
/-- a comprehension over a range, whose variable is kept by a closure -/
theorem ListComp_C {elt iter : Expr} {x : Str} {px : Pos} {scope : Scope} {cl : List (Str × Addr)} {pos : Pos} {Q : Value → Shared → Prop} (_F₀ : Fr h₀ L s.heap m)
    (hclos : closureFor scope env = pure cl) (hcf : ∀ n, cellsFrom n scope.names cl = (x, n) :: cl) (hpc : ∀ h, pushCells h scope.names = h.push { cls := .type "cell", data := .cell none }) (hkind : scope.kind = .function)
    (hnames : ∀ y ∈ scope.names, y.2 = .local → scope.names.lookup y.1 = some .local) (hx : scope.names.lookup x = some .cell)
    (h : wpAny (model prog w) A (eval iter env) (SrcC prog w A h₀ L m env elt x scope cl (fun s₂ => FinE h₀ L m s₂ Q)) E s)
    (hs : ∀ x, foldedSetIterable iter env x = pure x := by intro _; rfl) :
    wpAny (model prog w) A (eval (.ListComp elt [⟨.Name x px, iter, [], 0⟩] scope pos) env) Q E s := by
  rw [eval_ListComp]
  refine wpAny_comprehension_free (use := none) rfl hs hclos hkind hnames (wpAny_mono h (fun xv s₁ h₁ => ?_) fun _ _ e => e)
  refine Mine.lett fun gP gK => ?_
  obtain ⟨r, a, b, t, u, v, n, news, rfl, hh, F, N, hr, hsm, hn, hsz, R⟩ := h₁
  refine gK ?_
  clear gK gP
  refine wpAny_pyIter_range hr hsm ?_
  refine block_C (range_walks hh a n) hsz (fun i h st => ⟨_, st⟩) (fun i h h' o st e e' => by
    have st' : h.get? s₁.heap.objs.size = some _ := st
    show h'.get? s₁.heap.objs.size = some _
    rw [e', ← e]; exact st') hcf hpc hkind hx (by show IsRangeIter _ _ _ _ _; rw [hn]; simpa using Heap.get?_push_size _ rfl) ?_
    (F.keeps fun _ _ e => Heap.get?_push_of_some _ e) (N.grown fun _ _ e => Heap.get?_push_of_some _ e) (Nat.ne_of_lt F.ns.lt) (next_is_new F) (fun p hp => Nat.ne_of_lt (Heap.lt_size (N p hp).1)) (R _ ⟨_, rfl⟩) ?_
  · show s₁.heap.objs.size < (s₁.heap.push _).objs.size
    rw [Heap.size_push]; exact Nat.lt_succ_self _
  · intro D C h tk m' ys news' F' N' o1 hn hC₀ hD₀ hCL hDL hCD offC fin
    refine ⟨m', hn, fun h'' hs'' => fin D h'' tk (F'.change hs'' hCL hC₀) (fun p hp => ?_) o1⟩
    refine ⟨hs''.extBut _ _ ?_ (N' p hp).1, (N' p hp).2⟩
    rcases List.mem_cons.mp hp with rfl | hp
    · exact Ne.symm hCD
    · exact offC p hp
/-- its turns, by an invariant -/
theorem compCInv {elt : Expr} {x : Str} {scope : Scope} {cl : List (Str × Addr)} {P : Nat → Value → Prop} {Fin : List Value → List (Addr × Obj) → Prop} {n : Nat} (J : Nat → List Value → List (Addr × Obj) → Prop)
    (step : ∀ i ys news v I oI C oC D cE oE m₂ h tk (E' : Value → Shared → Prop), i < n → J i ys news → P i v → NsObj oC m₂ → oE.data = .cell (some v) → Fr h₀ L h m → News h₀ L h ((I, oI) :: (C, oC) :: (D, lst ys) :: (cE, oE) :: news) → Off3 I C D ((cE, oE) :: news) → ((@Ne Nat I C) ∧ (@Ne Nat I D) ∧ (@Ne Nat C D)) → (∀ p ∈ news, p.1 ≠ cE) →
      wpAny (model prog w) A (eval elt (compEnvC scope ((x, cE) :: cl) C env)) (CompEnd h₀ L m { s with heap := h, toks := tk } I oI C oC D (lst ys) (fun _ => True) (fun y n' => ∃ news', n' = (cE, oE) :: news' ∧ (∀ p ∈ news', p.1 ≠ cE) ∧ J (i + 1) (ys ++ [y]) news')) E' { s with heap := h, toks := tk })
    (fin : ∀ ys news, J n ys news → Fin ys news) : ∀ (k i : Nat) (ys : List Value) (news : List (Addr × Obj)), i + k = n → J i ys news → RestC prog w A h₀ L m env elt x scope cl s P Fin k i ys news
  | 0, i, ys, news, e, j => fin ys news (by rw [← e]; exact j)
  | k + 1, i, ys, news, e, j => by
    intro v I oI C oC D cE oE m₂ h tk E' hP hC hE F N off ne hne
    exact wpAny_mono (step i ys news v I oI C oC D cE oE m₂ h tk E' (by omega) j hP hC hE F N off ne hne) (fun y s₅ z => compEnd_mono z fun y n ⟨n', e1, e2, q⟩ => ⟨n', e1, e2, compCInv J step fin k (i + 1) _ n' (by omega) q⟩) fun _ _ z => z
/-- turns that leave the ledger as it is -/
theorem compInvK {elt : Expr} {x : Str} {scope : Scope} {cl : List (Str × Addr)} {S : List (Addr × Obj) → Prop} {P : Nat → Value → Prop} {Fin : List Value → List (Addr × Obj) → Prop} {n : Nat} {news : List (Addr × Obj)} (J : Nat → List Value → Prop)
    (step : ∀ i ys v I oI C oC D m₂ h tk (E' : Value → Shared → Prop), i < n → J i ys → P i v → NsObj oC m₂ → m₂ x = some v → Fr h₀ L h m → News h₀ L h ((I, oI) :: (C, oC) :: (D, LCg.lst ys) :: news) → Off3 I C D news → ((@Ne Nat I C) ∧ (@Ne Nat I D) ∧ (@Ne Nat C D)) →
      wpAny (model prog w) A (eval elt (compEnvC scope cl C env)) (CompEnd h₀ L m { s with heap := h, toks := tk } I oI C oC D (LCg.lst ys) S (fun y news' => J (i + 1) (ys ++ [y]) ∧ news' = news)) E' { s with heap := h, toks := tk })
    (fin : ∀ ys, J n ys → Fin ys news) (h0 : J 0 []) : CompRest prog w A h₀ L m env elt x scope cl s S P Fin n 0 [] news :=
  compInv (fun i ys nw => J i ys ∧ nw = news) (fun i ys nw v I oI C oC D m₂ h tk E' hi ⟨hj, e⟩ hP hC hx F N off ne => by
    subst e; exact step i ys v I oI C oC D m₂ h tk E' hi hj hP hC hx F N off ne) (fun ys nw ⟨hj, e⟩ => by subst e; exact fin ys hj) n 0 [] news (Nat.zero_add _) ⟨h0, rfl⟩
theorem compTInvK {ct elt : Expr} {x : Str} {scope : Scope} {cl : List (Str × Addr)} {S : List (Addr × Obj) → Prop} {P : Nat → Value → Prop} {Fin : List Value → List (Addr × Obj) → Prop} {n : Nat} {news : List (Addr × Obj)} (J : Nat → List Value → Prop)
    (step : ∀ i ys v I oI C oC D m₂ h tk (E' : Value → Shared → Prop), i < n → J i ys → P i v → NsObj oC m₂ → m₂ x = some v → Fr h₀ L h m → News h₀ L h ((I, oI) :: (C, oC) :: (D, LCg.lst ys) :: news) → Off3 I C D news → ((@Ne Nat I C) ∧ (@Ne Nat I D) ∧ (@Ne Nat C D)) →
      wpAny (model prog w) A (isTrue ct (compEnvC scope cl C env) (eval ct (compEnvC scope cl C env))) (fun ok s' => if ok = true then
        wpAny (model prog w) A (eval elt (compEnvC scope cl C env)) (CompEnd h₀ L m { s with heap := h, toks := tk } I oI C oC D (LCg.lst ys) S (fun y news' => J (i + 1) (ys ++ [y]) ∧ news' = news)) E' s'
        else CompEnd h₀ L m { s with heap := h, toks := tk } I oI C oC D (LCg.lst ys) S (fun _ news' => J (i + 1) ys ∧ news' = news) Value.none s') E' { s with heap := h, toks := tk })
    (fin : ∀ ys, J n ys → Fin ys news) (h0 : J 0 []) : LCt.CompRestT prog w A h₀ L m env ct elt x scope cl s S P Fin n 0 [] news :=
  compTInv (fun i ys nw => J i ys ∧ nw = news) (fun i ys nw v I oI C oC D m₂ h tk E' hi ⟨hj, e⟩ hP hC hx F N off ne => by
    subst e; exact step i ys v I oI C oC D m₂ h tk E' hi hj hP hC hx F N off ne) (fun ys nw ⟨hj, e⟩ => by subst e; exact fin ys hj) n 0 [] news (Nat.zero_add _) ⟨h0, rfl⟩
theorem compCInvK {elt : Expr} {x : Str} {scope : Scope} {cl : List (Str × Addr)} {P : Nat → Value → Prop} {Fin : List Value → List (Addr × Obj) → Prop} {n : Nat} {news : List (Addr × Obj)} (J : Nat → List Value → Prop)
    (step : ∀ i ys v I oI C oC D cE oE m₂ h tk (E' : Value → Shared → Prop), i < n → J i ys → P i v → NsObj oC m₂ → oE.data = .cell (some v) → Fr h₀ L h m → News h₀ L h ((I, oI) :: (C, oC) :: (D, LCg.lst ys) :: (cE, oE) :: news) → Off3 I C D ((cE, oE) :: news) → ((@Ne Nat I C) ∧ (@Ne Nat I D) ∧ (@Ne Nat C D)) → (∀ p ∈ news, p.1 ≠ cE) →
      wpAny (model prog w) A (eval elt (compEnvC scope ((x, cE) :: cl) C env)) (CompEnd h₀ L m { s with heap := h, toks := tk } I oI C oC D (LCg.lst ys) (fun _ => True) (fun y n' => J (i + 1) (ys ++ [y]) ∧ n' = (cE, oE) :: news)) E' { s with heap := h, toks := tk })
    (fin : ∀ ys, J n ys → Fin ys news) (h0 : J 0 []) : RestC prog w A h₀ L m env elt x scope cl s P Fin n 0 [] news :=
  compCInv (fun i ys nw => J i ys ∧ nw = news) (fun i ys nw v I oI C oC D cE oE m₂ h tk E' hi ⟨hj, e⟩ hP hC hE F N off ne hne => by
    subst e
    exact wpAny_mono (step i ys v I oI C oC D cE oE m₂ h tk E' hi hj hP hC hE F N off ne hne) (fun y s₅ z => compEnd_mono z fun y n ⟨q, e⟩ => ⟨nw, e, hne, q, rfl⟩) fun _ _ z => z) (fun ys nw ⟨hj, e⟩ => by subst e; exact fin ys hj) n 0 [] news (Nat.zero_add _) ⟨h0, rfl⟩
/-- a loop over a tuple -/
theorem iterTuple {E : Value → Shared → Prop} {body : List Stmt} {Q : Flow → Shared → Prop} {x : Str} {px : Pos} {l : Addr} {lo : Obj} {vs : List Value} {n : Nat} {m₀ : Str → Option Value} {news : List (Addr × Obj)}
    (hh : A.handled = none) (F : Fr h₀ env.locals s.heap m₀) (N : News h₀ env.locals s.heap news) (hm : (l, lo) ∈ news) (hc : lo.cls = .type "tuple") (hd : lo.data = .seq vs.toArray n)
    (rest₀ : ∀ I : Addr, (∀ p ∈ news, p.1 < I) → ItemsRest prog w A E h₀ env (.Name x px) body Q s [(I, "tuple_iterator")] [(l, lo)] (vs.map Itm.val) m₀ news) :
    wpAny (model prog w) A (pyIter (.ref l)) (fun it s₂ => TurnsAt prog w A h₀ env (.Name x px) body Q E it s₂) E s := by
  have hax := N _ hm
  have hl : s.heap.IsTuple l vs.toArray := ⟨lo, hax.1, hc, n, hd⟩
  have hlt : l < s.heap.objs.size := Heap.lt_size hax.1
  refine wpAny_pyIter_tuple hl ?_
  refine ktu_core (tk0 := s.toks) (keep := [(l, lo)]) (KTurns.ofWalks (Walks.tuple hh s.heap.objs.size l (Nat.ne_of_lt hlt) vs.toArray) fun i v s Q E st q => wpAny_pure q) (by simp) ?_ ?_ ?_ ?_ ?_ ?_ ?_ ?_ (F.push _) (fun p hp => ⟨Heap.get?_push_of_some _ (N p hp).1, (N p hp).2⟩) (And.intro hm trivial) (rest₀ _ fun p hp => Heap.lt_size (N p hp).1)
  · intro i v h hP
    exact ⟨.val v, by rw [List.getElem?_map]; simp at hP; simp [hP], rfl⟩
  · rintro i h ⟨⟨oi, g, c, _⟩, _⟩
    exact ⟨[(s.heap.objs.size, oi)], ⟨⟨rfl, c⟩, trivial⟩, fun p hp => by rw [List.mem_singleton.mp hp]; exact g⟩
  · intro b hb
    have hb' : b = s.heap.objs.size := by simpa using hb
    rw [hb']
    exact ⟨List.mem_cons_self .., next_is_new F⟩
  · intro b hb
    simpa using hb
  · intro b hb
    have hb' : b = s.heap.objs.size ∨ b = l := by simpa using hb
    rcases hb' with e | e
    · exact .inl (by simp [e])
    · exact .inr ⟨lo, by simp [e]⟩
  · intro hI
    have hb' : env.locals = s.heap.objs.size ∨ env.locals = l := by simpa using hI
    rcases hb' with e | e
    · exact absurd F.ns.lt (e ▸ Nat.lt_irrefl _)
    · exact hax.2.1 e.symm
  · intro p hp hI
    exact absurd (Heap.lt_size (N p hp).1) ((List.mem_singleton.mp hI) ▸ Nat.lt_irrefl _)
  · exact ⟨⟨_, Heap.get?_push_size _ rfl, rfl, rfl⟩, hl.push _⟩
theorem newsSub {h : Heap} {l news : List (Addr × Obj)} (N : News h₀ L h news) (hs : SubL l news) : News h₀ L h l := fun q hq => N q (SubL.mem hs q hq)
/-- a loop over items, by an invariant that tells of a part of the ledger -/
theorem itemsInvB {E : Value → Shared → Prop} {target : Expr} {body : List Stmt} {Q : Flow → Shared → Prop} {ws : List (Addr × String)} {keep base : List (Addr × Obj)} (T : List Itm → (Str → Option Value) → List (Addr × Obj) → Prop)
    (step : ∀ a r m tabs v h tk, T (a :: r) m tabs → a.Is v h → Fr h₀ env.locals h m → AllObj ws (fun its => News h₀ env.locals h (its ++ (tabs ++ base)) →
      wpAny (model prog w) A (assign target env v) (fun _ s₂ => wpAny (model prog w) A (execs body env) (UnrPostW h₀ env.locals { s with heap := h, toks := tk } its (fun m' n' => SubL keep n' ∧ ∃ tabs', n' = tabs' ++ base ∧ T r m' tabs') Q) E s₂) E { s with heap := h, toks := tk }))
    (done : ∀ m tabs h tk, T [] m tabs → Fr h₀ env.locals h m → News h₀ env.locals h (tabs ++ base) → Q .next { s with heap := h, toks := tk }) (xs : List Itm) (m : Str → Option Value) (tabs : List (Addr × Obj)) (h0 : T xs m tabs) :
    ItemsRest prog w A E h₀ env target body Q s ws keep xs m (tabs ++ base) :=
  itemsInv (fun r m n => ∃ tabs', n = tabs' ++ base ∧ T r m tabs') (fun a r m news v h tk ⟨tabs', e, hT⟩ ha F => by subst e; exact step a r m tabs' v h tk hT ha F) (fun m news h tk ⟨tabs', e, hT⟩ F N => by subst e; exact done m tabs' h tk hT F N) xs m (tabs ++ base) ⟨tabs, rfl, h0⟩
end
end Mine
end
end

section
local macro_rules | `(tactic| walk_at "eval Name") => `(tactic| (k_here; k_dflt (refine' nameX_L ?F ?v ?_ ?a ?b; (case F => k_asm); (case a => rfl); (case b => rfl); (case v => first | rfl | assumption); k_whole)))
local macro_rules | `(tactic| walk_at "loadName") => `(tactic| (k_here; k_dflt (refine' Mine.loadX_L ?F ?v ?_ ?a ?b; (case F => k_asm); (case a => rfl); (case b => rfl); (case v => first | rfl | assumption); k_whole)))
local macro_rules | `(tactic| walk_at "setItem ref str") => `(tactic| (k_here; k_dflt (refine' setItem_K PyProof.V.same_str (strKind_is _ _ _ _) ?v ?F ?N ?U ?d ?f ?_ ?z; (case F => k_asm); (case N => k_asm); (case U => k_updF); (case d => k_asm); (case f => k_asm); (case z => assumption); (case v => k_flat)); intro h' o' F' N' hd' hf'; (try dsimp only at N'); (try k_sweep)))
local macro_rules | `(tactic| walk_at "compareOp In str ref") => `(tactic| (k_here; k_dflt (first | (refine' Mine.in_some ?T ?l ?_; (case T => k_tabat); (case l => assumption)) | (refine' Mine.in_none ?T ?l ?_; (case T => k_tabat); (case l => assumption)))))

section
local macro_rules | `(tactic| walk_at "exec For Name Call cons nil") => `(tactic| (k_here; refine Mine.Halt.out ?_))
local macro_rules | `(tactic| walk_at "exec For Tuple Call cons nil") => `(tactic| (k_here; refine Mine.Halt.out ?_))
local macro_rules | `(tactic| walk_at "exec For Name Name cons nil") => `(tactic| (k_here; refine Mine.Halt.out ?_))
local macro_rules | `(tactic| walk_at "last exec For") => `(tactic| (k_here; refine Mine.Halt.out ?_))
local macro_rules | `(tactic| walk_at "UnrEndW") => `(tactic| (refine Mine.Halt.out ?_))
local macro_rules | `(tactic| walk_at "pyIter ref") => `(tactic| (k_here; (with_reducible show wpAny _ _ (pyIter (Value.ref _)) (fun it s₂ => TurnsAt _ _ _ _ _ _ _ _ _ it s₂) _ _); refine Mine.Halt.out ?_))

section
namespace Mine
abbrev lst (vs : List Value) : Obj := { cls := .type "list", data := .seq vs.toArray 0 }
abbrev lsk (vs : List Value) (k : Nat) : Obj := { cls := .type "list", data := .seq vs.toArray k }
/-- _law_shares -/
theorem shares_ok {w : World} {x y high a c d : Int} {t1 t2 t3 t4 t5 t6 : Tok}
    (_b1 : x.natAbs < 1000) (_b2 : y.natAbs < 1000) (_b3 : high.natAbs < 1000) (b4 : a.natAbs < 1000) (b5 : c.natAbs < 1000) (b6 : d.natAbs < 1000) :
    Spec w 92 [.int x t1, .int y t2, .int high t3, .int a t4, .int c t5, .int d t6] 1 (fun h₀ L m news s Q => ∀ l h' tk u1 u2 u3, Fr h₀ L h' m →
      News h₀ L h' ((l, lst [.int (a * d * high - (d * x - c * y) - a * y) u1, .int (d * x - c * y) u2, .int (a * y) u3]) :: news) → (∀ p ∈ news, p.1 ≠ l) → Q (.ref l) { s with heap := h', toks := tk }) := by
  w_top off
  intro p loose mean mg mb news dp un gd cn cs a0 ccd cl outer A₀ base h₀ L m s Q E B F X N T hk hd hu ret
  skip
  revert X
  k_fill
  intro X
  have hs : ∀ q ∈ ([] : List (Addr × Obj)), q ∈ news := noneOf
  refine wpAny_call ?_
  refine' enterS ([]) B F X N T hs ?kA ?kF ?kK ?k6 ?k7 ?k8 ?k9 ?kB ?kgo ?c2 ?c3 ?c4 ?c5
  case kA => exact rfl
  case kF => exact rfl
  case kK => exact hk
  case k6 => k_is
  case k7 => k_is
  case k8 => exact Nat.lt_of_le_of_lt (Nat.le_add_right _ _) hd
  case k9 => exact BindsTo.of_eq rfl
  case c5 => decide
  case kB => exact locs rfl
  case c2 => exact rfl
  case c3 => exact rfl
  case c4 => exact rfl
  case' kgo => intro L1 h1 tk1 F1 N1 B1 X1 T1 FG
  clear B X T hs
  dsimp only
  try k_fold
  refine Mine.letQE ?_
  intro Q1 hQ1
  k_steps
  refine hQ1 _ _ ?_
  exact ret _ _ _ _ _ _ (backF FG (by assumption)) (backN1 F N (by assumption) (by assumption) noneOf noneOf (.head _) noneOf) (backNe N (by assumption) (.head _) noneOf)
end Mine
end

section
local macro_rules | `(tactic| walk_at "pad") => `(tactic| skip)
namespace Mine
/-- a dict of ints by texts, as data -/
abbrev toD (es : List (Str × Int)) : List (PyData × PyData) := es.map fun p => (PyData.str p.1, PyData.int p.2)
abbrev kd (w : World) : KeyKind (RowW.prog (OpenRow.toRowW (OpenLaw.row PySem.Challenge.rw_xe0030_01))) w Str := strKind _ w
/-- count_calls -/
theorem count_ok {w : World} {d : Addr} {od : Obj} {kvs : List (Str × Value)} {es : List (Str × Int)} (hod : od.IsDictOf (kd w) kvs) (hfl : FlatPairs PyData.str kvs (toD es)) (hlo : (d == sysModules) = false) :
    Spec w 78 [.ref d] 1 (fun h₀ L m news s Q => (d, od) ∈ news ∧ ∀ t h' tk, Fr h₀ L h' m → News h₀ L h' news → Q (.int (es.map (·.2)).sum t) { s with heap := h', toks := tk }) := by
  w_top off
  intro p loose mean mg mb news dp un gd cn cs a0 ccd cl outer A₀ base h₀ L m s Q E B F X N T hk hd hu ret
  obtain ⟨hmem, ret⟩ := ret
  revert X
  k_fill
  intro X
  have hs : ∀ q ∈ ([(d, od)] : List (Addr × Obj)), q ∈ news := oneOf hmem
  refine wpAny_call ?_
  refine' enterS ([(d, od)]) B F X N T hs ?kA ?kF ?kK ?k6 ?k7 ?k8 ?k9 ?kB ?kgo ?c2 ?c3 ?c4 ?c5
  case kA => exact rfl
  case kF => exact rfl
  case kK => exact hk
  case k6 => k_is
  case k7 => k_is
  case k8 => exact Nat.lt_of_le_of_lt (Nat.le_add_right _ _) hd
  case k9 => exact BindsTo.of_eq rfl
  case c5 => decide
  case kB => exact locs rfl
  case c2 => exact rfl
  case c3 => exact rfl
  case c4 => exact rfl
  case' kgo => intro L1 h1 tk1 F1 N1 B1 X1 T1 FG
  clear B X T hs
  dsimp only
  try k_fold
  refine Mine.letQE ?_
  intro Q1 hQ1
  k_steps
  unfold Halt
  rename Fr _ _ _ _ => lF
  rename News _ _ _ _ => lN
  with_unfolding_all ((refine' For_turns lF ?_); (refine MethodCall_ ?_); (refine ld lF (by rfl) ?_); (refine kdl_method (knd := kd w) PySem.F.slot_dict_values PySem.F.type_dict_values lN (.head _) hod ?_); (refine callWith_method0 ?_); (refine kta_callValues (knd := kd w) lF lN (.head _) hod hlo ?_); intro h' hv' F' N')
  with_unfolding_all (refine' kti_vals (knd := kd w) (enc := PyData.str) ?h1 F' N' hv' ?h2 ?h3 ?h4 ?_)
  case h1 => exact rfl
  case h2 => exact TabAt.ofObj hlo (N' _ (.head _)).1 hod hfl
  case h3 => exact .head _
  case h4 => exact rfl
  clear lF lN
  intro I l1
  k_lt l1
  refine itemsInv (fun r m news => ∃ dn td, es = dn ++ td ∧ r = (toD td).map (fun p => Itm.flat p.2) ∧ (∃ t, m "nc" = some (.int (dn.map (·.2)).sum t)) ∧ news = [(d, od)]) ?step ?done _ _ _ ⟨[], es, rfl, rfl, ⟨_, rfl⟩, rfl⟩
  case done =>
    rintro m' news' h2 tk2 ⟨dn, td, e1, e2, ⟨t, hnc⟩, rfl⟩ F2 N2
    have e3 : td = [] := by cases td with | nil => rfl | cons _ _ => cases e2
    subst e3
    rw [List.append_nil] at e1
    subst e1
    dsimp only
    k_steps
    refine hQ1 _ _ ?_
    exact ret _ _ _ (backF FG (by assumption)) (backN N (by assumption) (by assumption) (oneOf hmem) (oneOf (.head _)))
  case step =>
    rintro a r m' news' v h2 tk2 ⟨dn, td, e1, e2, ⟨t, hnc⟩, rfl⟩ ha F2
    cases td with
    | nil => cases e2
    | cons q td =>
      obtain ⟨e4, e5⟩ := List.cons.inj e2
      subst e4 e5
      obtain ⟨t', rfl⟩ := Flat.int_inv ha
      refine AllObj.cons (fun o' hc' => AllObj.nil (fun N2 => ?_))
      simp only [List.cons_append, List.nil_append] at N2
      k_steps
      unfold Halt
      refine UnrEndW.intro (by assumption) (by assumption) [(d, od)] (by k_subL) (by k_subL) (by ktu_offL) ⟨by k_subL, ?_⟩
      exact ⟨dn ++ [q], td, by rw [e1, List.append_assoc]; rfl, rfl, ⟨_, by rw [List.map_append, List.sum_append]; simp only [List.map_cons, List.map_nil, List.sum_cons, List.sum_nil, Int.add_zero]; rfl⟩, rfl⟩
end Mine
end

section
namespace Mine
def putE (es : List (Str × Int)) (k : Str) (v : Int) : List (Str × Int) :=
  if es.any (fun p => decide (p.1 = k)) then es.map (fun p => if p.1 = k then (p.1, v) else p) else es ++ [(k, v)]
def getE (es : List (Str × Int)) (k : Str) : Option Int := (es.find? (fun p => decide (p.1 = k))).map (·.2)
def copyE (es : List (Str × Int)) : List (Str × Int) := es.foldl (fun acc p => putE acc p.1 p.2) []
def addOne (acc : List (Str × Int)) (p : Str × Int) : List (Str × Int) := match getE acc p.1 with
  | some n => putE acc p.1 (n + p.2)
  | none => putE acc p.1 p.2
def addE (es fs : List (Str × Int)) : List (Str × Int) := fs.foldl addOne (copyE es)
theorem putE_len (es : List (Str × Int)) (k : Str) (v : Int) : (putE es k v).length ≤ es.length + 1 := by
  unfold putE
  split
  · rw [List.length_map]; omega
  · rw [List.length_append, List.length_singleton]; omega
theorem addOne_len (es : List (Str × Int)) (p : Str × Int) : (addOne es p).length ≤ es.length + 1 := by
  unfold addOne
  split <;> exact putE_len ..
theorem toD_put (es : List (Str × Int)) (k : Str) (v : Int) : toD (putE es k v) = putD (.str k) (.int v) (toD es) := by
  have e1 : ∀ l : List (Str × Int), (toD l).any (fun p => PySem.Spec.same p.1 (.str k)) = l.any (fun p => decide (p.1 = k)) := fun l => by
    rw [List.any_map]; exact congrArg (fun f => l.any f) (funext fun p => same_str p.1 k)
  unfold putE putD
  rw [e1]
  split
  · simp only [toD, List.map_map]
    apply List.map_congr_left
    intro p _
    simp only [Function.comp, same_str]
    by_cases h : p.1 = k
    · simp [h]
    · simp [h]
  · simp [toD]
theorem toD_get (k : Str) : ∀ es : List (Str × Int), PySem.Spec.lookup (.str k) (toD es) = (getE es k).map PyData.int
  | [] => rfl
  | p :: r => by
    have ih := toD_get k r
    unfold getE at ih ⊢
    by_cases h : p.1 = k
    · simp [toD, PySem.Spec.lookup, same_str, h]
    · have h' : ¬ k = p.1 := fun e => h e.symm
      simp only [toD, PySem.Spec.lookup, List.map_cons, List.find?_cons, same_str, h, h', decide_false] at ih ⊢
      simpa using ih
theorem small_line {D : List (PyData × PyData)} (h : D.length ≤ 16777216) : D.length ≤ sizeLine := by rw [sizeLine_eq]; exact h
inductive JCopy (w : World) (es : List (Str × Int)) (d1 d2 d' : Addr) (od1 od2 : Obj) (r : List Itm) (m : Str → Option Value) (news : List (Addr × Obj)) : Prop
  | mk (dn td : List (Str × Int)) (o : Obj) (kvs : List (Str × Value)) (f0 : es = dn ++ td) (f1 : r = (toD td).map (fun p => Itm.pairF (kyVal p.1) p.2)) (f2 : m "new_callers" = some (.ref d')) (f3 : m "source" = some (.ref d2)) (f4 : news = [(d', o), (d1, od1), (d2, od2)]) (f5 : o.IsDictOf (kd w) kvs) (f6 : FlatPairs PyData.str kvs (toD (copyE dn))) (f7 : (copyE dn).length ≤ dn.length)
inductive JAdd (w : World) (es fs : List (Str × Int)) (d1 d2 d' : Addr) (od1 od2 : Obj) (r : List Itm) (m : Str → Option Value) (news : List (Addr × Obj)) : Prop
  | mk (dn td : List (Str × Int)) (o : Obj) (kvs : List (Str × Value)) (f0 : fs = dn ++ td) (f1 : r = (toD td).map (fun p => Itm.pairF (kyVal p.1) p.2)) (f2 : m "new_callers" = some (.ref d')) (f3 : news = [(d', o), (d1, od1), (d2, od2)]) (f4 : o.IsDictOf (kd w) kvs) (f5 : FlatPairs PyData.str kvs (toD (dn.foldl addOne (copyE es)))) (f6 : (dn.foldl addOne (copyE es)).length ≤ es.length + dn.length)
/-- add_callers -/
theorem add_ok {w : World} {d1 d2 : Addr} {od1 od2 : Obj} {kvs1 kvs2 : List (Str × Value)} {es fs : List (Str × Int)} (hod1 : od1.IsDictOf (kd w) kvs1) (hfl1 : FlatPairs PyData.str kvs1 (toD es)) (hlo1 : (d1 == sysModules) = false)
    (hod2 : od2.IsDictOf (kd w) kvs2) (hfl2 : FlatPairs PyData.str kvs2 (toD fs)) (hlo2 : (d2 == sysModules) = false) (hlen : es.length + fs.length ≤ 10000) :
    Spec w 71 [.ref d1, .ref d2] 1 (fun h₀ L m news s Q => ((d1, od1) ∈ news ∧ (d2, od2) ∈ news) ∧ ∀ d' o' kvs' h' tk, Fr h₀ L h' m → News h₀ L h' ((d', o') :: news) → (∀ p ∈ news, p.1 ≠ d') →
      o'.IsDictOf (kd w) kvs' → FlatPairs PyData.str kvs' (toD (addE es fs)) → (d' == sysModules) = false → Q (.ref d') { s with heap := h', toks := tk }) := by
  w_top off
  intro p loose mean mg mb news dp un gd cn cs a0 ccd cl outer A₀ base h₀ L m s Q E B F X N T hk hd hu ret
  obtain ⟨⟨hm1, hm2⟩, ret⟩ := ret
  revert X
  k_fill
  intro X
  have hs : ∀ q ∈ ([(d1, od1), (d2, od2)] : List (Addr × Obj)), q ∈ news := twoOf hm1 hm2
  refine wpAny_call ?_
  refine' enterS ([(d1, od1), (d2, od2)]) B F X N T hs ?kA ?kF ?kK ?k6 ?k7 ?k8 ?k9 ?kB ?kgo ?c2 ?c3 ?c4 ?c5
  case kA => exact rfl
  case kF => exact rfl
  case kK => exact hk
  case k6 => k_is
  case k7 => k_is
  case k8 => exact Nat.lt_of_le_of_lt (Nat.le_add_right _ _) hd
  case k9 => exact BindsTo.of_eq rfl
  case c5 => decide
  case kB => exact locs rfl
  case c2 => exact rfl
  case c3 => exact rfl
  case c4 => exact rfl
  case' kgo => intro L1 h1 tk1 F1 N1 B1 X1 T1 FG
  clear B X T hs
  dsimp only
  try k_fold
  refine Mine.letQE ?_
  intro Q1 hQ1
  k_steps
  unfold Halt
  rename Obj.IsDictOf (strKind _ _) _ _ => hs0
  rename FlatPairs PyData.str _ _ => hf0
  rename Addr => d'
  (rename Fr _ _ _ _ => lF); (rename News _ _ _ _ => lN)
  with_unfolding_all ((refine' For_turns lF ?_); (refine MethodCall_ ?_); (refine ld lF (by first | rfl | assumption) ?_); (refine kdl_method (knd := kd w) PySem.F.slot_dict_items PySem.F.type_dict_items lN (by k_mem) hod1 ?_); (refine callWith_method0 ?_); (refine kta_callItems (knd := kd w) lF lN (by k_mem) hod1 hlo1 ?_); intro h' hv' F' N')
  with_unfolding_all (refine' kti_items (knd := kd w) (enc := PyData.str) ?h1 F' N' hv' ?h2 ?h3 ?h4 ?h5 ?_)
  case h1 => exact rfl
  case h2 => exact TabAt.ofObj hlo1 (N' (d1, od1) (by k_mem)).1 hod1 hfl1
  case h3 => k_mem
  case h4 => exact fun _ _ h => Value.isStrOf_shape h
  case h5 => exact rfl
  clear lF lN
  intro I l2
  k_lt l2
  refine itemsInvR (JCopy w es d1 d2 d' od1 od2) ?step ?done _ _ _ ⟨[], es, _, _, rfl, rfl, rfl, rfl, rfl, hs0, hf0, Nat.le_refl _⟩
  case step =>
    rintro a r m' news' v h2 tk2 o' RhE1 hPz
    refine Mine.lett fun gP gK => ?_
    obtain ⟨dn, td, o2, kvs, e1, e2, m1, m2, rfl, hd2, hf2, hlen2⟩ := hPz
    refine gK ?_
    clear gK gP
    rintro ha hc' F2 N2 hE1 _ _
    cases td with
    | nil => cases e2
    | cons q td =>
      obtain ⟨e4, e5⟩ := List.cons.inj e2
      subst e4 e5
      refine Mine.lett fun gP gK => ?_
      obtain ⟨T, t, x, rfl, hx, hT⟩ := ha
      refine gK ?_
      clear gK gP
      obtain ⟨t', rfl⟩ := Flat.int_inv hx
      have hz : (toD (copyE dn)).length ≤ sizeLine := small_line (by rw [List.length_map]; have := congrArg List.length e1; simp only [List.length_append, List.length_cons] at this; omega)
      dsimp only [kyVal] at hT
      k_steps
      rename Obj.IsDictOf _ _ _ => hd3
      rename FlatPairs _ _ _ => hf3
      refine hE1 _ _ (.inl rfl) ?_
      refine UnrEndW.intro (by assumption) (by assumption) [(d', _), (d1, od1), (d2, od2)] (by k_subL) (by k_subL) (by ktu_offL) ⟨by k_subL, ?_⟩
      refine ⟨dn ++ [q], td, _, _, by rw [e1, List.append_assoc]; rfl, rfl, by first | rfl | assumption, by first | rfl | assumption, rfl, hd3, ?_, ?_⟩
      · rw [copyE, List.foldl_append]
        show FlatPairs _ _ (toD (putE (copyE dn) q.1 q.2))
        rw [toD_put]
        exact hf3
      · rw [copyE, List.foldl_append, List.length_append]
        exact Nat.le_trans (putE_len ..) (Nat.add_le_add_right hlen2 1)
  case done =>
    rintro m' news' h2 tk2 hPz
    refine Mine.lett fun gP gK => ?_
    obtain ⟨dn, td, o2, kvs, e1, e2, m1, m2, rfl, hd2, hf2, hlen2⟩ := hPz
    refine gK ?_
    clear gK gP
    rintro F2 N2
    have e3 : td = [] := by cases td with | nil => rfl | cons _ _ => cases e2
    subst e3
    rw [List.append_nil] at e1
    subst e1
    clear hs0 hf0 e2
    dsimp only
    k_steps
    unfold Halt
    (rename Fr _ _ _ _ => lF); (rename News _ _ _ _ => lN)
    with_unfolding_all ((refine' For_turns lF ?_); (refine MethodCall_ ?_); (refine ld lF (by first | rfl | assumption) ?_); (refine kdl_method (knd := kd w) PySem.F.slot_dict_items PySem.F.type_dict_items lN (by k_mem) hod2 ?_); (refine callWith_method0 ?_); (refine kta_callItems (knd := kd w) lF lN (by k_mem) hod2 hlo2 ?_); intro h' hv' F' N')
    with_unfolding_all (refine' kti_items (knd := kd w) (enc := PyData.str) ?h1 F' N' hv' ?h2 ?h3 ?h4 ?h5 ?_)
    case h1 => exact rfl
    case h2 => exact TabAt.ofObj hlo2 (N' (d2, od2) (by k_mem)).1 hod2 hfl2
    case h3 => k_mem
    case h4 => exact fun _ _ h => Value.isStrOf_shape h
    case h5 => exact rfl
    clear lF lN
    intro I l2
    k_lt l2
    refine itemsInvR (JAdd w es fs d1 d2 d' od1 od2) ?step ?done _ _ _ ⟨[], fs, _, _, rfl, rfl, by assumption, rfl, hd2, hf2, hlen2⟩
    case done =>
      rintro m' news' h2 tk2 hPz
      refine Mine.lett fun gP gK => ?_
      obtain ⟨dn, td, o2, kvs, e1, e2, m1, rfl, hd2, hf2, hlen2⟩ := hPz
      refine gK ?_
      clear gK gP
      rintro F2 N2
      have e3 : td = [] := by cases td with | nil => rfl | cons _ _ => cases e2
      subst e3
      rw [List.append_nil] at e1
      subst e1
      dsimp only
      k_steps
      refine hQ1 _ _ ?_
      refine ret _ _ _ _ _ (backF FG (by assumption)) (backN1 F N (by assumption) (by assumption) (twoOf hm1 hm2) (twoOf (by k_mem) (by k_mem)) (.head _) ?_) (backNe N (by assumption) (.head _) ?_) hd2 hf2 (by assumption)
      all_goals exact twoOf (by k_ne) (by k_ne)
    case step =>
      rintro a r m' news' v h2 tk2 o' RhE2 hPz
      refine Mine.lett fun gP gK => ?_
      obtain ⟨dn, td, o2, kvs, e1, e2, m1, rfl, hd2, hf2, hlen2⟩ := hPz
      refine gK ?_
      clear gK gP
      rintro ha hc' F2 N2 hE2 _ _
      cases td with
      | nil => cases e2
      | cons q td =>
        obtain ⟨e4, e5⟩ := List.cons.inj e2
        subst e4 e5
        refine Mine.lett fun gP gK => ?_
        obtain ⟨T, t, x, rfl, hx, hT⟩ := ha
        refine gK ?_
        clear gK gP
        obtain ⟨t', rfl⟩ := Flat.int_inv hx
        have hz : (toD (dn.foldl addOne (copyE es))).length ≤ sizeLine := small_line (by rw [List.length_map]; have := congrArg List.length e1; simp only [List.length_append, List.length_cons] at this; omega)
        dsimp only [kyVal] at hT
        have hl := toD_get q.1 (dn.foldl addOne (copyE es))
        cases hg : getE (dn.foldl addOne (copyE es)) q.1 with
        | none =>
          rw [hg] at hl
          dsimp only [Option.map] at hl
          k_steps
          rename Obj.IsDictOf _ _ _ => hd3
          rename FlatPairs _ _ _ => hf3
          refine hE2 _ _ (.inl rfl) ?_
          refine UnrEndW.intro (by assumption) (by assumption) [(d', _), (d1, od1), (d2, od2)] (by k_subL) (by k_subL) (by ktu_offL) ⟨by k_subL, ?_⟩
          refine ⟨dn ++ [q], td, _, _, by rw [e1, List.append_assoc]; rfl, rfl, by first | rfl | assumption, rfl, hd3, ?_, ?_⟩
          · rw [List.foldl_append, List.foldl_cons, List.foldl_nil, addOne, hg]
            dsimp only
            rw [toD_put]
            exact hf3
          · rw [List.foldl_append, List.length_append, ← Nat.add_assoc]
            exact Nat.le_trans (addOne_len ..) (Nat.add_le_add_right hlen2 1)
        | some n =>
          rw [hg] at hl
          dsimp only [Option.map] at hl
          k_steps
          rename Obj.IsDictOf _ _ _ => hd3
          rename FlatPairs _ _ _ => hf3
          refine hE2 _ _ (.inl rfl) ?_
          refine UnrEndW.intro (by assumption) (by assumption) [(d', _), (d1, od1), (d2, od2)] (by k_subL) (by k_subL) (by ktu_offL) ⟨by k_subL, ?_⟩
          refine ⟨dn ++ [q], td, _, _, by rw [e1, List.append_assoc]; rfl, rfl, by first | rfl | assumption, rfl, hd3, ?_, ?_⟩
          · rw [List.foldl_append, List.foldl_cons, List.foldl_nil, addOne, hg]
            dsimp only
            rw [toD_put]
            exact hf3
          · rw [List.foldl_append, List.length_append, ← Nat.add_assoc]
            exact Nat.le_trans (addOne_len ..) (Nat.add_le_add_right hlen2 1)
end Mine
end

section
namespace Mine
local macro_rules | `(tactic| walk_at "call ref") => `(tactic| (k_here; refine Mine.Halt.out ?_))
abbrev nms (nm : Nat → Str) (tt : Nat → Tok) : List Value := [.str (nm 0) (tt 0), .str (nm 1) (tt 1), .str (nm 2) (tt 2), .str (nm 3) (tt 3), .str (nm 4) (tt 4), .str (nm 5) (tt 5), .str (nm 6) (tt 6), .str (nm 7) (tt 7)]
def sh0 (high a c d x y : Int) : Int := a * d * high - (d * x - c * y) - a * y
def sh1 (c d x y : Int) : Int := d * x - c * y
def sh2 (a y : Int) : Int := a * y
def maskOf (s0 s1 s2 : Int) : Nat := (if s0 = 0 then 1 else 0) + (if s1 = 0 then 2 else 0) + (if s2 = 0 then 4 else 0)
def mskAt (high a c d y x : Int) : Nat := maskOf (sh0 high a c d x y) (sh1 c d x y) (sh2 a y)
def rowStep (nm : Nat → Str) (high a c d y : Int) (acc : List (Str × Int)) (x : Int) : List (Str × Int) :=
  if 0 ≤ sh0 high a c d x y ∧ 0 ≤ sh1 c d x y ∧ 0 ≤ sh2 a y then putE acc (nm (mskAt high a c d y x)) ((getE acc (nm (mskAt high a c d y x))).getD 0 + 1) else acc
def loOf (high c : Int) : Int := (if c < 0 then c else 0) * high
def hiOf (high a c : Int) : Int := (if c > a then c else a) * high + 1
def xsOf (high a c : Int) : List Int := (List.range (hiOf high a c - loOf high c).toNat).map fun i => loOf high c + ((i : Nat) : Int)
theorem lohi (high a c : Int) (b1 : 0 ≤ high ∧ high ≤ 2) (b2 : 1 ≤ a ∧ a ≤ 4) (b3 : -1 ≤ c ∧ c ≤ 3) : -2 ≤ loOf high c ∧ loOf high c ≤ 0 ∧ 1 ≤ hiOf high a c ∧ hiOf high a c ≤ 9 := by
  unfold loOf hiOf
  have : high = 0 ∨ high = 1 ∨ high = 2 := by omega
  rcases this with e | e | e <;> subst e <;> (repeat' split) <;> omega
def rowF (nm : Nat → Str) (high a c d y : Int) : List (Str × Int) := (xsOf high a c).foldl (rowStep nm high a c d y) []
def bookF (nm : Nat → Str) (high a c d : Int) : List (Str × Int) := (List.range (d * high + 1 - 0).toNat).foldl (fun bk i => addE bk (rowF nm high a c d (0 + ((i : Nat) : Int)))) []
local macro_rules | `(tactic| walk_at "CompRestT") => `(tactic| (refine Mine.Halt.out ?_))
theorem get2 {prog : Program} {w : World} {A : Around} {E : Value → Shared → Prop} {s : Shared} {d : Addr} {D : List (PyData × PyData)} {x : Str} {t : Tok} {dflt : Value} {dd : PyData} {n : Int} {Q : Value → Shared → Prop} (T : StrTab prog w s.heap d D) (hx : Flat dflt dd)
    (hl : (PySem.Spec.lookup (.str x) D).getD dd = .int n) (h : ∀ t, Q (.int n t) { s with toks := s.toks + 1 }) : wpAny (model prog w) A (call (.builtin "dict.get") [.ref d, .str x t, dflt]) Q E s :=
  call_get2_strTab T hx fun v hv => by
    rw [hl] at hv
    obtain ⟨t, rfl⟩ := Flat.int_inv hv
    exact h t
theorem getD_int (es : List (Str × Int)) (k : Str) : (PySem.Spec.lookup (.str k) (toD es)).getD (.int 0) = .int ((getE es k).getD 0) := by
  rw [toD_get]; cases getE es k <;> rfl
local macro_rules | `(tactic| walk_at "call builtin:dict.get") => `(tactic| (k_here; k_dflt (refine' Mine.get2 ?T ?x ?l ?_; (case T => k_tabat); (case x => k_flat); (case l => assumption); k_whole); intro t9'))
local macro_rules | `(tactic| walk_at "subscriptTail Name Call ref int") => `(tactic| (k_here; refine Mine.Halt.out ?_))
local macro_rules | `(tactic| walk_at "CompEnd") => `(tactic| (refine Mine.Halt.out ?_))
def mskL (s0 s1 s2 : Int) : Nat → List Int
  | 0 => []
  | 1 => if s0 = 0 then [1] else []
  | 2 => (if s0 = 0 then [1] else []) ++ (if s1 = 0 then [2] else [])
  | _ => (if s0 = 0 then [1] else []) ++ (if s1 = 0 then [2] else []) ++ (if s2 = 0 then [4] else [])
theorem mskP0 {s0 s1 s2 : Int} (h : s0 = 0) : mskL s0 s1 s2 1 = mskL s0 s1 s2 0 ++ [1] := by simp [mskL, h]
theorem mskN0 {s0 s1 s2 : Int} (h : ¬ s0 = 0) : mskL s0 s1 s2 1 = mskL s0 s1 s2 0 := by simp [mskL, h]
theorem mskP1 {s0 s1 s2 : Int} (h : s1 = 0) : mskL s0 s1 s2 2 = mskL s0 s1 s2 1 ++ [2] := by simp [mskL, h]
theorem mskN1 {s0 s1 s2 : Int} (h : ¬ s1 = 0) : mskL s0 s1 s2 2 = mskL s0 s1 s2 1 := by simp [mskL, h]
theorem mskP2 {s0 s1 s2 : Int} (h : s2 = 0) : mskL s0 s1 s2 3 = mskL s0 s1 s2 2 ++ [4] := by simp [mskL, h]
theorem mskN2 {s0 s1 s2 : Int} (h : ¬ s2 = 0) : mskL s0 s1 s2 3 = mskL s0 s1 s2 2 := by simp [mskL, h]
theorem msk_sum (s0 s1 s2 : Int) : (mskL s0 s1 s2 3).sum = ((maskOf s0 s1 s2 : Nat) : Int) := by
  by_cases h0 : s0 = 0 <;> by_cases h1 : s1 = 0 <;> by_cases h2 : s2 = 0 <;> simp [mskL, maskOf, h0, h1, h2]
theorem mask_lt (s0 s1 s2 : Int) : maskOf s0 s1 s2 < 8 := by unfold maskOf; (repeat' split) <;> omega
theorem item_led {prog : Program} {w : World} {A : Around} {E : Value → Shared → Prop} {s : Shared} {h₀ : Heap} {L l : Addr} {news : List (Addr × Obj)} {value slice : PySem.Expr} {vs : List Value} {n : Nat} {k : Int} {u : Tok} {v : Value} {Q : Value → Shared → Prop}
    (N : News h₀ L s.heap news) (hm : (l, ({ cls := .type "list", data := .seq vs.toArray n } : Obj)) ∈ news) (h0 : 0 ≤ k) (hhi : k < 2 ^ 63) (hx : vs[k.toNat]? = some v) (h : Q v s)
    (hs : subscripted slice false (.ref l) (.int k u) = operate [.ref l, .int k u] (getItem (.ref l) (.int k u)) := by with_unfolding_all rfl) :
    wpAny (model prog w) A (subscriptTail value slice (.ref l) (.int k u)) Q E s :=
  have hl : s.heap.IsList l vs.toArray := ⟨_, (N _ hm).1, rfl, _, rfl⟩
  tail_any hl.typeIs slot_list_getitem.lookup (wpAny_getItem_list hl h0 hhi (by simpa using hx) h) hs
theorem nms_get (nm : Nat → Str) (tt : Nat → Tok) (e : Nat) (h : e < 8) : (nms nm tt)[e]? = some (.str (nm e) (tt e)) := by
  have : e = 0 ∨ e = 1 ∨ e = 2 ∨ e = 3 ∨ e = 4 ∨ e = 5 ∨ e = 6 ∨ e = 7 := by omega
  rcases this with rfl | rfl | rfl | rfl | rfl | rfl | rfl | rfl <;> rfl
theorem foldAdd_len (fs : List (Str × Int)) : ∀ es : List (Str × Int), (fs.foldl addOne es).length ≤ es.length + fs.length := by
  induction fs with
  | nil => intro es; exact Nat.le_refl _
  | cons f r ih =>
    intro es
    rw [List.foldl_cons, List.length_cons]
    have := ih (addOne es f)
    have := addOne_len es f
    omega
theorem copyE_len (es : List (Str × Int)) : (copyE es).length ≤ es.length := by
  have : ∀ (fs acc : List (Str × Int)), (fs.foldl (fun acc p => putE acc p.1 p.2) acc).length ≤ acc.length + fs.length := by
    intro fs
    induction fs with
    | nil => intro acc; exact Nat.le_refl _
    | cons f r ih =>
      intro acc
      rw [List.foldl_cons, List.length_cons]
      have := ih (putE acc f.1 f.2)
      have := putE_len acc f.1 f.2
      omega
  have := this es []
  simpa [copyE] using this
theorem addE_len (es fs : List (Str × Int)) : (addE es fs).length ≤ es.length + fs.length := by
  have := foldAdd_len fs (copyE es)
  have := copyE_len es
  unfold addE
  omega
/-- what stands between the rows -/
inductive JBook (w : World) (nm : Nat → Str) (tt : Nat → Tok) (high a c d : Int) (t1 t2 t3 t4 : Tok) (ln I L1 : Addr) (k0 : Nat) (r : List Itm) (m : Str → Option Value) (news : List (Addr × Obj)) : Prop
  | mk (dn td : List Nat) (bd : Addr) (o : Obj) (kvs : List (Str × Value)) (oc : Obj) (v0 : Option Value) (e1 : List.range (d * high + 1 - 0).toNat = dn ++ td) (e2 : r = td.map (fun i => Itm.tok (Value.int (0 + ((i : Nat) : Int))))) (m1 : m "high" = some (.int high t1)) (m2 : m "a" = some (.int a t2)) (m3 : m "c" = some (.int c t3)) (m4 : m "d" = some (.int d t4)) (m5 : m "names" = some (.ref ln))
    (m6 : m "book" = some (.ref bd)) (e3 : news = [(bd, o), (L1 + 1, oc), (ln, lsk (nms nm tt) k0)]) (n1 : @Ne Nat bd I) (n2 : @Ne Nat bd (L1 + 1)) (n3 : @Ne Nat bd ln) (n4 : @Ne Nat (L1 + 1) I) (n5 : @Ne Nat ln I) (lo : (bd == sysModules) = false) (hoc : oc.data = .cell v0)
    (hd : o.IsDictOf (kd w) kvs) (hf : FlatPairs PyData.str kvs (toD (dn.foldl (fun bk i => addE bk (rowF nm high a c d (0 + ((i : Nat) : Int)))) []))) (hl : (dn.foldl (fun bk i => addE bk (rowF nm high a c d (0 + ((i : Nat) : Int)))) []).length ≤ 11 * dn.length)
/-- what stands between the points of a row -/
inductive JRow (w : World) (nm : Nat → Str) (tt : Nat → Tok) (high a c d y : Int) (t1 t2 t3 t4 t : Tok) (ln I bd rd L1 : Addr) (k0 : Nat) (o' o2 : Obj) (r : List Itm) (m : Str → Option Value) (news : List (Addr × Obj)) : Prop
  | mk (en ed : List Nat) (o : Obj) (kvs : List (Str × Value)) (oc : Obj) (v0 : Option Value) (e1 : List.range (hiOf high a c - loOf high c).toNat = en ++ ed) (e2 : r = ed.map (fun i => Itm.tok (Value.int (loOf high c + ((i : Nat) : Int))))) (m1 : m "high" = some (.int high t1)) (m2 : m "a" = some (.int a t2)) (m3 : m "c" = some (.int c t3)) (m4 : m "d" = some (.int d t4)) (m5 : m "names" = some (.ref ln))
    (m6 : m "book" = some (.ref bd)) (m7 : m "y" = some (.int y t)) (m8 : m "row" = some (.ref rd)) (e3 : news = [(rd, o), (I, o'), (bd, o2), (L1 + 1, oc), (ln, lsk (nms nm tt) k0)]) (hoc : oc.data = .cell v0)
    (hd : o.IsDictOf (kd w) kvs) (hf : FlatPairs PyData.str kvs (toD ((en.map fun i => loOf high c + ((i : Nat) : Int)).foldl (rowStep nm high a c d y) []))) (hl : ((en.map fun i => loOf high c + ((i : Nat) : Int)).foldl (rowStep nm high a c d y) []).length ≤ en.length)
/-- _law_book -/
theorem book_ok {w : World} {high a c d : Int} {t1 t2 t3 t4 : Tok} {ln : Addr} {k0 : Nat} {nm : Nat → Str} {tt : Nat → Tok} (b1 : 0 ≤ high ∧ high ≤ 2) (b2 : 1 ≤ a ∧ a ≤ 4) (b3 : -1 ≤ c ∧ c ≤ 3) (b4 : 1 ≤ d ∧ d ≤ 4) :
    Spec w 97 [.int high t1, .int a t2, .int c t3, .int d t4, .ref ln] 4 (fun h₀ L m news s Q => (ln, lsk (nms nm tt) k0) ∈ news ∧ ∀ d' o' kvs' h' tk, Fr h₀ L h' m → News h₀ L h' ((d', o') :: news) → (∀ p ∈ news, p.1 ≠ d') →
      o'.IsDictOf (kd w) kvs' → FlatPairs PyData.str kvs' (toD (bookF nm high a c d)) → (d' == sysModules) = false → Q (.ref d') { s with heap := h', toks := tk }) := by
  w_top off
  intro p loose mean mg mb news dp un gd cn cs a0 ccd cl outer A₀ base h₀ L m s Q E B F X N T hk hd hu ret
  obtain ⟨hmem, ret⟩ := ret
  revert X
  k_fill
  intro X
  have hs : ∀ q ∈ ([(ln, lsk (nms nm tt) k0)] : List (Addr × Obj)), q ∈ news := oneOf hmem
  refine wpAny_call ?_
  refine' enterC ([(ln, lsk (nms nm tt) k0)]) B F X N T hs ?kA ?kF ?kK ?k6 ?k7 ?k8 ?k9 ?kB ?kD ?kgo ?c2 ?c3 ?c4
  case kA => exact rfl
  case kF => exact rfl
  case kK => exact hk
  case k6 => k_is
  case k7 => k_is
  case k8 => exact Nat.lt_of_le_of_lt (Nat.le_add_right _ _) hd
  case k9 => exact BindsTo.of_eq rfl
  case kB => exact rfl
  case kD => decide +kernel
  case c2 => exact rfl
  case c3 => exact rfl
  case c4 => exact rfl
  case' kgo => intro L1 h1 tk1 cells1 F1 N1 Y1 l1 B1 X1 T1 FG
  clear B X T hs
  (try k_lt l1)
  k_cells Y1
  (try simp only [List.cons_append, List.nil_append] at N1)
  dsimp only
  try k_fold
  refine Mine.letQE ?_
  intro Q1 hQ1
  have hp : 0 ≤ d * high ∧ d * high ≤ 8 := by
    have : high = 0 ∨ high = 1 ∨ high = 2 := by omega
    rcases this with e | e | e <;> subst e <;> omega
  k_steps
  unfold Halt
  rename Addr => d'
  rename Obj.IsDictOf (strKind _ _) _ _ => hs0
  rename FlatPairs PyData.str _ _ => hf0
  rename (_ == sysModules) = false => lo0
  rename Obj.IsDictOf (intKind _ _) _ _ => hx1
  rename FlatPairs PyData.int _ _ => hx2
  clear hx1 hx2
  (rename Fr _ _ _ _ => lF)
  with_unfolding_all (refine' For_turns lF ?_)
  k_steps
  unfold Halt
  rename IsRange _ _ _ _ _ _ _ _ => hr
  rename Fr _ _ _ _ => lF
  rename News _ _ _ _ => lN
  with_unfolding_all (refine' iterRange ?h1 hr ?h2 ?h3 lF lN ?_)
  case h1 => exact rfl
  case h2 => omega
  case h3 => omega
  intro I l2
  k_lt l2
  rename Addr => I
  have hI : @Ne Nat ln (L1 + 1) := by omega
  refine itemsInvR (JBook w nm tt high a c d t1 t2 t3 t4 ln I L1 k0) ?step ?done _ _ _
      ⟨[], _, d', _, _, _, _, rfl, rfl, rfl, rfl, rfl, rfl, rfl, rfl, rfl, by omega, by omega, by omega, by omega, by omega, lo0, by assumption, hs0, hf0, Nat.le_refl _⟩
  case done =>
    rintro m' news' h2 tk2 hPz
    refine Mine.lett fun gP gK => ?_
    obtain ⟨dn, td, bd, o2, kvs, oc, v0, e1, e2, m1, m2, m3, m4, m5, m6, rfl, n1, n2, n3, n4, n5, lo1, hoc, hd2, hf2, hlen2⟩ := hPz
    refine gK ?_
    clear gK gP
    rintro F2 N2
    have e3 : td = [] := by cases td with | nil => rfl | cons _ _ => cases e2
    subst e3
    rw [List.append_nil] at e1
    subst e1
    dsimp only
    k_steps
    refine hQ1 _ _ ?_
    exact ret _ _ _ _ _ (backF FG (by assumption)) (backN1 F N (by assumption) (by assumption) (oneOf hmem) (oneOf (by k_mem)) (.head _) (oneOf (by k_ne))) (backNe N (by assumption) (.head _) (oneOf (by k_ne))) hd2 hf2 lo1
  case step =>
    clear hs0 hf0
    rintro a' r m' news' v h2 tk2 o' R hPz
    refine Mine.lett fun gP gK => ?_
    obtain ⟨dn, td, bd, o2, kvs, oc, v0, e1, e2, m1, m2, m3, m4, m5, m6, rfl, n1, n2, n3, n4, n5, lo1, hoc, hd2, hf2, hlen2⟩ := hPz
    refine gK ?_
    clear gK gP
    rintro ha hc' F2 N2 hEnd _ _
    cases td with
    | nil => cases e2
    | cons q td =>
      obtain ⟨e4, e5⟩ := List.cons.inj e2
      subst e4 e5
      obtain ⟨t, rfl⟩ := ha
      generalize hy : (0 : Int) + (q : Int) = y at *
      k_steps
      unfold Halt
      rename Addr => rd
      rename Obj.IsDictOf (strKind _ _) _ _ => hs0
      rename FlatPairs PyData.str _ _ => hf0
      rename (_ == sysModules) = false => lo0
      rename Obj.IsDictOf (intKind _ _) _ _ => hx1
      rename FlatPairs PyData.int _ _ => hx2
      clear hx1 hx2
      (rename Fr _ _ _ _ => lF)
      with_unfolding_all (refine' For_turns lF ?_)
      k_steps
      unfold Halt
      rename IsRange _ _ _ _ _ _ _ _ => hr
      rename Fr _ _ _ _ => lF
      rename News _ _ _ _ => lN
      refine Mine.lett fun gP gK => ?_
      obtain ⟨z1, z2, z3, z4⟩ := lohi high a c b1 b2 b3
      refine gK ?_
      clear gK gP
      have hr2 : IsRange _ _ (loOf high c) (hiOf high a c) 1 _ _ _ := hr
      clear hr
      with_unfolding_all (refine' iterRange ?h1 hr2 ?h2 ?h3 lF lN ?_)
      case h1 => exact rfl
      case h2 => omega
      case h3 => omega
      intro I2 l2
      k_lt l2
      refine itemsInvR (JRow w nm tt high a c d y t1 t2 t3 t4 t ln I bd rd L1 k0 o' o2) ?step ?done _ _ _
          ⟨[], _, _, _, _, _, rfl, rfl, by assumption, by assumption, by assumption, by assumption, by assumption, by assumption, rfl, rfl, rfl, hoc, hs0, hf0, Nat.le_refl _⟩
      case done =>
        rintro m'' news' h4 tk4 hPz
        refine Mine.lett fun gP gK => ?_
        obtain ⟨en, ed, o4, kvs4, oc4, v4, g1, g2, m1', m2', m3', m4', m5', m6', m7', m8', rfl, hoc4, hd4, hf4, hlen4⟩ := hPz
        refine gK ?_
        clear gK gP
        rintro F4 N4
        have e3 : ed = [] := by cases ed with | nil => rfl | cons _ _ => cases g2
        subst e3
        rw [List.append_nil] at g1
        subst g1
        clear hs0 hf0 hoc
        have hrow : ((List.range (hiOf high a c - loOf high c).toNat).map fun i => loOf high c + ((i : Nat) : Int)).foldl (rowStep nm high a c d y) [] = rowF nm high a c d y := rfl
        rw [hrow] at hf4 hlen4
        rw [List.length_range] at hlen4
        have hdn := congrArg List.length e1
        simp only [List.length_append, List.length_cons, List.length_range] at hdn
        have hlenA : (dn.foldl (fun bk i => addE bk (rowF nm high a c d (0 + ((i : Nat) : Int)))) []).length + (rowF nm high a c d y).length ≤ 10000 := by omega
        dsimp only
        k_steps
        unfold Halt
        refine' wpAny_mono (Mine.add_ok ?y1o1 ?y1f1 ?y1l1 ?y1o2 ?y1f2 ?y1l2 ?y1len ?y1B ?y1F ?y1X ?y1N ?y1T ?y1hk ?y1hd ?y1hu ⟨⟨?y1m1, ?y1m2⟩, ?_⟩) (fun _ _ z => z) (fun _ _ z => z)
        case y1B => k_asm
        case y1F => k_asm
        case y1X => k_asm
        case y1N => k_asm
        case y1T => k_asm
        case y1hk => exact rfl
        case y1hd => first | exact Mine.roomD hd rfl | (dsimp only [ktrTop]; omega)
        case y1hu => first | exact Mine.roomU hu rfl | (dsimp only [ktrTop]; omega)
        case y1m1 => k_mem
        case y1m2 => k_mem
        case y1o1 => assumption
        case y1o2 => assumption
        case y1f1 => assumption
        case y1f2 => assumption
        case y1l1 => assumption
        case y1l2 => assumption
        case y1len => assumption
        intro _ _ _ _ _ _ _ l1' _ _ _
        replace l1' := Mine.allNe_of l1'
        dsimp only [Mine.AllNe] at l1'
        (try k_sweep)
        (try dsimp only)
        k_steps
        rename (_ == sysModules) = false => lo5
        rename Obj.IsDictOf _ _ _ => hd5
        rename FlatPairs _ _ _ => hf5
        refine hEnd _ _ (.inl rfl) ?_
        refine UnrEndW.intro (by assumption) (by assumption) [(_, _), (L1 + 1, _), (ln, _)] (by k_subL) ⟨.head _, ⟨by k_mem, ⟨by k_mem, trivial⟩⟩⟩ (by ktu_offL) ⟨by k_subL, ?_⟩
        have es1 : (dn ++ [q]).foldl (fun bk i => addE bk (rowF nm high a c d (0 + ((i : Nat) : Int)))) [] = addE (dn.foldl (fun bk i => addE bk (rowF nm high a c d (0 + ((i : Nat) : Int)))) []) (rowF nm high a c d y) := by
          rw [List.foldl_append]; simp only [List.foldl_cons, List.foldl_nil, hy]
        refine ⟨dn ++ [q], td, _, _, _, _, _, by rw [e1, List.append_assoc]; rfl, rfl, by assumption, by assumption, by assumption, by assumption, by assumption, by first | rfl | assumption, rfl, by omega, by omega, by omega, by omega, by omega, lo5, hoc4, hd5, ?_, ?_⟩
        · rw [es1]; exact hf5
        · rw [es1, List.length_append]
          refine Nat.le_trans (addE_len ..) ?_
          simp only [List.length_cons, List.length_nil]
          omega
      case step =>
        clear hs0 hf0 hoc
        rintro a' r m'' news' v h3 tk3 o'' R3 hPz
        refine Mine.lett fun gP gK => ?_
        obtain ⟨en, ed, o4, kvs4, oc4, v4, g1, g2, m1', m2', m3', m4', m5', m6', m7', m8', rfl, hoc4, hd4, hf4, hlen4⟩ := hPz
        refine gK ?_
        clear gK gP
        rintro ha hc'' F3 N3 hEnd3 _ _
        cases ed with
        | nil => cases g2
        | cons q2 ed =>
          obtain ⟨e4, e5⟩ := List.cons.inj g2
          subst e4 e5
          obtain ⟨t9, rfl⟩ := ha
          have hx : -2 ≤ loOf high c + (q2 : Int) ∧ loOf high c + (q2 : Int) ≤ 9 := by
            have : q2 ∈ List.range (hiOf high a c - loOf high c).toNat := by rw [g1]; simp
            rw [List.mem_range] at this
            omega
          have hyb : 0 ≤ y ∧ y ≤ 8 := by
            have : q ∈ List.range (d * high + 1 - 0).toNat := by rw [e1]; simp
            rw [List.mem_range] at this
            omega
          generalize hxe : loOf high c + (q2 : Int) = x at *
          k_steps
          unfold Halt
          refine' wpAny_mono (Mine.shares_ok ?y2b1 ?y2b2 ?y2b3 ?y2b4 ?y2b5 ?y2b6 ?y2B ?y2F ?y2X ?y2N ?y2T ?y2hk ?y2hd ?y2hu ?_) (fun _ _ z => z) (fun _ _ z => z)
          case y2B => k_asm
          case y2F => k_asm
          case y2X => k_asm
          case y2N => k_asm
          case y2T => k_asm
          case y2hk => exact rfl
          case y2hd => first | exact Mine.roomD hd rfl | (dsimp only [ktrTop]; omega)
          case y2hu => first | exact Mine.roomU hu rfl | (dsimp only [ktrTop]; omega)
          case y2b1 => omega
          case y2b2 => omega
          case y2b3 => omega
          case y2b4 => omega
          case y2b5 => omega
          case y2b6 => omega
          intro _ _ _ _ _ _ _ _ l1'
          replace l1' := Mine.allNe_of l1'
          dsimp only [Mine.AllNe] at l1'
          (try k_sweep)
          (try dsimp only)
          k_steps
          · unfold Halt
            refine compTInv (n := 3) (fun i ys nw => IntsAre ys (mskL (sh0 high a c d x y) (sh1 c d x y) (sh2 a y) i) ∧ nw = _) ?step ?fin 3 0 _ _ rfl ⟨.nil, rfl⟩
            case fin =>
              rintro ys nw ⟨hys, rfl⟩
              have hget := getD_int ((en.map fun i => loOf high c + ((i : Nat) : Int)).foldl (rowStep nm high a c d y) []) (nm (mskAt high a c d y x))
              have hz : (toD ((en.map fun i => loOf high c + ((i : Nat) : Int)).foldl (rowStep nm high a c d y) [])).length ≤ sizeLine := small_line (by
                rw [List.length_map]
                have := congrArg List.length g1
                simp only [List.length_append, List.length_cons, List.length_range] at this
                omega)
              unfold LCg.FinE
              intro D6 h6 tk6 F6 N6 o6
              dsimp only [LCg.Off1] at o6
              dsimp only
              k_steps
              unfold Halt
              refine item_led (v := .str (nm (mskAt high a c d y x)) (tt (mskAt high a c d y x))) (by assumption) (by k_mem) ?_ ?_ ?_ ?_
              · rw [msk_sum]; omega
              · rw [msk_sum]; have := mask_lt (sh0 high a c d x y) (sh1 c d x y) (sh2 a y); omega
              · rw [msk_sum, Int.toNat_natCast]; exact nms_get _ _ _ (mask_lt _ _ _)
              k_steps
              rename _ = _ ∨ _ = _ ∨ _ = _ => hM1
              rename _ ≤ _ ∧ _ ≤ _ ∧ _ ≤ _ => hM2
              rename (0 : Int) ≤ _ => hM3
              rename Obj.IsDictOf _ _ _ => hd6
              rename FlatPairs _ _ _ => hf6
              have hin : 0 ≤ sh0 high a c d x y ∧ 0 ≤ sh1 c d x y ∧ 0 ≤ sh2 a y := by unfold sh0 sh1 sh2; omega
              refine hEnd3 _ _ (.inl rfl) ?_
              refine UnrEndW.intro (by assumption) (by assumption) [(rd, _), (I, _), (bd, o2), (L1 + 1, _), (ln, _)] (by k_subL) (by k_subL) (by ktu_offL) ⟨by k_subL, ?_⟩
              have es1 : ((en ++ [q2]).map fun i => loOf high c + ((i : Nat) : Int)).foldl (rowStep nm high a c d y) [] = rowStep nm high a c d y ((en.map fun i => loOf high c + ((i : Nat) : Int)).foldl (rowStep nm high a c d y) []) x := by
                rw [List.map_append, List.foldl_append]; simp only [List.map_cons, List.map_nil, List.foldl_cons, List.foldl_nil, hxe]
              refine ⟨en ++ [q2], ed, _, _, _, _, by rw [g1, List.append_assoc]; rfl, rfl, by assumption, by assumption, by assumption, by assumption, by assumption, by assumption, by assumption, by assumption, rfl, by assumption, hd6, ?_, ?_⟩
              · rw [es1, rowStep, if_pos hin, toD_put]; exact hf6
              · rw [es1, rowStep, if_pos hin, List.length_append]
                exact Nat.le_trans (putE_len ..) (Nat.add_le_add_right hlen4 1)
            case step =>
              rintro i ys nw v I3 oI C3 oC D3 m5 h5 tk5 E5 hi ⟨hys, rfl⟩ ⟨t7, rfl⟩ hC hx F5 N5 off ne
              have off0 := off
              dsimp only [LCg.Off3] at off
              have : i = 0 ∨ i = 1 ∨ i = 2 := by omega
              rcases this with rfl | rfl | rfl
              · have hx : m5 "k" = some (.int 0 t7) := hx
                k_steps
                · unfold Halt
                  rename List.getD _ _ _ = 0 => hz
                  have hz : sh0 high a c d x y = 0 := hz
                  refine LCg.CompEnd.intro (by assumption) (by assumption) _ (fun p hp => hp) off0 trivial ⟨?_, rfl⟩
                  show IntsAre _ (mskL _ _ _ 1)
                  rw [mskP0 hz]
                  exact IntsAre.append hys (.cons 1 _ .nil)
                · unfold Halt
                  rename ¬ (List.getD _ _ _ = 0) => hz
                  have hz : ¬ sh0 high a c d x y = 0 := hz
                  refine LCg.CompEnd.intro (by assumption) (by assumption) _ (fun p hp => hp) off0 trivial ⟨?_, rfl⟩
                  show IntsAre _ (mskL _ _ _ 1)
                  rw [mskN0 hz]
                  exact hys
              · have hx : m5 "k" = some (.int 1 t7) := hx
                k_steps
                · unfold Halt
                  rename List.getD _ _ _ = 0 => hz
                  have hz : sh1 c d x y = 0 := hz
                  refine LCg.CompEnd.intro (by assumption) (by assumption) _ (fun p hp => hp) off0 trivial ⟨?_, rfl⟩
                  show IntsAre _ (mskL _ _ _ 2)
                  rw [mskP1 hz]
                  exact IntsAre.append hys (.cons 2 _ .nil)
                · unfold Halt
                  rename ¬ (List.getD _ _ _ = 0) => hz
                  have hz : ¬ sh1 c d x y = 0 := hz
                  refine LCg.CompEnd.intro (by assumption) (by assumption) _ (fun p hp => hp) off0 trivial ⟨?_, rfl⟩
                  show IntsAre _ (mskL _ _ _ 2)
                  rw [mskN1 hz]
                  exact hys
              · have hx : m5 "k" = some (.int 2 t7) := hx
                k_steps
                · unfold Halt
                  rename List.getD _ _ _ = 0 => hz
                  have hz : sh2 a y = 0 := hz
                  refine LCg.CompEnd.intro (by assumption) (by assumption) _ (fun p hp => hp) off0 trivial ⟨?_, rfl⟩
                  show IntsAre _ (mskL _ _ _ 3)
                  rw [mskP2 hz]
                  exact IntsAre.append hys (.cons 4 _ .nil)
                · unfold Halt
                  rename ¬ (List.getD _ _ _ = 0) => hz
                  have hz : ¬ sh2 a y = 0 := hz
                  refine LCg.CompEnd.intro (by assumption) (by assumption) _ (fun p hp => hp) off0 trivial ⟨?_, rfl⟩
                  show IntsAre _ (mskL _ _ _ 3)
                  rw [mskN2 hz]
                  exact hys
          · rename _ = _ ∨ _ = _ ∨ _ = _ => hM1
            rename _ ≤ _ ∧ _ ≤ _ ∧ _ ≤ _ => hM2
            rename ¬ (0 : Int) ≤ _ => hM3
            have hin : ¬ (0 ≤ sh0 high a c d x y ∧ 0 ≤ sh1 c d x y ∧ 0 ≤ sh2 a y) := by unfold sh0 sh1 sh2; omega
            refine hEnd3 _ _ (.inl rfl) ?_
            refine UnrEndW.intro (by assumption) (by assumption) [(rd, _), (I, _), (bd, o2), (L1 + 1, _), (ln, _)] (by k_subL) (by k_subL) (by ktu_offL) ⟨by k_subL, ?_⟩
            have es1 : ((en ++ [q2]).map fun i => loOf high c + ((i : Nat) : Int)).foldl (rowStep nm high a c d y) [] = rowStep nm high a c d y ((en.map fun i => loOf high c + ((i : Nat) : Int)).foldl (rowStep nm high a c d y) []) x := by
              rw [List.map_append, List.foldl_append]; simp only [List.map_cons, List.map_nil, List.foldl_cons, List.foldl_nil, hxe]
            refine ⟨en ++ [q2], ed, _, _, _, _, by rw [g1, List.append_assoc]; rfl, rfl, by assumption, by assumption, by assumption, by assumption, by assumption, by assumption, by assumption, by assumption, rfl, by assumption, hd4, ?_, ?_⟩
            · rw [es1, rowStep, if_neg hin]; exact hf4
            · rw [es1, rowStep, if_neg hin, List.length_append]
              exact Nat.le_succ_of_le hlen4
end Mine
end

section
namespace Mine
local macro_rules | `(tactic| walk_at "call ref") => `(tactic| (k_here; refine Mine.Halt.out ?_))
local macro_rules | `(tactic| walk_at "call type:enumerate") => `(tactic| (k_here; refine Mine.Halt.out ?_))
def partF (chosen N : Int) (k : Nat) (s : Int) : Int := if Int.fmod s N = 0 ∧ Builtin.bitAnd (Int.fdiv chosen (2 ^ Int.toNat (k : Int))) 1 ≠ 0 then N else Int.fmod s N
def stepT (chosen N : Int) (st : Nat × Int) (s : Int) : Nat × Int := (st.1 + 1, st.2 + partF chosen N st.1 s)
theorem foldT_len (chosen N : Int) (l : List Int) : ∀ st, (l.foldl (stepT chosen N) st).1 = st.1 + l.length := by
  induction l with
  | nil => intro st; rfl
  | cons x r ih => intro st; rw [List.foldl_cons, ih]; simp only [stepT, List.length_cons]; omega
def cellT (chosen a c d x y : Int) : Int := ([sh0 0 a c d x y, sh1 c d x y, sh2 a y].foldl (stepT chosen (a * d)) (0, 0)).2
def putH (hs : List Int) (j : Nat) : List Int := hs.set j (hs.getD j 0 + 1)
def rowH (chosen a c d x : Int) (hs : List Int) (l : List Nat) : List Int := l.foldl (fun hs i => putH hs (Int.fdiv (cellT chosen a c d x (0 + ((i : Nat) : Int))) (a * d)).toNat) hs
def allH (chosen a c d : Int) (l : List Nat) : List Int := l.foldl (fun hs i => rowH chosen a c d (0 + ((i : Nat) : Int)) hs (List.range (d - 0).toNat)) [0, 0, 0, 0]
def heightsF (chosen a c d : Int) : List Int := allH chosen a c d (List.range (a - 0).toNat)
theorem putH_len (hs : List Int) (j : Nat) : (putH hs j).length = hs.length := List.length_set ..
theorem rowH_len (chosen a c d x : Int) (l : List Nat) : ∀ hs, (rowH chosen a c d x hs l).length = hs.length := by
  induction l with
  | nil => intro hs; rfl
  | cons i r ih => intro hs; exact (ih _).trans (putH_len ..)
theorem allH_len (chosen a c d : Int) (l : List Nat) : (allH chosen a c d l).length = 4 := by
  have : ∀ (l : List Nat) (hs : List Int), (l.foldl (fun hs i => rowH chosen a c d (0 + ((i : Nat) : Int)) hs (List.range (d - 0).toNat)) hs).length = hs.length := by
    intro l
    induction l with
    | nil => intro hs; rfl
    | cons i r ih => intro hs; exact (ih _).trans (rowH_len ..)
  exact this l _
theorem partF_bd (chosen N : Int) (k : Nat) (s : Int) (h : 1 ≤ N) : 0 ≤ partF chosen N k s ∧ partF chosen N k s ≤ N := by
  unfold partF
  have h1 := Int.fmod_nonneg_of_pos s (b := N) (by omega)
  have h2 := Int.fmod_lt_of_pos s (b := N) (by omega)
  split <;> omega
theorem cellT_bd (chosen a c d x y : Int) (h : 1 ≤ a * d) : 0 ≤ Int.fdiv (cellT chosen a c d x y) (a * d) ∧ Int.fdiv (cellT chosen a c d x y) (a * d) ≤ 3 := by
  have e : cellT chosen a c d x y = 0 + partF chosen (a * d) 0 (sh0 0 a c d x y) + partF chosen (a * d) 1 (sh1 c d x y) + partF chosen (a * d) 2 (sh2 a y) := rfl
  have h0 := partF_bd chosen (a * d) 0 (sh0 0 a c d x y) h
  have h1 := partF_bd chosen (a * d) 1 (sh1 c d x y) h
  have h2 := partF_bd chosen (a * d) 2 (sh2 a y) h
  rw [Int.fdiv_eq_ediv_of_nonneg _ (by omega)]
  constructor
  · exact Int.ediv_nonneg (by omega) (by omega)
  · exact Int.ediv_le_of_le_mul (by omega) (by omega)
inductive JHx (chosen a c d : Int) (t1 t2 t3 t4 : Tok) (lh : Addr) (r : List Itm) (m : Str → Option Value) (news : List (Addr × Obj)) : Prop
  | mk (dn td : List Nat) (vs : List Value) (hs : List Int) (f0 : List.range (a - 0).toNat = dn ++ td) (f1 : r = td.map (fun i => Itm.tok (Value.int (0 + ((i : Nat) : Int))))) (f2 : m "chosen" = some (.int chosen t1)) (f3 : m "a" = some (.int a t2)) (f4 : m "c" = some (.int c t3)) (f5 : m "d" = some (.int d t4)) (f6 : m "heights" = some (.ref lh)) (f7 : news = [(lh, lst vs)]) (f8 : IntsAre vs hs) (f9 : hs = allH chosen a c d dn)
inductive JHy (chosen a c d x : Int) (t1 t2 t3 t4 t : Tok) (lh I : Addr) (o' : Obj) (hsl : List Int) (r : List Itm) (m : Str → Option Value) (news : List (Addr × Obj)) : Prop
  | mk (en ed : List Nat) (vs : List Value) (hs : List Int) (f0 : List.range (d - 0).toNat = en ++ ed) (f1 : r = ed.map (fun i => Itm.tok (Value.int (0 + ((i : Nat) : Int))))) (f2 : m "chosen" = some (.int chosen t1)) (f3 : m "a" = some (.int a t2)) (f4 : m "c" = some (.int c t3)) (f5 : m "d" = some (.int d t4)) (f6 : m "heights" = some (.ref lh)) (f7 : m "x" = some (.int x t)) (f8 : news = [(I, o'), (lh, lst vs)]) (f9 : IntsAre vs hs) (f10 : hs = rowH chosen a c d x hsl en) (f11 : hs.length = 4)
inductive JHk (chosen a c d x y : Int) (t1 t2 t3 t4 t t9 : Tok) (lh : Addr) (base : List (Addr × Obj)) (r : List Itm) (m : Str → Option Value) (news : List (Addr × Obj)) : Prop
  | mk (dd td : List Int) (ws : List Value) (f0 : [sh0 0 a c d x y, sh1 c d x y, sh2 a y] = dd ++ td) (f1 : IntsAre ws td) (f2 : r = enumItems dd.length ws) (f3 : m "chosen" = some (.int chosen t1)) (f4 : m "a" = some (.int a t2)) (f5 : m "c" = some (.int c t3)) (f6 : m "d" = some (.int d t4)) (f7 : m "heights" = some (.ref lh)) (f8 : m "x" = some (.int x t)) (f9 : m "y" = some (.int y t9)) (f10 : (∃ tt, m "total" = some (.int (dd.foldl (stepT chosen (a * d)) (0, 0)).2 tt))) (f11 : news = base)
/-- _law_heights -/
theorem heights_ok {w : World} {chosen a c d : Int} {t1 t2 t3 t4 : Tok} (b1 : 0 ≤ chosen ∧ chosen ≤ 7) (b2 : 1 ≤ a ∧ a ≤ 4) (b3 : -1 ≤ c ∧ c ≤ 3) (b4 : 1 ≤ d ∧ d ≤ 4) :
    Spec w 104 [.int chosen t1, .int a t2, .int c t3, .int d t4] 4 (fun h₀ L m news s Q => ∀ l vs h' tk, Fr h₀ L h' m → News h₀ L h' ((l, lst vs) :: news) → (∀ p ∈ news, p.1 ≠ l) → IntsAre vs (heightsF chosen a c d) → Q (.ref l) { s with heap := h', toks := tk }) := by
  w_top off
  intro p loose mean mg mb news dp un gd cn cs a0 ccd cl outer A₀ base h₀ L m s Q E B F X N T hk hd hu ret
  skip
  revert X
  k_fill
  intro X
  have hs : ∀ q ∈ ([] : List (Addr × Obj)), q ∈ news := noneOf
  refine wpAny_call ?_
  refine' enterS ([]) B F X N T hs ?kA ?kF ?kK ?k6 ?k7 ?k8 ?k9 ?kB ?kgo ?c2 ?c3 ?c4 ?c5
  case kA => exact rfl
  case kF => exact rfl
  case kK => exact hk
  case k6 => k_is
  case k7 => k_is
  case k8 => exact Nat.lt_of_le_of_lt (Nat.le_add_right _ _) hd
  case k9 => exact BindsTo.of_eq rfl
  case c5 => decide
  case kB => exact locs rfl
  case c2 => exact rfl
  case c3 => exact rfl
  case c4 => exact rfl
  case' kgo => intro L1 h1 tk1 F1 N1 B1 X1 T1 FG
  clear B X T hs
  dsimp only
  try k_fold
  refine Mine.letQE ?_
  intro Q1 hQ1
  have hp : 1 ≤ a * d ∧ a * d ≤ 16 := by
    have : a = 1 ∨ a = 2 ∨ a = 3 ∨ a = 4 := by omega
    rcases this with e | e | e | e <;> subst e <;> omega
  k_steps
  unfold Halt
  rename_i lh _ _ _ _ _
  (rename Fr _ _ _ _ => lF)
  with_unfolding_all (refine' For_turns lF ?_)
  k_steps
  unfold Halt
  rename IsRange _ _ _ _ _ _ _ _ => hr
  rename Fr _ _ _ _ => lF
  rename News _ _ _ _ => lN
  with_unfolding_all (refine' iterRange ?h1 hr ?h2 ?h3 lF lN ?_)
  case h1 => exact rfl
  case h2 => omega
  case h3 => omega
  intro I l2
  k_lt l2
  refine itemsInvR (JHx chosen a c d t1 t2 t3 t4 lh) ?step ?done _ _ _
      ⟨[], _, _, [0, 0, 0, 0], rfl, rfl, rfl, rfl, rfl, rfl, rfl, rfl, .cons 0 _ (.cons 0 _ (.cons 0 _ (.cons 0 _ .nil))), rfl⟩
  case done =>
    rintro m' news' h2 tk2 hPz
    refine Mine.lett fun gP gK => ?_
    obtain ⟨dn, td, vs, hsl, e1, e2, m1, m2, m3, m4, m5, rfl, hvs, hl4⟩ := hPz
    refine gK ?_
    clear gK gP
    rintro F2 N2
    have e3 : td = [] := by cases td with | nil => rfl | cons _ _ => cases e2
    subst e3
    rw [List.append_nil] at e1
    subst e1
    dsimp only
    k_steps
    refine hQ1 _ _ ?_
    exact ret _ _ _ _ (backF FG (by assumption)) (backN1 F N (by assumption) (by assumption) noneOf noneOf (.head _) noneOf) (backNe N (by assumption) (.head _) noneOf) (by rw [heightsF, ← hl4]; exact hvs)
  case step =>
    rintro a' r m' news' v h2 tk2 o' RhE1 hPz
    refine Mine.lett fun gP gK => ?_
    obtain ⟨dn, td, vs, hsl, e1, e2, m1, m2, m3, m4, m5, rfl, hvs, hl4⟩ := hPz
    refine gK ?_
    clear gK gP
    rintro ha hc' F2 N2 hE1 _ _
    cases td with
    | nil => cases e2
    | cons q td =>
      obtain ⟨e4, e5⟩ := List.cons.inj e2
      subst e4 e5
      obtain ⟨t, rfl⟩ := ha
      have hxb : 0 ≤ 0 + (q : Int) ∧ 0 + (q : Int) ≤ 3 := by
        have : q ∈ List.range (a - 0).toNat := by rw [e1]; simp
        rw [List.mem_range] at this
        omega
      generalize hx : (0 : Int) + (q : Int) = x at *
      k_steps
      unfold Halt
      (rename Fr _ _ _ _ => lF)
      with_unfolding_all (refine' For_turns lF ?_)
      k_steps
      unfold Halt
      rename IsRange _ _ _ _ _ _ _ _ => hr2
      rename Fr _ _ _ _ => lF
      rename News _ _ _ _ => lN
      with_unfolding_all (refine' iterRange ?h1 hr2 ?h2 ?h3 lF lN ?_)
      case h1 => exact rfl
      case h2 => omega
      case h3 => omega
      intro I2 l3
      k_lt l3
      refine itemsInvR (JHy chosen a c d x t1 t2 t3 t4 t lh I o' hsl) ?step ?done _ _ _
          ⟨[], _, _, _, rfl, rfl, by assumption, by assumption, by assumption, by assumption, by assumption, rfl, rfl, hvs, rfl, by rw [hl4]; exact allH_len ..⟩
      case done =>
        rintro m'' news' h3 tk3 hPz
        refine Mine.lett fun gP gK => ?_
        obtain ⟨en, ed, vs4, hs4, g1, g2, m1', m2', m3', m4', m5', m6', rfl, hvs4, hl5, hl6⟩ := hPz
        refine gK ?_
        clear gK gP
        rintro F3 N3
        have e3 : ed = [] := by cases ed with | nil => rfl | cons _ _ => cases g2
        subst e3
        rw [List.append_nil] at g1
        subst g1
        dsimp only
        k_steps
        refine hE1 _ _ (.inl rfl) ?_
        refine UnrEndW.intro (by assumption) (by assumption) [(lh, _)] (by k_subL) (by k_subL) (by ktu_offL) ⟨by k_subL, ?_⟩
        have es1 : allH chosen a c d (dn ++ [q]) = rowH chosen a c d x (allH chosen a c d dn) (List.range (d - 0).toNat) := by
          unfold allH; rw [List.foldl_append]; simp only [List.foldl_cons, List.foldl_nil, hx]
        exact ⟨dn ++ [q], td, _, _, by rw [e1, List.append_assoc]; rfl, rfl, by assumption, by assumption, by assumption, by assumption, by assumption, rfl, hvs4, by rw [es1, hl5, hl4]⟩
      case step =>
        clear hvs
        rintro a' r m'' news' v h3 tk3 o'' RhE2 hPz
        refine Mine.lett fun gP gK => ?_
        obtain ⟨en, ed, vs4, hs4, g1, g2, m1', m2', m3', m4', m5', m6', rfl, hvs4, hl5, hl6⟩ := hPz
        refine gK ?_
        clear gK gP
        rintro ha hc'' F3 N3 hE2 _ _
        cases ed with
        | nil => cases g2
        | cons q2 ed =>
          obtain ⟨e4, e5⟩ := List.cons.inj g2
          subst e4 e5
          obtain ⟨t9, rfl⟩ := ha
          have hyb : 0 ≤ 0 + (q2 : Int) ∧ 0 + (q2 : Int) ≤ 3 := by
            have : q2 ∈ List.range (d - 0).toNat := by rw [g1]; simp
            rw [List.mem_range] at this
            omega
          generalize hy : (0 : Int) + (q2 : Int) = y at *
          k_steps
          unfold Halt
          (rename Fr _ _ _ _ => lF)
          with_unfolding_all (refine' For_turns lF ?_)
          k_steps
          unfold Halt
          refine' wpAny_mono (Mine.shares_ok ?y1b1 ?y1b2 ?y1b3 ?y1b4 ?y1b5 ?y1b6 ?y1B ?y1F ?y1X ?y1N ?y1T ?y1hk ?y1hd ?y1hu ?_) (fun _ _ z => z) (fun _ _ z => z)
          case y1B => k_asm
          case y1F => k_asm
          case y1X => k_asm
          case y1N => k_asm
          case y1T => k_asm
          case y1hk => exact rfl
          case y1hd => first | exact Mine.roomD hd rfl | (dsimp only [ktrTop]; omega)
          case y1hu => first | exact Mine.roomU hu rfl | (dsimp only [ktrTop]; omega)
          case y1b1 => omega
          case y1b2 => omega
          case y1b3 => omega
          case y1b4 => omega
          case y1b5 => omega
          case y1b6 => omega
          intro sl _ _ _ _ _ _ _ l1'
          replace l1' := Mine.allNe_of l1'
          dsimp only [Mine.AllNe] at l1'
          (try k_sweep)
          (try dsimp only)
          k_steps
          unfold Halt
          rename Fr _ _ _ _ => lF
          rename News _ _ _ _ => lN
          with_unfolding_all (refine' ktu_enum ?hh lF lN ?hm ?hc ?hd ?hx ?_)
          case hh => exact rfl
          case hm => exact .head _
          case hc => exact rfl
          case hd => exact rfl
          case hx => exact rfl
          clear lF lN
          intro I3 l4
          k_lt l4
          refine itemsInvR2 (JHk chosen a c d x y t1 t2 t3 t4 t t9 lh _) ?step ?done _ _ _
              ⟨[], _, _, rfl, .cons _ _ (.cons _ _ (.cons _ _ .nil)), rfl, by assumption, by assumption, by assumption, by assumption, by assumption, by assumption, rfl, ⟨_, rfl⟩, rfl⟩
          case done =>
            rintro m3 news' h6 tk6 hPz
            refine Mine.lett fun gP gK => ?_
            obtain ⟨dd, td2, ws, k1, k2, k3, m1'', m2'', m3'', m4'', m5'', m6'', m7'', ⟨tt, m8''⟩, rfl⟩ := hPz
            refine gK ?_
            clear gK gP
            rintro F6 N6
            have e3 : ws = [] := by cases ws with | nil => rfl | cons _ _ => cases k3
            subst e3
            cases k2
            rw [List.append_nil] at k1
            subst k1
            dsimp only
            have hj := cellT_bd chosen a c d x y hp.1
            have hT : ([sh0 0 a c d x y, sh1 c d x y, sh2 a y].foldl (stepT chosen (a * d)) (0, 0)).2 = cellT chosen a c d x y := rfl
            rw [hT] at m8''
            generalize hje : cellT chosen a c d x y = T at *
            k_steps
            refine hE2 _ _ (.inl rfl) ?_
            refine UnrEndW.intro (by assumption) (by assumption) [(I, _), (lh, _)] (by k_subL) (by k_subL) (by ktu_offL) ⟨by k_subL, ?_⟩
            have es1 : rowH chosen a c d x hsl (en ++ [q2]) = putH (rowH chosen a c d x hsl en) (Int.fdiv T (a * d)).toNat := by
              unfold rowH; rw [List.foldl_append]; simp only [List.foldl_cons, List.foldl_nil, hy, hje]
            exact ⟨en ++ [q2], ed, _, _, by rw [g1, List.append_assoc]; rfl, rfl, by assumption, by assumption, by assumption, by assumption, by assumption, by assumption, rfl, by assumption, by rw [es1, ← hl5]; rfl, by rw [List.length_set]; exact hl6⟩
          case step =>
            rintro a' r m3 news' v h6 tk6 oe oi RhE3 hPz
            refine Mine.lett fun gP gK => ?_
            obtain ⟨dd, td2, ws, k1, k2, k3, m1'', m2'', m3'', m4'', m5'', m6'', m7'', ⟨tt, m8''⟩, rfl⟩ := hPz
            refine gK ?_
            clear gK gP
            rintro ha hce hci F6 N6 hE3 _ _
            cases k2 with
            | nil => cases k3
            | @cons sv su wss tds k2 =>
              obtain ⟨k4, k5⟩ := List.cons.inj k3
              subst k4 k5
              refine Mine.lett fun gP gK => ?_
              obtain ⟨T, t10, rfl, hT⟩ := ha
              refine gK ?_
              clear gK gP
              have hdd : dd.length ≤ 2 := by have := congrArg List.length k1; simp only [List.length_append, List.length_cons, List.length_nil] at this; omega
              generalize hkk : dd.length = kk at *
              have es1 : ∀ z, partF chosen (a * d) kk sv = z → ((dd ++ [sv]).foldl (stepT chosen (a * d)) (0, 0)).2 = (dd.foldl (stepT chosen (a * d)) (0, 0)).2 + z := by
                intro z hz
                have := foldT_len chosen (a * d) dd (0, 0)
                rw [List.foldl_append]
                simp only [List.foldl_cons, List.foldl_nil, stepT, this, hkk, Nat.zero_add, hz]
              have er1 : enumItems (kk + 1) wss = enumItems (dd ++ [sv]).length wss := by rw [List.length_append, hkk]; rfl
              k_steps
              · have hz : partF chosen (a * d) kk sv = a * d := if_pos ⟨by assumption, by assumption⟩
                refine hE3 _ _ (.inl rfl) ?_
                refine UnrEndW.intro (by assumption) (by assumption) [(sl, _), (I2, _), (I, _), (lh, _)] (by k_subL) (by k_subL) (by ktu_offL) ⟨by k_subL, ?_⟩
                exact ⟨dd ++ [sv], _, _, by rw [k1, List.append_assoc]; rfl, k2, er1, by assumption, by assumption, by assumption, by assumption, by assumption, by assumption, by assumption, ⟨_, by rw [es1 _ hz]; rfl⟩, rfl⟩
              · have hz : partF chosen (a * d) kk sv = Int.fmod sv (a * d) := if_neg (fun h => h.2 (by assumption))
                refine hE3 _ _ (.inl rfl) ?_
                refine UnrEndW.intro (by assumption) (by assumption) [(sl, _), (I2, _), (I, _), (lh, _)] (by k_subL) (by k_subL) (by ktu_offL) ⟨by k_subL, ?_⟩
                exact ⟨dd ++ [sv], _, _, by rw [k1, List.append_assoc]; rfl, k2, er1, by assumption, by assumption, by assumption, by assumption, by assumption, by assumption, by assumption, ⟨_, by rw [es1 _ hz]; rfl⟩, rfl⟩
              · have hz : partF chosen (a * d) kk sv = Int.fmod sv (a * d) := if_neg (fun h => absurd h.1 (by assumption))
                refine hE3 _ _ (.inl rfl) ?_
                refine UnrEndW.intro (by assumption) (by assumption) [(sl, _), (I2, _), (I, _), (lh, _)] (by k_subL) (by k_subL) (by ktu_offL) ⟨by k_subL, ?_⟩
                exact ⟨dd ++ [sv], _, _, by rw [k1, List.append_assoc]; rfl, k2, er1, by assumption, by assumption, by assumption, by assumption, by assumption, by assumption, by assumption, ⟨_, by rw [es1 _ hz]; rfl⟩, rfl⟩
end Mine
end

section
namespace Mine
theorem nop {a b : Int} (h : Builtin.Int.intBits b ≤ 8000) : Builtin.divisionGoesByPylong a b = false := by
  refine PyProof.noPylong_of_log2 ?_
  by_cases h0 : b.natAbs = 0
  · rw [h0]; decide
  · have := (PySem.intBits_le_iff (m := 8000)).mp h
    have := (Nat.log2_lt h0).mpr this
    omega
theorem fuq {A q b r : Int} (h : q * b + r = A) (h0 : 0 ≤ r) (h1 : r < b) : A.fdiv b = q ∧ A.fmod b = r := by
  have hb : 0 < b := by omega
  rw [Int.fdiv_eq_ediv_of_nonneg _ (by omega), Int.fmod_eq_emod_of_nonneg _ (by omega)]
  exact (Int.ediv_emod_unique hb).mpr ⟨by rw [← h, Int.mul_comm]; omega, h0, h1⟩
theorem p2pos (k : Nat) : (0 : Int) < 2 ^ k := Int.pow_pos (by decide)
theorem band_zero (x : Int) : Builtin.bitAnd x 0 = 0 := by have := bitAnd_range x (y := 0) (by omega); omega
theorem band0 : ∀ (k : Nat) (y z : Int), 0 ≤ z → z < 2 ^ k → Builtin.bitAnd (y * 2 ^ k) z = 0
  | 0, y, z, h0, h1 => by
    have : z = 0 := by simp at h1; omega
    subst this; exact band_zero _
  | k + 1, y, z, h0, h1 => by
    have e : y * 2 ^ (k + 1) = 2 * (y * 2 ^ k) := by rw [Int.pow_succ]; grind
    have h2 : (2 : Int) ^ (k + 1) = 2 * 2 ^ k := by rw [Int.pow_succ]; omega
    rw [kbt_halves, e]
    have e1 : 2 * (y * 2 ^ k) / 2 = y * 2 ^ k := by omega
    have e2 : 2 * (y * 2 ^ k) % 2 = 0 := by omega
    rw [e1, e2, band0 k y (z / 2) (by omega) (by omega)]
    simp
theorem bor {y z : Int} {k : Nat} (h0 : 0 ≤ z) (h1 : z < 2 ^ k) : Builtin.bitOr (y * 2 ^ k) z = y * 2 ^ k + z := by
  rw [bitOr_and, band0 k y z h0 h1]; omega
theorem band_self (x : Int) : Builtin.bitAnd x x = x := by
  have h1 := bitXor_self x
  rw [bitXor_and] at h1
  omega
theorem bandx : ∀ (k : Nat) (x : Int), Builtin.bitAnd x (x / 2 ^ k * 2 ^ k) = x / 2 ^ k * 2 ^ k
  | 0, x => by simp; exact band_self x
  | k + 1, x => by
    have e : x / 2 ^ (k + 1) * 2 ^ (k + 1) = 2 * (x / 2 / 2 ^ k * 2 ^ k) := by
      have : (2 : Int) ^ (k + 1) = 2 * 2 ^ k := by rw [Int.pow_succ]; omega
      rw [this, Int.mul_comm 2, ← Int.mul_assoc, Int.mul_comm (2 ^ k) 2, Int.ediv_ediv_of_nonneg (by decide : (0 : Int) ≤ 2)]
      omega
    rw [e, kbt_halves]
    have e1 : 2 * (x / 2 / 2 ^ k * 2 ^ k) / 2 = x / 2 / 2 ^ k * 2 ^ k := by omega
    have e2 : 2 * (x / 2 / 2 ^ k * 2 ^ k) % 2 = 0 := by omega
    rw [e1, e2, bandx k (x / 2)]
    simp
theorem bxor (x : Int) (k : Nat) : Builtin.bitXor x (Int.fdiv x (2 ^ k) * 2 ^ k) = Int.fmod x (2 ^ k) := by
  have hp := p2pos k
  rw [Int.fdiv_eq_ediv_of_nonneg _ (by omega), Int.fmod_eq_emod_of_nonneg _ (by omega), bitXor_and, bandx]
  have := Int.ediv_mul_add_emod x (2 ^ k)
  omega
theorem w1 {x z b b1 b2 P : Int} (hz : 0 ≤ z ∧ z < P) (h2 : 0 ≤ b2 ∧ b2 < P) (hb : b = b1 * P + b2) (hA : x * P + z < b * P) :
    (1 * P - 1) * b + ((x - b1 * P + b1) * P + z - (1 * P - 1) * b2) = x * P + z ∧ (x - b1 * P + b1) * P + z - (1 * P - 1) * b2 < b := by subst hb; constructor <;> grind
theorem w2 {x z b b1 b2 P q r : Int} (hz : 0 ≤ z ∧ z < P) (h2 : 0 ≤ b2 ∧ b2 < P) (hb : b = b1 * P + b2) (hq : 0 ≤ q) (hr : 0 ≤ r ∧ r < b1) (e : q * b1 + r = x) :
    q * b + (r * P + z - q * b2) = x * P + z ∧ r * P + z - q * b2 < b := by
  subst hb
  constructor
  · grind
  · have h3 : 0 ≤ q * b2 := Int.mul_nonneg hq h2.1
    have h4 : (r + 1) * P ≤ b1 * P := Int.mul_le_mul_of_nonneg_right (by omega) (by omega)
    have h5 : (r + 1) * P = r * P + P := by grind
    omega
theorem fdm {x b : Int} (hx : 0 ≤ x) (hb : 0 < b) : 0 ≤ x.fdiv b ∧ (0 ≤ x.fmod b ∧ x.fmod b < b) ∧ x.fdiv b * b + x.fmod b = x := by
  refine ⟨Int.fdiv_nonneg hx (by omega), ⟨Int.fmod_nonneg_of_pos _ hb, Int.fmod_lt_of_pos _ hb⟩, ?_⟩
  have := Int.mul_fdiv_add_fmod x b
  rw [Int.mul_comm]; exact this
abbrev tup2 (a b : Int) (u v : Tok) : Obj := { cls := .type "tuple", data := .seq #[.int a u, .int b v] 0 }
section
local macro_rules | `(tactic| walk_at "call builtin:divmod") => `(tactic| (k_here; refine divmod_N (by assumption) (by assumption) (by omega) ?_ (.inl (Mine.nop (by assumption))); intro _ _ _))
/-- _div2n1n, where it divides at once -/
theorem div21s_ok {w : World} {a b n : Int} {t1 t2 t3 : Tok} (hb : 0 < b) (_ha : 0 ≤ a) (hB : Builtin.Int.intBits b ≤ 8000) (hn : (Builtin.Int.intBits a : Int) - n ≤ 4000) :
    Spec w 21 [.int a t1, .int b t2, .int n t3] 3 (fun h₀ L m news s Q => ∀ l u1 u2 h' tk, Fr h₀ L h' m → News h₀ L h' ((l, tup2 (a.fdiv b) (a.fmod b) u1 u2) :: news) → (∀ p ∈ news, p.1 ≠ l) → Q (.ref l) { s with heap := h', toks := tk }) := by
  w_top off
  intro p loose mean mg mb news dp un gd cn cs a0 ccd cl outer A₀ base h₀ L m s Q E B F X N T hk hd hu ret
  skip
  revert X
  k_fill
  intro X
  have hs : ∀ q ∈ ([] : List (Addr × Obj)), q ∈ news := noneOf
  refine wpAny_call ?_
  refine' enterS ([]) B F X N T hs ?kA ?kF ?kK ?k6 ?k7 ?k8 ?k9 ?kB ?kgo ?c2 ?c3 ?c4 ?c5
  case kA => exact rfl
  case kF => exact rfl
  case kK => exact hk
  case k6 => k_is
  case k7 => k_is
  case k8 => exact Nat.lt_of_le_of_lt (Nat.le_add_right _ _) hd
  case k9 => exact BindsTo.of_eq rfl
  case c5 => decide
  case kB => exact locs rfl
  case c2 => exact rfl
  case c3 => exact rfl
  case c4 => exact rfl
  case' kgo => intro L1 h1 tk1 F1 N1 B1 X1 T1 FG
  clear B X T hs
  dsimp only
  try k_fold
  refine Mine.letQE ?_
  intro Q1 hQ1
  k_steps
  refine hQ1 _ _ ?_
  exact ret _ _ _ _ _ (backF FG (by assumption)) (backN1 F N (by assumption) (by assumption) noneOf noneOf (.head _) noneOf) (backNe N (by assumption) (.head _) noneOf)
end
local macro_rules | `(tactic| bits_by_make) => `(tactic| (with_reducible assumption))
local macro_rules | `(tactic| walk_at "call ref") => `(tactic| (k_here; refine Mine.Halt.out ?_))
local macro_rules | `(tactic| walk_at "exec While Compare") => `(tactic| (k_here; refine Mine.Halt.out ?_))
theorem div32_ok {w : World} {x z b b1 b2 n : Int} {t1 t2 t3 t4 t5 t6 : Tok} (hn : 0 ≤ n ∧ n ≤ 5000) (hx : 0 ≤ x) (hz : 0 ≤ z ∧ z < 2 ^ n.toNat) (p1 : 0 < b1) (p2 : 0 ≤ b2 ∧ b2 < 2 ^ n.toNat) (hb : b = b1 * 2 ^ n.toNat + b2)
    (hA : x * 2 ^ n.toNat + z < b * 2 ^ n.toNat) (c1 : Builtin.Int.intBits x ≤ 20000) (c2 : Builtin.Int.intBits b ≤ 20000) (c3 : Builtin.Int.intBits z ≤ 20000) (c4 : Builtin.Int.intBits b1 ≤ 8000) (c5 : Builtin.Int.intBits b2 ≤ 20000) (hs : (Builtin.Int.intBits x : Int) - n ≤ 4000) :
    Spec w 28 [.int x t1, .int z t2, .int b t3, .int b1 t4, .int b2 t5, .int n t6] 6 (fun h₀ L m news s Q => ∀ l u1 u2 h' tk, Fr h₀ L h' m → News h₀ L h' ((l, tup2 ((x * 2 ^ n.toNat + z).fdiv b) ((x * 2 ^ n.toNat + z).fmod b) u1 u2) :: news) → (∀ p ∈ news, p.1 ≠ l) → Q (.ref l) { s with heap := h', toks := tk }) := by
  w_top off
  intro p loose mean mg mb news dp un gd cn cs a0 ccd cl outer A₀ base h₀ L m s Q E B F X N T hk hd hu ret
  skip
  revert X
  k_fill
  intro X
  have hs : ∀ q ∈ ([] : List (Addr × Obj)), q ∈ news := noneOf
  refine wpAny_call ?_
  refine' enterS ([]) B F X N T hs ?kA ?kF ?kK ?k6 ?k7 ?k8 ?k9 ?kB ?kgo ?c2 ?c3 ?c4 ?c5
  case kA => exact rfl
  case kF => exact rfl
  case kK => exact hk
  case k6 => k_is
  case k7 => k_is
  case k8 => exact Nat.lt_of_le_of_lt (Nat.le_add_right _ _) hd
  case k9 => exact BindsTo.of_eq rfl
  case c5 => decide
  case kB => exact locs rfl
  case c2 => exact rfl
  case c3 => exact rfl
  case c4 => exact rfl
  case' kgo => intro L1 h1 tk1 F1 N1 B1 X1 T1 FG
  clear B X T hs
  dsimp only
  try k_fold
  refine Mine.letQE ?_
  intro Q1 hQ1
  k_steps
  rotate_left
  focus
    unfold Halt
    refine' wpAny_mono (Mine.div21s_ok ?y1b1 ?y1b2 ?y1b3 ?y1b4 ?y1B ?y1F ?y1X ?y1N ?y1T ?y1hk ?y1hd ?y1hu ?_) (fun _ _ z => z) (fun _ _ z => z)
    case y1B => k_asm
    case y1F => k_asm
    case y1X => k_asm
    case y1N => k_asm
    case y1T => k_asm
    case y1hk => exact rfl
    case y1hd => first | exact Mine.roomD hd rfl | (dsimp only [ktrTop]; omega)
    case y1hu => first | exact Mine.roomU hu rfl | (dsimp only [ktrTop]; omega)
    case y1b1 => omega
    case y1b2 => omega
    case y1b3 => assumption
    case y1b4 => assumption
    intro _ _ _ _ _ _ _ l1'
    replace l1' := Mine.allNe_of l1'
    dsimp only [Mine.AllNe] at l1'
    (try k_sweep)
    (try dsimp only)
    k_steps
  rotate_left
  all_goals unfold Halt
  all_goals (have hbp : 0 < b := by have := Int.mul_pos p1 (p2pos n.toNat); omega)
  all_goals (rename Fr _ _ _ _ => lF; rename News _ _ _ _ => lN)
  · refine While_inv (fun k m news => ∃ q r tq tr, m "q" = some (.int q tq) ∧ m "r" = some (.int r tr) ∧ m "b" = some (.int b t3) ∧ q * b + r = x * 2 ^ n.toNat + z ∧ r < b ∧ k = (-r).toNat) lF lN ⟨_, _, _, _, rfl, rfl, rfl, ?i1, ?i2, rfl⟩ ?turn
    case i1 => rw [bor hz.1 hz.2]; exact (w1 hz p2 hb hA).1
    case i2 => rw [bor hz.1 hz.2]; exact (w1 hz p2 hb hA).2
    case turn =>
      rintro k m2 news2 h5 tk5 F5 N5 hPz
      refine Mine.lett fun gP gK => ?_
      obtain ⟨q, r, tq, tr, e1, e2, e3, e4, e5, rfl⟩ := hPz
      refine gK ?_
      clear gK gP
      k_steps
      · refine WhileStep.intro (by assumption) (by assumption) (n' := (-(r + b)).toNat) (by omega) ?_
        exact ⟨q - 1, r + b, _, _, rfl, rfl, by assumption, by rw [← e4, Int.sub_mul]; omega, by omega, rfl⟩
      · obtain ⟨f1, f2⟩ := fuq e4 (by omega) e5
        rw [f1, f2] at ret
        refine hQ1 _ _ ?_
        exact ret _ _ _ _ _ (backF FG (by assumption)) (backN1 F N (by assumption) (by assumption) noneOf noneOf (.head _) noneOf) (backNe N (by assumption) (.head _) noneOf)
  · obtain ⟨hq, hr, hqr⟩ := fdm hx p1
    refine While_inv (fun k m news => ∃ q r tq tr, m "q" = some (.int q tq) ∧ m "r" = some (.int r tr) ∧ m "b" = some (.int b t3) ∧ q * b + r = x * 2 ^ n.toNat + z ∧ r < b ∧ k = (-r).toNat) lF lN ⟨_, _, _, _, rfl, rfl, rfl, ?i1, ?i2, rfl⟩ ?turn
    case i1 => rw [bor hz.1 hz.2]; exact (w2 hz p2 hb hq hr hqr).1
    case i2 => rw [bor hz.1 hz.2]; exact (w2 hz p2 hb hq hr hqr).2
    case turn =>
      rintro k m2 news2 h5 tk5 F5 N5 hPz
      refine Mine.lett fun gP gK => ?_
      obtain ⟨q, r, tq, tr, e1, e2, e3, e4, e5, rfl⟩ := hPz
      refine gK ?_
      clear gK gP
      k_steps
      · refine WhileStep.intro (by assumption) (by assumption) (n' := (-(r + b)).toNat) (by omega) ?_
        exact ⟨q - 1, r + b, _, _, rfl, rfl, by assumption, by rw [← e4, Int.sub_mul]; omega, by omega, rfl⟩
      · obtain ⟨f1, f2⟩ := fuq e4 (by omega) e5
        rw [f1, f2] at ret
        refine hQ1 _ _ ?_
        exact ret _ _ _ _ _ (backF FG (by assumption)) (backN1 F N (by assumption) (by assumption) noneOf noneOf (.head _) noneOf) (backNe N (by assumption) (.head _) noneOf)
end Mine
end

section
namespace Mine
local macro_rules | `(tactic| walk_at "call ref") => `(tactic| (k_here; refine Mine.Halt.out ?_))
local macro_rules | `(tactic| bits_by_make) => `(tactic| (with_reducible assumption))
theorem bits_of_lt {x : Int} {k : Nat} (h0 : 0 ≤ x) (h : x < 2 ^ k) : Builtin.Int.intBits x ≤ k := by
  refine PySem.intBits_le_iff.mpr ?_
  have h2 : (2 : Int) ^ k = ((2 ^ k : Nat) : Int) := by simp
  omega
theorem lt_of_bits {x : Int} {k : Nat} (h : Builtin.Int.intBits x ≤ k) : x < 2 ^ k := by
  have := PySem.intBits_le_iff.mp h
  have h2 : (2 : Int) ^ k = ((2 ^ k : Nat) : Int) := by simp
  omega
theorem divs {a P : Int} (ha : 0 ≤ a) (hP : 0 < P) : a.fdiv P = a / P ∧ 0 ≤ a / P ∧ 0 ≤ a % P ∧ a % P < P ∧ a / P * P + a % P = a :=
  ⟨Int.fdiv_eq_ediv_of_nonneg _ (by omega), Int.ediv_nonneg ha (by omega), Int.emod_nonneg _ (by omega), Int.emod_lt_of_pos _ hP, Int.ediv_mul_add_emod ..⟩
theorem lt_of_mul {x y P : Int} (hP : 0 < P) (h : x * P < y * P) : x < y := Int.lt_of_mul_lt_mul_right h (by omega)
/-- what the two calls of _div3n2n are given, and what comes of them -/
theorem prep {a b n H : Int} (hn : 2 ≤ n ∧ n ≤ 8000) (hH : n = 2 * H) (ha : 0 ≤ a) (hbl : 2 ^ (n.toNat - 1) ≤ b) (hbu : b < 2 ^ n.toNat) (hab : a < 2 ^ n.toNat * b) :
    let x := a.fdiv (2 ^ n.toNat); let z := Builtin.bitAnd (a.fdiv (2 ^ H.toNat)) (1 * 2 ^ H.toNat - 1); let b1 := b.fdiv (2 ^ H.toNat); let b2 := Builtin.bitAnd b (1 * 2 ^ H.toNat - 1)
    let y := Builtin.bitAnd a (1 * 2 ^ H.toNat - 1); let A := x * 2 ^ H.toNat + z; let q1 := A.fdiv b; let r1 := A.fmod b; let B := r1 * 2 ^ H.toNat + y; let q2 := B.fdiv b; let r2 := B.fmod b
    (0 ≤ H ∧ H ≤ 5000) ∧ 0 ≤ x ∧ (0 ≤ z ∧ z < 2 ^ H.toNat) ∧ 0 < b1 ∧ (0 ≤ b2 ∧ b2 < 2 ^ H.toNat) ∧ b = b1 * 2 ^ H.toNat + b2 ∧ x * 2 ^ H.toNat + z < b * 2 ^ H.toNat ∧
    Builtin.Int.intBits x ≤ 20000 ∧ Builtin.Int.intBits b ≤ 20000 ∧ Builtin.Int.intBits z ≤ 20000 ∧ Builtin.Int.intBits b1 ≤ 8000 ∧ Builtin.Int.intBits b2 ≤ 20000 ∧ (Builtin.Int.intBits x : Int) - H ≤ 4000 ∧
    0 ≤ r1 ∧ (0 ≤ y ∧ y < 2 ^ H.toNat) ∧ B < b * 2 ^ H.toNat ∧ Builtin.Int.intBits r1 ≤ 20000 ∧ Builtin.Int.intBits y ≤ 20000 ∧ (Builtin.Int.intBits r1 : Int) - H ≤ 4000 ∧ Builtin.Int.intBits q1 ≤ 20000 ∧
    Builtin.bitOr (q1 * 2 ^ H.toNat) q2 = a.fdiv b ∧ r2 = a.fmod b := by
  intro x z b1 b2 y A q1 r1 B q2 r2
  subst hH
  obtain ⟨k, rfl⟩ : ∃ k : Nat, H = (k : Int) := ⟨H.toNat, by omega⟩
  have ek : (k : Int).toNat = k := rfl
  have en : (2 * (k : Int)).toNat = 2 * k := by omega
  simp only [x, z, b1, b2, y, A, q1, r1, B, q2, r2, ek, en] at *
  clear x z b1 b2 y A q1 r1 B q2 r2
  have eP : (2 : Int) ^ (2 * k) = 2 ^ k * 2 ^ k := by rw [Nat.two_mul, Int.pow_add]
  have eL : (2 : Int) ^ (2 * k - 1) * 2 = 2 ^ k * 2 ^ k := by rw [← eP, ← Int.pow_succ]; congr 1; omega
  have hP := p2pos k
  have hk1 : (2 : Int) ^ k = 2 * 2 ^ (k - 1) := by
    obtain ⟨j, rfl⟩ : ∃ j, k = j + 1 := ⟨k - 1, by omega⟩
    rw [Int.pow_succ]; simp; omega
  have hP1 := p2pos (k - 1)
  have hbp : 0 < b := by have := p2pos (2 * k - 1); omega
  have e1 : (1 : Int) * 2 ^ k - 1 = 2 ^ k - 1 := by omega
  simp only [e1, kbt_mask]
  have bb : Builtin.Int.intBits b ≤ 2 * k := bits_of_lt (by omega) hbu
  rw [eP] at hab hbu ⊢
  have hbl2 : 2 ^ k * 2 ^ k ≤ b * 2 := by omega
  clear hbl eL
  generalize hPe : (2 : Int) ^ k = P at *
  refine Mine.lett fun gP gK => ?_
  obtain ⟨d1, d2, d3, d4, d5⟩ := divs ha hP
  refine gK ?_
  clear gK gP
  refine Mine.lett fun gP gK => ?_
  obtain ⟨f1, f2, f3, f4, f5⟩ := divs (Int.le_of_lt hbp) hP
  refine gK ?_
  clear gK gP
  have hPP : 0 < P * P := Int.mul_pos hP hP
  refine Mine.lett fun gP gK => ?_
  obtain ⟨g1, g2, g3, g4, g5⟩ := divs ha hPP
  refine gK ?_
  clear gK gP
  refine Mine.lett fun gP gK => ?_
  obtain ⟨i1, i2, i3, i4, i5⟩ := divs d2 hP
  refine gK ?_
  clear gK gP
  have eD : a / P / P = a / (P * P) := Int.ediv_ediv_of_nonneg (by omega)
  rw [eD] at i2 i5
  rw [d1, f1, g1]
  rw [i5]
  have hx : a / (P * P) < b := lt_of_mul hPP (by rw [Int.mul_comm b]; omega)
  have hA : a / P < b * P := lt_of_mul hP (by rw [Int.mul_assoc, Int.mul_comm b]; omega)
  refine Mine.lett fun gP gK => ?_
  obtain ⟨q0, ⟨r0, rb⟩, qr⟩ := fdm d2 hbp
  refine gK ?_
  clear gK gP
  have hb1 : 0 < b / P := by
    rcases Int.lt_or_le 0 (b / P) with h | h
    · exact h
    · have : b / P = 0 := by omega
      rw [this] at f5
      have : P * 2 ≤ P * P := Int.mul_le_mul_of_nonneg_left (by omega) (by omega)
      omega
  have hB : (a / P).fmod b * P + a % P < b * P := by
    have : ((a / P).fmod b + 1) * P ≤ b * P := Int.mul_le_mul_of_nonneg_right (by omega) (by omega)
    rw [Int.add_mul] at this
    omega
  have hB0 : 0 ≤ (a / P).fmod b * P + a % P := by have := Int.mul_nonneg r0 (Int.le_of_lt hP); omega
  refine Mine.lett fun gP gK => ?_
  obtain ⟨s0, ⟨u0, ub⟩, su⟩ := fdm hB0 hbp
  refine gK ?_
  clear gK gP
  have hbP : b < 2 ^ (2 * k) := by rw [eP]; exact hbu
  have b1x : Builtin.Int.intBits (a / (P * P)) ≤ 2 * k := bits_of_lt g2 (by omega)
  have b1r : Builtin.Int.intBits ((a / P).fmod b) ≤ 2 * k := bits_of_lt r0 (by omega)
  have hPk : (P : Int) ≤ 2 ^ k := by omega
  have b1z : Builtin.Int.intBits (a / P % P) ≤ k := bits_of_lt i3 (by omega)
  have b1y : Builtin.Int.intBits (a % P) ≤ k := bits_of_lt d3 (by omega)
  have b1b : Builtin.Int.intBits (b % P) ≤ k := bits_of_lt f3 (by omega)
  have b1c : Builtin.Int.intBits (b / P) ≤ 2 * k := bits_of_lt f2 (by have : b / P ≤ b := Int.ediv_le_self _ (by omega); omega)
  have hq2 : ((a / P).fmod b * P + a % P).fdiv b < P := lt_of_mul hbp (by rw [Int.mul_comm P]; omega)
  have b1q : Builtin.Int.intBits ((a / P).fdiv b) ≤ k := bits_of_lt q0 (by
    have : (a / P).fdiv b < P := lt_of_mul hbp (by rw [Int.mul_comm P]; omega)
    omega)
  have fin : ((a / P).fdiv b * P + ((a / P).fmod b * P + a % P).fdiv b) * b + ((a / P).fmod b * P + a % P).fmod b = a := by
    rw [Int.add_mul]
    have : (a / P).fdiv b * P * b = ((a / P).fdiv b * b) * P := by grind
    rw [this]
    have e2 : ((a / P).fdiv b * b + (a / P).fmod b) * P = a / P * P := by rw [qr]
    rw [Int.add_mul] at e2
    omega
  obtain ⟨z1, z2⟩ := fuq fin u0 ub
  refine ⟨⟨by omega, by omega⟩, g2, ⟨i3, i4⟩, hb1, ⟨f3, f4⟩, f5.symm, hA, by omega, by omega, by omega, by omega, by omega, by omega, r0, ⟨d3, d4⟩, hB, by omega, by omega, by omega, by omega, ?_, z2.symm⟩
  rw [z1]
  subst hPe
  exact bor s0 hq2
inductive PrepP (H a b x z b1 b2 y q1 r1 B q2 r2 : Int) : Prop
  | mk (z1 : (0 ≤ H ∧ H ≤ 5000)) (z2 : 0 ≤ x) (z3 : (0 ≤ z ∧ z < 2 ^ H.toNat)) (z4 : 0 < b1) (z5 : (0 ≤ b2 ∧ b2 < 2 ^ H.toNat)) (z6 : b = b1 * 2 ^ H.toNat + b2) (z7 : x * 2 ^ H.toNat + z < b * 2 ^ H.toNat) (z8 : Builtin.Int.intBits x ≤ 20000) (z9 : Builtin.Int.intBits b ≤ 20000) (z10 : Builtin.Int.intBits z ≤ 20000) (z11 : Builtin.Int.intBits b1 ≤ 8000) (z12 : Builtin.Int.intBits b2 ≤ 20000) (z13 : (Builtin.Int.intBits x : Int) - H ≤ 4000) (z14 : 0 ≤ r1) (z15 : (0 ≤ y ∧ y < 2 ^ H.toNat)) (z16 : B < b * 2 ^ H.toNat) (z17 : Builtin.Int.intBits r1 ≤ 20000) (z18 : Builtin.Int.intBits y ≤ 20000) (z19 : (Builtin.Int.intBits r1 : Int) - H ≤ 4000) (z20 : Builtin.Int.intBits q1 ≤ 20000) (z21 : Builtin.bitOr (q1 * 2 ^ H.toNat) q2 = a.fdiv b) (z22 : r2 = a.fmod b)
theorem PrepP.of {H a b x z b1 b2 y q1 r1 B q2 r2 : Int} (h : (0 ≤ H ∧ H ≤ 5000) ∧ 0 ≤ x ∧ (0 ≤ z ∧ z < 2 ^ H.toNat) ∧ 0 < b1 ∧ (0 ≤ b2 ∧ b2 < 2 ^ H.toNat) ∧ b = b1 * 2 ^ H.toNat + b2 ∧ x * 2 ^ H.toNat + z < b * 2 ^ H.toNat ∧ Builtin.Int.intBits x ≤ 20000 ∧ Builtin.Int.intBits b ≤ 20000 ∧ Builtin.Int.intBits z ≤ 20000 ∧ Builtin.Int.intBits b1 ≤ 8000 ∧ Builtin.Int.intBits b2 ≤ 20000 ∧ (Builtin.Int.intBits x : Int) - H ≤ 4000 ∧ 0 ≤ r1 ∧ (0 ≤ y ∧ y < 2 ^ H.toNat) ∧ B < b * 2 ^ H.toNat ∧ Builtin.Int.intBits r1 ≤ 20000 ∧ Builtin.Int.intBits y ≤ 20000 ∧ (Builtin.Int.intBits r1 : Int) - H ≤ 4000 ∧ Builtin.Int.intBits q1 ≤ 20000 ∧ Builtin.bitOr (q1 * 2 ^ H.toNat) q2 = a.fdiv b ∧ r2 = a.fmod b) : PrepP H a b x z b1 b2 y q1 r1 B q2 r2 := by
  refine Mine.lett fun gP gK => ?_
  obtain ⟨z1, z2, z3, z4, z5, z6, z7, z8, z9, z10, z11, z12, z13, z14, z15, z16, z17, z18, z19, z20, z21, z22⟩ := h
  refine gK ?_
  clear gK gP
  exact ⟨z1, z2, z3, z4, z5, z6, z7, z8, z9, z10, z11, z12, z13, z14, z15, z16, z17, z18, z19, z20, z21, z22⟩
theorem dbl {a b : Int} (ha : 0 ≤ a) (hb : 0 < b) : (a * 2).fdiv (b * 2) = a.fdiv b ∧ ((a * 2).fmod (b * 2)).fdiv 2 = a.fmod b := by
  refine Mine.lett fun gP gK => ?_
  obtain ⟨q0, ⟨r0, rb⟩, qr⟩ := fdm ha hb
  refine gK ?_
  clear gK gP
  obtain ⟨z1, z2⟩ := fuq (A := a * 2) (b := b * 2) (q := a.fdiv b) (r := a.fmod b * 2) (by grind) (by omega) (by omega)
  refine ⟨z1, ?_⟩
  rw [z2, Int.fdiv_eq_ediv_of_nonneg _ (by omega)]
  omega
local macro_rules | `(tactic| walk_at "inplaceOp LShift int int") => `(tactic| (k_here; (with_reducible refine ilshift_int ?kbn ?kbs ?_); (case kbn => l_bnd); (case kbs => (refine' kbm_shl ?kba ?kbc ?kbd; (case kba => bits_by_make); (case kbc => l_bnd); (case kbd => decide)))))
theorem cutNext {M : Model} {A : Around} {E : Value → Shared → Prop} {t : Sem Flow} {Q : Flow → Shared → Prop} {s : Shared} (P : Shared → Prop) (h1 : ∀ Q3 : Flow → Shared → Prop, (∀ s', P s' → Q3 .next s') → wpAny M A t Q3 E s) (h2 : ∀ s', P s' → Q .next s') : wpAny M A t Q E s := h1 Q h2
theorem bits_dbl {x : Int} {k : Nat} (h0 : 0 ≤ x) (h : Builtin.Int.intBits x ≤ k) : Builtin.Int.intBits (x * 2) ≤ k + 1 := bits_of_lt (by omega) (by have := lt_of_bits h; rw [Int.pow_succ]; omega)
/-- what stands where the padding is done -/
inductive JPad (n a b : Int) (h₀ : Heap) (L1 : Addr) (s s' : Shared) : Prop
  | mk (h' : Heap) (tk : Nat) (m' : Str → Option Value) (a' b' n' : Int) (ta tb tn tp : Tok) (e : s' = { s with heap := h', toks := tk }) (F : Fr h₀ L1 h' m') (N : News h₀ L1 h' []) (m1 : m' "a" = some (.int a' ta)) (m2 : m' "b" = some (.int b' tb)) (m3 : m' "n" = some (.int n' tn)) (m4 : m' "pad" = some (.int (Builtin.bitAnd n 1) tp))
    (k1 : 2 ≤ n' ∧ n' ≤ 8000) (k2 : n' = 2 * Int.fdiv n' (2 ^ Int.toNat 1)) (k3 : 0 ≤ a') (k4 : 2 ^ (n'.toNat - 1) ≤ b') (k5 : b' < 2 ^ n'.toNat) (k6 : a' < 2 ^ n'.toNat * b') (k7 : Builtin.Int.intBits a' ≤ 20001) (rel : (Builtin.bitAnd n 1 = 0 ∧ a' = a ∧ b' = b) ∨ (¬ Builtin.bitAnd n 1 = 0 ∧ a' = a * 2 ∧ b' = b * 2))
local macro_rules | `(tactic| walk_at "exec If Name") => `(tactic| (k_here; refine Mine.Halt.out ?_))
/-- _div2n1n, where it divides by halves -/
theorem div21b_ok {w : World} {a b n : Int} {t1 t2 t3 : Tok} (hn : 2 ≤ n ∧ n ≤ 7000) (ha : 0 ≤ a) (hbl : 2 ^ (n.toNat - 1) ≤ b) (hbu : b < 2 ^ n.toNat) (hab : a < 2 ^ n.toNat * b) (c1 : Builtin.Int.intBits a ≤ 20000) (c2 : Builtin.Int.intBits b ≤ 20000) (hs : ¬ (Builtin.Int.intBits a : Int) - n ≤ 4000) :
    Spec w 21 [.int a t1, .int b t2, .int n t3] 9 (fun h₀ L m news s Q => ∀ l u1 u2 h' tk, Fr h₀ L h' m → News h₀ L h' ((l, tup2 (a.fdiv b) (a.fmod b) u1 u2) :: news) → (∀ p ∈ news, p.1 ≠ l) → Q (.ref l) { s with heap := h', toks := tk }) := by
  w_top off
  intro p loose mean mg mb news dp un gd cn cs a0 ccd cl outer A₀ base h₀ L m s Q E B F X N T hk hd hu ret
  skip
  revert X
  k_fill
  intro X
  have hs : ∀ q ∈ ([] : List (Addr × Obj)), q ∈ news := noneOf
  refine wpAny_call ?_
  refine' enterS ([]) B F X N T hs ?kA ?kF ?kK ?k6 ?k7 ?k8 ?k9 ?kB ?kgo ?c2 ?c3 ?c4 ?c5
  case kA => exact rfl
  case kF => exact rfl
  case kK => exact hk
  case k6 => k_is
  case k7 => k_is
  case k8 => exact Nat.lt_of_le_of_lt (Nat.le_add_right _ _) hd
  case k9 => exact BindsTo.of_eq rfl
  case c5 => decide
  case kB => exact locs rfl
  case c2 => exact rfl
  case c3 => exact rfl
  case c4 => exact rfl
  case' kgo => intro L1 h1 tk1 F1 N1 B1 X1 T1 FG
  clear B X T hs
  dsimp only
  try k_fold
  refine Mine.letQE ?_
  intro Q1 hQ1
  have hbp : 0 < b := by have := p2pos (n.toNat - 1); omega
  have hbit : Builtin.bitAnd n 1 = n % 2 := bitAnd_m1 n
  k_steps
  unfold Halt
  refine Mine.cutNext (JPad n a b (gnd s.heap []) L1 s) ?h1 ?h2
  case h1 =>
    intro Q3 hQ3
    refine wpAny_If ?_
    k_steps
    · have e1 : (2 : Int) ^ Int.toNat 1 = 2 := by decide
      have en : (n + 1).toNat = n.toNat + 1 := Int.toNat_add (Int.le_trans (by decide) hn.1) (by decide)
      refine hQ3 _ (.mk _ _ _ _ _ _ _ _ _ _ rfl (by assumption) (by assumption) rfl rfl rfl rfl (by omega) (by rw [Int.fdiv_eq_ediv_of_nonneg _ (by decide)]; show n + 1 = 2 * ((n + 1) / 2); omega) (by rw [e1]; omega) ?_ ?_ ?_ (by rw [e1]; exact bits_dbl ha c1) (.inr ⟨by assumption, by rw [e1], by rw [e1]⟩))
      · rw [en, e1]
        have : n.toNat + 1 - 1 = (n.toNat - 1) + 1 := (Nat.sub_add_cancel (Int.lt_toNat.mpr (Int.lt_of_lt_of_le (by decide) hn.1))).symm
        rw [this, Int.pow_succ]; omega
      · rw [en, Int.pow_succ, e1]; omega
      · rw [en, Int.pow_succ, e1]
        have : (2 : Int) ^ n.toNat * 2 * (b * 2) = 4 * (2 ^ n.toNat * b) := by grind
        omega
    · refine hQ3 _ (.mk _ _ _ _ _ _ _ _ _ _ rfl (by assumption) (by assumption) rfl rfl rfl rfl (by omega) (by rw [Int.fdiv_eq_ediv_of_nonneg _ (by decide)]; show n = 2 * (n / 2); omega) ha hbl hbu hab (by omega) (.inl ⟨by first | assumption | omega, rfl, rfl⟩))
  case h2 =>
    intro s5 hJ
    refine Mine.lett fun gP gK => ?_
    obtain ⟨h5, tk5, m5, a', b', n', ta, tb, tn, tp, rfl, F5, N5, m1, m2, m3, m4, k1, k2, k3, k4, k5, k6, k7, rel⟩ := hJ
    refine gK ?_
    clear gK gP
    have P := PrepP.of (prep (H := Int.fdiv n' (2 ^ Int.toNat 1)) k1 k2 k3 k4 k5 k6)
    refine Mine.lett fun gP gK => ?_
    obtain ⟨z1, z2, z3, z4, z5, z6, z7, z8, z9, z10, z11, z12, z13, z14, z15, z16, z17, z18, z19, z20, z21, z22⟩ := P
    refine gK ?_
    clear gK gP
    dsimp only
    k_steps
    all_goals try contradiction
    unfold Halt
    refine' wpAny_mono (Mine.div32_ok ?y1b1 ?y1b2 ?y1b3 ?y1b4 ?y1b5 ?y1b6 ?y1b7 ?y1c1 ?y1c2 ?y1c3 ?y1c4 ?y1c5 ?y1c6 ?y1B ?y1F ?y1X ?y1N ?y1T ?y1hk ?y1hd ?y1hu ?_) (fun _ _ z => z) (fun _ _ z => z)
    case y1B => k_asm
    case y1F => k_asm
    case y1X => k_asm
    case y1N => k_asm
    case y1T => k_asm
    case y1hk => exact rfl
    case y1hd => first | exact Mine.roomD hd rfl | (dsimp only [ktrTop]; omega)
    case y1hu => first | exact Mine.roomU hu rfl | (dsimp only [ktrTop]; omega)
    case y1b1 => assumption
    case y1b2 => assumption
    case y1b3 => assumption
    case y1b4 => assumption
    case y1b5 => assumption
    case y1b6 => assumption
    case y1b7 => assumption
    case y1c1 => assumption
    case y1c2 => assumption
    case y1c3 => assumption
    case y1c4 => assumption
    case y1c5 => assumption
    case y1c6 => assumption
    intro _ _ _ _ _ _ _ l1'
    replace l1' := Mine.allNe_of l1'
    dsimp only [Mine.AllNe] at l1'
    (try k_sweep)
    (try dsimp only)
    k_steps
    all_goals try contradiction
    unfold Halt
    refine' wpAny_mono (Mine.div32_ok ?y2b1 ?y2b2 ?y2b3 ?y2b4 ?y2b5 ?y2b6 ?y2b7 ?y2c1 ?y2c2 ?y2c3 ?y2c4 ?y2c5 ?y2c6 ?y2B ?y2F ?y2X ?y2N ?y2T ?y2hk ?y2hd ?y2hu ?_) (fun _ _ z => z) (fun _ _ z => z)
    case y2B => k_asm
    case y2F => k_asm
    case y2X => k_asm
    case y2N => k_asm
    case y2T => k_asm
    case y2hk => exact rfl
    case y2hd => first | exact Mine.roomD hd rfl | (dsimp only [ktrTop]; omega)
    case y2hu => first | exact Mine.roomU hu rfl | (dsimp only [ktrTop]; omega)
    case y2b1 => assumption
    case y2b2 => assumption
    case y2b3 => assumption
    case y2b4 => assumption
    case y2b5 => assumption
    case y2b6 => assumption
    case y2b7 => assumption
    case y2c1 => assumption
    case y2c2 => assumption
    case y2c3 => assumption
    case y2c4 => assumption
    case y2c5 => assumption
    case y2c6 => assumption
    intro _ _ _ _ _ _ _ l1'
    replace l1' := Mine.allNe_of l1'
    dsimp only [Mine.AllNe] at l1'
    (try k_sweep)
    (try dsimp only)
    k_steps
    all_goals try contradiction
    unfold Halt
    refine wpAny_If ?_
    k_steps
    · obtain ⟨_, rfl, rfl⟩ : ¬ Builtin.bitAnd n 1 = 0 ∧ a' = a * 2 ∧ b' = b * 2 := rel.resolve_left fun h => absurd h.1 (by assumption)
      obtain ⟨y1, y2⟩ := dbl ha hbp
      have e1 : (2 : Int) ^ Int.toNat 1 = 2 := by decide
      have y3 : ((a * 2).fmod (b * 2)).fdiv (2 ^ Int.toNat 1) = a.fmod b := by rw [e1]; exact y2
      rw [← y1, ← y3, ← z21, ← z22] at ret
      refine hQ1 _ _ ?_
      exact ret _ _ _ _ _ (backF FG (by assumption)) (backN1 F N (by assumption) (by assumption) noneOf noneOf (.head _) noneOf) (backNe N (by assumption) (.head _) noneOf)
    · obtain ⟨_, rfl, rfl⟩ : Builtin.bitAnd n 1 = 0 ∧ a' = a ∧ b' = b := rel.resolve_right fun h => absurd (by first | assumption | omega) h.1
      rw [← z21, ← z22] at ret
      refine hQ1 _ _ ?_
      exact ret _ _ _ _ _ (backF FG (by assumption)) (backN1 F N (by assumption) (by assumption) noneOf noneOf (.head _) noneOf) (backNe N (by assumption) (.head _) noneOf)
theorem spec_mono {w : World} {f : Addr} {vs : List Value} {k k' : Nat} {C : Heap → Addr → (Str → Option Value) → List (Addr × Obj) → Shared → (Value → Shared → Prop) → Prop} (hk : k ≤ k') (h : Spec w f vs k C) : Spec w f vs k' C :=
  fun B F X N T e hd hu ret => h B F X N T e (by omega) (by omega) ret
/-- _div2n1n -/
theorem div21_ok {w : World} {a b n : Int} {t1 t2 t3 : Tok} (hn : 2 ≤ n ∧ n ≤ 7000) (ha : 0 ≤ a) (hbl : 2 ^ (n.toNat - 1) ≤ b) (hbu : b < 2 ^ n.toNat) (hab : a < 2 ^ n.toNat * b) (c1 : Builtin.Int.intBits a ≤ 20000) (c2 : Builtin.Int.intBits b ≤ 8000) :
    Spec w 21 [.int a t1, .int b t2, .int n t3] 9 (fun h₀ L m news s Q => ∀ l u1 u2 h' tk, Fr h₀ L h' m → News h₀ L h' ((l, tup2 (a.fdiv b) (a.fmod b) u1 u2) :: news) → (∀ p ∈ news, p.1 ≠ l) → Q (.ref l) { s with heap := h', toks := tk }) := by
  by_cases hs : (Builtin.Int.intBits a : Int) - n ≤ 4000
  · exact spec_mono (by omega) (div21s_ok (by have := p2pos (n.toNat - 1); omega) ha c2 hs)
  · exact div21b_ok hn ha hbl hbu hab c1 (by omega) hs
end Mine
end

section
namespace Mine
/-- the number that digits spell, the least first -/
def D2 (n : Nat) : List Int → Int
  | [] => 0
  | d :: r => d + 2 ^ n * D2 n r
theorem D2_append (n : Nat) : ∀ a b : List Int, D2 n (a ++ b) = D2 n b * 2 ^ (n * a.length) + D2 n a
  | [], b => by simp [D2]
  | x :: r, b => by
    rw [List.cons_append, D2, D2, D2_append n r b, List.length_cons, Nat.mul_succ, Int.pow_add]
    grind
def dv (ns : List Int) (n i j : Int) : Int := D2 n.toNat ((ns.drop i.toNat).take (j - i).toNat)
theorem dv_cut {ns : List Int} {n i m j : Int} (hn : 0 ≤ n) (h0 : 0 ≤ i) (h1 : i ≤ m) (h2 : m ≤ j) (h3 : j ≤ ns.length) : dv ns n i j = dv ns n m j * 2 ^ ((m - i) * n).toNat + dv ns n i m := by
  obtain ⟨i, rfl⟩ : ∃ k : Nat, i = k := ⟨i.toNat, by omega⟩
  obtain ⟨m, rfl⟩ : ∃ k : Nat, m = k := ⟨m.toNat, by omega⟩
  obtain ⟨j, rfl⟩ : ∃ k : Nat, j = k := ⟨j.toNat, by omega⟩
  obtain ⟨n, rfl⟩ : ∃ k : Nat, n = k := ⟨n.toNat, by omega⟩
  have h1' : i ≤ m := Int.ofNat_le.mp h1
  have h2' : m ≤ j := Int.ofNat_le.mp h2
  have h3' : j ≤ ns.length := Int.ofNat_le.mp h3
  have e1 : ((m : Int) - i).toNat = m - i := Int.toNat_sub m i
  have e2 : ((j : Int) - i).toNat = (m - i) + (j - m) := by rw [Int.toNat_sub, ← Nat.sub_add_sub_cancel h2' h1', Nat.add_comm]
  have e3 : ((j : Int) - m).toNat = j - m := Int.toNat_sub j m
  have e4 : (((m : Int) - i) * n).toNat = n * (m - i) := by
    have : ((m : Int) - i) = ((m - i : Nat) : Int) := (Int.ofNat_sub h1').symm
    rw [this, ← Int.natCast_mul, Int.toNat_natCast, Nat.mul_comm]
  unfold dv
  simp only [Int.toNat_natCast, e1, e2, e3, e4]
  rw [List.take_add, List.drop_drop, D2_append]
  have : ((List.drop i ns).take (m - i)).length = m - i := by rw [List.length_take, List.length_drop]; exact Nat.min_eq_left (Nat.sub_le_sub_right (Nat.le_trans h2' h3') i)
  rw [this, Nat.add_sub_cancel' h1']
theorem dv_one {ns : List Int} {n i j : Int} (h0 : 0 ≤ i) (h1 : i + 1 = j) (h3 : j ≤ ns.length) : dv ns n i j = ns.getD i.toNat 0 := by
  subst h1
  unfold dv
  have e : (i + 1 - i).toNat = 1 := by omega
  have hl : i.toNat < ns.length := by omega
  rw [e, List.drop_eq_getElem_cons hl, List.take_succ_cons, List.take_zero, D2, D2, List.getD_eq_getElem?_getD, List.getElem?_eq_getElem hl]
  simp
theorem dv_all (ns : List Int) (n : Int) : dv ns n 0 ns.length = D2 n.toNat ns := by
  unfold dv
  simp
theorem D2_bd (n : Nat) : ∀ l : List Int, (∀ d ∈ l, 0 ≤ d ∧ d < 2 ^ n) → 0 ≤ D2 n l ∧ D2 n l < 2 ^ (n * l.length)
  | [], _ => by simp [D2]
  | d :: r, h => by
    obtain ⟨a, b⟩ := D2_bd n r fun x hx => h x (.tail _ hx)
    obtain ⟨c, e⟩ := h d (.head _)
    have hp := p2pos n
    rw [D2, List.length_cons, Nat.mul_succ, Int.pow_add]
    have h1 := Int.mul_nonneg (Int.le_of_lt hp) a
    have h2 : 2 ^ n * (D2 n r + 1) ≤ 2 ^ n * 2 ^ (n * r.length) := Int.mul_le_mul_of_nonneg_left (by omega) (by omega)
    rw [Int.mul_add, Int.mul_one, Int.mul_comm (2 ^ n) (2 ^ (n * r.length))] at h2
    omega
theorem dv_bits {ns : List Int} {n : Int} (hns : ∀ d ∈ ns, 0 ≤ d ∧ d < 2 ^ n.toNat) (hn : 1 ≤ n ∧ n ≤ 7000) (hl : 1 ≤ ns.length ∧ ns.length ≤ 6) (i j : Int) : Builtin.Int.intBits (dv ns n i j) ≤ 60000 := by
  obtain ⟨a, b⟩ := D2_bd n.toNat ((ns.drop i.toNat).take (j - i).toNat) fun d hd => hns d (List.mem_of_mem_drop (List.mem_of_mem_take hd))
  refine Nat.le_trans (bits_of_lt a b) ?_
  have h1 : ((ns.drop i.toNat).take (j - i).toNat).length ≤ 6 := by rw [List.length_take, List.length_drop]; exact Nat.le_trans (Nat.min_le_right ..) (Nat.le_trans (Nat.sub_le ..) hl.2)
  have h2 : n.toNat ≤ 7000 := by omega
  have := Nat.mul_le_mul h2 h1
  omega
section
variable {h₀ h h' : Heap} {L L' c P : Addr} {m m' : Str → Option Value} {news ne ar : List (Addr × Obj)} {o o' oc : Obj} {g : Obj → List (Addr × Obj)}
/-- the caller's ledger after a call that changed one object of it and made one -/
theorem backG (F : Fr h₀ L h m) (N : News h₀ L h news) (F' : Fr (gnd h ar) L' h' m') (N' : News (gnd h ar) L' h' ne) (U : UpdF P o news g) (hP : (P, o) ∈ ar) (hs : ∀ q ∈ ar, q ∈ news) (he : ∀ q ∈ ar, q.1 = P ∨ q ∈ ne) (hn : (P, o') ∈ ne)
    (hc : (c, oc) ∈ ne) (hl : ∀ q ∈ ar, q.1 ≠ c) : News h₀ L h' ((c, oc) :: g o') := by
  refine Mine.lett fun gP gK => ?_
  obtain ⟨own, rest, rfl, hgr, h1, h2⟩ := U.split
  refine gK ?_
  clear gK gP
  have old : ∀ p ∈ own ++ (P, o) :: rest, p.1 ≠ P → h'.get? p.1 = some p.2 ∧ p.1 ≠ L ∧ h₀.get? p.1 = none := fun p hp hne => by
    refine ⟨?_, (N p hp).2⟩
    by_cases q : p.1 ∈ ar.map (·.1)
    · obtain ⟨r, hr, e⟩ := List.mem_map.mp q
      have e1 := (N r (hs r hr)).1
      rw [e, (N p hp).1] at e1
      rcases he r hr with hh | hh
      · exact absurd (e ▸ hh) hne
      · have e2 := (N' r hh).1
        rw [e] at e2
        rw [e2, Option.some.inj e1]
    · exact F'.keep _ _ (hideAll_get _ (N p hp).1 q)
  intro p hp
  rcases List.mem_cons.mp hp with rfl | hp
  · have z := backOff N' hc hl
    refine ⟨(N' _ hc).1, fun e => ?_, ?_⟩
    · obtain ⟨oL, _, _, hL, _⟩ := F.ns
      have e' : c = L := e
      rw [e', hL] at z; cases z
    · cases q : h₀.get? c with
      | none => rfl
      | some o' => rw [F.keep _ _ q] at z; cases z
  · rw [hgr] at hp
    rcases List.mem_append.mp hp with hp | hp
    · exact old p (List.mem_append_left _ hp) (h1 p hp)
    · rcases List.mem_cons.mp hp with rfl | hp
      · exact ⟨(N' _ hn).1, (N (P, o) (List.mem_append_right _ (.head _))).2⟩
      · exact old p (List.mem_append_right _ (.tail _ hp)) (h2 p hp)
end
theorem mem2 {B h : Heap} {L f c : Addr} {fo oc : Obj} {r : List (Addr × Obj)} (_N : News B L h ((f, fo) :: (c, oc) :: r)) : (c, oc) ∈ ((f, fo) :: (c, oc) :: r) := .tail _ (.head _)
/-- the table of _digits2int after its first call, and the name of its inner -/
abbrev tabD (c : Addr) : Obj := tabObj (#[] ++ #[rawInt ((47 : Nat) : Int), rawInt ((4 : Nat) : Int), .ref c])
abbrev qualD : Str := Str.ofString "_digits2int" ++ ".<locals>." ++ Str.ofString "inner"
/-- what the inner of _digits2int answers, over a ledger -/
def InnerD (w : World) (f : Addr) (ns : List Int) (n : Int) (led : List (Addr × Obj)) (k : Nat) : Prop :=
  ∀ {i j : Int} {t u : Tok} {p : Program} {loose : List Str} {mean : ExcName → Option Value} {mg mb : Str → Option Value} {dp un : Nat} {gd : Option (List Code)} {cn : Str} {cs : Scope} {a : Addr} {ccd : Value} {cl : List (Str × Addr)} {outer : List Env} {A₀ : Around} {base h₀ : Heap} {L : Addr} {m : Str → Option Value} {s : Shared} {Q E : Value → Shared → Prop},
    0 ≤ i → i < j → j ≤ ns.length → j ≤ i + k → Below A₀ base outer h₀ → Fr h₀ L s.heap m → (Mine.hd.heap_39 w.params).In h₀ → News h₀ L s.heap led → Top p loose mean mg mb h₀ → cs.kind = .function →
    dp + k < recursionLimit → un + 8 * k < cLine → (∀ t' h' tk, Fr h₀ L h' m → News h₀ L h' led → Q (.int (dv ns n i j) t') { s with heap := h', toks := tk }) →
      wpAny (model (RowW.prog (OpenRow.toRowW (OpenLaw.row PySem.Challenge.rw_xe0030_01))) w) (ktrTop dp un gd cn cs L a ccd cl outer) (call (.ref f) [.int i t, .int j u]) Q E s
theorem applyD {w : World} {f : Addr} {ns : List Int} {n : Int} {led : List (Addr × Obj)} {k : Nat} {i j : Int} {t u : Tok} {p : Program} {loose : List Str} {mean : ExcName → Option Value} {mg mb : Str → Option Value} {dp un : Nat} {gd : Option (List Code)} {cn : Str} {cs : Scope} {a : Addr} {ccd : Value} {cl : List (Str × Addr)} {outer : List Env} {A₀ : Around} {base h₀ : Heap} {L : Addr} {m : Str → Option Value} {s : Shared} {Q E : Value → Shared → Prop}
    (hI : InnerD w f ns n led k) (h0 : 0 ≤ i) (h1 : i < j) (h2 : j ≤ ns.length) (h3 : j ≤ i + k) (B : Below A₀ base outer h₀) (F : Fr h₀ L s.heap m) (X : (Mine.hd.heap_39 w.params).In h₀) (N : News h₀ L s.heap led) (T : Top p loose mean mg mb h₀) (hk : cs.kind = .function)
    (hd : dp + k < recursionLimit) (hu : un + 8 * k < cLine) (h : ∀ t' h' tk, Fr h₀ L h' m → News h₀ L h' led → Q (.int (dv ns n i j) t') { s with heap := h', toks := tk }) :
      wpAny (model (RowW.prog (OpenRow.toRowW (OpenLaw.row PySem.Challenge.rw_xe0030_01))) w) (ktrTop dp un gd cn cs L a ccd cl outer) (call (.ref f) [.int i t, .int j u]) Q E s := hI h0 h1 h2 h3 B F X N T hk hd hu h
local macro_rules | `(tactic| bits_by_make) => `(tactic| (with_reducible assumption))
local macro_rules | `(tactic| bits_by_make) => `(tactic| (refine Mine.dv_bits ?_ ?_ ?_ _ _ <;> assumption))
local macro_rules | `(tactic| walk_at "call ref") => `(tactic| (k_here; refine Mine.Halt.out ?_))
local macro_rules | `(tactic| walk_at "call ref") => `(tactic| (k_here; k_dflt (refine' Mine.applyD ?I ?h0 ?h1 ?h2 ?h3 ?B ?F ?X ?N ?T ?hk ?hd ?hu ?_; (case I => assumption); (case B => k_asm); (case F => k_asm); (case X => k_asm); (case N => k_asm); (case T => k_asm); (case hk => exact rfl); (case h0 => omega); (case h1 => omega); (case h2 => omega); (case h3 => omega); (case hd => (dsimp only [ktrTop]; omega)); (case hu => (dsimp only [ktrTop]; omega)); intro t' h' tk' F' N'; k_sweep)))
/-- _digits2int, the first time -/
theorem d2i1_ok {w : World} {ld : Addr} {k0 : Nat} {vs : List Value} {ns : List Int} {n : Int} {t1 : Tok} (hl : @Ne Nat ld 37) (hn : 1 ≤ n ∧ n ≤ 7000) (hvs : IntsAre vs ns) (hlen : 1 ≤ ns.length ∧ ns.length ≤ 6) (hns : ∀ d ∈ ns, 0 ≤ d ∧ d < 2 ^ n.toNat) :
    Spec w 42 [.ref ld, .int n t1] 9 (fun h₀ L m news s Q => ∃ g, UpdF 37 (tabObj #[]) news g ∧ ((ld, lsk vs k0) ∈ news ∧ (37, tabObj #[]) ∈ news) ∧ ∀ c' oc qs tq t' h' tk, Fr h₀ L h' m → News h₀ L h' ((c', oc) :: g (tabD c')) → (∀ p ∈ news, p.1 ≠ c') →
      oc.data = .fields qs → qs[1]? = some (.str qualD tq) → Q (.int (D2 n.toNat ns) t') { s with heap := h', toks := tk }) := by
  w_top off
  intro p loose mean mg mb news dp un gd cn cs a0 ccd cl outer A₀ base h₀ L m s Q E B F X N T hk hd hu ret
  obtain ⟨g, U, hmem, ret⟩ := ret
  revert X
  k_fill
  intro X
  have hs : ∀ q ∈ ([(ld, lsk vs k0), (37, tabObj #[])] : List (Addr × Obj)), q ∈ news := twoOf hmem.1 hmem.2
  refine wpAny_call ?_
  refine' enterC ([(ld, lsk vs k0), (37, tabObj #[])]) B F X N T hs ?kA ?kF ?kK ?k6 ?k7 ?k8 ?k9 ?kB ?kD ?kgo ?c2 ?c3 ?c4
  case kA => exact rfl
  case kF => exact rfl
  case kK => exact hk
  case k6 => k_is
  case k7 => k_is
  case k8 => exact Nat.lt_of_le_of_lt (Nat.le_add_right _ _) hd
  case k9 => exact BindsTo.of_eq rfl
  case kB => exact rfl
  case kD => decide +kernel
  case c2 => exact rfl
  case c3 => exact rfl
  case c4 => exact rfl
  case' kgo => intro L1 h1 tk1 cells1 F1 N1 Y1 l1 B1 X1 T1 FG
  clear B X T hs
  (try k_lt l1)
  k_cells Y1
  (try simp only [List.cons_append, List.nil_append] at N1)
  dsimp only
  try k_fold
  refine Mine.letQE ?_
  intro Q1 hQ1
  have hC : CodeHd (gnd s.heap [(ld, lsk vs k0), (37, tabObj #[])]) 41 37 := codeHd_of_K X1 (by kernel_rfl)
  k_steps
  unfold Halt
  refine' applyD (ns := ns) (n := n) (k := 6) ?inner ?h0 ?h1 ?h2 ?h3 ?B ?F ?X ?N ?T ?hk ?hd ?hu ?_
  case B => k_asm
  case F => k_asm
  case X => k_asm
  case N => k_asm
  case T => k_asm
  case h0 => omega
  case h1 => omega
  case h2 => omega
  case h3 => omega
  case hk => exact rfl
  case hd => (dsimp only [ktrTop]; omega)
  case hu => (dsimp only [ktrTop]; omega)
  case inner =>
    rename News _ _ _ _ => lN
    clear lN
    generalize (6 : Nat) = k
    induction k with
    | zero => intro i j; intros; omega
    | succ k ih =>
      intro i j t u p2 loose2 mean2 mg2 mb2 dp2 un2 gd2 cn2 cs2 a2 ccd2 cl2 outer2 A2 base2 g0 L2 m2 s2 Q2 E2 hi0 hij hjl hjk B2 F2 X2 N2 T2 hk2 hd2 hu2 ret2
      refine wpAny_call ?_
      refine' code_nest ?k1 ?k2 ?k3 ?k4 ?k5 ?kA ?kF ?kK ?k6 ?k7 ?k8 ?k9 ?kB ?_ ?c2 ?c3 ?c4 ?c5
      case kA => exact rfl
      case kF => exact rfl
      case kK => exact hk2
      case k1 => exact B2
      case k2 => exact F2
      case k3 => exact X2
      case k4 => exact N2
      case k5 => exact T2
      case k6 => k_mem
      case k7 => exact codeRec_news N2 (by k_mem) (by assumption) (by assumption)
      case k8 => (simp only [recursionLimit] at hd2 ⊢; omega)
      case k9 => exact BindsTo.of_eq rfl
      case c5 => decide
      case kB => exact locs rfl
      case c2 => exact rfl
      case c3 => exact rfl
      case c4 => exact rfl
      k_whole
      intro g' L' h' FG' F' N' B' X' T'
      (try dsimp only)
      (try k_lift B')
      (try k_fold)
      clear F2 N2 B2 T2 X2
      have hm : i + 1 ≠ j → i < Int.fdiv (i + j) (2 ^ Int.toNat 1) ∧ Int.fdiv (i + j) (2 ^ Int.toNat 1) < j := by
        have e : (2 : Int) ^ Int.toNat 1 = 2 := by decide
        rw [e, Int.fdiv_eq_ediv_of_nonneg _ (by decide)]
        omega
      have hsh : i + 1 ≠ j → 0 ≤ (Int.fdiv (i + j) (2 ^ Int.toNat 1) - i) * n ∧ (Int.fdiv (i + j) (2 ^ Int.toNat 1) - i) * n ≤ 1000000 := by
        intro hne
        have h1 := hm hne
        have h2 := Int.mul_nonneg (a := Int.fdiv (i + j) (2 ^ Int.toNat 1) - i) (b := n) (by omega) (by omega)
        have h3 : (Int.fdiv (i + j) (2 ^ Int.toNat 1) - i) * n ≤ 6 * n := Int.mul_le_mul_of_nonneg_right (by omega) (by omega)
        omega
      k_steps
      · (try dsimp only)
        refine leaveK_ (by k_asm) (by k_asm) (fun kF kN => ?_)
        rw [dv_one hi0 (by assumption) hjl] at ret2
        exact ret2 _ _ _ kF kN
      · (try dsimp only)
        refine leaveK_ (by k_asm) (by k_asm) (fun kF kN => ?_)
        have hm' := hm (by assumption)
        rw [dv_cut (m := Int.fdiv (i + j) (2 ^ Int.toNat 1)) (by omega) hi0 (by omega) (by omega) hjl] at ret2
        exact ret2 _ _ _ kF kN
  intro t9 h9 tk9 F9 N9
  rw [dv_all]
  rename Obj.data _ = Data.fields _ => hd9
  rename _ = some (Value.str _ _) => hq9
  refine hQ1 _ _ ?_
  exact ret _ _ _ _ _ _ _ (backF FG F9) (backG F N F9 N9 U (.tail _ (.head _)) (twoOf hmem.1 hmem.2) (twoOf (.inr (by k_mem)) (.inl rfl)) (by k_mem) (mem2 N9) (twoOf (by k_ne) (by k_ne))) (backNe N N9 (mem2 N9) (twoOf (by k_ne) (by k_ne))) hd9 hq9
/-- _digits2int, any later time -/
theorem d2i_ok {w : World} {ld : Addr} {k0 : Nat} {vs : List Value} {ns : List Int} {n : Int} {t1 : Tok} {c' : Addr} {oc : Obj} {qs : Array Value} {tq : Tok} (hl : @Ne Nat ld 37) (hoc : oc.data = .fields qs) (hqs : qs[1]? = some (.str qualD tq)) (hn : 1 ≤ n ∧ n ≤ 7000) (hvs : IntsAre vs ns) (hlen : 1 ≤ ns.length ∧ ns.length ≤ 6) (hns : ∀ d ∈ ns, 0 ≤ d ∧ d < 2 ^ n.toNat) :
    Spec w 42 [.ref ld, .int n t1] 9 (fun h₀ L m news s Q => ((ld, lsk vs k0) ∈ news ∧ (37, tabD c') ∈ news ∧ (c', oc) ∈ news) ∧ ∀ t' h' tk, Fr h₀ L h' m → News h₀ L h' news → Q (.int (D2 n.toNat ns) t') { s with heap := h', toks := tk }) := by
  w_top off
  intro p loose mean mg mb news dp un gd cn cs a0 ccd cl outer A₀ base h₀ L m s Q E B F X N T hk hd hu ret
  obtain ⟨hmem, ret⟩ := ret
  revert X
  k_fill
  intro X
  have hs : ∀ q ∈ ([(ld, lsk vs k0), (37, tabD c'), (c', oc)] : List (Addr × Obj)), q ∈ news := consOf hmem.1 (twoOf hmem.2.1 hmem.2.2)
  refine wpAny_call ?_
  refine' enterC ([(ld, lsk vs k0), (37, tabD c'), (c', oc)]) B F X N T hs ?kA ?kF ?kK ?k6 ?k7 ?k8 ?k9 ?kB ?kD ?kgo ?c2 ?c3 ?c4
  case kA => exact rfl
  case kF => exact rfl
  case kK => exact hk
  case k6 => k_is
  case k7 => k_is
  case k8 => exact Nat.lt_of_le_of_lt (Nat.le_add_right _ _) hd
  case k9 => exact BindsTo.of_eq rfl
  case kB => exact rfl
  case kD => decide +kernel
  case c2 => exact rfl
  case c3 => exact rfl
  case c4 => exact rfl
  case' kgo => intro L1 h1 tk1 cells1 F1 N1 Y1 l1 B1 X1 T1 FG
  clear B X T hs
  (try k_lt l1)
  k_cells Y1
  (try simp only [List.cons_append, List.nil_append] at N1)
  dsimp only
  try k_fold
  refine Mine.letQE ?_
  intro Q1 hQ1
  have hC : CodeHd (gnd s.heap [(ld, lsk vs k0), (37, tabD c'), (c', oc)]) 41 37 := codeHd_of_K X1 (by kernel_rfl)
  k_steps
  unfold Halt
  refine' applyD (ns := ns) (n := n) (k := 6) ?inner ?h0 ?h1 ?h2 ?h3 ?B ?F ?X ?N ?T ?hk ?hd ?hu ?_
  case B => k_asm
  case F => k_asm
  case X => k_asm
  case N => k_asm
  case T => k_asm
  case h0 => omega
  case h1 => omega
  case h2 => omega
  case h3 => omega
  case hk => exact rfl
  case hd => (dsimp only [ktrTop]; omega)
  case hu => (dsimp only [ktrTop]; omega)
  case inner =>
    rename News _ _ _ _ => lN
    clear lN
    generalize (6 : Nat) = k
    induction k with
    | zero => intro i j; intros; omega
    | succ k ih =>
      intro i j t u p2 loose2 mean2 mg2 mb2 dp2 un2 gd2 cn2 cs2 a2 ccd2 cl2 outer2 A2 base2 g0 L2 m2 s2 Q2 E2 hi0 hij hjl hjk B2 F2 X2 N2 T2 hk2 hd2 hu2 ret2
      refine wpAny_call ?_
      refine' code_nest ?k1 ?k2 ?k3 ?k4 ?k5 ?kA ?kF ?kK ?k6 ?k7 ?k8 ?k9 ?kB ?_ ?c2 ?c3 ?c4 ?c5
      case kA => exact rfl
      case kF => exact rfl
      case kK => exact hk2
      case k1 => exact B2
      case k2 => exact F2
      case k3 => exact X2
      case k4 => exact N2
      case k5 => exact T2
      case k6 => k_mem
      case k7 => exact codeRec_news N2 (by k_mem) hoc (by with_unfolding_all exact hqs)
      case k8 => (simp only [recursionLimit] at hd2 ⊢; omega)
      case k9 => exact BindsTo.of_eq rfl
      case c5 => decide
      case kB => exact locs rfl
      case c2 => exact rfl
      case c3 => exact rfl
      case c4 => exact rfl
      k_whole
      intro g' L' h' FG' F' N' B' X' T'
      (try dsimp only)
      (try k_lift B')
      (try k_fold)
      clear F2 N2 B2 T2 X2
      have hm : i + 1 ≠ j → i < Int.fdiv (i + j) (2 ^ Int.toNat 1) ∧ Int.fdiv (i + j) (2 ^ Int.toNat 1) < j := by
        have e : (2 : Int) ^ Int.toNat 1 = 2 := by decide
        rw [e, Int.fdiv_eq_ediv_of_nonneg _ (by decide)]
        omega
      have hsh : i + 1 ≠ j → 0 ≤ (Int.fdiv (i + j) (2 ^ Int.toNat 1) - i) * n ∧ (Int.fdiv (i + j) (2 ^ Int.toNat 1) - i) * n ≤ 1000000 := by
        intro hne
        have h1 := hm hne
        have h2 := Int.mul_nonneg (a := Int.fdiv (i + j) (2 ^ Int.toNat 1) - i) (b := n) (by omega) (by omega)
        have h3 : (Int.fdiv (i + j) (2 ^ Int.toNat 1) - i) * n ≤ 6 * n := Int.mul_le_mul_of_nonneg_right (by omega) (by omega)
        omega
      k_steps
      · (try dsimp only)
        refine leaveK_ (by k_asm) (by k_asm) (fun kF kN => ?_)
        rw [dv_one hi0 (by assumption) hjl] at ret2
        exact ret2 _ _ _ kF kN
      · (try dsimp only)
        refine leaveK_ (by k_asm) (by k_asm) (fun kF kN => ?_)
        have hm' := hm (by assumption)
        rw [dv_cut (m := Int.fdiv (i + j) (2 ^ Int.toNat 1)) (by omega) hi0 (by omega) (by omega) hjl] at ret2
        exact ret2 _ _ _ kF kN
  intro t9 h9 tk9 F9 N9
  rw [dv_all]
  refine hQ1 _ _ ?_
  exact ret _ _ _ (backF FG F9) (backN N F9 N9 (consOf hmem.1 (twoOf hmem.2.1 hmem.2.2)) (consOf (by k_mem) (twoOf (by k_mem) (by k_mem))))
end Mine
end

section
namespace Mine
/-- the lowest k digits of a number in base 2^n -/
def digs (n : Nat) : Nat → Int → List Int
  | 0, _ => []
  | k + 1, x => x % 2 ^ n :: digs n k (x / 2 ^ n)
theorem digs_len (n : Nat) : ∀ (k : Nat) (x : Int), (digs n k x).length = k
  | 0, _ => rfl
  | k + 1, x => by rw [digs, List.length_cons, digs_len n k]
theorem digs_add (n : Nat) : ∀ (p q : Nat) (x : Int), 0 ≤ x → digs n (p + q) x = digs n p (x % 2 ^ (n * p)) ++ digs n q (x / 2 ^ (n * p))
  | 0, q, x, hx => by simp [digs]
  | p + 1, q, x, hx => by
    have hp := p2pos n
    have hq := p2pos (n * p)
    have e0 : p + 1 + q = (p + q) + 1 := by omega
    have e1 : (2 : Int) ^ (n * (p + 1)) = 2 ^ n * 2 ^ (n * p) := by rw [Nat.mul_succ, Int.pow_add, Int.mul_comm]
    rw [e0, digs, digs_add n p q (x / 2 ^ n) (Int.ediv_nonneg hx (by omega)), e1]
    rw [digs, List.cons_append]
    have e2 : x % (2 ^ n * 2 ^ (n * p)) % 2 ^ n = x % 2 ^ n := Int.emod_emod_of_dvd x ⟨_, rfl⟩
    have e3 : x % (2 ^ n * 2 ^ (n * p)) / 2 ^ n = x / 2 ^ n % 2 ^ (n * p) := by
      generalize (2 : Int) ^ (n * p) = R at *
      generalize (2 : Int) ^ n = P at *
      have h1 := Int.ediv_mul_add_emod x P
      have h2 := Int.emod_lt_of_pos x hp
      have h3 := Int.emod_nonneg x (show P ≠ 0 by omega)
      have h4 := Int.ediv_mul_add_emod (x / P) R
      have h5 := Int.emod_lt_of_pos (x / P) hq
      have h6 := Int.emod_nonneg (x / P) (show R ≠ 0 by omega)
      have hPR : 0 < P * R := Int.mul_pos hp hq
      generalize x % P = b at *
      generalize x / P = c at *
      generalize c % R = d at *
      generalize c / R = e at *
      have k2 : 0 ≤ d * P + b := by have := Int.mul_nonneg h6 (Int.le_of_lt hp); omega
      have k3 : d * P + b < P * R := by
        have : (d + 1) * P ≤ R * P := Int.mul_le_mul_of_nonneg_right (by omega) (by omega)
        rw [Int.add_mul, Int.mul_comm R P] at this
        omega
      have k4 : x % (P * R) = d * P + b := ((Int.ediv_emod_unique (q := e) hPR).mpr ⟨by subst h1; subst h4; grind, k2, k3⟩).2
      rw [k4]
      exact ((Int.ediv_emod_unique (r := b) hp).mpr ⟨by grind, h3, h2⟩).1
    have e4 : x / (2 ^ n * 2 ^ (n * p)) = x / 2 ^ n / 2 ^ (n * p) := by rw [Int.ediv_ediv_of_nonneg (by omega)]
    rw [e2, e3, e4]
theorem p2le {a b : Nat} (h : a ≤ b) : (2 : Int) ^ a ≤ 2 ^ b := by
  have h1 := Nat.pow_le_pow_right (n := 2) (by decide) h
  have e : ∀ k : Nat, (2 : Int) ^ k = ((2 ^ k : Nat) : Int) := by intro k; simp
  rw [e, e]
  omega
section
variable {prog : Program} {w : World} {A : Around} {E : Value → Shared → Prop} {s : Shared} {h₀ : Heap} {L : Addr} {m : Str → Option Value} {news : List (Addr × Obj)} {l : Addr} {x : Int} {t u : Tok} {Q : Value → Shared → Prop}
theorem intsRep (t : Tok) : ∀ k : Nat, IntsAre (List.replicate k [Value.int 0 t]).flatten (List.replicate k 0)
  | 0 => .nil
  | k + 1 => .cons 0 t (intsRep t k)
theorem mulZ (Fm : Fr h₀ L s.heap m) (N : News h₀ L s.heap news) (hl : (l, lst [.int 0 t]) ∈ news) (hlo : 0 ≤ x) (hhi : x ≤ 200)
    (h : ∀ D h' ys ns, Fr h₀ L h' m → News h₀ L h' ((D, lst ys) :: news) → (∀ p ∈ news, p.1 < D) → IntsAre ys ns → ns = List.replicate x.toNat 0 → (ns.length : Int) = x → ns.length ≤ 200 → Q (.ref D) { s with heap := h' }) : wpAny (model prog w) A (binaryOp .Mult (.ref l) (.int x u)) Q E s :=
  KMa.mul (vs := [.int 0 t]) Fm N ⟨_, (N _ hl).1, rfl, _, rfl⟩ (by omega) (by omega) (by simp; omega) rfl fun D h' F' N' l' => h D h' _ _ F' N' l' (intsRep t _) rfl (by simp; omega) (by simp; omega)
end
theorem consN {h₀ h h' : Heap} {L L' l : Addr} {m : Str → Option Value} {ne ar X : List (Addr × Obj)} {o : Obj} (F : Fr h₀ L h m) (N' : News (gnd h ar) L' h' ne) (hm : (l, o) ∈ ne) (hl : ∀ q ∈ ar, q.1 ≠ l) (NX : News h₀ L h' X) : News h₀ L h' ((l, o) :: X) := fun p hp => by
  rcases List.mem_cons.mp hp with rfl | hp
  · have z := backOff N' hm hl
    refine ⟨(N' _ hm).1, fun e => ?_, ?_⟩
    · obtain ⟨oL, _, _, hL, _⟩ := F.ns
      have e' : l = L := e
      rw [e', hL] at z; cases z
    · cases q : h₀.get? l with
      | none => rfl
      | some o' => rw [F.keep _ _ q] at z; cases z
  · exact NX p hp
/-- the table of _int2digits after its first call, and the name of its inner -/
abbrev tabI (c : Addr) : Obj := tabObj (#[] ++ #[rawInt ((32 : Nat) : Int), rawInt ((4 : Nat) : Int), .ref c])
abbrev qualI : Str := Str.ofString "_int2digits" ++ ".<locals>." ++ Str.ofString "inner"
theorem fill_one {ns : List Int} {n x i j : Int} (h0 : 0 ≤ i) (h1 : i + 1 = j) (h2 : j ≤ ns.length) (x0 : 0 ≤ x) (x1 : x < 2 ^ (n.toNat * (j - i).toNat)) : ns.take i.toNat ++ digs n.toNat (j - i).toNat x ++ ns.drop j.toNat = ns.set i.toNat x := by
  subst h1
  have e : (i + 1 - i).toNat = 1 := by omega
  have e2 : (i + 1).toNat = i.toNat + 1 := by omega
  rw [e, Nat.mul_one] at x1
  rw [e, e2, digs, digs, Int.emod_eq_of_lt x0 x1, List.set_eq_take_append_cons_drop, if_pos (by omega)]
  simp
theorem tnAdd {i mm j : Int} (h1 : i ≤ mm) (h2 : mm ≤ j) : (j - i).toNat = (mm - i).toNat + (j - mm).toNat := by
  rw [← Int.toNat_add (Int.sub_nonneg_of_le h1) (Int.sub_nonneg_of_le h2)]; congr 1; omega
theorem tnAdd0 {mm j : Int} (h1 : 0 ≤ mm) (h2 : mm ≤ j) : j.toNat = mm.toNat + (j - mm).toNat := by
  rw [← Int.toNat_add h1 (Int.sub_nonneg_of_le h2)]; congr 1; omega
theorem len81 {i mm : Int} {l : Nat} (h0 : 0 ≤ i) (h1 : i ≤ mm) (h2 : mm ≤ l) : min i.toNat l + (mm - i).toNat + (l - mm.toNat) = l := by
  rw [Nat.min_eq_left (Int.toNat_le.mpr (Int.le_trans h1 h2)), ← tnAdd0 h0 h1]; exact Nat.add_sub_cancel' (Int.toNat_le.mpr h2)
theorem fill_cut {ns : List Int} {n x i mm j : Int} (h0 : 0 ≤ i) (h1 : i ≤ mm) (h2 : mm ≤ j) (h3 : j ≤ ns.length) (hn : 0 ≤ n) (x0 : 0 ≤ x) :
    let s := ((mm - i) * n).toNat; let m1 := ns.take i.toNat ++ digs n.toNat (mm - i).toNat (x.fmod (2 ^ s)) ++ ns.drop mm.toNat
    ns.take i.toNat ++ digs n.toNat (j - i).toNat x ++ ns.drop j.toNat = m1.take mm.toNat ++ digs n.toNat (j - mm).toNat (x.fdiv (2 ^ s)) ++ m1.drop j.toNat := by
  intro s m1
  have hs : s = n.toNat * (mm - i).toNat := by
    show ((mm - i) * n).toNat = _
    obtain ⟨p, hp⟩ : ∃ p : Nat, mm - i = p := ⟨(mm - i).toNat, by omega⟩
    obtain ⟨q, rfl⟩ : ∃ q : Nat, n = q := ⟨n.toNat, by omega⟩
    rw [hp, ← Int.natCast_mul, Int.toNat_natCast, Int.toNat_natCast, Int.toNat_natCast, Nat.mul_comm]
  have e1 : (j - i).toNat = (mm - i).toNat + (j - mm).toNat := tnAdd h1 h2
  have hp := p2pos s
  have hl : (ns.take i.toNat ++ digs n.toNat (mm - i).toNat (x.fmod (2 ^ s))).length = mm.toNat := by
    rw [List.length_append, digs_len, List.length_take, Nat.min_eq_left (Int.toNat_le.mpr (Int.le_trans h1 (Int.le_trans h2 h3))), ← tnAdd0 h0 h1]
  have ht : m1.take mm.toNat = ns.take i.toNat ++ digs n.toNat (mm - i).toNat (x.fmod (2 ^ s)) := by
    show List.take _ (_ ++ _) = _
    rw [← hl]; exact List.take_left
  have hd : m1.drop j.toNat = ns.drop j.toNat := by
    show List.drop _ (_ ++ _) = _
    have e2 : j.toNat = mm.toNat + (j - mm).toNat := tnAdd0 (Int.le_trans h0 h1) h2
    have e3 : mm.toNat = (ns.take i.toNat ++ digs n.toNat (mm - i).toNat (x.fmod (2 ^ s))).length := hl.symm
    rw [e2, List.drop_append]
    have e4 : List.drop (mm.toNat + (j - mm).toNat) (ns.take i.toNat ++ digs n.toNat (mm - i).toNat (x.fmod (2 ^ s))) = [] := List.drop_eq_nil_of_le (by omega)
    rw [e4, List.nil_append, List.drop_drop, hl, Nat.add_sub_cancel_left]
  rw [ht, hd, e1, digs_add _ _ _ _ x0, ← hs, Int.fmod_eq_emod_of_nonneg _ (by omega), Int.fdiv_eq_ediv_of_nonneg _ (by omega)]
  simp only [List.append_assoc]
theorem halves {n x i mm j : Int} (h1 : i ≤ mm) (h2 : mm ≤ j) (hn : 0 ≤ n) (x0 : 0 ≤ x) (x1 : x < 2 ^ (n.toNat * (j - i).toNat)) (xb : Builtin.Int.intBits x ≤ 60000) :
    let s := ((mm - i) * n).toNat; let lo := Builtin.bitXor x (x.fdiv (2 ^ s) * 2 ^ s); let hi := x.fdiv (2 ^ s)
    lo = x.fmod (2 ^ s) ∧ 0 ≤ lo ∧ lo < 2 ^ (n.toNat * (mm - i).toNat) ∧ Builtin.Int.intBits lo ≤ 60000 ∧ 0 ≤ hi ∧ hi < 2 ^ (n.toNat * (j - mm).toNat) ∧ Builtin.Int.intBits hi ≤ 60000 := by
  intro s lo hi
  have hs : s = n.toNat * (mm - i).toNat := by
    show ((mm - i) * n).toNat = _
    obtain ⟨p, hp⟩ : ∃ p : Nat, mm - i = p := ⟨(mm - i).toNat, by omega⟩
    obtain ⟨q, rfl⟩ : ∃ q : Nat, n = q := ⟨n.toNat, by omega⟩
    rw [hp, ← Int.natCast_mul, Int.toNat_natCast, Int.toNat_natCast, Int.toNat_natCast, Nat.mul_comm]
  have hp := p2pos s
  have e : lo = x.fmod (2 ^ s) := bxor x s
  refine Mine.lett fun gP gK => ?_
  obtain ⟨d1, d2, d3, d4, d5⟩ := divs x0 hp
  refine gK ?_
  clear gK gP
  have f : x.fmod (2 ^ s) = x % 2 ^ s := Int.fmod_eq_emod_of_nonneg _ (by omega)
  have hx := lt_of_bits xb
  have hle : x % 2 ^ s ≤ x := by have := Int.mul_nonneg d2 (Int.le_of_lt hp); omega
  have hle2 : x / 2 ^ s ≤ x := Int.ediv_le_self _ x0
  rw [← hs]
  refine ⟨e, by omega, by omega, bits_of_lt (by omega) (by omega), by show 0 ≤ x.fdiv _; omega, ?_, bits_of_lt (by show 0 ≤ x.fdiv _; omega) (by show x.fdiv _ < _; omega)⟩
  show x.fdiv _ < _
  rw [d1]
  refine lt_of_mul hp ?_
  have e2 : (j - i).toNat = (j - mm).toNat + (mm - i).toNat := by rw [Nat.add_comm]; exact tnAdd h1 h2
  rw [e2, Nat.mul_add, Int.pow_add, ← hs] at x1
  omega
/-- what the inner of _int2digits does, over a ledger that holds the list -/
def InnerI (w : World) (f : Addr) (n : Int) (led : List Value → List (Addr × Obj)) (K k : Nat) : Prop :=
  ∀ {x i j : Int} {t u v : Tok} {ys : List Value} {ns : List Int} {p : Program} {loose : List Str} {mean : ExcName → Option Value} {mg mb : Str → Option Value} {dp un : Nat} {gd : Option (List Code)} {cn : Str} {cs : Scope} {a : Addr} {ccd : Value} {cl : List (Str × Addr)} {outer : List Env} {A₀ : Around} {base h₀ : Heap} {L : Addr} {m : Str → Option Value} {s : Shared} {Q E : Value → Shared → Prop},
    0 ≤ i → i < j → j ≤ K → j ≤ i + k → 0 ≤ x → x < 2 ^ (n.toNat * (j - i).toNat) → Builtin.Int.intBits x ≤ 60000 → IntsAre ys ns → ns.length = K → Below A₀ base outer h₀ → Fr h₀ L s.heap m → (Mine.hd.heap_39 w.params).In h₀ → News h₀ L s.heap (led ys) → Top p loose mean mg mb h₀ → cs.kind = .function →
    dp + k < recursionLimit → un + 8 * k < cLine → (∀ ys' h' tk, Fr h₀ L h' m → News h₀ L h' (led ys') → IntsAre ys' (ns.take i.toNat ++ digs n.toNat (j - i).toNat x ++ ns.drop j.toNat) → Q .none { s with heap := h', toks := tk }) →
      wpAny (model (RowW.prog (OpenRow.toRowW (OpenLaw.row PySem.Challenge.rw_xe0030_01))) w) (ktrTop dp un gd cn cs L a ccd cl outer) (call (.ref f) [.int x t, .int i u, .int j v]) Q E s
theorem applyI {w : World} {f : Addr} {n : Int} {led : List Value → List (Addr × Obj)} {K k : Nat} {x i j : Int} {t u v : Tok} {ys : List Value} {ns : List Int} {p : Program} {loose : List Str} {mean : ExcName → Option Value} {mg mb : Str → Option Value} {dp un : Nat} {gd : Option (List Code)} {cn : Str} {cs : Scope} {a : Addr} {ccd : Value} {cl : List (Str × Addr)} {outer : List Env} {A₀ : Around} {base h₀ : Heap} {L : Addr} {m : Str → Option Value} {s : Shared} {Q E : Value → Shared → Prop}
    (hI : InnerI w f n led K k) (h0 : 0 ≤ i) (h1 : i < j) (h2 : j ≤ K) (h3 : j ≤ i + k) (x0 : 0 ≤ x) (x1 : x < 2 ^ (n.toNat * (j - i).toNat)) (xb : Builtin.Int.intBits x ≤ 60000) (hy : IntsAre ys ns) (hl : ns.length = K) (B : Below A₀ base outer h₀) (F : Fr h₀ L s.heap m) (X : (Mine.hd.heap_39 w.params).In h₀) (N : News h₀ L s.heap (led ys)) (T : Top p loose mean mg mb h₀) (hk : cs.kind = .function)
    (hd : dp + k < recursionLimit) (hu : un + 8 * k < cLine) (h : ∀ ys' h' tk, Fr h₀ L h' m → News h₀ L h' (led ys') → IntsAre ys' (ns.take i.toNat ++ digs n.toNat (j - i).toNat x ++ ns.drop j.toNat) → Q .none { s with heap := h', toks := tk }) :
      wpAny (model (RowW.prog (OpenRow.toRowW (OpenLaw.row PySem.Challenge.rw_xe0030_01))) w) (ktrTop dp un gd cn cs L a ccd cl outer) (call (.ref f) [.int x t, .int i u, .int j v]) Q E s := hI h0 h1 h2 h3 x0 x1 xb hy hl B F X N T hk hd hu h
theorem startI {w : World} {h9 : Heap} {f : Addr} {n : Int} {led : List Value → List (Addr × Obj)} {K k : Nat} {x i j : Int} {t u v : Tok} {ns : List Int} {p : Program} {loose : List Str} {mean : ExcName → Option Value} {mg mb : Str → Option Value} {dp un : Nat} {gd : Option (List Code)} {cn : Str} {cs : Scope} {a : Addr} {ccd : Value} {cl : List (Str × Addr)} {outer : List Env} {A₀ : Around} {base h₀ : Heap} {L : Addr} {m : Str → Option Value} {s : Shared} {Q E : Value → Shared → Prop}
    (hh : s.heap = h9) (hI : InnerI w f n led K k) (h0 : 0 ≤ i) (h1 : i < j) (h2 : j ≤ K) (h3 : j ≤ i + k) (x0 : 0 ≤ x) (x1 : x < 2 ^ (n.toNat * (j - i).toNat)) (xb : Builtin.Int.intBits x ≤ 60000) (hl : ns.length = K) (B : Below A₀ base outer h₀) (F : Fr h₀ L s.heap m) (X : (Mine.hd.heap_39 w.params).In h₀) (T : Top p loose mean mg mb h₀) (hk : cs.kind = .function)
    (hd : dp + k < recursionLimit) (hu : un + 8 * k < cLine) (h : ∀ ys' h' tk, Fr h₀ L h' m → News h₀ L h' (led ys') → IntsAre ys' (ns.take i.toNat ++ digs n.toNat (j - i).toNat x ++ ns.drop j.toNat) → Q .none { s with heap := h', toks := tk }) :
      ∀ ys, IntsAre ys ns → News h₀ L h9 (led ys) →
      wpAny (model (RowW.prog (OpenRow.toRowW (OpenLaw.row PySem.Challenge.rw_xe0030_01))) w) (ktrTop dp un gd cn cs L a ccd cl outer) (call (.ref f) [.int x t, .int i u, .int j v]) Q E s := fun ys hy N => hI h0 h1 h2 h3 x0 x1 xb hy hl B F X (hh ▸ N) T hk hd hu h
local macro_rules | `(tactic| bits_by_make) => `(tactic| (with_reducible assumption))
local macro_rules | `(tactic| walk_at "call ref") => `(tactic| (k_here; refine Mine.Halt.out ?_))
local macro_rules | `(tactic| walk_at "binaryOp Mult ref int") => `(tactic| (k_here; k_dflt (refine' Mine.mulZ ?F ?N ?l ?lo ?hi ?_; (case F => k_asm); (case N => k_asm); (case l => k_mem); (case lo => omega); (case hi => omega)); intro D' h' ys' ns' F' N' l1' hy' e1' e2' e3'; (try k_lt l1')))
local macro_rules | `(tactic| walk_at "call ref") => `(tactic| (k_here; k_dflt (refine' Mine.applyI ?I ?h0 ?h1 ?h2 ?h3 ?x0 ?x1 ?xb ?hy ?hl ?B ?F ?X ?N ?T ?hk ?hd ?hu ?_; (case I => assumption); (case hy => assumption); (case B => k_asm); (case F => k_asm); (case X => k_asm); (case N => k_asm); (case T => k_asm); (case hk => exact rfl); (case hl => first | assumption | (simp only [List.length_append, List.length_take, List.length_drop, Mine.digs_len]; first | (refine (Mine.len81 ?_ ?_ ?_).trans ?_ <;> omega) | omega)); (case x0 => assumption); (case x1 => assumption); (case xb => assumption); (case h0 => omega); (case h1 => omega); (case h2 => omega); (case h3 => omega); (case hd => (dsimp only [ktrTop]; omega)); (case hu => (dsimp only [ktrTop]; omega)); intro ys' h' tk' F' N' hy'; (try dsimp only at N'); k_sweep)))
/-- _int2digits, the first time -/
theorem i2d1_ok {w : World} {a n : Int} {t1 t2 : Tok} (hn : 1 ≤ n ∧ n ≤ 7000) (ha : 0 ≤ a) (hb : Builtin.Int.intBits a ≤ 20000) (hk : 0 ≤ Int.fdiv (Builtin.Int.intBits a + n - 1) n ∧ Int.fdiv (Builtin.Int.intBits a + n - 1) n ≤ 6) :
    Spec w 35 [.int a t1, .int n t2] 9 (fun h₀ L m news s Q => ∃ g, UpdF 30 (tabObj #[]) news g ∧ (30, tabObj #[]) ∈ news ∧ ∀ l ys c' oc qs tq h' tk, Fr h₀ L h' m → News h₀ L h' ((l, lst ys) :: (c', oc) :: g (tabI c')) → (∀ p ∈ news, p.1 ≠ l) → (∀ p ∈ news, p.1 ≠ c') → @Ne Nat l c' →
      oc.data = .fields qs → qs[1]? = some (.str qualI tq) → IntsAre ys (digs n.toNat (Int.fdiv (Builtin.Int.intBits a + n - 1) n).toNat a) → Q (.ref l) { s with heap := h', toks := tk }) := by
  w_top off
  intro p loose mean mg mb news dp un gd cn cs a0 ccd cl outer A₀ base h₀ L m s Q E B F X N T hk hd hu ret
  obtain ⟨g, U, hmem, ret⟩ := ret
  revert X
  k_fill
  intro X
  have hs : ∀ q ∈ ([(30, tabObj #[])] : List (Addr × Obj)), q ∈ news := oneOf hmem
  refine wpAny_call ?_
  refine' enterC ([(30, tabObj #[])]) B F X N T hs ?kA ?kF ?kK ?k6 ?k7 ?k8 ?k9 ?kB ?kD ?kgo ?c2 ?c3 ?c4
  case kA => exact rfl
  case kF => exact rfl
  case kK => exact hk
  case k6 => k_is
  case k7 => k_is
  case k8 => exact Nat.lt_of_le_of_lt (Nat.le_add_right _ _) hd
  case k9 => exact BindsTo.of_eq rfl
  case kB => exact rfl
  case kD => decide +kernel
  case c2 => exact rfl
  case c3 => exact rfl
  case c4 => exact rfl
  case' kgo => intro L1 h1 tk1 cells1 F1 N1 Y1 l1 B1 X1 T1 FG
  clear B X T hs
  (try k_lt l1)
  k_cells Y1
  (try simp only [List.cons_append, List.nil_append] at N1)
  dsimp only
  try k_fold
  refine Mine.letQE ?_
  intro Q1 hQ1
  have hC : CodeHd (gnd s.heap [(30, tabObj #[])]) 34 30 := codeHd_of_K X1 (by kernel_rfl)
  have hkb : a < 2 ^ (n.toNat * (Int.fdiv (Builtin.Int.intBits a + n - 1) n).toNat) := by
    refine Int.lt_of_lt_of_le (lt_of_bits (Nat.le_refl _)) ?_
    refine p2le ?_
    obtain ⟨_, ⟨_, h1⟩, h2⟩ := fdm (x := Builtin.Int.intBits a + n - 1) (b := n) (by omega) (by omega)
    have h3 : ((n.toNat * (Int.fdiv (Builtin.Int.intBits a + n - 1) n).toNat : Nat) : Int) = Int.fdiv (Builtin.Int.intBits a + n - 1) n * n := by
      rw [Int.natCast_mul, Int.toNat_of_nonneg (by omega), Int.toNat_of_nonneg (by omega), Int.mul_comm]
    omega
  have hka : a ≠ 0 → 1 ≤ Int.fdiv (Builtin.Int.intBits a + n - 1) n := by
    intro ha0
    rcases Int.lt_or_le 0 (Int.fdiv (Builtin.Int.intBits a + n - 1) n) with h | h
    · omega
    · have : (Int.fdiv (Builtin.Int.intBits a + n - 1) n).toNat = 0 := by omega
      rw [this] at hkb
      simp at hkb
      omega
  have hk0 : a = 0 → Int.fdiv (Builtin.Int.intBits a + n - 1) n = 0 := by
    intro ha0
    subst ha0
    have e : Builtin.Int.intBits 0 = 0 := by decide
    rw [e]
    exact (fuq (b := n) (q := 0) (r := n - 1) (by simp) (by omega) (by omega)).1
  k_steps
  · unfold Halt
    rename _ = Int.fdiv _ _ => hnl
    rename _ = List.replicate _ _ => hnr
    rename List Value => ys9
    revert ys9
    refine' startI (n := n) (k := 6) ?hh ?inner ?h0 ?h1 ?h2 ?h3 ?x0 ?x1 ?xb ?hl ?B ?F ?X ?T ?hk ?hd ?hu ?_
    case B => k_asm
    case F => k_asm
    case X => k_asm
    case T => k_asm
    case hl => exact rfl
    case h0 => omega
    case hh => exact rfl
    case h1 => have := hka (by assumption); omega
    case h2 => omega
    case h3 => omega
    case x0 => omega
    case x1 => rw [hnl, Int.sub_zero]; exact hkb
    case xb => omega
    case hk => exact rfl
    case hd => (dsimp only [ktrTop]; omega)
    case hu => (dsimp only [ktrTop]; omega)
    case inner =>
      have hK6 : List.length ‹List Int› ≤ 6 := by omega
      generalize hKe : List.length ‹List Int› = K at *
      generalize (6 : Nat) = k
      induction k with
      | zero => unfold InnerI; intros; omega
      | succ k ih =>
        intro x i j t u v ys ns p2 loose2 mean2 mg2 mb2 dp2 un2 gd2 cn2 cs2 a2 ccd2 cl2 outer2 A2 base2 g0 L2 m2 s2 Q2 E2 hi0 hij hjK hjk x0 x1 xb hys hnK B2 F2 X2 N2 T2 hk2 hd2 hu2 ret2
        (try dsimp only at N2)
        refine wpAny_call ?_
        refine' code_nest ?k1 ?k2 ?k3 ?k4 ?k5 ?kA ?kF ?kK ?k6 ?k7 ?k8 ?k9 ?kB ?_ ?c2 ?c3 ?c4 ?c5
        case kA => exact rfl
        case kF => exact rfl
        case kK => exact hk2
        case k1 => exact B2
        case k2 => exact F2
        case k3 => exact X2
        case k4 => exact N2
        case k5 => exact T2
        case k6 => k_mem
        case k7 => exact codeRec_news N2 (by k_mem) (by assumption) (by assumption)
        case k8 => (simp only [recursionLimit] at hd2 ⊢; omega)
        case k9 => exact BindsTo.of_eq rfl
        case c5 => decide
        case kB => exact locs rfl
        case c2 => exact rfl
        case c3 => exact rfl
        case c4 => exact rfl
        k_whole
        intro g' L' h' FG' F' N' B' X' T'
        (try dsimp only)
        (try k_lift B')
        (try k_fold)
        clear F2 N2 B2 T2 X2
        have hm : i + 1 ≠ j → i < Int.fdiv (i + j) (2 ^ Int.toNat 1) ∧ Int.fdiv (i + j) (2 ^ Int.toNat 1) < j := by
          have e : (2 : Int) ^ Int.toNat 1 = 2 := by decide
          rw [e, Int.fdiv_eq_ediv_of_nonneg _ (by decide)]
          omega
        have hsh : i + 1 ≠ j → 0 ≤ (Int.fdiv (i + j) (2 ^ Int.toNat 1) - i) * n ∧ (Int.fdiv (i + j) (2 ^ Int.toNat 1) - i) * n ≤ 1000000 := by
          intro hne
          have h1 := hm hne
          have h2 := Int.mul_nonneg (a := Int.fdiv (i + j) (2 ^ Int.toNat 1) - i) (b := n) (by omega) (by omega)
          have h3 : (Int.fdiv (i + j) (2 ^ Int.toNat 1) - i) * n ≤ 6 * n := Int.mul_le_mul_of_nonneg_right (by omega) (by omega)
          omega
        rcases Decidable.em (i + 1 = j) with hc | hc
        · k_steps
          all_goals try contradiction
          dsimp only
          refine leaveK_ (by k_asm) (by k_asm) (fun kF kN => ?_)
          exact ret2 _ _ _ kF kN (by rw [fill_one hi0 hc (by omega) x0 x1]; assumption)
        · replace hm := hm hc
          replace hsh := hsh hc
          obtain ⟨y1, y2, y3, y4, y5, y6, y7⟩ := halves (mm := Int.fdiv (i + j) (2 ^ Int.toNat 1)) (by omega) (by omega) (by omega) x0 x1 xb
          k_steps
          all_goals try contradiction
          refine leaveK_ (by k_asm) (by k_asm) (fun kF kN => ?_)
          have e := fill_cut (ns := ns) (n := n) (x := x) (mm := Int.fdiv (i + j) (2 ^ Int.toNat 1)) hi0 (by omega) (by omega) (by omega : j ≤ ns.length) (by omega) x0
          dsimp only at e
          exact ret2 _ _ _ kF kN (by rw [e, ← y1]; assumption)
    intro ys' h9 tk9 F9 N9 hy9
    k_steps
    dsimp only
    rename Obj.data _ = Data.fields _ => hd9
    rename _ = some (Value.str _ _) => hq9
    refine hQ1 _ _ ?_
    exact ret _ _ _ _ _ _ _ _ (backF FG F9) (consN F N9 (by k_mem) (oneOf (by k_ne)) (backG F N F9 N9 U (.head _) (oneOf hmem) (oneOf (.inl rfl)) (by k_mem) (mem2 N9) (oneOf (by k_ne)))) (backNe N N9 (by k_mem) (oneOf (by k_ne))) (backNe N N9 (mem2 N9) (oneOf (by k_ne))) (by omega) hd9 hq9
      (by rw [hnl, Int.sub_zero, List.drop_eq_nil_of_le (by omega), List.append_nil] at hy9; simpa using hy9)
  · dsimp only
    rename Obj.data _ = Data.fields _ => hd9
    rename _ = some (Value.str _ _) => hq9
    rename News _ _ _ _ => N9
    rename Fr _ _ _ _ => F9
    rename _ = List.replicate _ _ => hnr
    rename IntsAre _ _ => hy
    have hz := hk0 (by assumption)
    rw [hnr, hz] at hy
    refine hQ1 _ _ ?_
    exact ret _ _ _ _ _ _ _ _ (backF FG F9) (consN F N9 (by k_mem) (oneOf (by k_ne)) (backG F N F9 N9 U (.head _) (oneOf hmem) (oneOf (.inl rfl)) (by k_mem) (mem2 N9) (oneOf (by k_ne)))) (backNe N N9 (by k_mem) (oneOf (by k_ne))) (backNe N N9 (mem2 N9) (oneOf (by k_ne))) (by omega) hd9 hq9
      (by rw [hz]; exact hy)
/-- _int2digits, any later time -/
theorem i2d_ok {w : World} {a n : Int} {t1 t2 : Tok} {c' : Addr} {oc : Obj} {qs : Array Value} {tq : Tok} (hoc : oc.data = .fields qs) (hqs : qs[1]? = some (.str qualI tq)) (hn : 1 ≤ n ∧ n ≤ 7000) (ha : 0 ≤ a) (hb : Builtin.Int.intBits a ≤ 20000) (hk : 0 ≤ Int.fdiv (Builtin.Int.intBits a + n - 1) n ∧ Int.fdiv (Builtin.Int.intBits a + n - 1) n ≤ 6) :
    Spec w 35 [.int a t1, .int n t2] 9 (fun h₀ L m news s Q => ((30, tabI c') ∈ news ∧ (c', oc) ∈ news) ∧ ∀ l ys h' tk, Fr h₀ L h' m → News h₀ L h' ((l, lst ys) :: news) → (∀ p ∈ news, p.1 ≠ l) →
      IntsAre ys (digs n.toNat (Int.fdiv (Builtin.Int.intBits a + n - 1) n).toNat a) → Q (.ref l) { s with heap := h', toks := tk }) := by
  w_top off
  intro p loose mean mg mb news dp un gd cn cs a0 ccd cl outer A₀ base h₀ L m s Q E B F X N T hk hd hu ret
  obtain ⟨hmem, ret⟩ := ret
  revert X
  k_fill
  intro X
  have hs : ∀ q ∈ ([(30, tabI c'), (c', oc)] : List (Addr × Obj)), q ∈ news := twoOf hmem.1 hmem.2
  refine wpAny_call ?_
  refine' enterC ([(30, tabI c'), (c', oc)]) B F X N T hs ?kA ?kF ?kK ?k6 ?k7 ?k8 ?k9 ?kB ?kD ?kgo ?c2 ?c3 ?c4
  case kA => exact rfl
  case kF => exact rfl
  case kK => exact hk
  case k6 => k_is
  case k7 => k_is
  case k8 => exact Nat.lt_of_le_of_lt (Nat.le_add_right _ _) hd
  case k9 => exact BindsTo.of_eq rfl
  case kB => exact rfl
  case kD => decide +kernel
  case c2 => exact rfl
  case c3 => exact rfl
  case c4 => exact rfl
  case' kgo => intro L1 h1 tk1 cells1 F1 N1 Y1 l1 B1 X1 T1 FG
  clear B X T hs
  (try k_lt l1)
  k_cells Y1
  (try simp only [List.cons_append, List.nil_append] at N1)
  dsimp only
  try k_fold
  refine Mine.letQE ?_
  intro Q1 hQ1
  have hC : CodeHd (gnd s.heap [(30, tabI c'), (c', oc)]) 34 30 := codeHd_of_K X1 (by kernel_rfl)
  have hkb : a < 2 ^ (n.toNat * (Int.fdiv (Builtin.Int.intBits a + n - 1) n).toNat) := by
    refine Int.lt_of_lt_of_le (lt_of_bits (Nat.le_refl _)) ?_
    refine p2le ?_
    obtain ⟨_, ⟨_, h1⟩, h2⟩ := fdm (x := Builtin.Int.intBits a + n - 1) (b := n) (by omega) (by omega)
    have h3 : ((n.toNat * (Int.fdiv (Builtin.Int.intBits a + n - 1) n).toNat : Nat) : Int) = Int.fdiv (Builtin.Int.intBits a + n - 1) n * n := by
      rw [Int.natCast_mul, Int.toNat_of_nonneg (by omega), Int.toNat_of_nonneg (by omega), Int.mul_comm]
    omega
  have hka : a ≠ 0 → 1 ≤ Int.fdiv (Builtin.Int.intBits a + n - 1) n := by
    intro ha0
    rcases Int.lt_or_le 0 (Int.fdiv (Builtin.Int.intBits a + n - 1) n) with h | h
    · omega
    · have : (Int.fdiv (Builtin.Int.intBits a + n - 1) n).toNat = 0 := by omega
      rw [this] at hkb
      simp at hkb
      omega
  have hk0 : a = 0 → Int.fdiv (Builtin.Int.intBits a + n - 1) n = 0 := by
    intro ha0
    subst ha0
    have e : Builtin.Int.intBits 0 = 0 := by decide
    rw [e]
    exact (fuq (b := n) (q := 0) (r := n - 1) (by simp) (by omega) (by omega)).1
  k_steps
  · unfold Halt
    rename _ = Int.fdiv _ _ => hnl
    rename _ = List.replicate _ _ => hnr
    rename List Value => ys9
    revert ys9
    refine' startI (n := n) (k := 6) ?hh ?inner ?h0 ?h1 ?h2 ?h3 ?x0 ?x1 ?xb ?hl ?B ?F ?X ?T ?hk ?hd ?hu ?_
    case B => k_asm
    case F => k_asm
    case X => k_asm
    case T => k_asm
    case hl => exact rfl
    case h0 => omega
    case hh => exact rfl
    case h1 => have := hka (by assumption); omega
    case h2 => omega
    case h3 => omega
    case x0 => omega
    case x1 => rw [hnl, Int.sub_zero]; exact hkb
    case xb => omega
    case hk => exact rfl
    case hd => (dsimp only [ktrTop]; omega)
    case hu => (dsimp only [ktrTop]; omega)
    case inner =>
      have hK6 : List.length ‹List Int› ≤ 6 := by omega
      generalize hKe : List.length ‹List Int› = K at *
      generalize (6 : Nat) = k
      induction k with
      | zero => unfold InnerI; intros; omega
      | succ k ih =>
        intro x i j t u v ys ns p2 loose2 mean2 mg2 mb2 dp2 un2 gd2 cn2 cs2 a2 ccd2 cl2 outer2 A2 base2 g0 L2 m2 s2 Q2 E2 hi0 hij hjK hjk x0 x1 xb hys hnK B2 F2 X2 N2 T2 hk2 hd2 hu2 ret2
        (try dsimp only at N2)
        refine wpAny_call ?_
        refine' code_nest ?k1 ?k2 ?k3 ?k4 ?k5 ?kA ?kF ?kK ?k6 ?k7 ?k8 ?k9 ?kB ?_ ?c2 ?c3 ?c4 ?c5
        case kA => exact rfl
        case kF => exact rfl
        case kK => exact hk2
        case k1 => exact B2
        case k2 => exact F2
        case k3 => exact X2
        case k4 => exact N2
        case k5 => exact T2
        case k6 => k_mem
        case k7 => exact codeRec_news N2 (by k_mem) hoc (by with_unfolding_all exact hqs)
        case k8 => (simp only [recursionLimit] at hd2 ⊢; omega)
        case k9 => exact BindsTo.of_eq rfl
        case c5 => decide
        case kB => exact locs rfl
        case c2 => exact rfl
        case c3 => exact rfl
        case c4 => exact rfl
        k_whole
        intro g' L' h' FG' F' N' B' X' T'
        (try dsimp only)
        (try k_lift B')
        (try k_fold)
        clear F2 N2 B2 T2 X2
        have hm : i + 1 ≠ j → i < Int.fdiv (i + j) (2 ^ Int.toNat 1) ∧ Int.fdiv (i + j) (2 ^ Int.toNat 1) < j := by
          have e : (2 : Int) ^ Int.toNat 1 = 2 := by decide
          rw [e, Int.fdiv_eq_ediv_of_nonneg _ (by decide)]
          omega
        have hsh : i + 1 ≠ j → 0 ≤ (Int.fdiv (i + j) (2 ^ Int.toNat 1) - i) * n ∧ (Int.fdiv (i + j) (2 ^ Int.toNat 1) - i) * n ≤ 1000000 := by
          intro hne
          have h1 := hm hne
          have h2 := Int.mul_nonneg (a := Int.fdiv (i + j) (2 ^ Int.toNat 1) - i) (b := n) (by omega) (by omega)
          have h3 : (Int.fdiv (i + j) (2 ^ Int.toNat 1) - i) * n ≤ 6 * n := Int.mul_le_mul_of_nonneg_right (by omega) (by omega)
          omega
        rcases Decidable.em (i + 1 = j) with hc | hc
        · k_steps
          all_goals try contradiction
          dsimp only
          refine leaveK_ (by k_asm) (by k_asm) (fun kF kN => ?_)
          exact ret2 _ _ _ kF kN (by rw [fill_one hi0 hc (by omega) x0 x1]; assumption)
        · replace hm := hm hc
          replace hsh := hsh hc
          obtain ⟨y1, y2, y3, y4, y5, y6, y7⟩ := halves (mm := Int.fdiv (i + j) (2 ^ Int.toNat 1)) (by omega) (by omega) (by omega) x0 x1 xb
          k_steps
          all_goals try contradiction
          refine leaveK_ (by k_asm) (by k_asm) (fun kF kN => ?_)
          have e := fill_cut (ns := ns) (n := n) (x := x) (mm := Int.fdiv (i + j) (2 ^ Int.toNat 1)) hi0 (by omega) (by omega) (by omega : j ≤ ns.length) (by omega) x0
          dsimp only at e
          exact ret2 _ _ _ kF kN (by rw [e, ← y1]; assumption)
    intro ys' h9 tk9 F9 N9 hy9
    k_steps
    dsimp only
    refine hQ1 _ _ ?_
    exact ret _ _ _ _ (backF FG F9) (backN1 F N F9 N9 (twoOf hmem.1 hmem.2) (twoOf (by k_mem) (by k_mem)) (by k_mem) (twoOf (by k_ne) (by k_ne))) (backNe N N9 (by k_mem) (twoOf (by k_ne) (by k_ne)))
      (by rw [hnl, Int.sub_zero, List.drop_eq_nil_of_le (by omega), List.append_nil] at hy9; simpa using hy9)
  · dsimp only
    rename News _ _ _ _ => N9
    rename Fr _ _ _ _ => F9
    rename _ = List.replicate _ _ => hnr
    rename IntsAre _ _ => hy
    have hz := hk0 (by assumption)
    rw [hnr, hz] at hy
    refine hQ1 _ _ ?_
    exact ret _ _ _ _ (backF FG F9) (backN1 F N F9 N9 (twoOf hmem.1 hmem.2) (twoOf (by k_mem) (by k_mem)) (by k_mem) (twoOf (by k_ne) (by k_ne))) (backNe N N9 (by k_mem) (twoOf (by k_ne) (by k_ne)))
      (by rw [hz]; exact hy)
end Mine
end

section
namespace Mine
local macro_rules | `(tactic| walk_at "call type:enumerate") => `(tactic| (k_here; refine Mine.Halt.out ?_))
theorem getD_nonneg {hs : List Int} (h : ∀ x ∈ hs, 0 ≤ x) (j : Nat) : 0 ≤ hs.getD j 0 := by
  rw [List.getD_eq_getElem?_getD]
  cases e : hs[j]? with
  | none => exact Int.le_refl _
  | some x => exact h x (List.mem_of_getElem? e)
inductive JHeaps (lh sl : Addr) (ws0 : List Value) (r : List Itm) (m : Str → Option Value) (news : List (Addr × Obj)) : Prop
  | mk (k : Nat) (ws : List Value) (td : List Int) (us : List Value) (hs : List Int) (f0 : r = enumItems k ws) (f1 : IntsAre ws td) (f2 : m "heaps" = some (.ref lh)) (f3 : news = [(sl, lst ws0), (lh, lst us)]) (f4 : IntsAre us hs) (f5 : hs.length = 5) (f6 : ∀ h ∈ hs, 0 ≤ h)
/-- _law_heaps -/
theorem heaps_ok {w : World} {a : Addr} {vs : List Value} {ns : List Int} (hvs : IntsAre vs ns) (hz : ns.length ≤ 16777216) :
    Spec w 85 [.ref a] 3 (fun h₀ L m news s Q => h₀.IsList a vs.toArray ∧ ∀ l x0 x1 x2 x3 x4 u0 u1 u2 u3 u4 h' tk, Fr h₀ L h' m → News h₀ L h' ((l, lst [.int x0 u0, .int x1 u1, .int x2 u2, .int x3 u3, .int x4 u4]) :: news) → (∀ p ∈ news, p.1 ≠ l) →
      0 ≤ x0 ∧ 0 ≤ x1 ∧ 0 ≤ x2 ∧ 0 ≤ x3 ∧ 0 ≤ x4 → Q (.ref l) { s with heap := h', toks := tk }) := by
  w_top off
  intro p loose mean mg mb news dp un gd cn cs a0 ccd cl outer A₀ base h₀ L m s Q E B F X N T hk hd hu ret
  obtain ⟨hls, ret⟩ := ret
  revert X
  k_fill
  intro X
  have hs : ∀ q ∈ ([] : List (Addr × Obj)), q ∈ news := noneOf
  refine wpAny_call ?_
  refine' enterS ([]) B F X N T hs ?kA ?kF ?kK ?k6 ?k7 ?k8 ?k9 ?kB ?kgo ?c2 ?c3 ?c4 ?c5
  case kA => exact rfl
  case kF => exact rfl
  case kK => exact hk
  case k6 => k_is
  case k7 => k_is
  case k8 => exact Nat.lt_of_le_of_lt (Nat.le_add_right _ _) hd
  case k9 => exact BindsTo.of_eq rfl
  case c5 => decide
  case kB => exact locs rfl
  case c2 => exact rfl
  case c3 => exact rfl
  case c4 => exact rfl
  case' kgo => intro L1 h1 tk1 F1 N1 B1 X1 T1 FG
  clear B X T hs
  dsimp only
  try k_fold
  refine Mine.letQE ?_
  intro Q1 hQ1
  have hl : (gnd s.heap []).IsList a vs.toArray := by
    obtain ⟨o, e, r⟩ := hls
    exact ⟨o, FG.keep _ _ e, r⟩
  clear hls
  k_steps
  unfold Halt
  rename_i lh _ _ _ _ _
  (rename Fr _ _ _ _ => lF)
  with_unfolding_all (refine' For_turns lF ?_)
  k_steps
  unfold Halt
  rename_i sl ws0 _ _ _ _ _ _ _
  rename IntsAre _ _ => hw0
  rename Fr _ _ _ _ => lF
  rename News _ _ _ _ => lN
  with_unfolding_all (refine' ktu_enum ?hh lF lN ?hm ?hc ?hd ?hx ?_)
  case hh => exact rfl
  case hm => exact .head _
  case hc => exact rfl
  case hd => exact rfl
  case hx => exact rfl
  clear lF lN
  intro I l4
  k_lt l4
  refine itemsInvR2 (JHeaps lh sl ws0) ?step ?done _ _ _
    ⟨0, _, _, _, [1, 1, 2, 5, 3], rfl, hw0, rfl, rfl, .cons _ _ (.cons _ _ (.cons _ _ (.cons _ _ (.cons _ _ .nil)))), rfl, by decide⟩
  case done =>
    rintro m3 news' h6 tk6 hPz
    refine Mine.lett fun gP gK => ?_
    obtain ⟨k, ws, td, us, hs, e1, e2, m1, rfl, e3, e4, e5⟩ := hPz
    refine gK ?_
    clear gK gP
    rintro F6 N6
    dsimp only
    k_steps
    match hs, e4 with
    | [x0, x1, x2, x3, x4], _ =>
      cases e3 with | cons _ u0 e3 => cases e3 with | cons _ u1 e3 => cases e3 with | cons _ u2 e3 => cases e3 with | cons _ u3 e3 => cases e3 with | cons _ u4 e3 =>
        cases e3
        refine hQ1 _ _ ?_
        exact ret _ _ _ _ _ _ _ _ _ _ _ _ _ (backF FG (by assumption)) (backN1 F N (by assumption) (by assumption) noneOf noneOf (.tail _ (.head _)) noneOf) (backNe N (by assumption) (.tail _ (.head _)) noneOf)
          ⟨e5 x0 (by simp), e5 x1 (by simp), e5 x2 (by simp), e5 x3 (by simp), e5 x4 (by simp)⟩
  case step =>
    rintro a' r m3 news' v h6 tk6 oe oi RhE1 hPz
    refine Mine.lett fun gP gK => ?_
    obtain ⟨k, ws, td, us, hs, e1, e2, m1, rfl, e3, e4, e5⟩ := hPz
    refine gK ?_
    clear gK gP
    rintro ha hce hci F6 N6 hE1 _ _
    cases e2 with
    | nil => cases e1
    | @cons sv su wss tds e2 =>
      obtain ⟨k4, k5⟩ := List.cons.inj e1
      subst k4 k5
      refine Mine.lett fun gP gK => ?_
      obtain ⟨T, t10, rfl, hT⟩ := ha
      refine gK ?_
      clear gK gP
      have hj : 0 ≤ Int.fmod (k : Int) 5 ∧ Int.fmod (k : Int) 5 < 5 := ⟨Int.fmod_nonneg_of_pos _ (by decide), Int.fmod_lt_of_pos _ (by decide)⟩
      have hx : 0 ≤ Int.fmod sv 1000000 := Int.fmod_nonneg_of_pos _ (by decide)
      clear hvs hw0
      k_steps
      refine hE1 _ _ (.inl rfl) ?_
      refine UnrEndW.intro (by assumption) (by assumption) [(sl, _), (lh, _)] (by k_subL) (by k_subL) (by ktu_offL) ⟨by k_subL, ?_⟩
      refine ⟨k + 1, wss, _, _, _, rfl, e2, by assumption, rfl, by assumption, by rw [List.length_set]; exact e4, ?_⟩
      intro h hh
      rcases List.mem_or_eq_of_mem_set hh with hh | rfl
      · exact e5 h hh
      · exact Int.add_nonneg (getD_nonneg e5 _) (Int.fmod_nonneg_of_pos _ (by decide))
end Mine
end

section
namespace Mine
def flagN : Nat → Str
  | 0 => "OPTIMIZED" | 1 => "NEWLOCALS" | 2 => "VARARGS" | 3 => "VARKEYWORDS" | 4 => "NESTED" | 5 => "GENERATOR" | 6 => "NOFREE" | 7 => "COROUTINE" | 8 => "ITERABLE_COROUTINE" | _ => "ASYNC_GENERATOR"
abbrev flagD : List (Int × PyData) := [(1, .str (flagN 0)), (2, .str (flagN 1)), (4, .str (flagN 2)), (8, .str (flagN 3)), (16, .str (flagN 4)), (32, .str (flagN 5)), (64, .str (flagN 6)), (128, .str (flagN 7)), (256, .str (flagN 8)), (512, .str (flagN 9))]
theorem flagsAt {w : World} {h : Heap} (X : (Mine.hd.heap_39 w.params).In h) : KTD.Keyed h 57 flagD := kt_keyed_in X (by kernel_rfl)
theorem ten {P : Nat → Prop} (h0 : P 0) (h1 : P 1) (h2 : P 2) (h3 : P 3) (h4 : P 4) (h5 : P 5) (h6 : P 6) (h7 : P 7) (h8 : P 8) (h9 : P 9) : ∀ i, i < 10 → P i
  | 0, _ => h0 | 1, _ => h1 | 2, _ => h2 | 3, _ => h3 | 4, _ => h4 | 5, _ => h5 | 6, _ => h6 | 7, _ => h7 | 8, _ => h8 | 9, _ => h9
  | n + 10, h => absurd h (by omega)
theorem flag_look (i : Nat) (h : i < 10) : PySem.Spec.lookup (.int (2 ^ i)) (flagD.map fun p => (PyData.int p.1, p.2)) = some (.str (flagN i)) := by
  revert h; revert i
  exact ten (by kernel_rfl) (by kernel_rfl) (by kernel_rfl) (by kernel_rfl) (by kernel_rfl) (by kernel_rfl) (by kernel_rfl) (by kernel_rfl) (by kernel_rfl) (by kernel_rfl)
theorem flag_hex (i : Nat) (h : i < 10) : (baseText "0x" 16 (2 ^ i)).length ≤ sizeLine := by
  revert h; revert i
  exact ten (by decide +kernel) (by decide +kernel) (by decide +kernel) (by decide +kernel) (by decide +kernel) (by decide +kernel) (by decide +kernel) (by decide +kernel) (by decide +kernel) (by decide +kernel)
section
variable {prog : Program} {w : World} {A : Around} {E : Value → Shared → Prop} {s : Shared} {h₀ : Heap} {L : Addr} {m : Str → Option Value} {key : Int} {t : Tok} {Q : Value → Shared → Prop} {i : Nat}
theorem flag_get {d : Str} {u : Tok} (K : KTD.Keyed h₀ 57 flagD) (F : Fr h₀ L s.heap m) (e : key = 2 ^ i) (hi : i < 10) (h : ∀ t', Q (.str (flagN i) t') { s with toks := s.toks + 1 }) :
    wpAny (model prog w) A (call (.builtin "dict.get") [.ref 57, .int key t, .str d u]) Q E s :=
  kt_get2_thereI (K.keep F.keep prog w) (by rw [e]; exact flag_look i hi) (Flat.str _ _) fun v hv => by
    obtain ⟨t', rfl⟩ := Flat.str_inv hv
    exact h t'
theorem appS {news news' : List (Addr × Obj)} {D : Addr} {vs : List Value} {k : Nat} {x : Value} {Q : Value → Shared → Prop} (F : Fr h₀ L s.heap m) (N : News h₀ L s.heap news) (U : Upd D (lsk vs k) (lsk (vs ++ [x]) (k + 1)) news news') (hsz : vs.length ≤ 1000)
    (h : ∀ h', Fr h₀ L h' m → News h₀ L h' news' → Q .none { s with heap := h' }) : wpAny (model prog w) A (call (.builtin "list.append") [.ref D, x]) Q E s := by
  have U' : Upd D (PySem.W.listOf vs.toArray k) (PySem.W.listOf (vs.toArray.push x) (k + 1)) news news' := by rw [List.push_toArray]; exact U
  exact append_K F N U' h (by rw [List.size_toArray, sizeLine_eq]; omega)
end
def bitsN (M : Nat) : Nat → List Str
  | 0 => []
  | i + 1 => bitsN M i ++ (if M / 2 ^ i % 2 = 1 then [flagN i] else [])
theorem bitsN_stop {M : Nat} : ∀ {j : Nat}, M / 2 ^ j = 0 → ∀ k, bitsN M (j + k) = bitsN M j
  | j, h, 0 => rfl
  | j, h, k + 1 => by
    have : M / 2 ^ (j + k) = 0 := by rw [Nat.pow_add, ← Nat.div_div_eq_div_mul, h]; simp
    show bitsN M (j + k + 1) = _
    rw [bitsN, this, bitsN_stop h k]
    simp
theorem flagN_len (i : Nat) : (flagN i).length ≤ 18 := by
  unfold flagN
  split <;> decide +kernel
theorem bitsN_w (M : Nat) : ∀ i, ((bitsN M i).map (·.length)).sum + (bitsN M i).length ≤ 19 * i
  | 0 => by simp [bitsN]
  | i + 1 => by
    have h1 := bitsN_w M i
    have h2 := flagN_len i
    rw [bitsN]
    split
    · simp only [List.map_append, List.sum_append, List.length_append, List.map_cons, List.map_nil, List.sum_cons, List.sum_nil, List.length_cons, List.length_nil]; omega
    · simpa using by omega
def namesOf (M : Nat) : List Str := if M = 0 then ["0x0"] else bitsN M 10
def prettyF (M : Nat) : Str := Txt.join ", " (namesOf M)
theorem bit_step (M i : Nat) : M / 2 ^ i = 2 * (M / 2 ^ (i + 1)) + M / 2 ^ i % 2 := by
  rw [Nat.pow_succ, ← Nat.div_div_eq_div_mul]; omega
theorem bit_and (M i : Nat) : Builtin.bitAnd (((M / 2 ^ i * 2 ^ i : Nat) : Int)) (2 ^ i) = if M / 2 ^ i % 2 = 1 then 2 ^ i else 0 := by
  rw [kbt_bit]
  have e : ((M / 2 ^ i * 2 ^ i : Nat) : Int) / 2 ^ i = ((M / 2 ^ i : Nat) : Int) := by
    rw [show ((M / 2 ^ i * 2 ^ i : Nat) : Int) = ((M / 2 ^ i : Nat) : Int) * 2 ^ i by simp]
    exact Int.mul_ediv_cancel _ (by have := p2pos i; omega)
  rw [e]
  split
  · rename_i h
    have : ((M / 2 ^ i : Nat) : Int) % 2 = 1 := by omega
    rw [this]; simp
  · rename_i h
    have : ((M / 2 ^ i : Nat) : Int) % 2 = 0 := by omega
    rw [this]; simp
theorem bit_xor (M i : Nat) (h : M / 2 ^ i % 2 = 1) : Builtin.bitXor (((M / 2 ^ i * 2 ^ i : Nat) : Int)) (2 ^ i) = ((M / 2 ^ (i + 1) * 2 ^ (i + 1) : Nat) : Int) := by
  rw [bitXor_and, bit_and, if_pos h]
  have h1 := bit_step M i
  rw [h] at h1
  have h2 : M / 2 ^ i * 2 ^ i = (2 * (M / 2 ^ (i + 1)) + 1) * 2 ^ i := congrArg (· * 2 ^ i) h1
  rw [h2, Nat.pow_succ]
  have : (2 : Int) ^ i = ((2 ^ i : Nat) : Int) := by simp
  rw [this]
  have e : (2 * (M / (2 ^ i * 2)) + 1) * 2 ^ i = M / (2 ^ i * 2) * (2 ^ i * 2) + 2 ^ i := by grind
  omega
local macro_rules | `(tactic| walk_at "exec For Name Call cons cons") => `(tactic| (k_here; refine Mine.Halt.out ?_))
local macro_rules | `(tactic| walk_at "pyIter ref") => `(tactic| (k_here; refine Mine.Halt.out ?_))
local macro_rules | `(tactic| walk_at "call builtin:dict.get") => `(tactic| (k_here; refine' Mine.flag_get ?K ?F ?e ?hi ?_; (case K => assumption); (case F => k_asm); (case e => assumption); (case hi => assumption); intro t'))
local macro_rules | `(tactic| walk_at "call builtin:hex") => `(tactic| (k_here; refine P.hex_of_int ?_ ?hsz; (case hsz => assumption)))
local macro_rules | `(tactic| walk_at "call builtin:str.join") => `(tactic| (k_here; refine Mine.Halt.out ?_))
local macro_rules | `(tactic| walk_at "call builtin:list.append") => `(tactic| (k_here; k_dflt (refine' Mine.appS ?k1 ?k2 ?k3 ?z ?_; (case k1 => k_asm); (case k2 => k_asm); (case k3 => k_upd); (case z => omega); k_whole); intro h' F' N'; (try k_sweep)))
local macro_rules | `(tactic| walk_at "TurnEnd") => `(tactic| (refine Mine.Halt.out ?_))
/-- pretty_flags -/
theorem pretty_ok {w : World} {M : Nat} {t1 : Tok} (hM : M < 1024) :
    Spec w 64 [.int (M : Int) t1] 3 (fun h₀ L m news s Q => ∀ t h' tk, Fr h₀ L h' m → News h₀ L h' news → Q (.str (prettyF M) t) { s with heap := h', toks := tk }) := by
  w_top off
  intro p loose mean mg mb news dp un gd cn cs a0 ccd cl outer A₀ base h₀ L m s Q E B F X N T hk hd hu ret
  skip
  revert X
  k_fill
  intro X
  have hs : ∀ q ∈ ([] : List (Addr × Obj)), q ∈ news := noneOf
  refine wpAny_call ?_
  refine' enterS ([]) B F X N T hs ?kA ?kF ?kK ?k6 ?k7 ?k8 ?k9 ?kB ?kgo ?c2 ?c3 ?c4 ?c5
  case kA => exact rfl
  case kF => exact rfl
  case kK => exact hk
  case k6 => k_is
  case k7 => k_is
  case k8 => exact Nat.lt_of_le_of_lt (Nat.le_add_right _ _) hd
  case k9 => exact BindsTo.of_eq rfl
  case c5 => decide
  case kB => exact locs rfl
  case c2 => exact rfl
  case c3 => exact rfl
  case c4 => exact rfl
  case' kgo => intro L1 h1 tk1 F1 N1 B1 X1 T1 FG
  clear B X T hs
  dsimp only
  try k_fold
  refine Mine.letQE ?_
  intro Q1 hQ1
  have hK := flagsAt X1
  k_steps
  unfold Halt
  rename_i ln _ _ _ _ _
  refine wpAny_For ?_
  k_steps
  unfold Halt
  rename IsRange _ _ _ _ _ _ _ _ => hr
  rename Fr _ _ _ _ => lF
  rename News _ _ _ _ => lN
  with_unfolding_all (refine' forElse (fun i m news => ∃ vs k tt, m "flags" = some (.int (((M / 2 ^ i * 2 ^ i : Nat) : Int)) tt) ∧ m "names" = some (.ref ln) ∧ news = [(ln, lsk vs k)] ∧ StrsAre vs (bitsN M i) ∧ (M ≠ 0 → M / 2 ^ i ≠ 0)) ?h1 hr ?h2 ?h3 lF lN ?j0 ?step ?done)
  case h1 => exact rfl
  case h2 => omega
  case h3 => omega
  case j0 => exact ⟨[], _, _, by simp; rfl, rfl, rfl, .nil, by simp⟩
  case step =>
    rintro i t m3 news3 h6 tk6 I oI hi hlt hne hPz
    refine Mine.lett fun gP gK => ?_
    obtain ⟨vs, k, tt, m1, m2, rfl, hvs, hnz⟩ := hPz
    refine gK ?_
    clear gK gP
    rintro F6 N6 cI
    have hi : i < 32 := hi
    have hIl : @Ne Nat ln I := hne _ (.head _)
    have hlen : vs.length ≤ 1000 := by have := hvs.length; have := bitsN_w M i; omega
    have he : (1 : Int) * 2 ^ Int.toNat (0 + (i : Int)) = 2 ^ i := by
      have : Int.toNat (0 + (i : Int)) = i := by omega
      rw [this, Int.one_mul]
    have hand := bit_and M i
    rw [← he] at hand
    by_cases hb : M / 2 ^ i % 2 = 1
    · have hi : i < 10 := by
        rcases Nat.lt_or_ge i 10 with h | h
        · exact h
        · have : M / 2 ^ i = 0 := Nat.div_eq_of_lt (Nat.lt_of_lt_of_le hM (Nat.pow_le_pow_right (n := 2) (by decide) h))
          rw [this] at hb; omega
      rw [if_pos hb] at hand
      have hand : ¬ Builtin.bitAnd (((M / 2 ^ i * 2 ^ i : Nat) : Int)) (1 * 2 ^ Int.toNat (0 + (i : Int))) = 0 := by rw [hand, he]; have := p2pos i; omega
      have hhex := flag_hex i hi
      rw [← he] at hhex
      have hxor := bit_xor M i hb
      rw [← he] at hxor
      have hnx : bitsN M (i + 1) = bitsN M i ++ [flagN i] := by rw [bitsN, if_pos hb]
      have hM0 : M ≠ 0 := by rintro rfl; simp at hb
      k_steps
      all_goals try contradiction
      · unfold Halt
        rename ¬ (Builtin.bitXor _ _ = 0) => hx0
        refine ⟨_, _, _, _, rfl, by assumption, by assumption, ?zz1p, _, _, ?zz1tt9, ?zz1b, by assumption, rfl, ?zz1c, fun _ => ?zz1d⟩
        case zz1p => intro p hp; cases hp with | head => exact hIl | tail _ h => cases h
        case zz1b => rw [← hxor]; rfl
        case zz1c => rw [hnx]; exact hvs.append' (.cons _ _ .nil)
        case zz1d =>
          rw [hxor] at hx0
          intro h
          rw [h] at hx0
          simp at hx0
      · unfold Halt
        rename Builtin.bitXor _ _ = 0 => hx0
        rw [hxor] at hx0
        have hz : M / 2 ^ (i + 1) = 0 := by
          have h1 : M / 2 ^ (i + 1) * 2 ^ (i + 1) = 0 := by omega
          rcases Nat.mul_eq_zero.mp h1 with h | h
          · exact h
          · exact absurd h (by have := Nat.two_pow_pos (i + 1); omega)
        have e := bitsN_stop hz (10 - (i + 1))
        rw [show i + 1 + (10 - (i + 1)) = 10 from Nat.add_sub_cancel' (by omega)] at e
        dsimp only
        unfold TurnEnd
        dsimp only
        k_steps
        unfold Halt
        refine join_listW (ys := bitsN M 10) (by is_list) ?hi (by decide +kernel) ?hw ?_
        case hi => rw [e, hnx]; exact hvs.append' (.cons _ _ .nil)
        case hw => have := bitsN_w M 10; omega
        intro t9 k9
        have e2 : prettyF M = Txt.join ", " (bitsN M 10) := by unfold prettyF namesOf; rw [if_neg hM0]
        rw [e2] at ret
        refine hQ1 _ _ ?_
        exact ret _ _ _ (backF FG (by assumption)) (backN N (by assumption) (by assumption) noneOf noneOf)
    · rw [if_neg hb] at hand
      k_steps
      all_goals try contradiction
      unfold Halt
      have h1 := bit_step M i
      have h2 : M / 2 ^ i * 2 ^ i = M / 2 ^ (i + 1) * 2 ^ (i + 1) := by
        rw [show M / 2 ^ i = 2 * (M / 2 ^ (i + 1)) by omega, Nat.pow_succ]; grind
      refine ⟨_, _, _, _, rfl, by assumption, by assumption, ?zz2p, vs, _, ?zz2tt9, ?zz2b, by assumption, rfl, ?zz2c, fun h => ?zz2d⟩
      case zz2p => intro p hp; cases hp with | head => exact hIl | tail _ h => cases h
      case zz2b => rw [← h2]; exact m1
      case zz2c => rw [bitsN, if_neg hb, List.append_nil]; exact hvs
      case zz2d => have := hnz h; omega
  case done =>
    rintro m3 news3 h6 tk6 hPz
    refine Mine.lett fun gP gK => ?_
    obtain ⟨vs, k, tt, m1, m2, rfl, hvs, hnz⟩ := hPz
    refine gK ?_
    clear gK gP
    rintro F6 N6
    have hlen : vs.length ≤ 1000 := by have := hvs.length; have := bitsN_w M 32; simp only [show (32 - 0 : Int).toNat = 32 from rfl] at *; omega
    have hM0 : M = 0 := by
      rcases Nat.eq_zero_or_pos M with h | h
      · exact h
      · exact absurd (Nat.div_eq_of_lt (Nat.lt_trans hM (by decide))) (hnz (by omega))
    subst hM0
    have hhex : (baseText "0x" 16 (((0 / 2 ^ Int.toNat (32 - 0) * 2 ^ Int.toNat (32 - 0) : Nat) : Int))).length ≤ sizeLine := by decide +kernel
    k_steps
    unfold Halt
    refine join_listW (ys := bitsN 0 32 ++ [baseText "0x" 16 (((0 / 2 ^ Int.toNat (32 - 0) * 2 ^ Int.toNat (32 - 0) : Nat) : Int))]) (by is_list) ?hi (by decide +kernel) ?hw ?_
    case hi => exact hvs.append' (.cons _ _ .nil)
    case hw => decide +kernel
    intro t9 k9
    have e : Txt.join ", " (bitsN 0 32 ++ [baseText "0x" 16 (((0 / 2 ^ Int.toNat (32 - 0) * 2 ^ Int.toNat (32 - 0) : Nat) : Int))]) = prettyF 0 := by decide +kernel
    rw [e]
    refine hQ1 _ _ ?_
    exact ret _ _ _ (backF FG (by assumption)) (backN N (by assumption) (by assumption) noneOf noneOf)
end Mine
end

section
namespace Mine
abbrev bitC (ch : Int) (k : Nat) : Prop := Builtin.bitAnd (Int.fdiv ch (2 ^ Int.toNat (k : Int))) 1 ≠ 0
def strkL (ch : Int) (p : Nat → Nat) : Nat → List Str
  | 0 => []
  | i + 1 => strkL ch p i ++ (if bitC ch i then [flagN (p i)] else [])
section
theorem ks_canLay : ∀ ss : List Str, (∀ x ∈ ss, PyData.strOk x = true) → PyData.canLayAll0 (ss.map PyData.str) = true
  | [], _ => rfl
  | x :: r, h => by
    have h1 := h x (.head _)
    have h2 := ks_canLay r fun y hy => h y (.tail _ hy)
    simp [PyData.canLayAll0, PyData.canLay0, h1, h2]
theorem ks_depth : ∀ ss : List Str, PyData.depthAll (ss.map PyData.str) = 0
  | [] => rfl
  | _ :: r => by simp [PyData.depthAll, PyData.depth, ks_depth r]
theorem ks_shaped {ss : List Str} (h : ∀ x ∈ ss, PyData.strOk x = true) : SeqAt.shaped (.list (ss.map PyData.str)) = true := by
  simp [SeqAt.shaped, PyData.canLay0, PyData.depth, ks_canLay ss h, ks_depth]
theorem ks_same (ss : List Str) : PySem.Spec.same (.list (ss.map PyData.str)) (.list (([] : List Str).map PyData.str)) = decide (ss = []) := by
  cases ss <;> simp [PySem.Spec.same, PySem.Spec.sameAll]
variable {prog : Program} {w : World} {A : Around} {E : Value → Shared → Prop} {s : Shared} {a b : Addr} {xs : List Value} {ss : List Str} {Q : Value → Shared → Prop}
/-- a list of texts against an empty list -/
theorem eq_none (ha : s.heap.IsList a xs.toArray) (hb : s.heap.IsList b ([] : List Value).toArray) (hi : StrsAre xs ss) (hok : ∀ x ∈ ss, PyData.strOk x = true) (hu : A.units + 64 < cLine) (h : Q (.bool (decide (ss = []))) s) :
    wpAny (model prog w) A (compareOp .Eq (.ref a) (.ref b)) Q E s :=
  eq_dataH_same (reads_newData ha hi.carried) (reads_newData (ds := ([] : List Str).map PyData.str) hb .nil) (ks_shaped hok) (ks_shaped nofun) hu (SeqAt.noMix_of_shape (.list .str) rfl _ _ (list_map_has fun _ => rfl) (list_map_has fun _ => rfl)) (by rw [ks_same]; exact h)
end
theorem flagN_ok (i : Nat) : PyData.strOk (flagN i) = true := by
  unfold flagN
  split <;> decide +kernel
theorem strkL_ok {ch : Int} {p : Nat → Nat} : ∀ {i : Nat}, ∀ x ∈ strkL ch p i, PyData.strOk x = true
  | 0, x, h => nomatch h
  | i + 1, x, h => by
    rw [strkL] at h
    rcases List.mem_append.mp h with h | h
    · exact strkL_ok x h
    · split at h
      · rw [List.mem_singleton.mp h]; exact flagN_ok _
      · cases h
def hitW (st : List Str) (ws : List Str) : List Str := ws.filter (fun x => st.any (· == x))
theorem hitW_ok {st ws : List Str} (h : ∀ x ∈ st, PyData.strOk x = true) : ∀ x ∈ hitW st ws, PyData.strOk x = true := by
  intro x hx
  have h1 := (List.mem_filter.mp hx).2
  obtain ⟨y, hy, e⟩ := List.any_eq_true.mp h1
  rw [← eq_of_beq e]
  exact h y hy
theorem hitW_next {st ws : List Str} {i : Nat} {x : Str} (h : ws[i]? = some x) : hitW st (ws.take (i + 1)) = hitW st (ws.take i) ++ (if st.any (· == x) = true then [x] else []) := by
  unfold hitW
  rw [List.take_add_one, h, List.filter_append]
  simp only [Option.toList, List.filter_cons, List.filter_nil]
def freeStep (st : List Str) (es acc : List (Str × Int)) (p : Str × Int) : List (Str × Int) := if hitW st (Txt.split p.1 ", ") = [] then putE acc p.1 ((getE es p.1).getD 0) else acc
def freeE (st : List Str) (es : List (Str × Int)) : List (Str × Int) := es.foldl (freeStep st es) []
def sumE (es : List (Str × Int)) : Int := (es.map (·.2)).sum
def rowsOf (st : List Str) (bs : List (List (Str × Int))) : List Int := bs.foldl (fun r es => sumE (freeE st es) :: r) []
theorem rowsOf_app (st : List Str) (bs : List (List (Str × Int))) (e : List (Str × Int)) : rowsOf st (bs ++ [e]) = sumE (freeE st e) :: rowsOf st bs := by
  unfold rowsOf
  rw [List.foldl_append]
  rfl
theorem rowsOf_len (st : List Str) (bs : List (List (Str × Int))) : (rowsOf st bs).length = bs.length := by
  have : ∀ (bs : List (List (Str × Int))) (r : List Int), (bs.foldl (fun r es => sumE (freeE st es) :: r) r).length = r.length + bs.length := by
    intro bs
    induction bs with
    | nil => intro r; rfl
    | cons b r ih => intro q; rw [List.foldl_cons, ih]; simp only [List.length_cons]; omega
  have h := this bs []
  rw [List.length_nil, Nat.zero_add] at h
  exact h
theorem freeStep_len (st : List Str) (es acc : List (Str × Int)) (p : Str × Int) : (freeStep st es acc p).length ≤ acc.length + 1 := by
  unfold freeStep
  split
  · exact putE_len ..
  · exact Nat.le_succ _
theorem getE_mem {es : List (Str × Int)} {p : Str × Int} (h : p ∈ es) : ∃ v, getE es p.1 = some v := by
  unfold getE
  cases e : es.find? (fun q => decide (q.1 = p.1)) with
  | none => exact absurd (List.find?_eq_none.mp e p h) (by simp)
  | some q => exact ⟨q.2, rfl⟩
def trimZ (l : List Int) : List Int := (l.reverse.dropWhile (fun x => decide (x = 0))).reverse
section
variable {α : Type} {x a1 a2 a3 a4 a5 a6 a7 a8 a9 a10 a11 a12 a13 : α} {r : List α}
theorem mem6r (h : x ∈ r) : x ∈ a1 :: a2 :: a3 :: a4 :: a5 :: a6 :: r := .tail _ (.tail _ (.tail _ (.tail _ (.tail _ (.tail _ (h))))))
theorem mem7r (h : x ∈ r) : x ∈ a1 :: a2 :: a3 :: a4 :: a5 :: a6 :: a7 :: r := .tail _ (.tail _ (.tail _ (.tail _ (.tail _ (.tail _ (.tail _ (h)))))))
theorem mem8r (h : x ∈ r) : x ∈ a1 :: a2 :: a3 :: a4 :: a5 :: a6 :: a7 :: a8 :: r := .tail _ (.tail _ (.tail _ (.tail _ (.tail _ (.tail _ (.tail _ (.tail _ (h))))))))
theorem mem9r (h : x ∈ r) : x ∈ a1 :: a2 :: a3 :: a4 :: a5 :: a6 :: a7 :: a8 :: a9 :: r := .tail _ (.tail _ (.tail _ (.tail _ (.tail _ (.tail _ (.tail _ (.tail _ (.tail _ (h)))))))))
theorem mem10r (h : x ∈ r) : x ∈ a1 :: a2 :: a3 :: a4 :: a5 :: a6 :: a7 :: a8 :: a9 :: a10 :: r := .tail _ (.tail _ (.tail _ (.tail _ (.tail _ (.tail _ (.tail _ (.tail _ (.tail _ (.tail _ (h))))))))))
theorem mem11r (h : x ∈ r) : x ∈ a1 :: a2 :: a3 :: a4 :: a5 :: a6 :: a7 :: a8 :: a9 :: a10 :: a11 :: r := .tail _ (.tail _ (.tail _ (.tail _ (.tail _ (.tail _ (.tail _ (.tail _ (.tail _ (.tail _ (.tail _ (h)))))))))))
theorem mem12r (h : x ∈ r) : x ∈ a1 :: a2 :: a3 :: a4 :: a5 :: a6 :: a7 :: a8 :: a9 :: a10 :: a11 :: a12 :: r := .tail _ (.tail _ (.tail _ (.tail _ (.tail _ (.tail _ (.tail _ (.tail _ (.tail _ (.tail _ (.tail _ (.tail _ (h))))))))))))
theorem mem13r (h : x ∈ r) : x ∈ a1 :: a2 :: a3 :: a4 :: a5 :: a6 :: a7 :: a8 :: a9 :: a10 :: a11 :: a12 :: a13 :: r := .tail _ (.tail _ (.tail _ (.tail _ (.tail _ (.tail _ (.tail _ (.tail _ (.tail _ (.tail _ (.tail _ (.tail _ (.tail _ (h)))))))))))))
end
theorem split_len (x y : Str) : (Txt.split x y).length ≤ x.length + 2 := by
  unfold Txt.split
  split
  · simp
  · split
    · simp
    · have e1 := StrLaws.occ_length_le x y 0 x.length (x.length + 1)
      rw [length_partsBetween]; omega
end Mine
end

section
namespace Mine
local macro_rules | `(tactic| walk_at "call ref") => `(tactic| (k_here; refine Mine.Halt.out ?_))
local macro_rules | `(tactic| walk_at "CompRestT") => `(tactic| (refine Mine.Halt.out ?_))
local macro_rules | `(tactic| walk_at "CompEnd") => `(tactic| (refine Mine.Halt.out ?_))
section
variable {prog : Program} {w : World} {A : Around} {E : Value → Shared → Prop} {s : Shared} {h₀ : Heap} {L : Addr} {m : Str → Option Value} {key : Int} {t : Tok} {Q : Value → Shared → Prop} {i : Nat}
theorem flag_item {value slice : PySem.Expr} (K : KTD.Keyed h₀ 57 flagD) (F : Fr h₀ L s.heap m) (e : key = 2 ^ i) (hi : i < 10) (h : ∀ t', Q (.str (flagN i) t') { s with toks := s.toks + 1 })
    (hs : subscripted slice false (.ref 57) (.int key t) = operate [.ref 57, .int key t] (getItem (.ref 57) (.int key t)) := by with_unfolding_all rfl) (hg : ∀ r, letTemporaryGo value (.ref 57) r = pure () := by intro _; with_unfolding_all rfl) :
    wpAny (model prog w) A (subscriptTail value slice (.ref 57) (.int key t)) Q E s :=
  item_intTab (K.keep F.keep prog w) (by rw [e]; exact flag_look i hi) (fun v hv => by
    obtain ⟨t', rfl⟩ := Flat.str_inv hv
    exact h t') hs hg
end
local macro_rules | `(tactic| walk_at "subscriptTail Name BinOp ref int") => `(tactic| (k_here; refine' Mine.flag_item ?K ?F ?e ?hi ?_; (case F => k_asm); (case K => exact Mine.flagsAt (by k_asm)); (case e => assumption); (case hi => omega); intro t'))
local macro_rules | `(tactic| walk_at "eval ListComp") => `(tactic| (k_here; refine Mine.Halt.out ?_))
local macro_rules | `(tactic| walk_at "exec Assign cons ListComp") => `(tactic| (k_here; refine wpAny_Assign_Name ?_))
local macro_rules | `(tactic| walk_at "pyIter ref") => `(tactic| (k_here; refine Mine.Halt.out ?_))
local macro_rules | `(tactic| walk_at "call builtin:str.split") => `(tactic| (k_here; refine Mine.Halt.out ?_))
local macro_rules | `(tactic| walk_at "CompSrcT") => `(tactic| (k_here; refine Mine.Halt.out ?_))
local macro_rules | `(tactic| walk_at "compareOp Eq ref ref") => `(tactic| (k_here; k_dflt (refine' Mine.eq_none ?ha ?hb ?hi ?hok ?hu ?_; (case ha => exact News.isList (by k_asm) (by k_mem)); (case hb => exact News.isList (by k_asm) (by k_mem)); (case hi => assumption); (case hok => assumption); (case hu => (dsimp only [ktrTop, Around.deeper]; omega)))))
local macro_rules | `(tactic| walk_at "subscriptTail Name Name ref str") => `(tactic| (k_here; refine Mine.Halt.out ?_))
local macro_rules | `(tactic| walk_at "binaryOp Add ref ref") => `(tactic| (k_here; refine Mine.Halt.out ?_))
local macro_rules | `(tactic| walk_at "exec While BoolOp cons cons nil") => `(tactic| (k_here; refine Mine.Halt.out ?_))
local macro_rules | `(tactic| walk_at "exec While BoolOp") => `(tactic| (k_here; refine Mine.Halt.out ?_))
theorem trimZ_nil : trimZ [] = [] := rfl
theorem trimZ_zero (l : List Int) : trimZ (l ++ [0]) = trimZ l := by simp [trimZ]
theorem trimZ_last (l : List Int) {x : Int} (h : ¬ x = 0) : trimZ (l ++ [x]) = l ++ [x] := by simp [trimZ, h]
inductive JOff (bs : List (Addr × Obj × List (Str × Value) × List (Str × Int))) (st : List Str) (D6 L1 l9 I : Addr) (base : List (Addr × Obj)) (r : List Itm) (m : Str → Option Value) (news : List (Addr × Obj)) : Prop
  | mk (dn td : List (Addr × Obj × List (Str × Value) × List (Str × Int))) (lr : Addr) (vs : List Value) (k : Nat) (f0 : bs = dn ++ td) (f1 : r = td.map (fun q => Itm.val (.ref q.1))) (f2 : m "row" = some (.ref lr)) (f3 : news = (lr, lsk vs k) :: base) (f4 : IntsAre vs (rowsOf st (dn.map (·.2.2.2)))) (f5 : @LT.lt Nat _ D6 lr) (f6 : @LT.lt Nat _ (L1 + 1 + 1 + 1) lr) (f7 : @LE.le Nat _ l9 lr) (f8 : @Ne Nat I lr)
inductive JFree (w : World) (st : List Str) (es : List (Str × Int)) (df d lr : Addr) (base : List (Addr × Obj)) (r : List Itm) (m : Str → Option Value) (news : List (Addr × Obj)) : Prop
  | mk (dn2 td2 : List (Str × Int)) (o : Obj) (kv : List (Str × Value)) (f0 : es = dn2 ++ td2) (f1 : r = (toD td2).map (fun p => Itm.tok (kyVal p.1))) (f2 : m "free" = some (.ref df)) (f3 : m "book" = some (.ref d)) (f4 : m "row" = some (.ref lr)) (f5 : news = (df, o) :: base) (f6 : o.IsDictOf (kd w) kv) (f7 : FlatPairs PyData.str kv (toD (dn2.foldl (freeStep st es) []))) (f8 : (dn2.foldl (freeStep st es) []).length ≤ dn2.length)
/-- _law_off -/
theorem off_ok {w : World} {lb lp d0 d1 d2 : Addr} {ka kb : Nat} {o0 o1 o2 : Obj} {k0 k1 k2 : List (Str × Value)} {e0 e1 e2 : List (Str × Int)} {ch : Int} {tc : Tok} {p0 p1 p2 : Nat} {t0 t1 t2 : Tok} (hc : 0 ≤ ch ∧ ch ≤ 7) (hp : p0 < 10 ∧ p1 < 10 ∧ p2 < 10) (hE0 : ∀ e ∈ [e0, e1, e2], e.length ≤ 1000 ∧ ∀ p ∈ e, p.1.length ≤ 1000)
    (i0 : o0.IsDictOf (kd w) k0) (i1 : o1.IsDictOf (kd w) k1) (i2 : o2.IsDictOf (kd w) k2) (f0 : FlatPairs PyData.str k0 (toD e0)) (f1 : FlatPairs PyData.str k1 (toD e1)) (f2 : FlatPairs PyData.str k2 (toD e2))
    (g0 : (d0 == sysModules) = false) (g1 : (d1 == sysModules) = false) (g2 : (d2 == sysModules) = false) :
    Spec w 109 [.ref lb, .int ch tc, .ref lp] 12 (fun h₀ L m news s Q => ((lb, lsk [.ref d0, .ref d1, .ref d2] ka) ∈ news ∧ (d0, o0) ∈ news ∧ (d1, o1) ∈ news ∧ (d2, o2) ∈ news ∧ (lp, lsk [.int (p0 : Int) t0, .int (p1 : Int) t1, .int (p2 : Int) t2] kb) ∈ news) ∧ ∀ l vs k h' tk, Fr h₀ L h' m → News h₀ L h' ((l, lsk vs k) :: news) → (∀ p ∈ news, p.1 ≠ l) → IntsAre vs (trimZ (rowsOf (strkL ch (fun k => [p0, p1, p2].getD k 0) 3) [e0, e1, e2])) → Q (.ref l) { s with heap := h', toks := tk }) := by
  w_top off
  intro p loose mean mg mb news dp un gd cn cs a0 ccd cl outer A₀ base h₀ L m s Q E B F X N T hk hd hu ret
  obtain ⟨hmem, ret⟩ := ret
  revert X
  k_fill
  intro X
  have hs : ∀ q ∈ ([(lb, lsk [.ref d0, .ref d1, .ref d2] ka), (d0, o0), (d1, o1), (d2, o2), (lp, lsk [.int (p0 : Int) t0, .int (p1 : Int) t1, .int (p2 : Int) t2] kb)] : List (Addr × Obj)), q ∈ news := consOf hmem.1 (consOf hmem.2.1 (consOf hmem.2.2.1 (twoOf hmem.2.2.2.1 hmem.2.2.2.2)))
  refine wpAny_call ?_
  refine' enterC ([(lb, lsk [.ref d0, .ref d1, .ref d2] ka), (d0, o0), (d1, o1), (d2, o2), (lp, lsk [.int (p0 : Int) t0, .int (p1 : Int) t1, .int (p2 : Int) t2] kb)]) B F X N T hs ?kA ?kF ?kK ?k6 ?k7 ?k8 ?k9 ?kB ?kD ?kgo ?c2 ?c3 ?c4
  case kA => exact rfl
  case kF => exact rfl
  case kK => exact hk
  case k6 => k_is
  case k7 => k_is
  case k8 => exact Nat.lt_of_le_of_lt (Nat.le_add_right _ _) hd
  case k9 => exact BindsTo.of_eq rfl
  case kB => exact rfl
  case kD => decide +kernel
  case c2 => exact rfl
  case c3 => exact rfl
  case c4 => exact rfl
  case' kgo => intro L1 h1 tk1 cells1 F1 N1 Y1 l1 B1 X1 T1 FG
  clear B X T hs
  (try k_lt l1)
  k_cells Y1
  (try simp only [List.cons_append, List.nil_append] at N1)
  dsimp only
  try k_fold
  refine Mine.letQE ?_
  intro Q1 hQ1
  have hs5 := consOf (P := fun q => q ∈ news) hmem.1 (consOf hmem.2.1 (consOf hmem.2.2.1 (twoOf hmem.2.2.2.1 hmem.2.2.2.2)))
  have hl5 : ∀ x : Addr, @Ne Nat lb x → @Ne Nat d0 x → @Ne Nat d1 x → @Ne Nat d2 x → @Ne Nat lp x → ∀ q ∈ ([(lb, lsk [.ref d0, .ref d1, .ref d2] ka), (d0, o0), (d1, o1), (d2, o2), (lp, lsk [.int (p0 : Int) t0, .int (p1 : Int) t1, .int (p2 : Int) t2] kb)] : List (Addr × Obj)), q.1 ≠ x := fun x e1 e2 e3 e4 e5 => consOf e1 (consOf e2 (consOf e3 (twoOf e4 e5)))
  generalize hG : gnd s.heap _ = G at *
  replace F1 := F1
  replace N1 := N1
  k_steps
  unfold Halt
  refine LCt.ListComp_T (F₀ := by k_asm) (by with_unfolding_all rfl) (by decide) (by rfl) (by decide) (by rfl) ?_
  k_steps
  unfold Halt
  refine LCt.CompSrcT.range (n := 3) (by rfl) (by k_asm) (by k_asm) (by assumption) (by first | decide | rfl) (by first | rfl | decide) (by first | size_fits | exact Nat.le_of_ble_eq_true rfl) ?_
  intro g'
  have z0 : (0 : Int) ≤ [(p0 : Int), (p1 : Int), (p2 : Int)].getD (Int.toNat 0) 0 ∧ [(p0 : Int), (p1 : Int), (p2 : Int)].getD (Int.toNat 0) 0 ≤ 9 := by show (0 : Int) ≤ (p0 : Int) ∧ (p0 : Int) ≤ 9; omega
  have z1 : (0 : Int) ≤ [(p0 : Int), (p1 : Int), (p2 : Int)].getD (Int.toNat 1) 0 ∧ [(p0 : Int), (p1 : Int), (p2 : Int)].getD (Int.toNat 1) 0 ≤ 9 := by show (0 : Int) ≤ (p1 : Int) ∧ (p1 : Int) ≤ 9; omega
  have z2 : (0 : Int) ≤ [(p0 : Int), (p1 : Int), (p2 : Int)].getD (Int.toNat 2) 0 ∧ [(p0 : Int), (p1 : Int), (p2 : Int)].getD (Int.toNat 2) 0 ≤ 9 := by show (0 : Int) ≤ (p2 : Int) ∧ (p2 : Int) ≤ 9; omega
  have q0 : (1 : Int) * 2 ^ Int.toNat ([(p0 : Int), (p1 : Int), (p2 : Int)].getD (Int.toNat 0) 0) = 2 ^ p0 := by show (1 : Int) * 2 ^ Int.toNat (p0 : Int) = 2 ^ p0; rw [Int.toNat_natCast, Int.one_mul]
  have q1 : (1 : Int) * 2 ^ Int.toNat ([(p0 : Int), (p1 : Int), (p2 : Int)].getD (Int.toNat 1) 0) = 2 ^ p1 := by show (1 : Int) * 2 ^ Int.toNat (p1 : Int) = 2 ^ p1; rw [Int.toNat_natCast, Int.one_mul]
  have q2 : (1 : Int) * 2 ^ Int.toNat ([(p0 : Int), (p1 : Int), (p2 : Int)].getD (Int.toNat 2) 0) = 2 ^ p2 := by show (1 : Int) * 2 ^ Int.toNat (p2 : Int) = 2 ^ p2; rw [Int.toNat_natCast, Int.one_mul]
  refine compTInv (n := 3) (fun i ys nw => StrsAre ys (strkL ch (fun k => [p0, p1, p2].getD k 0) i) ∧ nw = _) ?step ?fin 3 0 _ _ rfl ⟨.nil, rfl⟩
  case fin =>
    rintro ys nw ⟨hys, rfl⟩
    unfold LCg.FinE
    intro D6 h6 tk6 F6 N6 o6
    dsimp only [LCg.Off1] at o6
    dsimp only
    k_steps
    unfold Halt
    rename_i l9 _ _ _ _ _
    (rename Fr _ _ _ _ => lF)
    with_unfolding_all (refine' For_turns lF ?_)
    k_steps
    unfold Halt
    rename Fr _ _ _ _ => lF
    rename News _ _ _ _ => lN
    with_unfolding_all (refine' iterList ?g1 lF lN ?g2 ?g3 ?g4 ?_)
    case g1 => exact rfl
    case g2 => k_mem
    case g3 => exact rfl
    case g4 => exact rfl
    intro I l2
    k_lt l2
    have hok : ∀ x ∈ strkL ch (fun k => [p0, p1, p2].getD k 0) 3, PyData.strOk x = true := strkL_ok
    generalize strkL ch (fun k => [p0, p1, p2].getD k 0) 3 = st at *
    have hbs : ∀ q ∈ ([(d0, o0, k0, e0), (d1, o1, k1, e1), (d2, o2, k2, e2)] : List (Addr × Obj × List (Str × Value) × List (Str × Int))), (q.1, q.2.1) ∈ ([(d0, o0), (d1, o1), (d2, o2)] : List (Addr × Obj)) ∧ q.2.1.IsDictOf (kd w) q.2.2.1 ∧ FlatPairs PyData.str q.2.2.1 (toD q.2.2.2) ∧ (q.1 == sysModules) = false ∧
        q.2.2.2.length ≤ 1000 ∧ (∀ p ∈ q.2.2.2, p.1.length ≤ 1000) ∧ @LT.lt Nat _ q.1 l9 ∧ @Ne Nat q.1 D6 := by
      intro q hq
      rcases List.mem_cons.mp hq with rfl | hq
      · exact ⟨by k_mem, i0, f0, g0, (hE0 _ (.head _)).1, (hE0 _ (.head _)).2, (by dsimp only; omega), (by dsimp only; omega)⟩
      rcases List.mem_cons.mp hq with rfl | hq
      · exact ⟨by k_mem, i1, f1, g1, (hE0 _ (.tail _ (.head _))).1, (hE0 _ (.tail _ (.head _))).2, (by dsimp only; omega), (by dsimp only; omega)⟩
      rcases List.mem_cons.mp hq with rfl | hq
      · exact ⟨by k_mem, i2, f2, g2, (hE0 _ (.tail _ (.tail _ (.head _)))).1, (hE0 _ (.tail _ (.tail _ (.head _)))).2, (by dsimp only; omega), (by dsimp only; omega)⟩
      cases hq
    generalize hbe : ([(d0, o0, k0, e0), (d1, o1, k1, e1), (d2, o2, k2, e2)] : List (Addr × Obj × List (Str × Value) × List (Str × Int))) = bs at *
    have hbe1 : [Itm.val (.ref d0), Itm.val (.ref d1), Itm.val (.ref d2)] = bs.map fun q => Itm.val (.ref q.1) := by rw [← hbe]; rfl
    have hbe2 : [e0, e1, e2] = bs.map (·.2.2.2) := by rw [← hbe]; rfl
    refine itemsInvR (JOff bs st D6 L1 l9 I _) ?zstep ?zdone _ _ _
      ⟨[], bs, l9, [], _, rfl, hbe1, rfl, rfl, .nil, by omega, by omega, by omega, by omega⟩
    case zdone =>
      rintro m' news' h2 tk2 hPz
      refine Mine.lett fun gP gK => ?_
      obtain ⟨dn, td, lr, vs, k, e1', e2', m1, rfl, hvs, n1, n2, n3, n4⟩ := hPz
      refine gK ?_
      clear gK gP
      rintro F2 N2
      have e3 : td = [] := by cases td with | nil => rfl | cons _ _ => cases e2'
      subst e3
      rw [List.append_nil] at e1'
      subst e1'
      rw [← hbe2] at hvs
      dsimp only
      k_steps
      unfold Halt
      have hrl : (rowsOf st [e0, e1, e2]).length ≤ 3 := Nat.le_of_eq (rowsOf_len ..)
      refine While_inv (fun j m news => ∃ (lr : Addr) (vs : List Value) (k : Nat) (hs : List Int), m "row" = some (.ref lr) ∧ news = (lr, lsk vs k) :: _ ∧ IntsAre vs hs ∧ trimZ hs = trimZ (rowsOf st [e0, e1, e2]) ∧ hs.length ≤ 3 ∧ j = hs.length ∧ @LT.lt Nat _ D6 lr ∧ @LT.lt Nat _ (L1 + 1 + 1 + 1) lr) F2 N2 ⟨lr, vs, k, _, m1, rfl, hvs, rfl, hrl, rfl, n1, n2⟩ ?turn
      case turn =>
        clear m1 hvs n1 n2 n3 n4 F2 N2
        rintro j m3 news3 h3 tk3 F3 N3 hPz
        refine Mine.lett fun gP gK => ?_
        obtain ⟨lr3, vs3, k3, hs, m1, rfl, hvs, htr, hlen, rfl, n1, n2⟩ := hPz
        refine gK ?_
        clear gK gP
        cases hvs with
        | nil =>
          k_steps
          · subst hG
            refine hQ1 _ _ ?_
            exact ret lr3 _ _ _ _ (backF FG (by assumption)) (backN1 F N (by assumption) (by assumption) hs5 (fun q hq => .tail _ (.tail _ (.tail _ (.tail _ (.tail _ hq))))) (.head _) (hl5 lr3 (by omega) (by omega) (by omega) (by omega) (by omega))) (backNe N (by assumption) (.head _) (hl5 lr3 (by omega) (by omega) (by omega) (by omega) (by omega))) (by rw [← htr]; exact .nil)
        | cons x0 u0 hvs =>
          cases hvs with
          | nil =>
            k_steps
            · (rename News _ _ _ _ => lN)
              refine WhileStep.intro (by assumption) (fun q hq => lN q (SubL.mem (l := (_, lsk [] _) :: _) (by k_subL) q hq)) (Nat.lt_succ_self _) ⟨_, [], _, [], rfl, rfl, .nil, ?zt, (by simp only [List.length_cons, List.length_nil]; omega), rfl, by omega, by omega⟩
              case zt =>
                rw [← htr]
                obtain rfl : x0 = 0 := by assumption
                exact (trimZ_zero _).symm
            · subst hG
              refine hQ1 _ _ ?_
              exact ret lr3 _ _ _ _ (backF FG (by assumption)) (backN1 F N (by assumption) (by assumption) hs5 (fun q hq => .tail _ (.tail _ (.tail _ (.tail _ (.tail _ hq))))) (.head _) (hl5 lr3 (by omega) (by omega) (by omega) (by omega) (by omega))) (backNe N (by assumption) (.head _) (hl5 lr3 (by omega) (by omega) (by omega) (by omega) (by omega))) (by rw [← htr, show trimZ [x0] = [] ++ [x0] from trimZ_last [] (by assumption)]; exact .cons _ _ (.nil))
          | cons x1 u1 hvs =>
            cases hvs with
            | nil =>
              k_steps
              · (rename News _ _ _ _ => lN)
                refine WhileStep.intro (by assumption) (fun q hq => lN q (SubL.mem (l := (_, lsk [.int x0 u0] _) :: _) (by k_subL) q hq)) (Nat.lt_succ_self _) ⟨_, [.int x0 u0], _, [x0], rfl, rfl, .cons _ _ (.nil), ?zt, (by simp only [List.length_cons, List.length_nil]; omega), rfl, by omega, by omega⟩
                case zt =>
                  rw [← htr]
                  obtain rfl : x1 = 0 := by assumption
                  exact (trimZ_zero _).symm
              · subst hG
                refine hQ1 _ _ ?_
                exact ret lr3 _ _ _ _ (backF FG (by assumption)) (backN1 F N (by assumption) (by assumption) hs5 (fun q hq => .tail _ (.tail _ (.tail _ (.tail _ (.tail _ hq))))) (.head _) (hl5 lr3 (by omega) (by omega) (by omega) (by omega) (by omega))) (backNe N (by assumption) (.head _) (hl5 lr3 (by omega) (by omega) (by omega) (by omega) (by omega))) (by rw [← htr, show trimZ [x0, x1] = [x0] ++ [x1] from trimZ_last [x0] (by assumption)]; exact .cons _ _ (.cons _ _ (.nil)))
            | cons x2 u2 hvs =>
              cases hvs with
              | nil =>
                k_steps
                · (rename News _ _ _ _ => lN)
                  refine WhileStep.intro (by assumption) (fun q hq => lN q (SubL.mem (l := (_, lsk [.int x0 u0, .int x1 u1] _) :: _) (by k_subL) q hq)) (Nat.lt_succ_self _) ⟨_, [.int x0 u0, .int x1 u1], _, [x0, x1], rfl, rfl, .cons _ _ (.cons _ _ (.nil)), ?zt, (by simp only [List.length_cons, List.length_nil]; omega), rfl, by omega, by omega⟩
                  case zt =>
                    rw [← htr]
                    obtain rfl : x2 = 0 := by assumption
                    exact (trimZ_zero _).symm
                · subst hG
                  refine hQ1 _ _ ?_
                  exact ret lr3 _ _ _ _ (backF FG (by assumption)) (backN1 F N (by assumption) (by assumption) hs5 (fun q hq => .tail _ (.tail _ (.tail _ (.tail _ (.tail _ hq))))) (.head _) (hl5 lr3 (by omega) (by omega) (by omega) (by omega) (by omega))) (backNe N (by assumption) (.head _) (hl5 lr3 (by omega) (by omega) (by omega) (by omega) (by omega))) (by rw [← htr, show trimZ [x0, x1, x2] = [x0, x1] ++ [x2] from trimZ_last [x0, x1] (by assumption)]; exact .cons _ _ (.cons _ _ (.cons _ _ (.nil))))
              | cons x3 u3 hvs => exact absurd hlen (by simp only [List.length_cons]; omega)
    case zstep =>
      rintro a' r m' news' v h2 tk2 oI RhE1 hPz
      refine Mine.lett fun gP gK => ?_
      obtain ⟨dn, td, lr, vs, k, e1', e2', m1, rfl, hvs, n1, n2, n3, n4⟩ := hPz
      refine gK ?_
      clear gK gP
      rintro ha hc' F2 N2 hE1 _ _
      cases td with
      | nil => cases e2'
      | cons q td =>
        refine Mine.lett fun gP gK => ?_
        obtain ⟨d, od, kvs, es⟩ := q
        refine gK ?_
        clear gK gP
        obtain ⟨e4, e5⟩ := List.cons.inj e2'
        have e4 : a' = Itm.val (.ref d) := e4
        have e5 : r = td.map (fun q => Itm.val (.ref q.1)) := e5
        subst e4 e5
        clear e2'
        obtain rfl : v = .ref d := ha
        refine Mine.lett fun gP gK => ?_
        obtain ⟨hdm, hod, hfl, hlo, hel, hnl, hd1, hd2⟩ := hbs (d, od, kvs, es) (by rw [e1']; simp)
        refine gK ?_
        clear gK gP
        dsimp only at hdm hod hfl hlo hel hnl hd1 hd2
        k_steps
        unfold Halt
        rename Obj.IsDictOf (intKind _ _) _ _ => hx1
        rename FlatPairs PyData.int _ _ => hx2
        clear hx1 hx2
        rename_i df _ _ lo6 hd6 hf6 l6 _ _ _
        (rename Fr _ _ _ _ => lF)
        with_unfolding_all (refine' For_turns lF ?_)
        k_steps
        unfold Halt
        (rename Fr _ _ _ _ => lF)
        rename News _ _ _ _ => lN
        have hmd : (d, od) ∈ ([(lb, lsk [.ref d0, .ref d1, .ref d2] ka), (d0, o0), (d1, o1), (d2, o2), (lp, lsk [.int (p0 : Int) t0, .int (p1 : Int) t1, .int (p2 : Int) t2] kb)] : List (Addr × Obj)) := .tail _ (List.mem_append_left (bs := [(lp, _)]) hdm)
        with_unfolding_all (refine' kti_keys (knd := kd w) (enc := PyData.str) ?h1 lF lN ?h2 ?h3 ?h4 ?h5 ?_)
        case h1 => exact rfl
        case h2 => exact TabAt.ofObj hlo (lN (d, od) (mem7r hmd)).1 hod hfl
        case h3 => exact mem7r hmd
        case h4 => exact fun _ _ h => Value.isStrOf_shape h
        case h5 => exact rfl
        intro I2 l7
        have hd3 : @LT.lt Nat _ d I2 := l7 (d, od) (mem7r hmd)
        k_lt l7
        refine itemsInvR (JFree w st es df d lr _) ?ystep ?ydone _ _ _
          ⟨[], es, _, _, rfl, rfl, rfl, rfl, m1, rfl, hd6, hf6, Nat.le_refl _⟩
        case ydone =>
          clear hd6 hf6 lF lN N2 F2
          rintro m'' news'' h3 tk3 hPz
          refine Mine.lett fun gP gK => ?_
          obtain ⟨dn2, td2, o, kv, g1', g2', m1', m2', m3', rfl, hd4, hf4, hlen4⟩ := hPz
          refine gK ?_
          clear gK gP
          rintro F3 N3
          have e3 : td2 = [] := by cases td2 with | nil => rfl | cons _ _ => cases g2'
          subst e3
          rw [List.append_nil] at g1'
          subst g1'
          dsimp only
          k_steps
          unfold Halt
          refine' wpAny_mono (Mine.count_ok ?y1o1 ?y1f1 ?y1l1 ?y1B ?y1F ?y1X ?y1N ?y1T ?y1hk ?y1hd ?y1hu ⟨?y1m1, ?_⟩) (fun _ _ z => z) (fun _ _ z => z)
          case y1B => k_asm
          case y1F => k_asm
          case y1X => k_asm
          case y1N => k_asm
          case y1T => k_asm
          case y1hk => exact rfl
          case y1hd => first | exact Mine.roomD hd rfl | (dsimp only [ktrTop]; omega)
          case y1hu => first | exact Mine.roomU hu rfl | (dsimp only [ktrTop]; omega)
          case y1m1 => k_mem
          case y1o1 => assumption
          case y1f1 => assumption
          case y1l1 => assumption
          intro _ _ _ _ _
          (try k_sweep)
          (try dsimp only)
          k_steps
          unfold Halt
          have hrl : (rowsOf st (dn.map (·.2.2.2))).length ≤ 3 := by
            rw [rowsOf_len, List.length_map]
            have := congrArg List.length e1'
            rw [← hbe] at this
            simp only [List.length_append, List.length_cons, List.length_nil] at this
            omega
          refine kmk_add_ints (by k_asm) (by k_asm) (News.isList (by k_asm) (.head _)) (News.isList (by k_asm) (by k_mem)) (.cons _ _ .nil) hvs ?_ (by rw [sizeLine_eq, List.length_singleton]; omega)
          intro lr2 vs2 h8 F8 N8 l8 hv8
          k_lt l8
          k_steps
          refine hE1 _ _ (.inl rfl) ?_
          refine UnrEndW.intro (by assumption) (by assumption) [(lr2, _), (D6, _), (L1 + 1 + 1 + 1, _), (L1 + 1 + 1, _), (L1 + 1, _), (lb, _), (d0, _), (d1, _), (d2, _), (lp, _)] (by k_subL) (by k_subL) (by ktu_offL) ⟨by k_subL, ?_⟩
          refine ⟨dn ++ [(d, od, kvs, es)], td, lr2, vs2, _, by rw [e1', List.append_assoc]; rfl, rfl, rfl, rfl, ?zz, by omega, by omega, by omega, by omega⟩
          case zz =>
            rw [List.map_append]
            show IntsAre vs2 (rowsOf st (_ ++ [es]))
            rw [rowsOf_app]
            exact hv8
        case ystep =>
          clear hd6 hf6 lF lN N2 F2
          rintro a'' r'' m'' news'' v h3 tk3 oK RhE2 hPz
          refine Mine.lett fun gP gK => ?_
          obtain ⟨dn2, td2, o, kv, g1', g2', m1', m2', m3', rfl, hd4, hf4, hlen4⟩ := hPz
          refine gK ?_
          clear gK gP
          rintro ha hc'' F3 N3 hE2 _ _
          cases td2 with
          | nil => cases g2'
          | cons q2 td2 =>
            obtain ⟨e6, e7⟩ := List.cons.inj g2'
            have e6 : a'' = Itm.tok (kyVal (PyData.str q2.1)) := e6
            have e7 : r'' = (toD td2).map (fun p => Itm.tok (kyVal p.1)) := e7
            subst e6 e7
            clear g2'
            obtain ⟨t9, hv⟩ := ha
            have hv : v = .str q2.1 t9 := hv
            subst hv
            k_steps
            unfold Halt
            refine LCt.ListComp_T (F₀ := by k_asm) (by with_unfolding_all rfl) (by decide) (by rfl) (by decide) (by rfl) ?_
            k_steps
            unfold Halt
            have hq2 : q2.1.length ≤ 1000 := hnl q2 (by rw [g1']; simp)
            generalize hT2 : Txt.split q2.1 ", " = ws at *
            refine KSpl.split1 (by k_asm) (by k_asm) (by decide) ?_ ?hsz
            case hsz => rw [sizeLine_eq]; omega
            intro D7 l7' h4 tk4 hws hsv F4 N4 l8
            k_lt l8
            rw [hT2] at hws
            rw [hws] at hsv
            have hwl : (strValues l7').toArray.size ≤ sizeLine := by
              have h1 := hsv.length
              have h2 := split_len q2.1 ", "
              rw [hT2] at h2
              rw [List.size_toArray, sizeLine_eq]
              omega
            have hwn : (strValues l7').toArray.size = ws.length := by rw [List.size_toArray]; exact hsv.length
            refine LCt.CompSrcT.ledger (by rfl) (by k_asm) (by k_asm) (.head _) hwl ?_
            intro g''
            refine compTInv (n := (strValues l7').toArray.size) (fun i ys nw => StrsAre ys (hitW st (ws.take i)) ∧ nw = _) ?xstep ?xfin _ 0 _ _ (Nat.zero_add _) ⟨.nil, rfl⟩
            case xfin =>
              rintro ys9 nw ⟨hy9, rfl⟩
              rw [hwn, List.take_length] at hy9
              have hok9 := hitW_ok (ws := ws) hok
              generalize hT3 : hitW st ws = hit at *
              unfold LCg.FinE
              intro D9 h9 tk9 F9 N9 o9
              dsimp only [LCg.Off1] at o9
              dsimp only
              have hz : (toD (dn2.foldl (freeStep st es) [])).length ≤ sizeLine := small_line (by
                rw [List.length_map]
                have := congrArg List.length g1'
                simp only [List.length_append, List.length_cons] at this
                omega)
              have hge : ∃ gv, getE es q2.1 = some gv := getE_mem (by rw [g1']; simp)
              obtain ⟨gv, hgv⟩ := hge
              have hlk := toD_get q2.1 es
              rw [hgv] at hlk
              have hfs : hit = [] → (dn2 ++ [q2]).foldl (freeStep st es) [] = putE (dn2.foldl (freeStep st es) []) q2.1 gv := by
                intro h
                rw [List.foldl_append]
                simp only [List.foldl_cons, List.foldl_nil]
                rw [freeStep, hT2, hT3, if_pos h, hgv]
                rfl
              have hfn : ¬ hit = [] → (dn2 ++ [q2]).foldl (freeStep st es) [] = dn2.foldl (freeStep st es) [] := by
                intro h
                rw [List.foldl_append]
                simp only [List.foldl_cons, List.foldl_nil]
                rw [freeStep, hT2, hT3, if_neg h]
              have hln : ((dn2 ++ [q2]).foldl (freeStep st es) []).length ≤ (dn2 ++ [q2]).length := by
                rw [List.foldl_append, List.length_append]
                exact Nat.le_trans (freeStep_len ..) (Nat.add_le_add_right hlen4 1)
              k_steps
              · unfold Halt
                rename News _ _ _ _ => lN
                refine item_strTab (TabAt.ofObj hlo (lN (d, od) (mem11r hmd)).1 hod hfl) hlk ?_
                intro v9 hv9
                obtain ⟨t8, rfl⟩ := Flat.int_inv hv9
                k_steps
                skip
                rename Obj.IsDictOf _ _ _ => hd8
                rename FlatPairs _ _ _ => hf8
                have e9 := hfs (by assumption)
                refine hE2 _ _ (.inl rfl) ?_
                refine UnrEndW.intro (by assumption) (by assumption) [(df, _), (I, _), (lr, _), (D6, _), (L1 + 1 + 1 + 1, _), (L1 + 1 + 1, _), (L1 + 1, _), (lb, _), (d0, _), (d1, _), (d2, _), (lp, _)] (by k_subL) (by k_subL) (by ktu_offL) ⟨⟨mem7r hmd, trivial⟩, ?_⟩
                exact ⟨dn2 ++ [q2], td2, _, _, by rw [g1', List.append_assoc]; rfl, rfl, m1', m2', m3', rfl, hd8, by rw [e9, toD_put]; exact hf8, hln⟩
              · skip
                have e9 := hfn (by assumption)
                refine hE2 _ _ (.inl rfl) ?_
                refine UnrEndW.intro (by assumption) (by assumption) [(df, _), (I, _), (lr, _), (D6, _), (L1 + 1 + 1 + 1, _), (L1 + 1 + 1, _), (L1 + 1, _), (lb, _), (d0, _), (d1, _), (d2, _), (lp, _)] (by k_subL) (by k_subL) (by ktu_offL) ⟨⟨mem7r hmd, trivial⟩, ?_⟩
                exact ⟨dn2 ++ [q2], td2, _, _, by rw [g1', List.append_assoc]; rfl, rfl, m1', m2', m3', rfl, hd4, by rw [e9]; exact hf4, hln⟩
            case xstep =>
              rintro i ys8 nw v I3 oI3 C3 oC D3 m5 h5 tk5 E5 hi ⟨hys8, rfl⟩ hv8 hC hx F5 N5 off ne
              have off0 := off
              dsimp only [LCg.Off3] at off
              refine Mine.lett fun gP gK => ?_
              obtain ⟨x8, t8, rfl, hx8⟩ := hsv.item i v (by simpa using hv8)
              refine gK ?_
              clear gK gP
              k_steps
              · unfold Halt
                have ht : st.any (· == x8) = true := by assumption
                refine LCg.CompEnd.intro (by assumption) (by assumption) _ (fun p hp => hp) off0 (.inr ⟨_, .head _, rfl, _, rfl⟩) ⟨?_, rfl⟩
                rw [hitW_next hx8, if_pos ht]
                exact hys8.append' (.cons _ _ .nil)
              · unfold Halt
                have ht : ¬ st.any (· == x8) = true := by rw [show st.any (· == x8) = false by assumption]; decide
                refine LCg.CompEnd.intro (by assumption) (by assumption) _ (fun p hp => hp) off0 (.inr ⟨_, .head _, rfl, _, rfl⟩) ⟨?_, rfl⟩
                rw [hitW_next hx8, if_neg ht, List.append_nil]
                exact hys8
  case step =>
    rintro i ys nw v I3 oI C3 oC D3 m5 h5 tk5 E5 hi ⟨hys, rfl⟩ ⟨t7, rfl⟩ hC hx F5 N5 off ne
    have off0 := off
    dsimp only [LCg.Off3] at off
    have : i = 0 ∨ i = 1 ∨ i = 2 := by omega
    rcases this with rfl | rfl | rfl
    · have hx : m5 "k" = some (.int 0 t7) := hx
      k_steps
      · unfold Halt
        have hb : bitC ch 0 := by unfold bitC; assumption
        refine LCg.CompEnd.intro (by assumption) (by assumption) _ (fun p hp => hp) off0 trivial ⟨?_, rfl⟩
        show StrsAre _ (strkL _ _ (0 + 1))
        rw [strkL, if_pos hb]
        exact hys.append' (.cons _ _ .nil)
      · unfold Halt
        have hb : ¬ bitC ch 0 := by unfold bitC; intro h; exact h (by assumption)
        refine LCg.CompEnd.intro (by assumption) (by assumption) _ (fun p hp => hp) off0 trivial ⟨?_, rfl⟩
        show StrsAre _ (strkL _ _ (0 + 1))
        rw [strkL, if_neg hb, List.append_nil]
        exact hys
    · have hx : m5 "k" = some (.int 1 t7) := hx
      k_steps
      · unfold Halt
        have hb : bitC ch 1 := by unfold bitC; assumption
        refine LCg.CompEnd.intro (by assumption) (by assumption) _ (fun p hp => hp) off0 trivial ⟨?_, rfl⟩
        show StrsAre _ (strkL _ _ (1 + 1))
        rw [strkL, if_pos hb]
        exact hys.append' (.cons _ _ .nil)
      · unfold Halt
        have hb : ¬ bitC ch 1 := by unfold bitC; intro h; exact h (by assumption)
        refine LCg.CompEnd.intro (by assumption) (by assumption) _ (fun p hp => hp) off0 trivial ⟨?_, rfl⟩
        show StrsAre _ (strkL _ _ (1 + 1))
        rw [strkL, if_neg hb, List.append_nil]
        exact hys
    · have hx : m5 "k" = some (.int 2 t7) := hx
      k_steps
      · unfold Halt
        have hb : bitC ch 2 := by unfold bitC; assumption
        refine LCg.CompEnd.intro (by assumption) (by assumption) _ (fun p hp => hp) off0 trivial ⟨?_, rfl⟩
        show StrsAre _ (strkL _ _ (2 + 1))
        rw [strkL, if_pos hb]
        exact hys.append' (.cons _ _ .nil)
      · unfold Halt
        have hb : ¬ bitC ch 2 := by unfold bitC; intro h; exact h (by assumption)
        refine LCg.CompEnd.intro (by assumption) (by assumption) _ (fun p hp => hp) off0 trivial ⟨?_, rfl⟩
        show StrsAre _ (strkL _ _ (2 + 1))
        rw [strkL, if_neg hb, List.append_nil]
        exact hys
end Mine
end

section
namespace Mine
def keysE (es : List (Str × Int)) : List Str := es.map (·.1)
def sumIf (P : Str → Bool) (es : List (Str × Int)) : Int := (es.map fun p => if P p.1 = true then p.2 else 0).sum
theorem sumIf_nil (P : Str → Bool) : sumIf P [] = 0 := rfl
theorem sumIf_cons (P : Str → Bool) (p : Str × Int) (r : List (Str × Int)) : sumIf P (p :: r) = (if P p.1 = true then p.2 else 0) + sumIf P r := by
  unfold sumIf; rw [List.map_cons, List.sum_cons]
theorem sumIf_app (P : Str → Bool) : ∀ (a b : List (Str × Int)), sumIf P (a ++ b) = sumIf P a + sumIf P b
  | [], b => by rw [List.nil_append, sumIf_nil]; omega
  | p :: r, b => by rw [List.cons_append, sumIf_cons, sumIf_cons, sumIf_app P r b]; omega
theorem getE_cons (p : Str × Int) (r : List (Str × Int)) (k : Str) : getE (p :: r) k = if p.1 = k then some p.2 else getE r k := by
  unfold getE
  by_cases h : p.1 = k <;> simp [List.find?_cons, h]
theorem getE_none {k : Str} : ∀ {es : List (Str × Int)}, k ∉ keysE es → getE es k = none
  | [], _ => rfl
  | p :: r, h => by
    have h1 : ¬ p.1 = k := fun e => h (by simp [keysE, e])
    have h2 : k ∉ keysE r := fun e => h (List.mem_cons_of_mem _ e)
    rw [getE_cons, if_neg h1, getE_none h2]
theorem any_iff {k : Str} {es : List (Str × Int)} : es.any (fun p => decide (p.1 = k)) = true ↔ k ∈ keysE es := by
  simp [keysE, List.any_eq_true]
theorem map_id {k : Str} {v : Int} : ∀ {es : List (Str × Int)}, k ∉ keysE es → es.map (fun p => if p.1 = k then (p.1, v) else p) = es
  | [], _ => rfl
  | p :: r, h => by
    have h1 : ¬ p.1 = k := fun e => h (by simp [keysE, e])
    have h2 : k ∉ keysE r := fun e => h (List.mem_cons_of_mem _ e)
    rw [List.map_cons, if_neg h1, map_id h2]
theorem keys_put (es : List (Str × Int)) (k : Str) (v : Int) : keysE (putE es k v) = if k ∈ keysE es then keysE es else keysE es ++ [k] := by
  unfold putE
  by_cases h : k ∈ keysE es
  · rw [if_pos (any_iff.mpr h), if_pos h]
    unfold keysE
    rw [List.map_map]
    apply List.map_congr_left
    intro p _
    by_cases e : p.1 = k <;> simp [e]
  · rw [if_neg (fun e => h (any_iff.mp e)), if_neg h]
    simp [keysE]
theorem nodup_put {es : List (Str × Int)} (k : Str) (v : Int) (h : (keysE es).Nodup) : (keysE (putE es k v)).Nodup := by
  rw [keys_put]
  by_cases e : k ∈ keysE es
  · rw [if_pos e]; exact h
  · rw [if_neg e, List.nodup_append]
    refine ⟨h, by simp, ?_⟩
    intro a ha b hb e'
    rw [List.mem_singleton.mp hb] at e'
    exact e (e' ▸ ha)
theorem sum_map (P : Str → Bool) {k : Str} {v : Int} : ∀ {es : List (Str × Int)}, (keysE es).Nodup → k ∈ keysE es →
    sumIf P (es.map (fun p => if p.1 = k then (p.1, v) else p)) = sumIf P es + if P k = true then v - (getE es k).getD 0 else 0
  | [], _, h => nomatch h
  | p :: r, hn, h => by
    have hn' : p.1 ∉ keysE r ∧ (keysE r).Nodup := List.nodup_cons.mp hn
    rw [List.map_cons, sumIf_cons, sumIf_cons, getE_cons]
    by_cases e : p.1 = k
    · rw [if_pos e, if_pos e]
      rw [map_id (e ▸ hn'.1)]
      dsimp only [Option.getD_some]
      rw [e]
      split <;> omega
    · have h2 : k ∈ keysE r := by
        rcases List.mem_cons.mp h with h | h
        · exact absurd h.symm e
        · exact h
      rw [if_neg e, if_neg e, sum_map P hn'.2 h2]
      omega
theorem sum_put (P : Str → Bool) {es : List (Str × Int)} (k : Str) (v : Int) (h : (keysE es).Nodup) : sumIf P (putE es k v) = sumIf P es + if P k = true then v - (getE es k).getD 0 else 0 := by
  unfold putE
  by_cases e : k ∈ keysE es
  · rw [if_pos (any_iff.mpr e)]
    exact sum_map P h e
  · rw [if_neg (fun z => e (any_iff.mp z)), sumIf_app, getE_none e]
    simp [sumIf]
theorem put_new {es : List (Str × Int)} {k : Str} (v : Int) (e : k ∉ keysE es) : putE es k v = es ++ [(k, v)] := by
  unfold putE
  rw [if_neg (fun z => e (any_iff.mp z))]
theorem fold_put : ∀ (fs acc : List (Str × Int)), (keysE (acc ++ fs)).Nodup → fs.foldl (fun acc p => putE acc p.1 p.2) acc = acc ++ fs
  | [], acc, _ => by simp
  | f :: r, acc, h => by
    have h1 : f.1 ∉ keysE acc := by
      intro e
      have h' : (keysE acc ++ keysE (f :: r)).Nodup := by have := h; unfold keysE at this ⊢; rwa [List.map_append] at this
      exact (List.nodup_append.mp h').2.2 _ e f.1 (by simp [keysE]) rfl
    rw [List.foldl_cons, put_new _ h1, fold_put r (acc ++ [(f.1, f.2)]) (by simpa using h)]
    simp
theorem copy_id {es : List (Str × Int)} (h : (keysE es).Nodup) : copyE es = es := by
  unfold copyE
  exact (fold_put es [] (by simpa using h)).trans (List.nil_append _)
theorem sum_addOne (P : Str → Bool) {es : List (Str × Int)} (p : Str × Int) (h : (keysE es).Nodup) : sumIf P (addOne es p) = sumIf P es + (if P p.1 = true then p.2 else 0) ∧ (keysE (addOne es p)).Nodup := by
  unfold addOne
  cases e : getE es p.1 with
  | none => exact ⟨by rw [sum_put P _ _ h, e]; dsimp only [Option.getD_none]; split <;> omega, nodup_put _ _ h⟩
  | some n => exact ⟨by rw [sum_put P _ _ h, e]; dsimp only [Option.getD_some]; split <;> omega, nodup_put _ _ h⟩
theorem sum_foldOne (P : Str → Bool) : ∀ (fs es : List (Str × Int)), (keysE es).Nodup → sumIf P (fs.foldl addOne es) = sumIf P es + sumIf P fs ∧ (keysE (fs.foldl addOne es)).Nodup
  | [], es, h => ⟨by rw [List.foldl_nil, sumIf_nil]; omega, h⟩
  | f :: r, es, h => by
    have h1 := sum_addOne P f h
    have h2 := sum_foldOne P r _ h1.2
    rw [List.foldl_cons]
    exact ⟨by rw [h2.1, h1.1, sumIf_cons]; omega, h2.2⟩
theorem sum_addE (P : Str → Bool) {es : List (Str × Int)} (fs : List (Str × Int)) (h : (keysE es).Nodup) : sumIf P (addE es fs) = sumIf P es + sumIf P fs ∧ (keysE (addE es fs)).Nodup := by
  unfold addE
  rw [copy_id h]
  exact sum_foldOne P fs es h
def clearP (st : List Str) (k : Str) : Bool := decide (hitW st (Txt.split k ", ") = [])
theorem getE_of : ∀ {es : List (Str × Int)} {p : Str × Int}, (keysE es).Nodup → p ∈ es → getE es p.1 = some p.2
  | q :: r, p, hn, h => by
    have hn' : q.1 ∉ keysE r ∧ (keysE r).Nodup := List.nodup_cons.mp hn
    rw [getE_cons]
    rcases List.mem_cons.mp h with h | h
    · rw [h, if_pos rfl]
    · have : ¬ q.1 = p.1 := fun e => hn'.1 (e ▸ List.mem_map_of_mem h)
      rw [if_neg this]
      exact getE_of hn'.2 h
theorem free_fold (st : List Str) {es : List (Str × Int)} (hn : (keysE es).Nodup) : ∀ (td dn : List (Str × Int)), es = dn ++ td → td.foldl (freeStep st es) (dn.filter fun p => clearP st p.1) = es.filter fun p => clearP st p.1
  | [], dn, e => by rw [e, List.append_nil]; rfl
  | p :: r, dn, e => by
    rw [List.foldl_cons]
    have ih := free_fold st hn r (dn ++ [p]) (by rw [e, List.append_assoc]; rfl)
    rw [← ih]
    congr 1
    rw [List.filter_append]
    unfold freeStep
    by_cases h : hitW st (Txt.split p.1 ", ") = []
    · have hc : clearP st p.1 = true := decide_eq_true h
      have hk : p.1 ∉ keysE (dn.filter fun p => clearP st p.1) := by
        intro z
        obtain ⟨q, hq, e'⟩ := List.mem_map.mp z
        have hq' := (List.mem_filter.mp hq).1
        have hn2 : (keysE dn ++ keysE (p :: r)).Nodup := by rw [e] at hn; have := hn; unfold keysE at this ⊢; rwa [List.map_append] at this
        exact (List.nodup_append.mp hn2).2.2 _ (List.mem_map_of_mem hq') p.1 (by simp [keysE]) e'
      have hg : getE es p.1 = some p.2 := getE_of hn (by rw [e]; simp)
      rw [if_pos h, hg, Option.getD_some, put_new _ hk]
      congr 1
      rw [List.filter_cons]; simp [hc]
    · have hc : clearP st p.1 = false := decide_eq_false h
      rw [if_neg h, List.filter_cons]; simp [hc]
theorem sum_filter (P : Str → Bool) : ∀ es : List (Str × Int), sumE (es.filter fun p => P p.1) = sumIf P es
  | [] => rfl
  | p :: r => by
    rw [sumIf_cons, List.filter_cons, ← sum_filter P r]
    by_cases h : P p.1 = true
    · rw [if_pos h, if_pos h]; unfold sumE; rw [List.map_cons, List.sum_cons]
    · rw [if_neg h, if_neg h]; omega
theorem sum_free (st : List Str) {es : List (Str × Int)} (hn : (keysE es).Nodup) : sumE (freeE st es) = sumIf (clearP st) es := by
  unfold freeE
  rw [show es.foldl (freeStep st es) [] = _ from free_fold st hn es [] rfl]
  exact sum_filter _ _
abbrev ptOk (high a c d y x : Int) : Prop := 0 ≤ sh0 high a c d x y ∧ 0 ≤ sh1 c d x y ∧ 0 ≤ sh2 a y
def ptF (Pm : Nat → Bool) (high a c d y x : Int) : Int := if ptOk high a c d y x then (if Pm (mskAt high a c d y x) = true then 1 else 0) else 0
def rowC (Pm : Nat → Bool) (high a c d y : Int) : Int := ((xsOf high a c).map fun x => ptF Pm high a c d y x).sum
def bookC (Pm : Nat → Bool) (high a c d : Int) : Int := ((List.range (d * high + 1 - 0).toNat).map fun i => rowC Pm high a c d (0 + ((i : Nat) : Int))).sum
theorem sum_rowStep (P : Str → Bool) (nm : Nat → Str) (high a c d y : Int) {acc : List (Str × Int)} (x : Int) (h : (keysE acc).Nodup) :
    sumIf P (rowStep nm high a c d y acc x) = sumIf P acc + ptF (fun k => P (nm k)) high a c d y x ∧ (keysE (rowStep nm high a c d y acc x)).Nodup := by
  unfold rowStep ptF
  by_cases e : 0 ≤ sh0 high a c d x y ∧ 0 ≤ sh1 c d x y ∧ 0 ≤ sh2 a y
  · rw [if_pos e, if_pos (show ptOk high a c d y x from e)]
    refine ⟨?_, nodup_put _ _ h⟩
    rw [sum_put P _ _ h]
    dsimp only
    split <;> omega
  · rw [if_neg e, if_neg (show ¬ ptOk high a c d y x from e)]
    exact ⟨by omega, h⟩
theorem sum_row (P : Str → Bool) (nm : Nat → Str) (high a c d y : Int) : ∀ (xs : List Int) (acc : List (Str × Int)), (keysE acc).Nodup →
    sumIf P (xs.foldl (rowStep nm high a c d y) acc) = sumIf P acc + (xs.map fun x => ptF (fun k => P (nm k)) high a c d y x).sum ∧ (keysE (xs.foldl (rowStep nm high a c d y) acc)).Nodup
  | [], acc, h => ⟨by rw [List.foldl_nil, List.map_nil, List.sum_nil]; omega, h⟩
  | x :: r, acc, h => by
    have h1 := sum_rowStep P nm high a c d y x h
    have h2 := sum_row P nm high a c d y r _ h1.2
    rw [List.foldl_cons, List.map_cons, List.sum_cons]
    exact ⟨by rw [h2.1, h1.1]; omega, h2.2⟩
theorem sum_rows (P : Str → Bool) (nm : Nat → Str) (high a c d : Int) : ∀ (l : List Nat) (acc : List (Str × Int)), (keysE acc).Nodup →
    sumIf P (l.foldl (fun bk i => addE bk (rowF nm high a c d (0 + ((i : Nat) : Int)))) acc) = sumIf P acc + (l.map fun i => rowC (fun k => P (nm k)) high a c d (0 + ((i : Nat) : Int))).sum ∧
      (keysE (l.foldl (fun bk i => addE bk (rowF nm high a c d (0 + ((i : Nat) : Int)))) acc)).Nodup
  | [], acc, h => ⟨by rw [List.foldl_nil, List.map_nil, List.sum_nil]; omega, h⟩
  | i :: r, acc, h => by
    have h0 : sumIf P (rowF nm high a c d (0 + ((i : Nat) : Int))) = rowC (fun k => P (nm k)) high a c d (0 + ((i : Nat) : Int)) := by
      have := (sum_row P nm high a c d (0 + ((i : Nat) : Int)) (xsOf high a c) [] (by simp [keysE])).1
      unfold rowF rowC
      rw [this, sumIf_nil]; omega
    have h1 := sum_addE P (rowF nm high a c d (0 + ((i : Nat) : Int))) h
    have h2 := sum_rows P nm high a c d r _ h1.2
    rw [List.foldl_cons, List.map_cons, List.sum_cons]
    exact ⟨by rw [h2.1, h1.1, h0]; omega, h2.2⟩
theorem sum_book (P : Str → Bool) (nm : Nat → Str) (high a c d : Int) : sumIf P (bookF nm high a c d) = bookC (fun k => P (nm k)) high a c d ∧ (keysE (bookF nm high a c d)).Nodup := by
  have h := sum_rows P nm high a c d (List.range (d * high + 1 - 0).toNat) [] (by simp [keysE])
  exact ⟨by unfold bookF bookC; rw [h.1, sumIf_nil]; omega, h.2⟩
theorem free_book (st : List Str) (nm : Nat → Str) (high a c d : Int) : sumE (freeE st (bookF nm high a c d)) = bookC (fun k => clearP st (nm k)) high a c d := by
  rw [sum_free st (sum_book (clearP st) nm high a c d).2, (sum_book (clearP st) nm high a c d).1]
/-- the rows of three books are counts of points -/
theorem rows_book (st : List Str) (nm : Nat → Str) (a c d : Int) : rowsOf st [bookF nm 0 a c d, bookF nm 1 a c d, bookF nm 2 a c d] =
    [bookC (fun k => clearP st (nm k)) 2 a c d, bookC (fun k => clearP st (nm k)) 1 a c d, bookC (fun k => clearP st (nm k)) 0 a c d] := by
  unfold rowsOf
  simp only [List.foldl_cons, List.foldl_nil, free_book]
theorem bookC_congr {P Q : Nat → Bool} (h : ∀ k, k < 8 → P k = Q k) (high a c d : Int) : bookC P high a c d = bookC Q high a c d := by
  unfold bookC rowC ptF
  congr 1
  apply List.map_congr_left
  intro i _
  congr 1
  apply List.map_congr_left
  intro x _
  rw [h (mskAt high a c d (0 + ((i : Nat) : Int)) x) (mask_lt ..)]
/-- lengths -/
theorem keys_one (es : List (Str × Int)) (p : Str × Int) : ∀ k ∈ keysE (addOne es p), k ∈ keysE es ∨ k = p.1 := by
  have : ∀ v, ∀ k ∈ keysE (putE es p.1 v), k ∈ keysE es ∨ k = p.1 := by
    intro v k hk
    rw [keys_put] at hk
    split at hk
    · exact .inl hk
    · rcases List.mem_append.mp hk with h | h
      · exact .inl h
      · exact .inr (List.mem_singleton.mp h)
  unfold addOne
  split <;> exact this _
theorem keys_fold : ∀ (fs es : List (Str × Int)), ∀ k ∈ keysE (fs.foldl addOne es), k ∈ keysE es ∨ k ∈ keysE fs
  | [], es, k, h => .inl h
  | f :: r, es, k, h => by
    rw [List.foldl_cons] at h
    rcases keys_fold r _ k h with h | h
    · rcases keys_one es f k h with h | h
      · exact .inl h
      · exact .inr (by rw [h]; exact .head _)
    · exact .inr (.tail _ h)
def isNm (nm : Nat → Str) (k : Str) : Prop := ∃ j, j < 8 ∧ k = nm j
theorem keys_row (nm : Nat → Str) (high a c d y : Int) : ∀ (xs : List Int) (acc : List (Str × Int)), (∀ k ∈ keysE acc, isNm nm k) → ∀ k ∈ keysE (xs.foldl (rowStep nm high a c d y) acc), isNm nm k
  | [], acc, h => h
  | x :: r, acc, h => by
    rw [List.foldl_cons]
    refine keys_row nm high a c d y r _ ?_
    intro k hk
    unfold rowStep at hk
    split at hk
    · rw [keys_put] at hk
      split at hk
      · exact h k hk
      · rcases List.mem_append.mp hk with hk | hk
        · exact h k hk
        · exact ⟨_, mask_lt .., List.mem_singleton.mp hk⟩
    · exact h k hk
theorem row_len (nm : Nat → Str) (high a c d y : Int) : ∀ (xs : List Int) (acc : List (Str × Int)), (xs.foldl (rowStep nm high a c d y) acc).length ≤ acc.length + xs.length
  | [], acc => Nat.le_refl _
  | x :: r, acc => by
    rw [List.foldl_cons, List.length_cons]
    have h1 := row_len nm high a c d y r (rowStep nm high a c d y acc x)
    have h2 : (rowStep nm high a c d y acc x).length ≤ acc.length + 1 := by
      unfold rowStep
      split
      · exact putE_len ..
      · omega
    omega
theorem book_sizes (nm : Nat → Str) (high a c d : Int) (b1 : 0 ≤ high ∧ high ≤ 2) (b2 : 1 ≤ a ∧ a ≤ 4) (b3 : -1 ≤ c ∧ c ≤ 3) (b4 : 1 ≤ d ∧ d ≤ 4) (hnm : ∀ j, j < 8 → (nm j).length ≤ 1000) :
    (bookF nm high a c d).length ≤ 1000 ∧ ∀ p ∈ bookF nm high a c d, p.1.length ≤ 1000 := by
  have hx : (xsOf high a c).length ≤ 11 := by
    have := lohi high a c b1 b2 b3
    unfold xsOf
    rw [List.length_map, List.length_range]; omega
  have hr : ∀ y, (rowF nm high a c d y).length ≤ 11 := fun y => Nat.le_trans (row_len nm high a c d y (xsOf high a c) []) (by simpa using hx)
  have hl : ∀ (l : List Nat) (acc : List (Str × Int)), (∀ k ∈ keysE acc, isNm nm k) → (keysE acc).Nodup → (l.foldl (fun bk i => addE bk (rowF nm high a c d (0 + ((i : Nat) : Int)))) acc).length ≤ acc.length + 11 * l.length ∧
      ∀ k ∈ keysE (l.foldl (fun bk i => addE bk (rowF nm high a c d (0 + ((i : Nat) : Int)))) acc), isNm nm k := by
    intro l
    induction l with
    | nil => intro acc h hn; exact ⟨by simp, h⟩
    | cons i r ih =>
      intro acc h hn
      rw [List.foldl_cons, List.length_cons]
      have h1 := addE_len acc (rowF nm high a c d (0 + ((i : Nat) : Int)))
      have h2 := hr (0 + ((i : Nat) : Int))
      have h3 : ∀ k ∈ keysE (addE acc (rowF nm high a c d (0 + ((i : Nat) : Int)))), isNm nm k := by
        intro k hk
        unfold addE at hk
        rw [copy_id hn] at hk
        rcases keys_fold _ _ k hk with hk | hk
        · exact h k hk
        · exact keys_row nm high a c d _ (xsOf high a c) [] (by simp [keysE]) k hk
      have h4 := ih _ h3 (sum_addE (fun _ => true) _ hn).2
      exact ⟨by omega, h4.2⟩
  have h := hl (List.range (d * high + 1 - 0).toNat) [] (by simp [keysE]) (by simp [keysE])
  have hb : (d * high + 1 - 0).toNat ≤ 9 := by
    have : high = 0 ∨ high = 1 ∨ high = 2 := by omega
    rcases this with e | e | e <;> subst e <;> omega
  refine ⟨?_, ?_⟩
  · have h1 := h.1
    rw [List.length_range, List.length_nil] at h1
    unfold bookF
    omega
  · intro p hp
    obtain ⟨j, hj, e⟩ := h.2 p.1 (List.mem_map_of_mem hp)
    rw [e]
    exact hnm j hj
end Mine
end

section
namespace Mine
def qDig (hs : List Int) : List Int := [6 * hs.getD 0 0 + 3 * hs.getD 1 0 + hs.getD 2 0, 3 * hs.getD 0 0 + hs.getD 1 0, hs.getD 0 0]
def clrM (ch : Nat) (k : Nat) : Bool := Nat.beq (Nat.land k ch) 0
def chkOne (ch : Nat) (a c d : Int) : Bool :=
  (match heightsF (ch : Int) a c d with
  | [h0, h1, h2, h3] => decide (0 ≤ h0) && decide (0 ≤ h1) && decide (0 ≤ h2) && decide (0 ≤ h3) && decide (1 ≤ h0 + h1 + h2 + h3) && decide (h0 + h1 + h2 + h3 ≤ 16)
    && decide ([bookC (clrM ch) 2 a c d, bookC (clrM ch) 1 a c d, bookC (clrM ch) 0 a c d] = [6 * h0 + 3 * h1 + h2, 3 * h0 + h1, h0])
    && decide ([bookC (clrM (7 - ch)) 2 a c d, bookC (clrM (7 - ch)) 1 a c d, bookC (clrM (7 - ch)) 0 a c d] = [6 * h3 + 3 * h2 + h1, 3 * h3 + h2, h3])
  | _ => false)
def chkA (a : Int) : Bool := ([1, 2, 3, 4] : List Int).all fun d => ([-1, 0, 1, 2, 3] : List Int).all fun c => ([0, 1, 2, 4] : List Nat).all fun ch => chkOne ch a c d
theorem chk1 : chkA 1 = true := by decide +kernel
theorem chk2 : chkA 2 = true := by decide +kernel
theorem chk3 : chkA 3 = true := by decide +kernel
theorem chk4 : chkA 4 = true := by decide +kernel
structure Fig (ch : Nat) (a c d h0 h1 h2 h3 : Int) : Prop where
  he : heightsF (ch : Int) a c d = [h0, h1, h2, h3]
  n0 : 0 ≤ h0
  n1 : 0 ≤ h1
  n2 : 0 ≤ h2
  n3 : 0 ≤ h3
  lo : 1 ≤ h0 + h1 + h2 + h3
  hi : h0 + h1 + h2 + h3 ≤ 16
  ea : [bookC (clrM ch) 2 a c d, bookC (clrM ch) 1 a c d, bookC (clrM ch) 0 a c d] = [6 * h0 + 3 * h1 + h2, 3 * h0 + h1, h0]
  eb : [bookC (clrM (7 - ch)) 2 a c d, bookC (clrM (7 - ch)) 1 a c d, bookC (clrM (7 - ch)) 0 a c d] = [6 * h3 + 3 * h2 + h1, 3 * h3 + h2, h3]
theorem fig_of {ch : Nat} {a c d : Int} (h : chkOne ch a c d = true) : ∃ h0 h1 h2 h3, Fig ch a c d h0 h1 h2 h3 := by
  unfold chkOne at h
  split at h
  · rename_i h0 h1 h2 h3 he
    simp only [Bool.and_eq_true, decide_eq_true_eq] at h
    obtain ⟨⟨⟨⟨⟨⟨⟨x0, x1⟩, x2⟩, x3⟩, x4⟩, x5⟩, x6⟩, x7⟩ := h
    exact ⟨h0, h1, h2, h3, he, x0, x1, x2, x3, x4, x5, x6, x7⟩
  · cases h
theorem chkA_of {a c d : Int} {ch : Nat} (h : chkA a = true) (hc : c ∈ ([-1, 0, 1, 2, 3] : List Int)) (hd : d ∈ ([1, 2, 3, 4] : List Int)) (hch : ch ∈ ([0, 1, 2, 4] : List Nat)) : chkOne ch a c d = true :=
  List.all_eq_true.mp (List.all_eq_true.mp (List.all_eq_true.mp h d hd) c hc) ch hch
/-- the finite check: heights against counts of points -/
theorem figs {a c d : Int} (b2 : 1 ≤ a ∧ a ≤ 4) (b3 : -1 ≤ c ∧ c ≤ 3) (b4 : 1 ≤ d ∧ d ≤ 4) {ch : Nat} (hch : ch ∈ ([0, 1, 2, 4] : List Nat)) : ∃ h0 h1 h2 h3, Fig ch a c d h0 h1 h2 h3 := by
  have hc : c ∈ ([-1, 0, 1, 2, 3] : List Int) := by
    have : c = -1 ∨ c = 0 ∨ c = 1 ∨ c = 2 ∨ c = 3 := by omega
    simpa using this
  have hd : d ∈ ([1, 2, 3, 4] : List Int) := by
    have : d = 1 ∨ d = 2 ∨ d = 3 ∨ d = 4 := by omega
    simpa using this
  have : a = 1 ∨ a = 2 ∨ a = 3 ∨ a = 4 := by omega
  rcases this with rfl | rfl | rfl | rfl
  · exact fig_of (chkA_of chk1 hc hd hch)
  · exact fig_of (chkA_of chk2 hc hd hch)
  · exact fig_of (chkA_of chk3 hc hd hch)
  · exact fig_of (chkA_of chk4 hc hd hch)
end Mine
end

section
namespace Mine
/-- the word of an edge set, at places p, p + s, p + 2 s -/
def mskN (p0 p1 p2 : Nat) (k : Nat) : Nat := k % 2 * 2 ^ p0 + k / 2 % 2 * 2 ^ p1 + k / 4 % 2 * 2 ^ p2
def nmP (p0 p1 p2 : Nat) (k : Nat) : Str := prettyF (mskN p0 p1 p2 k)
def chkP (p s ch : Nat) : Bool := (List.range 8).all fun k => decide (clearP (strkL (ch : Int) (fun k => [p, p + s, p + 2 * s].getD k 0) 3) (nmP p (p + s) (p + 2 * s) k) = clrM ch k)
def chkS (p : Nat) : Bool := ([1, 2, 3] : List Nat).all fun s => ([0, 1, 2, 4, 7, 6, 5, 3] : List Nat).all fun ch => chkP p s ch
theorem chs0 : chkS 0 = true := by decide +kernel
theorem chs1 : chkS 1 = true := by decide +kernel
theorem chs2 : chkS 2 = true := by decide +kernel
theorem chs3 : chkS 3 = true := by decide +kernel
theorem chkP_of {p s ch : Nat} (hp : p ≤ 3) (hs : 1 ≤ s ∧ s ≤ 3) (hch : ch ∈ ([0, 1, 2, 4, 7, 6, 5, 3] : List Nat)) : chkP p s ch = true := by
  have h : chkS p = true := by
    have : p = 0 ∨ p = 1 ∨ p = 2 ∨ p = 3 := by omega
    rcases this with rfl | rfl | rfl | rfl
    · exact chs0
    · exact chs1
    · exact chs2
    · exact chs3
  have hs : s ∈ ([1, 2, 3] : List Nat) := by
    have : s = 1 ∨ s = 2 ∨ s = 3 := by omega
    simpa using this
  exact List.all_eq_true.mp (List.all_eq_true.mp h s hs) ch hch
/-- which words bear a chosen edge's flag -/
theorem clear_nm {p s ch : Nat} (hp : p ≤ 3) (hs : 1 ≤ s ∧ s ≤ 3) (hch : ch ∈ ([0, 1, 2, 4, 7, 6, 5, 3] : List Nat)) (k : Nat) (hk : k < 8) :
    clearP (strkL (ch : Int) (fun k => [p, p + s, p + 2 * s].getD k 0) 3) (nmP p (p + s) (p + 2 * s) k) = clrM ch k :=
  of_decide_eq_true (List.all_eq_true.mp (chkP_of hp hs hch) k (List.mem_range.mpr hk))
def chkL (p s : Nat) : Bool := (List.range 8).all fun k => decide ((nmP p (p + s) (p + 2 * s) k).length ≤ 1000)
def chkLS (p : Nat) : Bool := ([1, 2, 3] : List Nat).all fun s => chkL p s
theorem chl0 : chkLS 0 = true := by decide +kernel
theorem chl1 : chkLS 1 = true := by decide +kernel
theorem chl2 : chkLS 2 = true := by decide +kernel
theorem chl3 : chkLS 3 = true := by decide +kernel
theorem len_nm {p s : Nat} (hp : p ≤ 3) (hs : 1 ≤ s ∧ s ≤ 3) (k : Nat) (hk : k < 8) : (nmP p (p + s) (p + 2 * s) k).length ≤ 1000 := by
  have h : chkLS p = true := by
    have : p = 0 ∨ p = 1 ∨ p = 2 ∨ p = 3 := by omega
    rcases this with rfl | rfl | rfl | rfl
    · exact chl0
    · exact chl1
    · exact chl2
    · exact chl3
  have hs : s ∈ ([1, 2, 3] : List Nat) := by
    have : s = 1 ∨ s = 2 ∨ s = 3 := by omega
    simpa using this
  exact of_decide_eq_true (List.all_eq_true.mp (List.all_eq_true.mp h s hs) k (List.mem_range.mpr hk))
/-- the rows of the three books -/
theorem rows_fig {p s ch : Nat} {a c d : Int} (hp : p ≤ 3) (hs : 1 ≤ s ∧ s ≤ 3) (hch : ch ∈ ([0, 1, 2, 4, 7, 6, 5, 3] : List Nat)) :
    rowsOf (strkL (ch : Int) (fun k => [p, p + s, p + 2 * s].getD k 0) 3) [bookF (nmP p (p + s) (p + 2 * s)) 0 a c d, bookF (nmP p (p + s) (p + 2 * s)) 1 a c d, bookF (nmP p (p + s) (p + 2 * s)) 2 a c d] =
      [bookC (clrM ch) 2 a c d, bookC (clrM ch) 1 a c d, bookC (clrM ch) 0 a c d] := by
  rw [rows_book, bookC_congr (clear_nm hp hs hch), bookC_congr (clear_nm hp hs hch), bookC_congr (clear_nm hp hs hch)]
theorem books_sizes {p s : Nat} {a c d : Int} (hp : p ≤ 3) (hs : 1 ≤ s ∧ s ≤ 3) (ha : 1 ≤ a ∧ a ≤ 4) (hc : -1 ≤ c ∧ c ≤ 3) (hd : 1 ≤ d ∧ d ≤ 4) :
    ∀ e ∈ [bookF (nmP p (p + s) (p + 2 * s)) 0 a c d, bookF (nmP p (p + s) (p + 2 * s)) 1 a c d, bookF (nmP p (p + s) (p + 2 * s)) 2 a c d], e.length ≤ 1000 ∧ ∀ p ∈ e, p.1.length ≤ 1000 := by
  intro e he
  rcases List.mem_cons.mp he with rfl | he
  · exact book_sizes _ 0 a c d (by decide) ha hc hd fun j hj => len_nm hp hs j hj
  rcases List.mem_cons.mp he with rfl | he
  · exact book_sizes _ 1 a c d (by decide) ha hc hd fun j hj => len_nm hp hs j hj
  rcases List.mem_cons.mp he with rfl | he
  · exact book_sizes _ 2 a c d (by decide) ha hc hd fun j hj => len_nm hp hs j hj
  cases he
theorem ch_8 {ch : Nat} (h : ch ∈ ([0, 1, 2, 4] : List Nat)) : ch ∈ ([0, 1, 2, 4, 7, 6, 5, 3] : List Nat) ∧ 7 - ch ∈ ([0, 1, 2, 4, 7, 6, 5, 3] : List Nat) := by
  have : ch = 0 ∨ ch = 1 ∨ ch = 2 ∨ ch = 4 := by simpa using h
  rcases this with rfl | rfl | rfl | rfl <;> decide
end Mine
end

section
namespace Mine
/-- three digits, the least first -/
theorem three {X q0 q1 q2 : Int} (hX : 0 < X) (a2 : 0 ≤ q2 ∧ q2 < X) : (q2 + X * (q1 + X * q0)) % X = q2 ∧ (q2 + X * (q1 + X * q0)) / X = q1 + X * q0 := by
  have h := (Int.ediv_emod_unique (a := q2 + X * (q1 + X * q0)) (q := q1 + X * q0) (r := q2) hX).mpr ⟨rfl, a2.1, a2.2⟩
  exact ⟨h.2, h.1⟩
theorem cnt {B w k : Nat} (hw : 1 ≤ w) (h1 : k * w < B) (h2 : B ≤ (k + 1) * w) : Int.fdiv ((B : Int) + (w : Int) - 1) (w : Int) = ((k + 1 : Nat) : Int) := by
  rw [Int.fdiv_eq_ediv_of_nonneg _ (by omega)]
  have e1 : ((k + 1) * w : Nat) = k * w + w := by rw [Nat.add_mul, Nat.one_mul]
  have h := (Int.ediv_emod_unique (a := (B : Int) + (w : Int) - 1) (q := ((k + 1 : Nat) : Int)) (r := (B : Int) - 1 - (k * w : Nat)) (b := (w : Int)) (by omega)).mpr ⟨?_, by omega, by omega⟩
  · exact h.1
  · have : (w : Int) * ((k + 1 : Nat) : Int) = ((k * w : Nat) : Int) + w := by push_cast; grind
    rw [this]; omega
theorem cnt0 {w : Nat} (hw : 1 ≤ w) : Int.fdiv (((0 : Nat) : Int) + (w : Int) - 1) (w : Int) = ((0 : Nat) : Int) := by
  rw [Int.fdiv_eq_ediv_of_nonneg _ (by omega)]
  exact Int.ediv_eq_zero_of_lt (by omega) (by omega)
theorem bits_gt {x : Int} {k : Nat} (h : 2 ^ k ≤ x) : k < Builtin.Int.intBits x := by
  rcases Nat.lt_or_ge k (Builtin.Int.intBits x) with z | z
  · exact z
  · have := lt_of_bits z; omega
/-- the digits of a number are its figures, the noughts at the top left out -/
theorem digs_trim {w : Nat} {q0 q1 q2 : Int} (hw : 1 ≤ w) (a0 : 0 ≤ q0 ∧ q0 < 2 ^ w) (a1 : 0 ≤ q1 ∧ q1 < 2 ^ w) (a2 : 0 ≤ q2 ∧ q2 < 2 ^ w) :
    (0 ≤ Int.fdiv ((Builtin.Int.intBits (q2 + 2 ^ w * (q1 + 2 ^ w * q0)) : Int) + (w : Int) - 1) (w : Int) ∧ Int.fdiv ((Builtin.Int.intBits (q2 + 2 ^ w * (q1 + 2 ^ w * q0)) : Int) + (w : Int) - 1) (w : Int) ≤ 6) ∧
    Builtin.Int.intBits (q2 + 2 ^ w * (q1 + 2 ^ w * q0)) ≤ 3 * w ∧
    digs w (Int.fdiv ((Builtin.Int.intBits (q2 + 2 ^ w * (q1 + 2 ^ w * q0)) : Int) + (w : Int) - 1) (w : Int)).toNat (q2 + 2 ^ w * (q1 + 2 ^ w * q0)) = trimZ [q2, q1, q0] := by
  have hX := p2pos w
  have e2 : (2 : Int) ^ (2 * w) = 2 ^ w * 2 ^ w := by rw [Nat.two_mul, Int.pow_add]
  have e3 : (2 : Int) ^ (3 * w) = 2 ^ w * (2 ^ w * 2 ^ w) := by rw [show 3 * w = w + 2 * w by omega, Int.pow_add, e2]
  obtain ⟨d1, d2⟩ := three (q0 := q0) (q1 := q1) hX a2
  obtain ⟨d3, d4⟩ := three (q0 := 0) (q1 := q0) hX a1
  rw [Int.mul_zero, Int.add_zero] at d3 d4
  have d5 : q0 % 2 ^ w = q0 := Int.emod_eq_of_lt a0.1 a0.2
  generalize hQ : q2 + 2 ^ w * (q1 + 2 ^ w * q0) = Q at *
  by_cases z0 : q0 = 0
  · subst z0
    rw [Int.mul_zero, Int.add_zero] at hQ
    by_cases z1 : q1 = 0
    · subst z1
      rw [Int.mul_zero, Int.add_zero] at hQ
      subst hQ
      by_cases z2 : q2 = 0
      · subst z2
        have b : Builtin.Int.intBits (0 : Int) = 0 := rfl
        rw [b, cnt0 hw]
        exact ⟨by omega, by omega, rfl⟩
      · have b1 := bits_gt (x := q2) (k := 0) (by rw [Int.pow_zero]; omega)
        have b2 := bits_of_lt a2.1 a2.2
        have c := cnt (B := Builtin.Int.intBits q2) (w := w) (k := 0) hw (by omega) (by omega)
        rw [c]
        refine ⟨by omega, by omega, ?_⟩
        show [q2 % 2 ^ w] = _
        rw [d1, show [q2, (0 : Int), 0] = [q2, 0] ++ [0] from rfl, trimZ_zero, show [q2, (0 : Int)] = [q2] ++ [0] from rfl, trimZ_zero, show [q2] = [] ++ [q2] from rfl, trimZ_last _ z2]
    · have hq : 1 ≤ q1 := by omega
      have h1 : 2 ^ w * 1 ≤ 2 ^ w * q1 := Int.mul_le_mul_of_nonneg_left hq (by omega)
      have h2 : 2 ^ w * (q1 + 1) ≤ 2 ^ w * 2 ^ w := Int.mul_le_mul_of_nonneg_left (by omega) (by omega)
      rw [Int.mul_one] at h1
      rw [Int.mul_add, Int.mul_one] at h2
      have b1 := bits_gt (x := Q) (k := w) (by omega)
      have b2 := bits_of_lt (x := Q) (k := 2 * w) (by omega) (by omega)
      have c := cnt (B := Builtin.Int.intBits Q) (w := w) (k := 1) hw (by omega) (by omega)
      rw [c]
      refine ⟨by omega, by omega, ?_⟩
      show [Q % 2 ^ w, Q / 2 ^ w % 2 ^ w] = _
      rw [d1, d2, d3, show [q2, q1, (0 : Int)] = [q2, q1] ++ [0] from rfl, trimZ_zero, show [q2, q1] = [q2] ++ [q1] from rfl, trimZ_last _ z1]
  · have hq : 1 ≤ q0 := by omega
    have h1 : 2 ^ w * 1 ≤ 2 ^ w * q0 := Int.mul_le_mul_of_nonneg_left hq (by omega)
    have h2 : 2 ^ w * (q0 + 1) ≤ 2 ^ w * 2 ^ w := Int.mul_le_mul_of_nonneg_left (by omega) (by omega)
    rw [Int.mul_one] at h1
    rw [Int.mul_add, Int.mul_one] at h2
    have h3 : 2 ^ w * 2 ^ w ≤ 2 ^ w * (q1 + 2 ^ w * q0) := Int.mul_le_mul_of_nonneg_left (by omega) (by omega)
    have h4 : 2 ^ w * (q1 + 2 ^ w * q0 + 1) ≤ 2 ^ w * (2 ^ w * 2 ^ w) := Int.mul_le_mul_of_nonneg_left (by omega) (by omega)
    rw [Int.mul_add _ (q1 + 2 ^ w * q0) 1, Int.mul_one] at h4
    have b1 := bits_gt (x := Q) (k := 2 * w) (by omega)
    have b2 := bits_of_lt (x := Q) (k := 3 * w) (by omega) (by omega)
    have c := cnt (B := Builtin.Int.intBits Q) (w := w) (k := 2) hw (by omega) (by omega)
    rw [c]
    refine ⟨by omega, by omega, ?_⟩
    show [Q % 2 ^ w, Q / 2 ^ w % 2 ^ w, Q / 2 ^ w / 2 ^ w % 2 ^ w] = _
    rw [d1, d2, d3, d4, d5, show [q2, q1, q0] = [q2, q1] ++ [q0] from rfl, trimZ_last _ z0]
theorem dv_fig {X h0 h1 h2 h3 : Int} (hX : 65536 ≤ X) (n0 : 0 ≤ h0) (n1 : 0 ≤ h1) (n2 : 0 ≤ h2) (n3 : 0 ≤ h3) (lo : 1 ≤ h0 + h1 + h2 + h3) (hi : h0 + h1 + h2 + h3 ≤ 16) {N U Q : Int} (hU : U = (X - 1) * ((X - 1) * (X - 1)))
    (hN : N = X * (X * (h3 + X * (h2 + X * (h1 + X * h0))))) (hQ : Q = (6 * h0 + 3 * h1 + h2) + X * ((3 * h0 + h1) + X * h0)) :
    1 ≤ N - Q * U ∧ N - Q * U < U ∧ 0 < U ∧ U < X * (X * X) ∧ X * (X * X) ≤ 2 * U ∧ 0 < N ∧ N < X * (X * X) * (X * (X * X)) ∧ N < X * (X * X) * U := by
  have e : N - Q * U = (h3 + 10 * h0 + 6 * h1 + 3 * h2) * (X * X) - (15 * h0 + 8 * h1 + 3 * h2) * X + (6 * h0 + 3 * h1 + h2) := by subst hU hN hQ; grind
  have eU : U = X * (X * X) - 3 * (X * X) + 3 * X - 1 := by subst hU; grind
  have s1 : 65536 * X ≤ X * X := Int.mul_le_mul_of_nonneg_right hX (by omega)
  have s2 : 65536 * (X * X) ≤ X * (X * X) := Int.mul_le_mul_of_nonneg_right hX (by omega)
  have b1 : 1 * (X * X) ≤ (h3 + 10 * h0 + 6 * h1 + 3 * h2) * (X * X) := Int.mul_le_mul_of_nonneg_right (by omega) (by omega)
  have b2 : (h3 + 10 * h0 + 6 * h1 + 3 * h2) * (X * X) ≤ 160 * (X * X) := Int.mul_le_mul_of_nonneg_right (by omega) (by omega)
  have b3 : 0 * X ≤ (15 * h0 + 8 * h1 + 3 * h2) * X := Int.mul_le_mul_of_nonneg_right (by omega) (by omega)
  have b4 : (15 * h0 + 8 * h1 + 3 * h2) * X ≤ 240 * X := Int.mul_le_mul_of_nonneg_right (by omega) (by omega)
  have r1 : 1 ≤ N - Q * U := by omega
  have r2 : N - Q * U < U := by omega
  have u1 : 0 < U := by omega
  have q0 : 0 ≤ X * h0 := Int.mul_nonneg (by omega) n0
  have q1 : 0 ≤ X * ((3 * h0 + h1) + X * h0) := Int.mul_nonneg (by omega) (by omega)
  have c1 : 0 ≤ Q * U := Int.mul_nonneg (by omega) (by omega)
  have m0 : X * h0 ≤ X * 16 := Int.mul_le_mul_of_nonneg_left (by omega) (by omega)
  have m1 : X * ((3 * h0 + h1) + X * h0) ≤ X * (48 + 16 * X) := Int.mul_le_mul_of_nonneg_left (by omega) (by omega)
  have m2 : X * (48 + 16 * X) = 48 * X + 16 * (X * X) := by grind
  have m3 : Q + 1 ≤ X * (X * X) - 1 := by omega
  have m4 : (Q + 1) * U ≤ (X * (X * X) - 1) * U := Int.mul_le_mul_of_nonneg_right m3 (by omega)
  have m5 : (Q + 1) * U = Q * U + U := by grind
  have m6 : (X * (X * X) - 1) * U = X * (X * X) * U - U := by grind
  have m7 : X * (X * X) * U ≤ X * (X * X) * (X * (X * X)) := Int.mul_le_mul_of_nonneg_left (by omega) (by omega)
  exact ⟨r1, r2, u1, by omega, by omega, by omega, by omega, by omega⟩
theorem D2_six (w : Nat) (a b c d e f : Int) : D2 w [a, b, c, d, e, f] = a + 2 ^ w * (b + 2 ^ w * (c + 2 ^ w * (d + 2 ^ w * (e + 2 ^ w * f)))) := by
  simp only [D2, Int.mul_zero, Int.add_zero]
theorem two_w {w : Nat} (hw : 16 ≤ w) : (65536 : Int) ≤ 2 ^ w := p2le (a := 16) hw
theorem p2three (w : Nat) : (2 : Int) ^ (3 * w) = 2 ^ w * (2 ^ w * 2 ^ w) := by
  rw [show 3 * w = w + (w + w) by omega, Int.pow_add, Int.pow_add]
theorem cube (X : Int) : (X - 1) ^ 3 = (X - 1) * ((X - 1) * (X - 1)) := by grind
/-- the divisor -/
theorem under_fig {w : Nat} (hw : 16 ≤ w ∧ w ≤ 2006) {U : Int} (hU : U = (2 ^ w - 1) ^ 3) : 0 < U ∧ 2 ^ (3 * w - 1) ≤ U ∧ U < 2 ^ (3 * w) ∧ Builtin.Int.intBits U = 3 * w := by
  have hX := two_w hw.1
  obtain ⟨_, _, u1, u2, u3, _⟩ := dv_fig (h0 := 1) (h1 := 0) (h2 := 0) (h3 := 0) (Q := _) hX (by omega) (by omega) (by omega) (by omega) (by omega) (by omega) (hU.trans (cube _)) rfl rfl
  rw [← p2three] at u2 u3
  have e : (2 : Int) ^ (3 * w) = 2 * 2 ^ (3 * w - 1) := by
    have : 3 * w = 1 + (3 * w - 1) := by omega
    rw [this, Int.pow_add, show 1 + (3 * w - 1) - 1 = 3 * w - 1 by omega]; rfl
  have b1 := bits_of_lt (x := U) (k := 3 * w) (by omega) u2
  have b2 := bits_gt (x := U) (k := 3 * w - 1) (by omega)
  exact ⟨u1, by omega, u2, by omega⟩
theorem bits_neg (x : Int) : Builtin.Int.intBits (-x) = Builtin.Int.intBits x := by
  unfold Builtin.Int.intBits
  rw [Int.natAbs_neg]
  by_cases h : x = 0
  · subst h; rfl
  · have h1 : (x == 0) = false := by simpa using h
    have h2 : (-x == 0) = false := by simpa using h
    rw [h1, h2]
/-- the figures of a turn -/
structure TurnF (w : Nat) (U N Q q0 q1 q2 : Int) : Prop where
  n0 : 0 ≤ N
  ub : N < 2 ^ (3 * w) * U
  nb : Builtin.Int.intBits N ≤ 20000
  qe : N.fdiv U = Q
  re : N.fmod U = N - Q * U
  qn : 0 ≤ Q
  qb : Builtin.Int.intBits Q ≤ 20000
  qc : 0 ≤ Int.fdiv ((Builtin.Int.intBits Q : Int) + (w : Int) - 1) (w : Int) ∧ Int.fdiv ((Builtin.Int.intBits Q : Int) + (w : Int) - 1) (w : Int) ≤ 6
  qd : digs w (Int.fdiv ((Builtin.Int.intBits Q : Int) + (w : Int) - 1) (w : Int)).toNat Q = trimZ [q2, q1, q0]
  m1 : -N < 0
  m2 : 0 < Builtin.bitNot (-N)
  m3 : Builtin.Int.intBits (Builtin.bitNot (-N)) ≤ 20000
  m4 : Int.fdiv (Builtin.Int.intBits (Builtin.bitNot (-N)) + Builtin.Int.intBits (-(-U)) - 1) (Builtin.Int.intBits (-(-U))) = 1 ∨ Int.fdiv (Builtin.Int.intBits (Builtin.bitNot (-N)) + Builtin.Int.intBits (-(-U)) - 1) (Builtin.Int.intBits (-(-U))) = 2
  m5 : Builtin.bitNot ((Builtin.bitNot (-N)).fdiv (-(-U))) = -Q - 1
  bb : Builtin.Int.intBits (-Q - 1) ≤ 20000
  m6 : -(-(-U) + Builtin.bitNot ((Builtin.bitNot (-N)).fmod (-(-U)))) = N + (-Q - 1) * U
theorem turn_fig {w : Nat} (hw : 16 ≤ w ∧ w ≤ 2006) {U h0 h1 h2 h3 : Int} (hU : U = (2 ^ w - 1) ^ 3) (n0 : 0 ≤ h0) (n1 : 0 ≤ h1) (n2 : 0 ≤ h2) (n3 : 0 ≤ h3) (lo : 1 ≤ h0 + h1 + h2 + h3) (hi : h0 + h1 + h2 + h3 ≤ 16) :
    ∃ Q, TurnF w U (D2 w [0, 0, h3, h2, h1, h0]) Q h0 (3 * h0 + h1) (6 * h0 + 3 * h1 + h2) := by
  have hX := two_w hw.1
  obtain ⟨_, _, _, u4⟩ := under_fig hw hU
  have hN : D2 w [0, 0, h3, h2, h1, h0] = 2 ^ w * (2 ^ w * (h3 + 2 ^ w * (h2 + 2 ^ w * (h1 + 2 ^ w * h0)))) := by rw [D2_six]; simp only [Int.zero_add]
  generalize D2 w [0, 0, h3, h2, h1, h0] = N at *
  obtain ⟨r1, r2, u1, u2, u3, N1, N2, N3⟩ := dv_fig hX n0 n1 n2 n3 lo hi (hU.trans (cube _)) hN rfl
  obtain ⟨t1, t2, t3⟩ := digs_trim (w := w) (q0 := h0) (q1 := 3 * h0 + h1) (q2 := 6 * h0 + 3 * h1 + h2) (by omega) ⟨by omega, by omega⟩ ⟨by omega, by omega⟩ ⟨by omega, by omega⟩
  have q0 : 0 ≤ 2 ^ w * h0 := Int.mul_nonneg (by omega) n0
  have q1 : 0 ≤ 2 ^ w * ((3 * h0 + h1) + 2 ^ w * h0) := Int.mul_nonneg (by omega) (by omega)
  generalize hQ : (6 * h0 + 3 * h1 + h2) + 2 ^ w * ((3 * h0 + h1) + 2 ^ w * h0) = Q at *
  rw [← p2three] at N2 N3 u2
  have N4 : N < 2 ^ (6 * w) := by rw [show 6 * w = 3 * w + 3 * w by omega, Int.pow_add]; exact N2
  have k1 := (Int.ediv_emod_unique (a := N) (q := Q) (r := N - Q * U) u1).mpr ⟨by grind, by omega, r2⟩
  have k2 := (Int.ediv_emod_unique (a := N - 1) (q := Q) (r := N - Q * U - 1) u1).mpr ⟨by grind, by omega, by omega⟩
  have b1 := bits_of_lt (x := N) (k := 6 * w) (by omega) N4
  have en : Builtin.bitNot (-N) = N - 1 := by rw [kbt_not]; omega
  have b2 := bits_of_lt (x := N - 1) (k := 6 * w) (by omega) (by omega)
  have N5 : 1 < N := by
    have s1 : 0 ≤ Q * U := Int.mul_nonneg (by omega) (by omega)
    have s2 : 65536 * 1 ≤ N := by
      rw [hN]
      have z1 : 0 ≤ 2 ^ w * h0 := q0
      have z2 : 0 ≤ 2 ^ w * (h1 + 2 ^ w * h0) := Int.mul_nonneg (by omega) (by omega)
      have z3 : 0 ≤ 2 ^ w * (h2 + 2 ^ w * (h1 + 2 ^ w * h0)) := Int.mul_nonneg (by omega) (by omega)
      have z4 : 1 ≤ h3 + 2 ^ w * (h2 + 2 ^ w * (h1 + 2 ^ w * h0)) := by
        have y0 : 1 * h0 ≤ 2 ^ w * h0 := Int.mul_le_mul_of_nonneg_right (by omega) (by omega)
        have y1 : 1 * (h1 + 2 ^ w * h0) ≤ 2 ^ w * (h1 + 2 ^ w * h0) := Int.mul_le_mul_of_nonneg_right (by omega) (by omega)
        have y2 : 1 * (h2 + 2 ^ w * (h1 + 2 ^ w * h0)) ≤ 2 ^ w * (h2 + 2 ^ w * (h1 + 2 ^ w * h0)) := Int.mul_le_mul_of_nonneg_right (by omega) (by omega)
        omega
      have y3 : 1 * 1 ≤ 2 ^ w * (h3 + 2 ^ w * (h2 + 2 ^ w * (h1 + 2 ^ w * h0))) := Int.mul_le_mul (by omega) z4 (by omega) (by omega)
      exact Int.mul_le_mul hX y3 (by omega) (by omega)
    omega
  have b3 := bits_gt (x := N - 1) (k := 0) (by rw [Int.pow_zero]; omega)
  refine ⟨Q, by omega, N3, by omega, by rw [Int.fdiv_eq_ediv_of_nonneg _ (by omega)]; exact k1.1, by rw [Int.fmod_eq_emod_of_nonneg _ (by omega)]; exact k1.2, by omega, by omega, t1, t3, by omega, by rw [en]; omega, by rw [en]; omega, ?_, ?_, ?_, ?_⟩
  · rw [en, Int.neg_neg, u4]
    rcases Nat.lt_or_ge (3 * w) (Builtin.Int.intBits (N - 1)) with z | z
    · right
      exact cnt (B := Builtin.Int.intBits (N - 1)) (w := 3 * w) (k := 1) (by omega) (by omega) (by omega)
    · left
      exact cnt (B := Builtin.Int.intBits (N - 1)) (w := 3 * w) (k := 0) (by omega) (by omega) (by omega)
  · rw [en, Int.neg_neg, Int.fdiv_eq_ediv_of_nonneg _ (by omega), k2.1, kbt_not]
  · rw [show -Q - 1 = -(Q + 1) by omega, bits_neg]
    have h1 := lt_of_bits (x := Q) (k := 3 * w) t2
    have h2 : (2 : Int) ^ (3 * w + 1) = 2 ^ (3 * w) * 2 := by rw [Int.pow_add]; rfl
    have h3 := p2pos (3 * w)
    have h4 := bits_of_lt (x := Q + 1) (k := 3 * w + 1) (by omega) (by omega)
    omega
  · rw [en, Int.neg_neg, Int.fmod_eq_emod_of_nonneg _ (by omega), k2.2, kbt_not]
    grind
theorem figs_lt {w : Nat} (hw : 16 ≤ w ∧ w ≤ 2006) {h0 h1 h2 h3 : Int} (n0 : 0 ≤ h0) (n1 : 0 ≤ h1) (n2 : 0 ≤ h2) (n3 : 0 ≤ h3) (hi : h0 + h1 + h2 + h3 ≤ 16) : ∀ d ∈ [0, 0, h3, h2, h1, h0], 0 ≤ d ∧ d < 2 ^ w := by
  have hX := two_w hw.1
  intro d hd
  have : d = 0 ∨ d = h3 ∨ d = h2 ∨ d = h1 ∨ d = h0 := by simpa using hd
  omega
end Mine
end
end

section

section
-- macros2
namespace Mine
local macro_rules | `(tactic| walk_at "call ref") => `(tactic| (k_here; refine Mine.Halt.out ?_))
local macro_rules | `(tactic| bits_by_make) => `(tactic| (with_reducible assumption))
theorem bitsLow {b : Int} (hb : 0 < b) : 2 ^ (Int.toNat (Builtin.Int.intBits b : Int) - 1) ≤ b ∧ b < 2 ^ Int.toNat (Builtin.Int.intBits b : Int) := by
  rw [Int.toNat_natCast]
  refine ⟨?_, lt_of_bits (Nat.le_refl _)⟩
  rcases Int.lt_or_le b (2 ^ (Builtin.Int.intBits b - 1)) with h | h
  · have h1 := bits_of_lt (Int.le_of_lt hb) h
    have h2 : Builtin.Int.intBits b = 0 := by omega
    have h3 := lt_of_bits (Nat.le_of_eq h2)
    simp at h3
    omega
  · exact h
theorem posA {a b : Int} (ha : 0 < a) (hb : 0 < b) (c4 : 2 ≤ (Builtin.Int.intBits b : Int) ∧ (Builtin.Int.intBits b : Int) ≤ 7000) (pk : Int.fdiv (Builtin.Int.intBits a + Builtin.Int.intBits b - 1) (Builtin.Int.intBits b) = 1) :
    let N : Int := 2 ^ Int.toNat (Builtin.Int.intBits b : Int); let x := 0 * N + a % N
    0 ≤ x ∧ x < N * b ∧ Builtin.Int.intBits x ≤ 20000 ∧ x = a ∧ 0 ≤ x.fdiv b ∧ x.fdiv b < N := by
  intro N x
  obtain ⟨_, ⟨_, h1⟩, h2⟩ := fdm (x := Builtin.Int.intBits a + Builtin.Int.intBits b - 1) (b := Builtin.Int.intBits b) (by omega) (by omega)
  rw [pk] at h2
  have h3 : Builtin.Int.intBits a ≤ Builtin.Int.intBits b := by omega
  have h4 : a < N := lt_of_bits h3
  have hN : 0 < N := p2pos _
  have e : x = a := by
    show 0 * N + a % N = a
    rw [Int.emod_eq_of_lt (by omega) h4]; omega
  obtain ⟨q0, _, qr⟩ := fdm (x := a) (b := b) (by omega) hb
  have h5 : N * 1 ≤ N * b := Int.mul_le_mul_of_nonneg_left (by omega) (by omega)
  have h6 : a.fdiv b ≤ a := by
    have : a.fdiv b * 1 ≤ a.fdiv b * b := Int.mul_le_mul_of_nonneg_left (by omega) q0
    omega
  rw [e]
  exact ⟨by omega, by omega, by omega, rfl, q0, by omega⟩
theorem posB {a b : Int} (ha : 0 < a) (hb : 0 < b) (c4 : 2 ≤ (Builtin.Int.intBits b : Int) ∧ (Builtin.Int.intBits b : Int) ≤ 7000) (pk : Int.fdiv (Builtin.Int.intBits a + Builtin.Int.intBits b - 1) (Builtin.Int.intBits b) = 2) :
    let N : Int := 2 ^ Int.toNat (Builtin.Int.intBits b : Int); let x := 0 * N + a / N % N; let y := x.fmod b * N + a % N
    (0 ≤ x ∧ x < N * b ∧ Builtin.Int.intBits x ≤ 20000 ∧ 0 ≤ x.fdiv b ∧ x.fdiv b < N) ∧ (0 ≤ y ∧ y < N * b ∧ Builtin.Int.intBits y ≤ 20000 ∧ 0 ≤ y.fdiv b ∧ y.fdiv b < N) ∧
    Builtin.Int.intBits (x.fmod b) ≤ 20000 ∧ (y.fdiv b + N * (x.fdiv b + N * 0)) * b + y.fmod b = a ∧ 0 ≤ y.fmod b ∧ y.fmod b < b := by
  intro N x y
  obtain ⟨_, ⟨_, h1⟩, h2⟩ := fdm (x := Builtin.Int.intBits a + Builtin.Int.intBits b - 1) (b := Builtin.Int.intBits b) (by omega) (by omega)
  rw [pk] at h2
  have h3 : Builtin.Int.intBits a ≤ Builtin.Int.intBits b + Builtin.Int.intBits b := by omega
  have h4 : a < N * N := by have := lt_of_bits h3; rw [Int.pow_add] at this; exact this
  have hN : 0 < N := p2pos _
  have hbN : b < N := (bitsLow hb).2
  refine Mine.lett fun gP gK => ?_
  obtain ⟨_, d2, d3, d4, d5⟩ := divs (Int.le_of_lt ha) hN
  refine gK ?_
  clear gK gP
  have h5 : a / N < N := lt_of_mul hN (by omega)
  have e : x = a / N := by
    show 0 * N + a / N % N = a / N
    rw [Int.emod_eq_of_lt d2 h5]; omega
  obtain ⟨q0, ⟨r0, r1⟩, qr⟩ := fdm (x := a / N) (b := b) d2 hb
  have g5 : N * 1 ≤ N * b := Int.mul_le_mul_of_nonneg_left (by omega) (by omega)
  have g6 : (a / N).fdiv b ≤ a / N := by
    have : (a / N).fdiv b * 1 ≤ (a / N).fdiv b * b := Int.mul_le_mul_of_nonneg_left (by omega) q0
    omega
  have hy0 : 0 ≤ y := by
    show 0 ≤ x.fmod b * N + a % N
    rw [e]; have := Int.mul_nonneg r0 (Int.le_of_lt hN); omega
  have hy1 : y < N * b := by
    show x.fmod b * N + a % N < N * b
    rw [e]
    have : ((a / N).fmod b + 1) * N ≤ b * N := Int.mul_le_mul_of_nonneg_right (by omega) (by omega)
    rw [Int.add_mul, Int.mul_comm b N] at this
    omega
  refine Mine.lett fun gP gK => ?_
  obtain ⟨s0, ⟨t0, t1⟩, st⟩ := fdm hy0 hb
  refine gK ?_
  clear gK gP
  have hyq : y.fdiv b < N := lt_of_mul hb (by omega)
  have hyN : y < 2 ^ (Builtin.Int.intBits b + Builtin.Int.intBits b) := by
    rw [Int.pow_add]
    have : N * b ≤ N * N := Int.mul_le_mul_of_nonneg_left (by omega) (by omega)
    exact Int.lt_of_lt_of_le hy1 this
  have hxN : x < 2 ^ (Builtin.Int.intBits b) := by rw [e]; exact h5
  refine ⟨⟨by omega, by omega, Nat.le_trans (bits_of_lt (by omega) hxN) (by omega), by rw [e]; exact q0, by rw [e]; omega⟩, ⟨hy0, hy1, Nat.le_trans (bits_of_lt hy0 hyN) (by omega), s0, hyq⟩, ?_, ?_, t0, t1⟩
  · rw [e]; exact Nat.le_trans (bits_of_lt r0 (show (a / N).fmod b < 2 ^ Builtin.Int.intBits b from Int.lt_trans r1 hbN)) (by omega)
  · have e2 : y = (a / N).fmod b * N + a % N := by show x.fmod b * N + a % N = _; rw [e]
    rw [e, Int.add_mul]
    have e3 : N * ((a / N).fdiv b + N * 0) * b = ((a / N).fdiv b * b) * N := by grind
    have e4 : ((a / N).fdiv b * b + (a / N).fmod b) * N = a / N * N := by rw [qr]
    rw [Int.add_mul] at e4
    omega
theorem i2dA_ok {w : World} {a n : Int} {t1 t2 : Tok} {c' : Addr} {oc : Obj} {qs : Array Value} {tq : Tok} (hoc : oc.data = .fields qs) (hqs : qs[1]? = some (.str qualI tq)) (hn : 1 ≤ n ∧ n ≤ 7000) (ha : 0 ≤ a) (hb : Builtin.Int.intBits a ≤ 20000) (hk : Int.fdiv (Builtin.Int.intBits a + n - 1) n = 1) :
    Spec w 35 [.int a t1, .int n t2] 9 (fun h₀ L m news s Q => ((30, tabI c') ∈ news ∧ (c', oc) ∈ news) ∧ ∀ l x h' tk, Fr h₀ L h' m → News h₀ L h' ((l, lst [.int (a % 2 ^ n.toNat) x]) :: news) → (∀ p ∈ news, p.1 ≠ l) → Q (.ref l) { s with heap := h', toks := tk }) :=
  fun B F X N T e hd hu ret => i2d_ok hoc hqs hn ha hb (by rw [hk]; omega) B F X N T e hd hu ⟨ret.1, fun l ys h' tk F' N' l' hy => by
    rw [hk] at hy
    have hy : IntsAre ys [a % 2 ^ n.toNat] := hy
    cases hy with | cons x i hz => cases hz; exact ret.2 _ _ _ _ F' N' l'⟩
theorem i2dB_ok {w : World} {a n : Int} {t1 t2 : Tok} {c' : Addr} {oc : Obj} {qs : Array Value} {tq : Tok} (hoc : oc.data = .fields qs) (hqs : qs[1]? = some (.str qualI tq)) (hn : 1 ≤ n ∧ n ≤ 7000) (ha : 0 ≤ a) (hb : Builtin.Int.intBits a ≤ 20000) (hk : Int.fdiv (Builtin.Int.intBits a + n - 1) n = 2) :
    Spec w 35 [.int a t1, .int n t2] 9 (fun h₀ L m news s Q => ((30, tabI c') ∈ news ∧ (c', oc) ∈ news) ∧ ∀ l x y h' tk, Fr h₀ L h' m → News h₀ L h' ((l, lst [.int (a % 2 ^ n.toNat) x, .int (a / 2 ^ n.toNat % 2 ^ n.toNat) y]) :: news) → (∀ p ∈ news, p.1 ≠ l) → Q (.ref l) { s with heap := h', toks := tk }) :=
  fun B F X N T e hd hu ret => i2d_ok hoc hqs hn ha hb (by rw [hk]; omega) B F X N T e hd hu ⟨ret.1, fun l ys h' tk F' N' l' hy => by
    rw [hk] at hy
    have hy : IntsAre ys [a % 2 ^ n.toNat, a / 2 ^ n.toNat % 2 ^ n.toNat] := hy
    cases hy with | cons x i hz => cases hz with | cons y j hw => cases hw; exact ret.2 _ _ _ _ _ F' N' l'⟩
local macro_rules | `(tactic| walk_at "call ref") => `(tactic| (k_here; refine Mine.Halt.out ?_))
/-- _divmod_pos, where there is one digit -/
theorem dmpA_ok {w : World} {a b : Int} {t1 t2 : Tok} {c1 c2 : Addr} {o1 o2 : Obj} {q1 q2 : Array Value} {u1 u2 : Tok} (p1 : o1.data = .fields q1) (p2 : q1[1]? = some (.str qualD u1)) (p3 : o2.data = .fields q2) (p4 : q2[1]? = some (.str qualI u2)) (hne : @Ne Nat c1 c2 ∧ @Ne Nat c1 37 ∧ @Ne Nat c2 37 ∧ @Ne Nat c1 30 ∧ @Ne Nat c2 30)
    (ha : 0 < a) (hb : 0 < b) (c3 : Builtin.Int.intBits a ≤ 20000) (c4 : 2 ≤ (Builtin.Int.intBits b : Int) ∧ (Builtin.Int.intBits b : Int) ≤ 7000) (pk : Int.fdiv (Builtin.Int.intBits a + Builtin.Int.intBits b - 1) (Builtin.Int.intBits b) = 1) :
    Spec w 49 [.int a t1, .int b t2] 20 (fun h₀ L m news s Q => ((37, tabD c1) ∈ news ∧ (c1, o1) ∈ news ∧ (30, tabI c2) ∈ news ∧ (c2, o2) ∈ news) ∧ ∀ l u1 u2 h' tk, Fr h₀ L h' m → News h₀ L h' ((l, tup2 (a.fdiv b) (a.fmod b) u1 u2) :: news) → (∀ p ∈ news, p.1 ≠ l) → Q (.ref l) { s with heap := h', toks := tk }) := by
  w_top off
  intro p loose mean mg mb news dp un gd cn cs a0 ccd cl outer A₀ base h₀ L m s Q E B F X N T hk hd hu ret
  obtain ⟨hmem, ret⟩ := ret
  revert X
  k_fill
  intro X
  have hs : ∀ q ∈ ([(37, tabD c1), (c1, o1), (30, tabI c2), (c2, o2)] : List (Addr × Obj)), q ∈ news := consOf hmem.1 (consOf hmem.2.1 (twoOf hmem.2.2.1 hmem.2.2.2))
  refine wpAny_call ?_
  refine' enterS ([(37, tabD c1), (c1, o1), (30, tabI c2), (c2, o2)]) B F X N T hs ?kA ?kF ?kK ?k6 ?k7 ?k8 ?k9 ?kB ?kgo ?c2 ?c3 ?c4 ?c5
  case kA => exact rfl
  case kF => exact rfl
  case kK => exact hk
  case k6 => k_is
  case k7 => k_is
  case k8 => exact Nat.lt_of_le_of_lt (Nat.le_add_right _ _) hd
  case k9 => exact BindsTo.of_eq rfl
  case c5 => decide
  case kB => exact locs rfl
  case c2 => exact rfl
  case c3 => exact rfl
  case c4 => exact rfl
  case' kgo => intro L1 h1 tk1 F1 N1 B1 X1 T1 FG
  clear B X T hs
  dsimp only
  try k_fold
  refine Mine.letQE ?_
  intro Q1 hQ1
  obtain ⟨v1, v2⟩ := bitsLow hb
  have P := posA ha hb c4 pk
  dsimp only at P
  refine Mine.lett fun gP gK => ?_
  obtain ⟨x1, x2, x3, x4, x5, x6⟩ := P
  refine gK ?_
  clear gK gP
  have c5 : Builtin.Int.intBits b ≤ 8000 := by omega
  have hns : ∀ d ∈ [(0 * 2 ^ Int.toNat (Builtin.Int.intBits b : Int) + a % 2 ^ Int.toNat (Builtin.Int.intBits b : Int)).fdiv b], 0 ≤ d ∧ d < 2 ^ Int.toNat (Builtin.Int.intBits b : Int) := by
    intro d hd
    rw [List.mem_singleton] at hd
    subst hd
    exact ⟨x5, x6⟩
  have e1 : D2 (Int.toNat (Builtin.Int.intBits b : Int)) [(0 * 2 ^ Int.toNat (Builtin.Int.intBits b : Int) + a % 2 ^ Int.toNat (Builtin.Int.intBits b : Int)).fdiv b] = a.fdiv b := by
    rw [x4, D2, D2]; omega
  have e2 := congrArg (Int.fmod · b) x4
  rw [← e1, ← e2] at ret
  k_steps
  unfold Halt
  refine' wpAny_mono (Mine.i2dA_ok ?y1a1 ?y1a2 ?y1a3 ?y1a4 ?y1a5 ?y1a6 ?y1B ?y1F ?y1X ?y1N ?y1T ?y1hk ?y1hd ?y1hu ⟨⟨?y1m1, ?y1m2⟩, ?_⟩) (fun _ _ z => z) (fun _ _ z => z)
  case y1B => k_asm
  case y1F => k_asm
  case y1X => k_asm
  case y1N => k_asm
  case y1T => k_asm
  case y1hk => exact rfl
  case y1hd => first | exact Mine.roomD hd rfl | (dsimp only [ktrTop]; omega)
  case y1hu => first | exact Mine.roomU hu rfl | (dsimp only [ktrTop]; omega)
  case y1m1 => k_mem
  case y1m2 => k_mem
  case y1a1 => with_reducible assumption
  case y1a2 => with_reducible assumption
  case y1a3 => omega
  case y1a4 => omega
  case y1a5 => assumption
  case y1a6 => assumption
  intro _ _ _ _ _ _ l1'
  replace l1' := Mine.allNe_of l1'
  dsimp only [Mine.AllNe] at l1'
  (try k_sweep)
  (try dsimp only)
  k_steps
  unfold Halt
  refine' wpAny_mono (Mine.div21_ok ?y2a1 ?y2a2 ?y2a3 ?y2a4 ?y2a5 ?y2a6 ?y2a7 ?y2B ?y2F ?y2X ?y2N ?y2T ?y2hk ?y2hd ?y2hu ?_) (fun _ _ z => z) (fun _ _ z => z)
  case y2B => k_asm
  case y2F => k_asm
  case y2X => k_asm
  case y2N => k_asm
  case y2T => k_asm
  case y2hk => exact rfl
  case y2hd => first | exact Mine.roomD hd rfl | (dsimp only [ktrTop]; omega)
  case y2hu => first | exact Mine.roomU hu rfl | (dsimp only [ktrTop]; omega)
  case y2a1 => assumption
  case y2a2 => assumption
  case y2a3 => assumption
  case y2a4 => assumption
  case y2a5 => assumption
  case y2a6 => assumption
  case y2a7 => assumption
  intro _ _ _ _ _ _ _ l1'
  replace l1' := Mine.allNe_of l1'
  dsimp only [Mine.AllNe] at l1'
  (try k_sweep)
  (try dsimp only)
  k_steps
  unfold Halt
  refine' wpAny_mono (Mine.d2i_ok ?y3a1 ?y3a2 ?y3a3 ?y3a4 ?y3a5 ?y3a6 ?y3a7 ?y3B ?y3F ?y3X ?y3N ?y3T ?y3hk ?y3hd ?y3hu ⟨⟨?y3m1, ?y3m2, ?y3m3⟩, ?_⟩) (fun _ _ z => z) (fun _ _ z => z)
  case y3B => k_asm
  case y3F => k_asm
  case y3X => k_asm
  case y3N => k_asm
  case y3T => k_asm
  case y3hk => exact rfl
  case y3hd => first | exact Mine.roomD hd rfl | (dsimp only [ktrTop]; omega)
  case y3hu => first | exact Mine.roomU hu rfl | (dsimp only [ktrTop]; omega)
  case y3m1 => k_mem
  case y3m2 => k_mem
  case y3m3 => k_mem
  case y3a2 => with_reducible assumption
  case y3a3 => with_reducible assumption
  case y3a5 => first | exact .cons _ _ .nil | exact .cons _ _ (.cons _ _ .nil)
  case y3a1 => omega
  case y3a4 => omega
  case y3a6 => exact ⟨by simp, by simp⟩
  case y3a7 => assumption
  intro _ _ _ _ _
  (try k_sweep)
  (try dsimp only)
  k_steps
  refine hQ1 _ _ ?_
  exact ret _ _ _ _ _ (backF FG (by assumption)) (backN1 F N (by assumption) (by assumption) (consOf hmem.1 (consOf hmem.2.1 (twoOf hmem.2.2.1 hmem.2.2.2))) (consOf (by k_mem) (consOf (by k_mem) (twoOf (by k_mem) (by k_mem)))) (.head _) (consOf (by k_ne) (consOf (by k_ne) (twoOf (by k_ne) (by k_ne))))) (backNe N (by assumption) (.head _) (consOf (by k_ne) (consOf (by k_ne) (twoOf (by k_ne) (by k_ne)))))
/-- _divmod_pos, where there are two digits -/
theorem dmpB_ok {w : World} {a b : Int} {t1 t2 : Tok} {c1 c2 : Addr} {o1 o2 : Obj} {q1 q2 : Array Value} {u1 u2 : Tok} (p1 : o1.data = .fields q1) (p2 : q1[1]? = some (.str qualD u1)) (p3 : o2.data = .fields q2) (p4 : q2[1]? = some (.str qualI u2)) (hne : @Ne Nat c1 c2 ∧ @Ne Nat c1 37 ∧ @Ne Nat c2 37 ∧ @Ne Nat c1 30 ∧ @Ne Nat c2 30)
    (ha : 0 < a) (hb : 0 < b) (c3 : Builtin.Int.intBits a ≤ 20000) (c4 : 2 ≤ (Builtin.Int.intBits b : Int) ∧ (Builtin.Int.intBits b : Int) ≤ 7000) (pk : Int.fdiv (Builtin.Int.intBits a + Builtin.Int.intBits b - 1) (Builtin.Int.intBits b) = 2) :
    Spec w 49 [.int a t1, .int b t2] 20 (fun h₀ L m news s Q => ((37, tabD c1) ∈ news ∧ (c1, o1) ∈ news ∧ (30, tabI c2) ∈ news ∧ (c2, o2) ∈ news) ∧ ∀ l u1 u2 h' tk, Fr h₀ L h' m → News h₀ L h' ((l, tup2 (a.fdiv b) (a.fmod b) u1 u2) :: news) → (∀ p ∈ news, p.1 ≠ l) → Q (.ref l) { s with heap := h', toks := tk }) := by
  w_top off
  intro p loose mean mg mb news dp un gd cn cs a0 ccd cl outer A₀ base h₀ L m s Q E B F X N T hk hd hu ret
  obtain ⟨hmem, ret⟩ := ret
  revert X
  k_fill
  intro X
  have hs : ∀ q ∈ ([(37, tabD c1), (c1, o1), (30, tabI c2), (c2, o2)] : List (Addr × Obj)), q ∈ news := consOf hmem.1 (consOf hmem.2.1 (twoOf hmem.2.2.1 hmem.2.2.2))
  refine wpAny_call ?_
  refine' enterS ([(37, tabD c1), (c1, o1), (30, tabI c2), (c2, o2)]) B F X N T hs ?kA ?kF ?kK ?k6 ?k7 ?k8 ?k9 ?kB ?kgo ?c2 ?c3 ?c4 ?c5
  case kA => exact rfl
  case kF => exact rfl
  case kK => exact hk
  case k6 => k_is
  case k7 => k_is
  case k8 => exact Nat.lt_of_le_of_lt (Nat.le_add_right _ _) hd
  case k9 => exact BindsTo.of_eq rfl
  case c5 => decide
  case kB => exact locs rfl
  case c2 => exact rfl
  case c3 => exact rfl
  case c4 => exact rfl
  case' kgo => intro L1 h1 tk1 F1 N1 B1 X1 T1 FG
  clear B X T hs
  dsimp only
  try k_fold
  refine Mine.letQE ?_
  intro Q1 hQ1
  obtain ⟨v1, v2⟩ := bitsLow hb
  have P := posB ha hb c4 pk
  dsimp only at P
  refine Mine.lett fun gP gK => ?_
  obtain ⟨⟨x1, x2, x3, x4, x5⟩, ⟨y1, y2, y3, y4, y5⟩, z1, z2, z3, z4⟩ := P
  refine gK ?_
  clear gK gP
  have c5 : Builtin.Int.intBits b ≤ 8000 := by omega
  obtain ⟨e1, e2⟩ := fuq z2 z3 z4
  have hns : ∀ d ∈ [((0 * 2 ^ Int.toNat (Builtin.Int.intBits b : Int) + a / 2 ^ Int.toNat (Builtin.Int.intBits b : Int) % 2 ^ Int.toNat (Builtin.Int.intBits b : Int)).fmod b * 2 ^ Int.toNat (Builtin.Int.intBits b : Int) + a % 2 ^ Int.toNat (Builtin.Int.intBits b : Int)).fdiv b,
      (0 * 2 ^ Int.toNat (Builtin.Int.intBits b : Int) + a / 2 ^ Int.toNat (Builtin.Int.intBits b : Int) % 2 ^ Int.toNat (Builtin.Int.intBits b : Int)).fdiv b], 0 ≤ d ∧ d < 2 ^ Int.toNat (Builtin.Int.intBits b : Int) := by
    intro d hd
    rcases List.mem_cons.mp hd with rfl | hd
    · exact ⟨y4, y5⟩
    · rw [List.mem_singleton] at hd
      subst hd
      exact ⟨x4, x5⟩
  rw [e1, e2] at ret
  k_steps
  unfold Halt
  refine' wpAny_mono (Mine.i2dB_ok ?y4a1 ?y4a2 ?y4a3 ?y4a4 ?y4a5 ?y4a6 ?y4B ?y4F ?y4X ?y4N ?y4T ?y4hk ?y4hd ?y4hu ⟨⟨?y4m1, ?y4m2⟩, ?_⟩) (fun _ _ z => z) (fun _ _ z => z)
  case y4B => k_asm
  case y4F => k_asm
  case y4X => k_asm
  case y4N => k_asm
  case y4T => k_asm
  case y4hk => exact rfl
  case y4hd => first | exact Mine.roomD hd rfl | (dsimp only [ktrTop]; omega)
  case y4hu => first | exact Mine.roomU hu rfl | (dsimp only [ktrTop]; omega)
  case y4m1 => k_mem
  case y4m2 => k_mem
  case y4a1 => with_reducible assumption
  case y4a2 => with_reducible assumption
  case y4a3 => omega
  case y4a4 => omega
  case y4a5 => assumption
  case y4a6 => assumption
  intro _ _ _ _ _ _ _ l1'
  replace l1' := Mine.allNe_of l1'
  dsimp only [Mine.AllNe] at l1'
  (try k_sweep)
  (try dsimp only)
  k_steps
  unfold Halt
  refine' wpAny_mono (Mine.div21_ok ?y5a1 ?y5a2 ?y5a3 ?y5a4 ?y5a5 ?y5a6 ?y5a7 ?y5B ?y5F ?y5X ?y5N ?y5T ?y5hk ?y5hd ?y5hu ?_) (fun _ _ z => z) (fun _ _ z => z)
  case y5B => k_asm
  case y5F => k_asm
  case y5X => k_asm
  case y5N => k_asm
  case y5T => k_asm
  case y5hk => exact rfl
  case y5hd => first | exact Mine.roomD hd rfl | (dsimp only [ktrTop]; omega)
  case y5hu => first | exact Mine.roomU hu rfl | (dsimp only [ktrTop]; omega)
  case y5a1 => assumption
  case y5a2 => assumption
  case y5a3 => assumption
  case y5a4 => assumption
  case y5a5 => assumption
  case y5a6 => assumption
  case y5a7 => assumption
  intro _ _ _ _ _ _ _ l1'
  replace l1' := Mine.allNe_of l1'
  dsimp only [Mine.AllNe] at l1'
  (try k_sweep)
  (try dsimp only)
  k_steps
  unfold Halt
  refine' wpAny_mono (Mine.div21_ok ?y6a1 ?y6a2 ?y6a3 ?y6a4 ?y6a5 ?y6a6 ?y6a7 ?y6B ?y6F ?y6X ?y6N ?y6T ?y6hk ?y6hd ?y6hu ?_) (fun _ _ z => z) (fun _ _ z => z)
  case y6B => k_asm
  case y6F => k_asm
  case y6X => k_asm
  case y6N => k_asm
  case y6T => k_asm
  case y6hk => exact rfl
  case y6hd => first | exact Mine.roomD hd rfl | (dsimp only [ktrTop]; omega)
  case y6hu => first | exact Mine.roomU hu rfl | (dsimp only [ktrTop]; omega)
  case y6a1 => assumption
  case y6a2 => assumption
  case y6a3 => assumption
  case y6a4 => assumption
  case y6a5 => assumption
  case y6a6 => assumption
  case y6a7 => assumption
  intro _ _ _ _ _ _ _ l1'
  replace l1' := Mine.allNe_of l1'
  dsimp only [Mine.AllNe] at l1'
  (try k_sweep)
  (try dsimp only)
  k_steps
  unfold Halt
  refine' wpAny_mono (Mine.d2i_ok ?y7a1 ?y7a2 ?y7a3 ?y7a4 ?y7a5 ?y7a6 ?y7a7 ?y7B ?y7F ?y7X ?y7N ?y7T ?y7hk ?y7hd ?y7hu ⟨⟨?y7m1, ?y7m2, ?y7m3⟩, ?_⟩) (fun _ _ z => z) (fun _ _ z => z)
  case y7B => k_asm
  case y7F => k_asm
  case y7X => k_asm
  case y7N => k_asm
  case y7T => k_asm
  case y7hk => exact rfl
  case y7hd => first | exact Mine.roomD hd rfl | (dsimp only [ktrTop]; omega)
  case y7hu => first | exact Mine.roomU hu rfl | (dsimp only [ktrTop]; omega)
  case y7m1 => k_mem
  case y7m2 => k_mem
  case y7m3 => k_mem
  case y7a2 => with_reducible assumption
  case y7a3 => with_reducible assumption
  case y7a5 => first | exact .cons _ _ .nil | exact .cons _ _ (.cons _ _ .nil)
  case y7a1 => omega
  case y7a4 => omega
  case y7a6 => exact ⟨by simp, by simp⟩
  case y7a7 => assumption
  intro _ _ _ _ _
  (try k_sweep)
  (try dsimp only)
  k_steps
  refine hQ1 _ _ ?_
  exact ret _ _ _ _ _ (backF FG (by assumption)) (backN1 F N (by assumption) (by assumption) (consOf hmem.1 (consOf hmem.2.1 (twoOf hmem.2.2.1 hmem.2.2.2))) (consOf (by k_mem) (consOf (by k_mem) (twoOf (by k_mem) (by k_mem)))) (.head _) (consOf (by k_ne) (consOf (by k_ne) (twoOf (by k_ne) (by k_ne))))) (backNe N (by assumption) (.head _) (consOf (by k_ne) (consOf (by k_ne) (twoOf (by k_ne) (by k_ne)))))
/-- _divmod_pos -/
theorem dmp_ok {w : World} {a b : Int} {t1 t2 : Tok} {c1 c2 : Addr} {o1 o2 : Obj} {q1 q2 : Array Value} {u1 u2 : Tok} (p1 : o1.data = .fields q1) (p2 : q1[1]? = some (.str qualD u1)) (p3 : o2.data = .fields q2) (p4 : q2[1]? = some (.str qualI u2)) (hne : @Ne Nat c1 c2 ∧ @Ne Nat c1 37 ∧ @Ne Nat c2 37 ∧ @Ne Nat c1 30 ∧ @Ne Nat c2 30)
    (ha : 0 < a) (hb : 0 < b) (c3 : Builtin.Int.intBits a ≤ 20000) (c4 : 2 ≤ (Builtin.Int.intBits b : Int) ∧ (Builtin.Int.intBits b : Int) ≤ 7000) (pk : Int.fdiv (Builtin.Int.intBits a + Builtin.Int.intBits b - 1) (Builtin.Int.intBits b) = 1 ∨ Int.fdiv (Builtin.Int.intBits a + Builtin.Int.intBits b - 1) (Builtin.Int.intBits b) = 2) :
    Spec w 49 [.int a t1, .int b t2] 20 (fun h₀ L m news s Q => ((37, tabD c1) ∈ news ∧ (c1, o1) ∈ news ∧ (30, tabI c2) ∈ news ∧ (c2, o2) ∈ news) ∧ ∀ l u1 u2 h' tk, Fr h₀ L h' m → News h₀ L h' ((l, tup2 (a.fdiv b) (a.fmod b) u1 u2) :: news) → (∀ p ∈ news, p.1 ≠ l) → Q (.ref l) { s with heap := h', toks := tk }) := by
  rcases pk with pk | pk
  · exact dmpA_ok p1 p2 p3 p4 hne ha hb c3 c4 pk
  · exact dmpB_ok p1 p2 p3 p4 hne ha hb c3 c4 pk
end Mine
end

section
-- macros2
namespace Mine
local macro_rules | `(tactic| walk_at "call ref") => `(tactic| (k_here; refine Mine.Halt.out ?_))
/-- int_divmod of positives -/
theorem im1_ok {w : World} {a b : Int} {t1 t2 : Tok} {c1 c2 : Addr} {o1 o2 : Obj} {q1 q2 : Array Value} {u1 u2 : Tok} (p1 : o1.data = .fields q1) (p2 : q1[1]? = some (.str qualD u1)) (p3 : o2.data = .fields q2) (p4 : q2[1]? = some (.str qualI u2)) (hne : @Ne Nat c1 c2 ∧ @Ne Nat c1 37 ∧ @Ne Nat c2 37 ∧ @Ne Nat c1 30 ∧ @Ne Nat c2 30)
    (ha : 0 < a) (hb : 0 < b) (c3 : Builtin.Int.intBits a ≤ 20000) (c4 : 2 ≤ (Builtin.Int.intBits b : Int) ∧ (Builtin.Int.intBits b : Int) ≤ 7000) (pk : Int.fdiv (Builtin.Int.intBits a + Builtin.Int.intBits b - 1) (Builtin.Int.intBits b) = 1 ∨ Int.fdiv (Builtin.Int.intBits a + Builtin.Int.intBits b - 1) (Builtin.Int.intBits b) = 2) :
    Spec w 56 [.int a t1, .int b t2] 21 (fun h₀ L m news s Q => ((37, tabD c1) ∈ news ∧ (c1, o1) ∈ news ∧ (30, tabI c2) ∈ news ∧ (c2, o2) ∈ news) ∧ ∀ l u1 u2 h' tk, Fr h₀ L h' m → News h₀ L h' ((l, tup2 (a.fdiv b) (a.fmod b) u1 u2) :: news) → (∀ p ∈ news, p.1 ≠ l) → Q (.ref l) { s with heap := h', toks := tk }) := by
  w_top off
  intro p loose mean mg mb news dp un gd cn cs a0 ccd cl outer A₀ base h₀ L m s Q E B F X N T hk hd hu ret
  obtain ⟨hmem, ret⟩ := ret
  revert X
  k_fill
  intro X
  have hs : ∀ q ∈ ([(37, tabD c1), (c1, o1), (30, tabI c2), (c2, o2)] : List (Addr × Obj)), q ∈ news := consOf hmem.1 (consOf hmem.2.1 (twoOf hmem.2.2.1 hmem.2.2.2))
  refine wpAny_call ?_
  refine' enterS ([(37, tabD c1), (c1, o1), (30, tabI c2), (c2, o2)]) B F X N T hs ?kA ?kF ?kK ?k6 ?k7 ?k8 ?k9 ?kB ?kgo ?c2 ?c3 ?c4 ?c5
  case kA => exact rfl
  case kF => exact rfl
  case kK => exact hk
  case k6 => k_is
  case k7 => k_is
  case k8 => exact Nat.lt_of_le_of_lt (Nat.le_add_right _ _) hd
  case k9 => exact BindsTo.of_eq rfl
  case c5 => decide
  case kB => exact locs rfl
  case c2 => exact rfl
  case c3 => exact rfl
  case c4 => exact rfl
  case' kgo => intro L1 h1 tk1 F1 N1 B1 X1 T1 FG
  clear B X T hs
  dsimp only
  try k_fold
  refine Mine.letQE ?_
  intro Q1 hQ1
  k_steps
  try any_goals (exfalso; omega)
  unfold Halt
  refine' wpAny_mono (Mine.dmp_ok ?y1a1 ?y1a2 ?y1a3 ?y1a4 ?y1a5 ?y1a6 ?y1a7 ?y1a8 ?y1a9 ?y1b1 ?y1B ?y1F ?y1X ?y1N ?y1T ?y1hk ?y1hd ?y1hu ⟨⟨?y1m1, ?y1m2, ?y1m3, ?y1m4⟩, ?_⟩) (fun _ _ z => z) (fun _ _ z => z)
  case y1B => k_asm
  case y1F => k_asm
  case y1X => k_asm
  case y1N => k_asm
  case y1T => k_asm
  case y1hk => exact rfl
  case y1hd => first | exact Mine.roomD hd rfl | (dsimp only [ktrTop]; omega)
  case y1hu => first | exact Mine.roomU hu rfl | (dsimp only [ktrTop]; omega)
  case y1m1 => k_mem
  case y1m2 => k_mem
  case y1m3 => k_mem
  case y1m4 => k_mem
  case y1a1 => with_reducible assumption
  case y1a2 => with_reducible assumption
  case y1a3 => with_reducible assumption
  case y1a4 => with_reducible assumption
  case y1a5 => assumption
  case y1a6 => first | assumption | omega
  case y1a7 => first | assumption | omega
  case y1a8 => assumption
  case y1a9 => assumption
  case y1b1 => assumption
  intro _ _ _ _ _ _ _ l1'
  replace l1' := Mine.allNe_of l1'
  dsimp only [Mine.AllNe] at l1'
  (try k_sweep)
  (try dsimp only)
  k_steps
  try any_goals (exfalso; omega)
  refine hQ1 _ _ ?_
  exact ret _ _ _ _ _ (backF FG (by assumption)) (backN1 F N (by assumption) (by assumption) (consOf hmem.1 (consOf hmem.2.1 (twoOf hmem.2.2.1 hmem.2.2.2))) (consOf (by k_mem) (consOf (by k_mem) (twoOf (by k_mem) (by k_mem)))) (by k_mem) (consOf (by k_ne) (consOf (by k_ne) (twoOf (by k_ne) (by k_ne))))) (backNe N (by assumption) (by k_mem) (consOf (by k_ne) (consOf (by k_ne) (twoOf (by k_ne) (by k_ne)))))
/-- int_divmod of a negative number by a positive one -/
theorem im2_ok {w : World} {a b : Int} {t1 t2 : Tok} {c1 c2 : Addr} {o1 o2 : Obj} {q1 q2 : Array Value} {u1 u2 : Tok} (p1 : o1.data = .fields q1) (p2 : q1[1]? = some (.str qualD u1)) (p3 : o2.data = .fields q2) (p4 : q2[1]? = some (.str qualI u2)) (hne : @Ne Nat c1 c2 ∧ @Ne Nat c1 37 ∧ @Ne Nat c2 37 ∧ @Ne Nat c1 30 ∧ @Ne Nat c2 30)
    (hn : a < 0) (ha : 0 < Builtin.bitNot a) (hb : 0 < b) (c3 : Builtin.Int.intBits (Builtin.bitNot a) ≤ 20000) (c4 : 2 ≤ (Builtin.Int.intBits (b) : Int) ∧ (Builtin.Int.intBits (b) : Int) ≤ 7000) (pk : Int.fdiv (Builtin.Int.intBits (Builtin.bitNot a) + Builtin.Int.intBits (b) - 1) (Builtin.Int.intBits (b)) = 1 ∨ Int.fdiv (Builtin.Int.intBits (Builtin.bitNot a) + Builtin.Int.intBits (b) - 1) (Builtin.Int.intBits (b)) = 2) :
    Spec w 56 [.int a t1, .int b t2] 22 (fun h₀ L m news s Q => ((37, tabD c1) ∈ news ∧ (c1, o1) ∈ news ∧ (30, tabI c2) ∈ news ∧ (c2, o2) ∈ news) ∧ ∀ l u1 u2 h' tk, Fr h₀ L h' m → News h₀ L h' ((l, tup2 (Builtin.bitNot ((Builtin.bitNot a).fdiv b)) (b + Builtin.bitNot ((Builtin.bitNot a).fmod b)) u1 u2) :: news) → (∀ p ∈ news, p.1 ≠ l) → Q (.ref l) { s with heap := h', toks := tk }) := by
  w_top off
  intro p loose mean mg mb news dp un gd cn cs a0 ccd cl outer A₀ base h₀ L m s Q E B F X N T hk hd hu ret
  obtain ⟨hmem, ret⟩ := ret
  revert X
  k_fill
  intro X
  have hs : ∀ q ∈ ([(37, tabD c1), (c1, o1), (30, tabI c2), (c2, o2)] : List (Addr × Obj)), q ∈ news := consOf hmem.1 (consOf hmem.2.1 (twoOf hmem.2.2.1 hmem.2.2.2))
  refine wpAny_call ?_
  refine' enterS ([(37, tabD c1), (c1, o1), (30, tabI c2), (c2, o2)]) B F X N T hs ?kA ?kF ?kK ?k6 ?k7 ?k8 ?k9 ?kB ?kgo ?c2 ?c3 ?c4 ?c5
  case kA => exact rfl
  case kF => exact rfl
  case kK => exact hk
  case k6 => k_is
  case k7 => k_is
  case k8 => exact Nat.lt_of_le_of_lt (Nat.le_add_right _ _) hd
  case k9 => exact BindsTo.of_eq rfl
  case c5 => decide
  case kB => exact locs rfl
  case c2 => exact rfl
  case c3 => exact rfl
  case c4 => exact rfl
  case' kgo => intro L1 h1 tk1 F1 N1 B1 X1 T1 FG
  clear B X T hs
  dsimp only
  try k_fold
  refine Mine.letQE ?_
  intro Q1 hQ1
  k_steps
  try any_goals (exfalso; omega)
  unfold Halt
  refine' wpAny_mono (Mine.im1_ok ?y2a1 ?y2a2 ?y2a3 ?y2a4 ?y2a5 ?y2a6 ?y2a7 ?y2a8 ?y2a9 ?y2b1 ?y2B ?y2F ?y2X ?y2N ?y2T ?y2hk ?y2hd ?y2hu ⟨⟨?y2m1, ?y2m2, ?y2m3, ?y2m4⟩, ?_⟩) (fun _ _ z => z) (fun _ _ z => z)
  case y2B => k_asm
  case y2F => k_asm
  case y2X => k_asm
  case y2N => k_asm
  case y2T => k_asm
  case y2hk => exact rfl
  case y2hd => first | exact Mine.roomD hd rfl | (dsimp only [ktrTop]; omega)
  case y2hu => first | exact Mine.roomU hu rfl | (dsimp only [ktrTop]; omega)
  case y2m1 => k_mem
  case y2m2 => k_mem
  case y2m3 => k_mem
  case y2m4 => k_mem
  case y2a1 => with_reducible assumption
  case y2a2 => with_reducible assumption
  case y2a3 => with_reducible assumption
  case y2a4 => with_reducible assumption
  case y2a5 => assumption
  case y2a6 => first | assumption | omega
  case y2a7 => first | assumption | omega
  case y2a8 => assumption
  case y2a9 => assumption
  case y2b1 => assumption
  intro _ _ _ _ _ _ _ l1'
  replace l1' := Mine.allNe_of l1'
  dsimp only [Mine.AllNe] at l1'
  (try k_sweep)
  (try dsimp only)
  k_steps
  try any_goals (exfalso; omega)
  refine hQ1 _ _ ?_
  exact ret _ _ _ _ _ (backF FG (by assumption)) (backN1 F N (by assumption) (by assumption) (consOf hmem.1 (consOf hmem.2.1 (twoOf hmem.2.2.1 hmem.2.2.2))) (consOf (by k_mem) (consOf (by k_mem) (twoOf (by k_mem) (by k_mem)))) (by k_mem) (consOf (by k_ne) (consOf (by k_ne) (twoOf (by k_ne) (by k_ne))))) (backNe N (by assumption) (by k_mem) (consOf (by k_ne) (consOf (by k_ne) (twoOf (by k_ne) (by k_ne)))))
/-- int_divmod of a positive number by a negative one -/
theorem im3_ok {w : World} {a b : Int} {t1 t2 : Tok} {c1 c2 : Addr} {o1 o2 : Obj} {q1 q2 : Array Value} {u1 u2 : Tok} (p1 : o1.data = .fields q1) (p2 : q1[1]? = some (.str qualD u1)) (p3 : o2.data = .fields q2) (p4 : q2[1]? = some (.str qualI u2)) (hne : @Ne Nat c1 c2 ∧ @Ne Nat c1 37 ∧ @Ne Nat c2 37 ∧ @Ne Nat c1 30 ∧ @Ne Nat c2 30)
    (hn : -a < 0) (ha : 0 < Builtin.bitNot (-a)) (hb : 0 < -b) (c3 : Builtin.Int.intBits (Builtin.bitNot (-a)) ≤ 20000) (c4 : 2 ≤ (Builtin.Int.intBits (-b) : Int) ∧ (Builtin.Int.intBits (-b) : Int) ≤ 7000) (pk : Int.fdiv (Builtin.Int.intBits (Builtin.bitNot (-a)) + Builtin.Int.intBits (-b) - 1) (Builtin.Int.intBits (-b)) = 1 ∨ Int.fdiv (Builtin.Int.intBits (Builtin.bitNot (-a)) + Builtin.Int.intBits (-b) - 1) (Builtin.Int.intBits (-b)) = 2) :
    Spec w 56 [.int a t1, .int b t2] 23 (fun h₀ L m news s Q => ((37, tabD c1) ∈ news ∧ (c1, o1) ∈ news ∧ (30, tabI c2) ∈ news ∧ (c2, o2) ∈ news) ∧ ∀ l u1 u2 h' tk, Fr h₀ L h' m → News h₀ L h' ((l, tup2 (Builtin.bitNot ((Builtin.bitNot (-a)).fdiv (-b))) (-(-b + Builtin.bitNot ((Builtin.bitNot (-a)).fmod (-b)))) u1 u2) :: news) → (∀ p ∈ news, p.1 ≠ l) → Q (.ref l) { s with heap := h', toks := tk }) := by
  w_top off
  intro p loose mean mg mb news dp un gd cn cs a0 ccd cl outer A₀ base h₀ L m s Q E B F X N T hk hd hu ret
  obtain ⟨hmem, ret⟩ := ret
  revert X
  k_fill
  intro X
  have hs : ∀ q ∈ ([(37, tabD c1), (c1, o1), (30, tabI c2), (c2, o2)] : List (Addr × Obj)), q ∈ news := consOf hmem.1 (consOf hmem.2.1 (twoOf hmem.2.2.1 hmem.2.2.2))
  refine wpAny_call ?_
  refine' enterS ([(37, tabD c1), (c1, o1), (30, tabI c2), (c2, o2)]) B F X N T hs ?kA ?kF ?kK ?k6 ?k7 ?k8 ?k9 ?kB ?kgo ?c2 ?c3 ?c4 ?c5
  case kA => exact rfl
  case kF => exact rfl
  case kK => exact hk
  case k6 => k_is
  case k7 => k_is
  case k8 => exact Nat.lt_of_le_of_lt (Nat.le_add_right _ _) hd
  case k9 => exact BindsTo.of_eq rfl
  case c5 => decide
  case kB => exact locs rfl
  case c2 => exact rfl
  case c3 => exact rfl
  case c4 => exact rfl
  case' kgo => intro L1 h1 tk1 F1 N1 B1 X1 T1 FG
  clear B X T hs
  dsimp only
  try k_fold
  refine Mine.letQE ?_
  intro Q1 hQ1
  k_steps
  try any_goals (exfalso; omega)
  unfold Halt
  refine' wpAny_mono (Mine.im2_ok ?y3a1 ?y3a2 ?y3a3 ?y3a4 ?y3a5 ?y3a0 ?y3a6 ?y3a7 ?y3a8 ?y3a9 ?y3b1 ?y3B ?y3F ?y3X ?y3N ?y3T ?y3hk ?y3hd ?y3hu ⟨⟨?y3m1, ?y3m2, ?y3m3, ?y3m4⟩, ?_⟩) (fun _ _ z => z) (fun _ _ z => z)
  case y3B => k_asm
  case y3F => k_asm
  case y3X => k_asm
  case y3N => k_asm
  case y3T => k_asm
  case y3hk => exact rfl
  case y3hd => first | exact Mine.roomD hd rfl | (dsimp only [ktrTop]; omega)
  case y3hu => first | exact Mine.roomU hu rfl | (dsimp only [ktrTop]; omega)
  case y3m1 => k_mem
  case y3m2 => k_mem
  case y3m3 => k_mem
  case y3m4 => k_mem
  case y3a1 => with_reducible assumption
  case y3a2 => with_reducible assumption
  case y3a3 => with_reducible assumption
  case y3a4 => with_reducible assumption
  case y3a5 => assumption
  case y3a0 => assumption
  case y3a6 => first | assumption | omega
  case y3a7 => first | assumption | omega
  case y3a8 => assumption
  case y3a9 => assumption
  case y3b1 => assumption
  intro _ _ _ _ _ _ _ l1'
  replace l1' := Mine.allNe_of l1'
  dsimp only [Mine.AllNe] at l1'
  (try k_sweep)
  (try dsimp only)
  k_steps
  try any_goals (exfalso; omega)
  refine hQ1 _ _ ?_
  exact ret _ _ _ _ _ (backF FG (by assumption)) (backN1 F N (by assumption) (by assumption) (consOf hmem.1 (consOf hmem.2.1 (twoOf hmem.2.2.1 hmem.2.2.2))) (consOf (by k_mem) (consOf (by k_mem) (twoOf (by k_mem) (by k_mem)))) (by k_mem) (consOf (by k_ne) (consOf (by k_ne) (twoOf (by k_ne) (by k_ne))))) (backNe N (by assumption) (by k_mem) (consOf (by k_ne) (consOf (by k_ne) (twoOf (by k_ne) (by k_ne)))))
end Mine
end

section
namespace Mine
theorem updF_at {P : Addr} {o : Obj} {Y : List (Addr × Obj)} (hY : ∀ q ∈ Y, q.1 ≠ P) : ∀ fr : List (Addr × Obj), (∀ q ∈ fr, q.1 ≠ P) → UpdF P o (fr ++ (P, o) :: Y) (fun o' => fr ++ (P, o') :: Y)
  | [], _ => .head hY
  | _ :: r, h => .tail (h _ (.head _)) (updF_at hY r fun q hq => h q (.tail _ hq))
/-- the table of _int2digits' codes: bare, or with the code of its inner def -/
inductive T30 (I c1 : Addr) : List (Addr × Obj) → Prop
  | bare : T30 I c1 [(30, tabObj #[])]
  | made (c2 : Addr) (o2 : Obj) (q2 : Array Value) (u2 : Tok) : o2.data = .fields q2 → q2[1]? = some (.str qualI u2) → @Ne Nat c2 I → @Ne Nat c2 37 → @Ne Nat c2 30 → @Ne Nat c1 c2 → T30 I c1 [(30, tabI c2), (c2, o2)]
inductive T37 (I : Addr) : List (Addr × Obj) → Prop
  | bare : T37 I [(37, tabObj #[]), (30, tabObj #[])]
  | made (c1 : Addr) (o1 : Obj) (q1 : Array Value) (u1 : Tok) (c2 : Addr) (o2 : Obj) (q2 : Array Value) (u2 : Tok) : o1.data = .fields q1 → q1[1]? = some (.str qualD u1) → @Ne Nat c1 I → @Ne Nat c1 37 → @Ne Nat c1 30 →
      o2.data = .fields q2 → q2[1]? = some (.str qualI u2) → @Ne Nat c2 I → @Ne Nat c2 37 → @Ne Nat c2 30 → @Ne Nat c1 c2 → T37 I [(37, tabD c1), (c1, o1), (30, tabI c2), (c2, o2)]
section
variable {h₀ h : Heap} {L : Addr} {fr b Y : List (Addr × Obj)}
theorem ne_tab {l : List (Addr × Obj)} {P : Addr} {ps : Array Value} (N : News h₀ L h l) (hP : (P, tabObj ps) ∈ l) {q : Addr × Obj} (hq : q ∈ l) (hc : ∃ t, q.2.cls = .type t) : @Ne Nat q.1 P := by
  intro e
  have e1 := (N q hq).1
  have e2 := (N _ hP).1
  have e' : q.1 = P := e
  rw [e', e2] at e1
  obtain ⟨t, ht⟩ := hc
  rw [← Option.some.inj e1] at ht
  cases ht
theorem T37.tabs {I : Addr} {X : List (Addr × Obj)} (h : T37 I X) : ∃ p p', (37, tabObj p) ∈ X ∧ (30, tabObj p') ∈ X := by
  cases h with
  | bare => exact ⟨_, _, .head _, .tail _ (.head _)⟩
  | made => exact ⟨_, _, .head _, .tail _ (.tail _ (.head _))⟩
theorem T30.tab {I c1 : Addr} {X : List (Addr × Obj)} (h : T30 I c1 X) : ∃ p', (30, tabObj p') ∈ X := by
  cases h with
  | bare => exact ⟨_, .head _⟩
  | made => exact ⟨_, .head _⟩
theorem off1_mem {D : Addr} : ∀ {l : List (Addr × Obj)}, LCg.Off1 D l → ∀ q ∈ l, @Ne Nat q.1 D := by
  intro l
  induction l with
  | nil => intro _ q hq; cases hq
  | cons a r ih =>
    intro h q hq
    rcases List.mem_cons.mp hq with rfl | hq
    · exact h.1
    · exact ih h.2 q hq
theorem neL1 {d a : Addr} {o : Obj} {l : List (Addr × Obj)} (h : ∀ p ∈ l, p.1 ≠ d) (hm : (a, o) ∈ l) : @Ne Nat a d := h _ hm
theorem neO1 {d a : Addr} {o : Obj} {l : List (Addr × Obj)} (h : LCg.Off1 d l) (hm : (a, o) ∈ l) : @Ne Nat a d := off1_mem h _ hm
theorem newsPerm {l l' : List (Addr × Obj)} (N : News h₀ L h l) (hs : ∀ q ∈ l', q ∈ l) : News h₀ L h l' := fun q hq => N q (hs q hq)
end
/-- _digits2int, whichever time -/
theorem d2iU {w : World} {I ld : Addr} {oI : Obj} {k0 : Nat} {vs : List Value} {ns : List Int} {n : Int} {t1 : Tok} {X fr b : List (Addr × Obj)} (hX : T37 I X) (hI : (I, oI) ∈ fr) (hld : (ld, lsk vs k0) ∈ fr) (hfr : ∀ q ∈ fr, ∃ t, q.2.cls = .type t) (hb : ∀ q ∈ b, @Ne Nat q.1 37)
    (hn : 1 ≤ n ∧ n ≤ 7000) (hvs : IntsAre vs ns) (hlen : 1 ≤ ns.length ∧ ns.length ≤ 6) (hns : ∀ d ∈ ns, 0 ≤ d ∧ d < 2 ^ n.toNat) :
    Spec w 42 [.ref ld, .int n t1] 9 (fun h₀ L m news s Q => news = fr ++ (X ++ b) ∧ ∀ c1 o1 q1 u1 Y t' h' tk, o1.data = .fields q1 → q1[1]? = some (.str qualD u1) → @Ne Nat c1 I → @Ne Nat c1 37 → @Ne Nat c1 30 → T30 I c1 Y → Fr h₀ L h' m →
      News h₀ L h' (fr ++ ((37, tabD c1) :: (c1, o1) :: (Y ++ b))) → Q (.int (D2 n.toNat ns) t') { s with heap := h', toks := tk }) := by
  intro p loose mean mg mb news dp un gd cn cs a0 ccd cl outer A₀ base h₀ L m s Q E B F X₀ N T hk hd hu ret
  obtain ⟨rfl, ret⟩ := ret
  obtain ⟨_, _, kX, _⟩ := hX.tabs
  replace hfr : ∀ q ∈ fr, @Ne Nat q.1 37 := fun q hq => ne_tab N (List.mem_append_right _ (List.mem_append_left _ kX)) (List.mem_append_left _ hq) (hfr q hq)
  have hl : @Ne Nat ld 37 := hfr _ hld
  cases hX with
  | bare =>
    refine d2i1_ok hl hn hvs hlen hns B F X₀ N T hk hd hu ⟨_, updF_at (Y := (30, tabObj #[]) :: b) ?_ fr hfr, ⟨List.mem_append_left _ hld, List.mem_append_right _ (.head _)⟩, fun c' oc qs tq t' h' tk F' N' hne hd hq => ?_⟩
    · intro q hq
      rcases List.mem_cons.mp hq with rfl | hq
      · exact (by decide : @Ne Nat 30 37)
      · exact hb q hq
    · refine ret c' oc qs tq [(30, tabObj #[])] t' h' tk hd hq (Ne.symm (hne _ (List.mem_append_left _ hI))) (Ne.symm (hne (37, tabObj #[]) (List.mem_append_right _ (.head _)))) (Ne.symm (hne (30, tabObj #[]) (List.mem_append_right _ (.tail _ (.head _))))) .bare F' (newsPerm N' ?_)
      intro q hq
      rcases List.mem_append.mp hq with hq | hq
      · exact .tail _ (List.mem_append_left _ hq)
      rcases List.mem_cons.mp hq with rfl | hq
      · exact .tail _ (List.mem_append_right _ (.head _))
      rcases List.mem_cons.mp hq with rfl | hq
      · exact .head _
      · exact .tail _ (List.mem_append_right _ (.tail _ hq))
  | made c1 o1 q1 u1 c2 o2 q2 u2 p1 p2 n1 n2 n3 p3 p4 n4 n5 n6 n7 =>
    refine d2i_ok hl p1 p2 hn hvs hlen hns B F X₀ N T hk hd hu ⟨⟨List.mem_append_left _ hld, List.mem_append_right _ (.head _), List.mem_append_right _ (.tail _ (.head _))⟩, fun t' h' tk F' N' => ?_⟩
    exact ret c1 o1 q1 u1 [(30, tabI c2), (c2, o2)] t' h' tk p1 p2 n1 n2 n3 (.made c2 o2 q2 u2 p3 p4 n4 n5 n6 n7) F' N'
/-- _int2digits, whichever time -/
theorem i2dU {w : World} {I c1 : Addr} {oI o1 : Obj} {a n : Int} {t1 t2 : Tok} {Y fr b : List (Addr × Obj)} (hY : T30 I c1 Y) (hI : (I, oI) ∈ fr) (hc : @Ne Nat c1 30) (hfr : ∀ q ∈ fr, ∃ t, q.2.cls = .type t) (hb : ∀ q ∈ b, @Ne Nat q.1 30)
    (hn : 1 ≤ n ∧ n ≤ 7000) (ha : 0 ≤ a) (hb2 : Builtin.Int.intBits a ≤ 20000) (hk2 : 0 ≤ Int.fdiv (Builtin.Int.intBits a + n - 1) n ∧ Int.fdiv (Builtin.Int.intBits a + n - 1) n ≤ 6) :
    Spec w 35 [.int a t1, .int n t2] 9 (fun h₀ L m news s Q => news = fr ++ ((37, tabD c1) :: (c1, o1) :: (Y ++ b)) ∧ ∀ l ys c2 o2 q2 u2 h' tk, o2.data = .fields q2 → q2[1]? = some (.str qualI u2) → @Ne Nat c2 I → @Ne Nat c2 37 → @Ne Nat c2 30 → @Ne Nat c1 c2 → Fr h₀ L h' m →
      News h₀ L h' ((l, lst ys) :: (fr ++ ((37, tabD c1) :: (c1, o1) :: (30, tabI c2) :: (c2, o2) :: b))) → IntsAre ys (digs n.toNat (Int.fdiv (Builtin.Int.intBits a + n - 1) n).toNat a) → Q (.ref l) { s with heap := h', toks := tk }) := by
  intro p loose mean mg mb news dp un gd cn cs a0 ccd cl outer A₀ base h₀ L m s Q E B F X₀ N T hk hd hu ret
  obtain ⟨rfl, ret⟩ := ret
  obtain ⟨_, kY⟩ := hY.tab
  replace hfr : ∀ q ∈ fr, @Ne Nat q.1 30 := fun q hq => ne_tab N (List.mem_append_right _ (.tail _ (.tail _ (List.mem_append_left _ kY)))) (List.mem_append_left _ hq) (hfr q hq)
  cases hY with
  | bare =>
    have N' : News h₀ L s.heap ((fr ++ [(37, tabD c1), (c1, o1)]) ++ (30, tabObj #[]) :: b) := newsPerm N fun q hq => by
      simp only [List.append_assoc, List.cons_append, List.nil_append] at hq ⊢
      exact hq
    refine i2d1_ok hn ha hb2 hk2 B F X₀ N' T hk hd hu ⟨_, updF_at hb _ ?_, List.mem_append_right _ (.head _), fun l ys c' oc qs tq h' tk F' N' hne hne' hlc hd hq hys => ?_⟩
    · intro q hq
      rcases List.mem_append.mp hq with hq | hq
      · exact hfr q hq
      rcases List.mem_cons.mp hq with rfl | hq
      · exact (by decide : @Ne Nat 37 30)
      rcases List.mem_cons.mp hq with rfl | hq
      · exact hc
      cases hq
    · have z : ∀ q ∈ fr, q ∈ (fr ++ [(37, tabD c1), (c1, o1)]) ++ (30, tabObj #[]) :: b := fun q hq => List.mem_append_left _ (List.mem_append_left _ hq)
      refine ret l ys c' oc qs tq h' tk hd hq (Ne.symm (hne' _ (z _ hI))) (Ne.symm (hne' (37, tabD c1) (List.mem_append_left _ (List.mem_append_right _ (.head _))))) (Ne.symm (hne' (30, tabObj #[]) (List.mem_append_right _ (.head _)))) (hne' (c1, o1) (List.mem_append_left _ (List.mem_append_right _ (.tail _ (.head _))))) F' (newsPerm N' ?_) hys
      intro q hq
      simp only [List.append_assoc, List.cons_append, List.nil_append]
      rcases List.mem_cons.mp hq with rfl | hq
      · exact .head _
      rcases List.mem_append.mp hq with hq | hq
      · exact .tail _ (.tail _ (List.mem_append_left _ hq))
      rcases List.mem_cons.mp hq with rfl | hq
      · exact .tail _ (.tail _ (List.mem_append_right _ (.head _)))
      rcases List.mem_cons.mp hq with rfl | hq
      · exact .tail _ (.tail _ (List.mem_append_right _ (.tail _ (.head _))))
      rcases List.mem_cons.mp hq with rfl | hq
      · exact .tail _ (.tail _ (List.mem_append_right _ (.tail _ (.tail _ (.head _)))))
      rcases List.mem_cons.mp hq with rfl | hq
      · exact .tail _ (.head _)
      · exact .tail _ (.tail _ (List.mem_append_right _ (.tail _ (.tail _ (.tail _ hq)))))
  | made c2 o2 q2 u2 p3 p4 n4 n5 n6 n7 =>
    refine i2d_ok p3 p4 hn ha hb2 hk2 B F X₀ N T hk hd hu ⟨⟨List.mem_append_right _ (.tail _ (.tail _ (.head _))), List.mem_append_right _ (.tail _ (.tail _ (.tail _ (.head _))))⟩, fun l ys h' tk F' N' _ hys => ?_⟩
    exact ret l ys c2 o2 q2 u2 h' tk p3 p4 n4 n5 n6 n7 F' N' hys
/-- what stands between the turns of the law's loop -/
inductive JLaw (I D8 : Addr) (w : Nat) (tk9 : Tok) (U : Int) (base : List (Addr × Obj)) : List Itm → (Str → Option Value) → List (Addr × Obj) → Prop
  | mk {r : List Itm} {m : Str → Option Value} {X : List (Addr × Obj)} {tu : Tok} : (∀ it ∈ r, ∃ (ch : Nat) (t : Tok), ch ∈ ([0, 1, 2, 4] : List Nat) ∧ it = Itm.val (.int (ch : Int) t)) → m "books" = some (.ref D8) → m "width" = some (.int (w : Int) tk9) → m "under" = some (.int U tu) → T37 I X → JLaw I D8 w tk9 U base r m (X ++ base)
theorem lawItems {t0 t1 t2 t3 : Tok} : ∀ it ∈ ([Value.int 0 t0, Value.int 1 t1, Value.int 2 t2, Value.int 4 t3] : List Value).map Itm.val, ∃ (ch : Nat) (t : Tok), ch ∈ ([0, 1, 2, 4] : List Nat) ∧ it = Itm.val (.int (ch : Int) t) := by
  intro it hit
  rcases List.mem_cons.mp hit with rfl | hit
  · exact ⟨0, _, by simp, rfl⟩
  rcases List.mem_cons.mp hit with rfl | hit
  · exact ⟨1, _, by simp, rfl⟩
  rcases List.mem_cons.mp hit with rfl | hit
  · exact ⟨2, _, by simp, rfl⟩
  rcases List.mem_cons.mp hit with rfl | hit
  · exact ⟨4, _, by simp, rfl⟩
  cases hit
theorem ints4 {vs : List Value} {a b c d : Int} (h : IntsAre vs [a, b, c, d]) : ∃ t0 t1 t2 t3, vs = [.int a t0, .int b t1, .int c t2, .int d t3] := by
  cases h with | cons _ t0 h =>
  cases h with | cons _ t1 h =>
  cases h with | cons _ t2 h =>
  cases h with | cons _ t3 h =>
  cases h
  exact ⟨t0, t1, t2, t3, rfl⟩
/-- the end of a turn of the law's loop -/
theorem endLaw {h₀ h' : Heap} {L I D8 c1 c2 : Addr} {w : Nat} {tk9 tu : Tok} {U : Int} {base fr keep : List (Addr × Obj)} {oI o1 o2 : Obj} {q1 q2 : Array Value} {u1 u2 : Tok} {r : List Itm} {m' : Str → Option Value} {s : Shared} {tk : Nat}
    (F : Fr h₀ L h' m') (N : News h₀ L h' (fr ++ ((37, tabD c1) :: (c1, o1) :: (30, tabI c2) :: (c2, o2) :: base))) (hI : (I, oI) ∈ fr) (hk : ∀ q ∈ keep, q ∈ base) (hb : ∀ q ∈ base, @Ne Nat q.1 I) (n37 : @Ne Nat 37 I) (n30 : @Ne Nat 30 I)
    (hr : ∀ it ∈ r, ∃ (ch : Nat) (t : Tok), ch ∈ ([0, 1, 2, 4] : List Nat) ∧ it = Itm.val (.int (ch : Int) t)) (mb : m' "books" = some (.ref D8)) (mw : m' "width" = some (.int (w : Int) tk9)) (mu : m' "under" = some (.int U tu))
    (p1 : o1.data = .fields q1) (p2 : q1[1]? = some (.str qualD u1)) (x1 : @Ne Nat c1 I) (x2 : @Ne Nat c1 37) (x3 : @Ne Nat c1 30) (p3 : o2.data = .fields q2) (p4 : q2[1]? = some (.str qualI u2)) (x4 : @Ne Nat c2 I) (x5 : @Ne Nat c2 37) (x6 : @Ne Nat c2 30) (x7 : @Ne Nat c1 c2) :
    UnrEndW h₀ L s [(I, oI)] (fun m' n' => SubL keep n' ∧ JLaw I D8 w tk9 U base r m' n') { s with heap := h', toks := tk } := by
  refine ⟨h', tk, m', [(37, tabD c1), (c1, o1), (30, tabI c2), (c2, o2)] ++ base, rfl, F, fun p hp => N p ?_, fun p hp q hq => ?_, ?_, .mk hr mb mw mu (.made c1 o1 q1 u1 c2 o2 q2 u2 p1 p2 x1 x2 x3 p3 p4 x4 x5 x6 x7)⟩
  · rcases List.mem_cons.mp hp with rfl | hp
    · exact List.mem_append_left _ hI
    · exact List.mem_append_right _ hp
  · rw [List.mem_singleton.mp hq]
    rcases List.mem_cons.mp hp with rfl | hp
    · exact n37
    rcases List.mem_cons.mp hp with rfl | hp
    · exact x1
    rcases List.mem_cons.mp hp with rfl | hp
    · exact n30
    rcases List.mem_cons.mp hp with rfl | hp
    · exact x4
    · exact hb p hp
  · have : ∀ (l l' : List (Addr × Obj)), (∀ q ∈ l, q ∈ l') → SubL l l' := by
      intro l
      induction l with
      | nil => intro l' _; exact trivial
      | cons a r ih => intro l' h; exact ⟨h _ (.head _), ih _ fun q hq => h q (.tail _ hq)⟩
    exact this _ _ fun q hq => List.mem_append_right _ (hk q hq)
theorem cutBase {h₀ h : Heap} {L : Addr} {x y : Addr × Obj} {base : List (Addr × Obj)} (N : News h₀ L h (x :: y :: base)) : ∃ b, b = base ∧ News h₀ L h (x :: y :: b) := ⟨base, rfl, N⟩
theorem mem10 {α : Type} {b : List α} {a0 a1 a2 a3 a4 a5 a6 a7 a8 a9 : α} (h : b = [a0, a1, a2, a3, a4, a5, a6, a7, a8, a9]) : a0 ∈ b ∧ a1 ∈ b ∧ a2 ∈ b ∧ a3 ∈ b ∧ a4 ∈ b ∧ a5 ∈ b ∧ a6 ∈ b ∧ a7 ∈ b ∧ a8 ∈ b ∧ a9 ∈ b := by
  subst h; simp
end Mine
end
end

section
local macro_rules | `(tactic| walk_at "exec For Name Call cons nil") => `(tactic| (k_here; refine Mine.Halt.out ?_))
local macro_rules | `(tactic| walk_at "exec For Tuple Call cons nil") => `(tactic| (k_here; refine Mine.Halt.out ?_))
local macro_rules | `(tactic| walk_at "exec For Name Name cons nil") => `(tactic| (k_here; refine Mine.Halt.out ?_))
local macro_rules | `(tactic| walk_at "last exec For") => `(tactic| (k_here; refine Mine.Halt.out ?_))
local macro_rules | `(tactic| walk_at "UnrEndW") => `(tactic| (refine Mine.Halt.out ?_))
local macro_rules | `(tactic| walk_at "pyIter ref") => `(tactic| (k_here; (with_reducible show wpAny _ _ (pyIter (Value.ref _)) (fun it s₂ => TurnsAt _ _ _ _ _ _ _ _ _ it s₂) _ _); refine Mine.Halt.out ?_))

section
namespace Mine
local macro_rules | `(tactic| walk_at "call ref") => `(tactic| (k_here; refine Mine.Halt.out ?_))
local macro_rules | `(tactic| walk_at "eval ListComp") => `(tactic| (k_here; refine Mine.Halt.out ?_))
local macro_rules | `(tactic| walk_at "exec Assign cons ListComp") => `(tactic| (k_here; refine wpAny_Assign_Name ?_))
local macro_rules | `(tactic| walk_at "CompRest") => `(tactic| (refine Mine.Halt.out ?_))
local macro_rules | `(tactic| walk_at "CompRestT") => `(tactic| (refine Mine.Halt.out ?_))
local macro_rules | `(tactic| walk_at "CompEnd") => `(tactic| (refine Mine.Halt.out ?_))
local macro_rules | `(tactic| walk_at "CompSrc") => `(tactic| (k_here; refine Mine.Halt.out ?_))
local macro_rules | `(tactic| walk_at "CompSrcT") => `(tactic| (k_here; refine Mine.Halt.out ?_))
local macro_rules | `(tactic| walk_at "eval IfExp") => `(tactic| (k_here; refine Mine.Halt.out ?_))
local macro_rules | `(tactic| k_ne) => `(tactic| (refine neN ?_; (try dsimp only); first | exact Mine.neL1 (by with_reducible assumption) (by k_mem) | exact (Mine.neL1 (by with_reducible assumption) (by k_mem)).symm | exact Mine.neO1 (by with_reducible assumption) (by k_mem) | exact (Mine.neO1 (by with_reducible assumption) (by k_mem)).symm | omega))
local macro_rules | `(tactic| walk_at "SrcC") => `(tactic| (k_here; refine Mine.Halt.out ?_))
local macro_rules | `(tactic| walk_at "binaryOp Pow int int") => `(tactic| (k_here; refine Mine.Halt.out ?_))
local macro_rules | `(tactic| walk_at "pyIter ref") => `(tactic| (k_here; refine Mine.Halt.out ?_))
local macro_rules | `(tactic| walk_at "subscriptTail Name Slice ref ref") => `(tactic| (k_here; k_dflt (refine' krv_ints (s := ⟨_, _, _, _, _⟩) ?F ?N ?l ?k ?i ?_ ?s ?t ?z; (case F => k_asm); (case N => k_asm); (case l => kmk_list); (case k => exact IsPart.int _ _); (case i => l_ints); (case s => with_unfolding_all rfl); (case t => kmk_pure); (case z => kmk_size)); intro D' ws' h' F' N' l1 hI' hC'; (try k_lt l1); (try k_sweep)))
local macro_rules | `(tactic| k_mem) => `(tactic| ((repeat (first | with_reducible refine List.mem_cons_of_mem _ ?_ | with_reducible refine List.mem_append_right _ ?_)); with_reducible assumption))
local macro_rules | `(tactic| bits_by_make) => `(tactic| (with_reducible assumption))
theorem merge {M : Model} {A : Around} {E : Value → Shared → Prop} {α : Type} {t : Sem α} {Q : α → Shared → Prop} {s : Shared} (P : α → Prop) (h1 : wpAny M A t (fun v s' => P v ∧ ∃ tk', s' = { s with toks := tk' }) E s) (h2 : ∀ v tk', P v → Q v { s with toks := tk' }) : wpAny M A t Q E s :=
  wpAny_mono h1 (fun v _ ⟨p, tk', e⟩ => e ▸ h2 v tk' p) (fun _ _ z => z)
theorem bits_one {w : Nat} : Builtin.Int.intBits (1 * 2 ^ Int.toNat (w : Int) - 1) ≤ w := by
  rw [Int.toNat_natCast, Int.one_mul]
  have := p2pos w
  exact bits_of_lt (by omega) (by omega)
theorem post_true (w : List Int) : (OpenRow.toRowW (OpenLaw.row PySem.Challenge.rw_xe0030_01)).claim.post [ofPy (.list (w.map .int))] (.bool true) [ofPy (.list (w.map .int))] = true := by
  wrow_post
theorem newsDrop2 {h₀ h : Heap} {L : Addr} {x y : Addr × Obj} {r : List (Addr × Obj)} (N : News h₀ L h (x :: y :: r)) : News h₀ L h (x :: r) := newsPerm N fun q hq => by
  rcases List.mem_cons.mp hq with rfl | hq
  · exact .head _
  · exact .tail _ (.tail _ hq)
def plc (f : Int) (i : Nat) : List Int := (List.range i).map fun (j : Nat) => Int.fmod f 4 + (0 + (j : Int)) * (Int.fmod (Int.fdiv f 4) 3 + 1)
theorem plc_succ (f : Int) (i : Nat) : plc f (i + 1) = plc f i ++ [Int.fmod f 4 + (0 + (i : Int)) * (Int.fmod (Int.fdiv f 4) 3 + 1)] := by
  unfold plc
  rw [List.range_succ, List.map_append]
  rfl
theorem plc_three {f : Int} (h : 0 ≤ f) : ∃ p s : Nat, p ≤ 3 ∧ 1 ≤ s ∧ s ≤ 3 ∧ plc f 3 = [(p : Int), ((p + s : Nat) : Int), ((p + 2 * s : Nat) : Int)] := by
  have h1 : Int.fmod f 4 = f % 4 := Int.fmod_eq_emod_of_nonneg _ (by omega)
  have h2 : Int.fdiv f 4 = f / 4 := Int.fdiv_eq_ediv_of_nonneg _ (by omega)
  have h3 : Int.fmod (f / 4) 3 = (f / 4) % 3 := Int.fmod_eq_emod_of_nonneg _ (by omega)
  refine ⟨(f % 4).toNat, ((f / 4) % 3 + 1).toNat, by omega, by omega, by omega, ?_⟩
  show [Int.fmod f 4 + (0 + ((0 : Nat) : Int)) * (Int.fmod (Int.fdiv f 4) 3 + 1), Int.fmod f 4 + (0 + ((1 : Nat) : Int)) * (Int.fmod (Int.fdiv f 4) 3 + 1), Int.fmod f 4 + (0 + ((2 : Nat) : Int)) * (Int.fmod (Int.fdiv f 4) 3 + 1)] = _
  rw [h2, h1, h3]
  congr 1
  · omega
  · congr 1
    · omega
    · congr 1
      omega
/-- the flags of an edge set -/
def mskE (p : Nat → Nat) (ch : Int) : Nat → List Int
  | 0 => []
  | k + 1 => mskE p ch k ++ (if bitC ch k then [2 ^ p k] else [])
theorem mskE_sum {p0 p1 p2 i : Nat} (h : i < 8) : (mskE (fun k => [p0, p1, p2].getD k 0) (i : Int) 3).sum = ((mskN p0 p1 p2 i : Nat) : Int) := by
  have : i = 0 ∨ i = 1 ∨ i = 2 ∨ i = 3 ∨ i = 4 ∨ i = 5 ∨ i = 6 ∨ i = 7 := by omega
  have e : ∀ k : Nat, (2 : Int) ^ k = ((2 ^ k : Nat) : Int) := by intro k; simp
  have t : ∀ (i k : Nat), decide (bitC (i : Int) k) = true → bitC (i : Int) k := fun i k h => of_decide_eq_true h
  have f : ∀ (i k : Nat), decide (bitC (i : Int) k) = false → ¬ bitC (i : Int) k := fun i k h => of_decide_eq_false h
  rcases this with rfl | rfl | rfl | rfl | rfl | rfl | rfl | rfl
  · rw [mskE, mskE, mskE, mskE, if_neg (f 0 0 (by decide +kernel)), if_neg (f 0 1 (by decide +kernel)), if_neg (f 0 2 (by decide +kernel))]; simp [mskN]
  · rw [mskE, mskE, mskE, mskE, if_pos (t 1 0 (by decide +kernel)), if_neg (f 1 1 (by decide +kernel)), if_neg (f 1 2 (by decide +kernel))]; simp [mskN]
  · rw [mskE, mskE, mskE, mskE, if_neg (f 2 0 (by decide +kernel)), if_pos (t 2 1 (by decide +kernel)), if_neg (f 2 2 (by decide +kernel))]; simp [mskN]
  · rw [mskE, mskE, mskE, mskE, if_pos (t 3 0 (by decide +kernel)), if_pos (t 3 1 (by decide +kernel)), if_neg (f 3 2 (by decide +kernel))]; simp [mskN]
  · rw [mskE, mskE, mskE, mskE, if_neg (f 4 0 (by decide +kernel)), if_neg (f 4 1 (by decide +kernel)), if_pos (t 4 2 (by decide +kernel))]; simp [mskN]
  · rw [mskE, mskE, mskE, mskE, if_pos (t 5 0 (by decide +kernel)), if_neg (f 5 1 (by decide +kernel)), if_pos (t 5 2 (by decide +kernel))]; simp [mskN]
  · rw [mskE, mskE, mskE, mskE, if_neg (f 6 0 (by decide +kernel)), if_pos (t 6 1 (by decide +kernel)), if_pos (t 6 2 (by decide +kernel))]; simp [mskN]
  · rw [mskE, mskE, mskE, mskE, if_pos (t 7 0 (by decide +kernel)), if_pos (t 7 1 (by decide +kernel)), if_pos (t 7 2 (by decide +kernel))]; simp [mskN]; omega
theorem mskN_lt {p s i : Nat} (hp : p ≤ 3) (hs : 1 ≤ s ∧ s ≤ 3) : mskN p (p + s) (p + 2 * s) i < 1024 := by
  have h1 : 2 ^ p ≤ 2 ^ 3 := Nat.pow_le_pow_right (by decide) hp
  have h2 : 2 ^ (p + s) ≤ 2 ^ 6 := Nat.pow_le_pow_right (by decide) (by omega)
  have h3 : 2 ^ (p + 2 * s) ≤ 2 ^ 9 := Nat.pow_le_pow_right (by decide) (by omega)
  unfold mskN
  have m : ∀ (x y : Nat), x % 2 * y ≤ y := fun x y => by
    have : x % 2 = 0 ∨ x % 2 = 1 := by omega
    rcases this with e | e <;> rw [e] <;> omega
  have a1 := m i (2 ^ p)
  have a2 := m (i / 2) (2 ^ (p + s))
  have a3 := m (i / 4) (2 ^ (p + 2 * s))
  omega
theorem strsCons {ys : List Value} {x : Str} {r : List Str} (h : StrsAre ys (x :: r)) : ∃ t ys', ys = .str x t :: ys' ∧ StrsAre ys' r := by
  cases h with | cons _ t h => exact ⟨t, _, rfl, h⟩
theorem nms_of {ys : List Value} {nm : Nat → Str} (h : StrsAre ys ((List.range 8).map nm)) : ∃ tt, ys = nms nm tt := by
  have h : StrsAre ys [nm 0, nm 1, nm 2, nm 3, nm 4, nm 5, nm 6, nm 7] := h
  obtain ⟨t0, y0, e0, h0⟩ := strsCons h
  obtain ⟨t1, y1, e1, h1⟩ := strsCons h0
  obtain ⟨t2, y2, e2, h2⟩ := strsCons h1
  obtain ⟨t3, y3, e3, h3⟩ := strsCons h2
  obtain ⟨t4, y4, e4, h4⟩ := strsCons h3
  obtain ⟨t5, y5, e5, h5⟩ := strsCons h4
  obtain ⟨t6, y6, e6, h6⟩ := strsCons h5
  obtain ⟨t7, y7, e7, h7⟩ := strsCons h6
  cases h7
  exact ⟨fun k => [t0, t1, t2, t3, t4, t5, t6, t7].getD k 0, by rw [e0, e1, e2, e3, e4, e5, e6, e7]; rfl⟩
theorem perm3 {x y z d : Addr × Obj} {r l : List (Addr × Obj)} (h : l = d :: x :: y :: z :: r) : ∀ p ∈ x :: y :: z :: d :: r, p ∈ l := by
  subst h
  intro p hp
  rcases List.mem_cons.mp hp with rfl | hp
  · exact .tail _ (.head _)
  rcases List.mem_cons.mp hp with rfl | hp
  · exact .tail _ (.tail _ (.head _))
  rcases List.mem_cons.mp hp with rfl | hp
  · exact .tail _ (.tail _ (.tail _ (.head _)))
  rcases List.mem_cons.mp hp with rfl | hp
  · exact .head _
  · exact .tail _ (.tail _ (.tail _ (.tail _ hp)))
theorem law_holds : PySem.Challenge.rw_xe0030_01.Holds := by
  w_top off
  refine Mine.hd ?_
  k_go0
  all_goals try k_fold
  refine Mine.letQE ?_
  intro Q1 hQ1
  k_steps
  unfold Halt
  rename IntsAre _ _ => hI
  rename Heap.IsList _ _ _ => hL
  refine' wpAny_mono (Mine.heaps_ok hI ?zz ?zB ?zF ?zX ?zN ?zT ?zk ?zd ?zu ⟨?zi, ?_⟩) (fun _ _ z => z) (fun _ _ z => z)
  case zz => omega
  case zB => k_asm
  case zF => k_asm
  case zX => k_asm
  case zN => k_asm
  case zT => k_asm
  case zk => exact rfl
  case zd => decide
  case zu => decide
  case zi => assumption
  intro lh f1 f2 f3 f4 f5 u1 u2 u3 u4 u5 h1 tk1 F1 N1 l1 g0
  generalize hgh : ghostOf _ _ = gh at *
  generalize hLL : Array.size (Heap.objs (Shared.heap _)) = LL at *
  obtain ⟨m0, F1⟩ : ∃ m0, Fr _ _ _ m0 := ⟨_, F1⟩
  rename Fr _ _ _ (bindL _ _ _) => F0
  clear F0
  k_sweep
  k_steps
  unfold Halt
  refine LCg.ListComp_U (F₀ := by k_asm) (by with_unfolding_all rfl) (by decide) (by rfl) (by decide) (by rfl) ?_
  k_steps
  unfold Halt
  refine LCg.CompSrc.range (n := 3) (by rfl) (by k_asm) (by k_asm) (by assumption) (by first | decide | rfl) (by first | rfl | decide) (by first | size_fits | exact Nat.le_of_ble_eq_true rfl) ?_
  intro g'
  refine compInvK (n := 3) (fun i ys => IntsAre ys (plc f4 i)) ?pstep ?pfin .nil
  case pstep =>
    rintro i ys v I3 oI C3 oC D3 m5 h5 tk5 E5 hi hys ⟨t7, rfl⟩ hC hx F5 N5 off ne
    have off0 := off
    dsimp only
    repeat (walk1; (try dsimp only))
    unfold Halt
    refine LCg.CompEnd.intro (by assumption) (by assumption) _ (fun p hp => hp) off0 trivial ⟨?_, rfl⟩
    rw [plc_succ]
    exact hys.append (.cons _ _ .nil)
  case pfin =>
    intro ys hys
    unfold LCg.FinE
    intro D6 h6 tk6 F6 N6 o6
    dsimp only
    refine Mine.lett fun gP gK => ?_
    obtain ⟨p, sp, hp, hs1, hs2, hpl⟩ := plc_three g0.2.2.2.1
    refine gK ?_
    clear gK gP
    rw [hpl] at hys
    clear hpl
    cases hys with | cons _ y0 hys =>
    cases hys with | cons _ y1 hys =>
    cases hys with | cons _ y2 hys =>
    cases hys
    repeat (walk1; (try dsimp only))
    unfold Halt
    refine Mine.ListComp_C (by k_asm) (by with_unfolding_all rfl) (by intro n; rfl) (by intro h; rfl) (by rfl) (by decide) (by rfl) ?_
    repeat (walk1; (try dsimp only))
    unfold Halt
    refine Mine.SrcC.range (n := 8) (by rfl) (by k_asm) (by k_asm) (by assumption) (by first | decide | rfl) (by first | rfl | decide) (by first | size_fits | exact Nat.le_of_ble_eq_true rfl) ?_
    intro g2
    dsimp only
    refine compCInvK (n := 8) (fun i ys => StrsAre ys ((List.range i).map (nmP p (p + sp) (p + 2 * sp)))) ?estep ?efin .nil
    case estep =>
      rintro i ys v I3 oI C3 oC D3 cE oE m5 h5 tk5 E5 hi hys ⟨t7, rfl⟩ hC hE F5 N5 off ne hne
      have off0 := off
      have hE : oE.data = .cell (some (.int ((i : Nat) : Int) t7)) := by rw [hE, Int.zero_add]
      generalize hch : ((i : Nat) : Int) = ch at hE
      have hc7 : 0 ≤ ch ∧ ch ≤ 7 := by omega
      k_sweep
      dsimp only
      repeat (walk1; (try dsimp only))
      unfold Halt
      refine LCt.ListComp_T (F₀ := by k_asm) (by with_unfolding_all rfl) (by decide) (by rfl) (by decide) (by rfl) ?_
      repeat (walk1; (try dsimp only))
      unfold Halt
      refine LCt.CompSrcT.range (n := 3) (by rfl) (by k_asm) (by k_asm) (by assumption) (by first | decide | rfl) (by first | rfl | decide) (by first | size_fits | exact Nat.le_of_ble_eq_true rfl) ?_
      intro g3
      dsimp only
      have z0 : (0 : Int) ≤ [(p : Int), ((p + sp : Nat) : Int), ((p + 2 * sp : Nat) : Int)].getD (Int.toNat 0) 0 ∧ [(p : Int), ((p + sp : Nat) : Int), ((p + 2 * sp : Nat) : Int)].getD (Int.toNat 0) 0 ≤ 9 := by show (0 : Int) ≤ (p : Int) ∧ (p : Int) ≤ 9; omega
      have z1 : (0 : Int) ≤ [(p : Int), ((p + sp : Nat) : Int), ((p + 2 * sp : Nat) : Int)].getD (Int.toNat 1) 0 ∧ [(p : Int), ((p + sp : Nat) : Int), ((p + 2 * sp : Nat) : Int)].getD (Int.toNat 1) 0 ≤ 9 := by show (0 : Int) ≤ ((p + sp : Nat) : Int) ∧ ((p + sp : Nat) : Int) ≤ 9; omega
      have z2 : (0 : Int) ≤ [(p : Int), ((p + sp : Nat) : Int), ((p + 2 * sp : Nat) : Int)].getD (Int.toNat 2) 0 ∧ [(p : Int), ((p + sp : Nat) : Int), ((p + 2 * sp : Nat) : Int)].getD (Int.toNat 2) 0 ≤ 9 := by show (0 : Int) ≤ ((p + 2 * sp : Nat) : Int) ∧ ((p + 2 * sp : Nat) : Int) ≤ 9; omega
      have q0 : (1 : Int) * 2 ^ Int.toNat ([(p : Int), ((p + sp : Nat) : Int), ((p + 2 * sp : Nat) : Int)].getD (Int.toNat 0) 0) = 2 ^ p := by show (1 : Int) * 2 ^ Int.toNat (p : Int) = 2 ^ p; rw [Int.toNat_natCast, Int.one_mul]
      have q1 : (1 : Int) * 2 ^ Int.toNat ([(p : Int), ((p + sp : Nat) : Int), ((p + 2 * sp : Nat) : Int)].getD (Int.toNat 1) 0) = 2 ^ (p + sp) := by show (1 : Int) * 2 ^ Int.toNat ((p + sp : Nat) : Int) = 2 ^ (p + sp); rw [Int.toNat_natCast, Int.one_mul]
      have q2 : (1 : Int) * 2 ^ Int.toNat ([(p : Int), ((p + sp : Nat) : Int), ((p + 2 * sp : Nat) : Int)].getD (Int.toNat 2) 0) = 2 ^ (p + 2 * sp) := by show (1 : Int) * 2 ^ Int.toNat ((p + 2 * sp : Nat) : Int) = 2 ^ (p + 2 * sp); rw [Int.toNat_natCast, Int.one_mul]
      refine compTInvK (n := 3) (fun k zs => IntsAre zs (mskE (fun k => [p, p + sp, p + 2 * sp].getD k 0) ch k)) ?kstep ?kfin .nil
      case kstep =>
        rintro j zs v I4 oI4 C4 oC4 D4 m6 h6 tk6 E6 hj hzs ⟨t9, rfl⟩ hC6 hx6 F6 N6 off' ne'
        have off1 := off'
        dsimp only
        have : j = 0 ∨ j = 1 ∨ j = 2 := by omega
        rcases this with rfl | rfl | rfl
        · have hx : m6 "k" = some (.int 0 t9) := hx6
          repeat (walk1; (try dsimp only))
          · unfold Halt
            have hb : bitC ch 0 := by unfold bitC; assumption
            refine LCg.CompEnd.intro (by assumption) (by assumption) _ (fun p hp => hp) off1 trivial ⟨?_, rfl⟩
            show IntsAre _ (mskE _ _ (0 + 1))
            rw [mskE, if_pos hb]
            refine hzs.append ?_
            show IntsAre [Value.int (1 * 2 ^ Int.toNat ([(p : Int), ((p + sp : Nat) : Int), ((p + 2 * sp : Nat) : Int)].getD (Int.toNat 0) 0)) _] [2 ^ p]
            rw [q0]
            exact .cons _ _ .nil
          · try unfold Halt
            have hb : ¬ bitC ch 0 := by unfold bitC; intro h; exact h (by assumption)
            refine LCg.CompEnd.intro (by assumption) (by assumption) _ (fun p hp => hp) off1 trivial ⟨?_, rfl⟩
            show IntsAre _ (mskE _ _ (0 + 1))
            rw [mskE, if_neg hb, List.append_nil]
            exact hzs
        · have hx : m6 "k" = some (.int 1 t9) := hx6
          repeat (walk1; (try dsimp only))
          · unfold Halt
            have hb : bitC ch 1 := by unfold bitC; assumption
            refine LCg.CompEnd.intro (by assumption) (by assumption) _ (fun p hp => hp) off1 trivial ⟨?_, rfl⟩
            show IntsAre _ (mskE _ _ (1 + 1))
            rw [mskE, if_pos hb]
            refine hzs.append ?_
            show IntsAre [Value.int (1 * 2 ^ Int.toNat ([(p : Int), ((p + sp : Nat) : Int), ((p + 2 * sp : Nat) : Int)].getD (Int.toNat 1) 0)) _] [2 ^ (p + sp)]
            rw [q1]
            exact .cons _ _ .nil
          · try unfold Halt
            have hb : ¬ bitC ch 1 := by unfold bitC; intro h; exact h (by assumption)
            refine LCg.CompEnd.intro (by assumption) (by assumption) _ (fun p hp => hp) off1 trivial ⟨?_, rfl⟩
            show IntsAre _ (mskE _ _ (1 + 1))
            rw [mskE, if_neg hb, List.append_nil]
            exact hzs
        · have hx : m6 "k" = some (.int 2 t9) := hx6
          repeat (walk1; (try dsimp only))
          · unfold Halt
            have hb : bitC ch 2 := by unfold bitC; assumption
            refine LCg.CompEnd.intro (by assumption) (by assumption) _ (fun p hp => hp) off1 trivial ⟨?_, rfl⟩
            show IntsAre _ (mskE _ _ (2 + 1))
            rw [mskE, if_pos hb]
            refine hzs.append ?_
            show IntsAre [Value.int (1 * 2 ^ Int.toNat ([(p : Int), ((p + sp : Nat) : Int), ((p + 2 * sp : Nat) : Int)].getD (Int.toNat 2) 0)) _] [2 ^ (p + 2 * sp)]
            rw [q2]
            exact .cons _ _ .nil
          · try unfold Halt
            have hb : ¬ bitC ch 2 := by unfold bitC; intro h; exact h (by assumption)
            refine LCg.CompEnd.intro (by assumption) (by assumption) _ (fun p hp => hp) off1 trivial ⟨?_, rfl⟩
            show IntsAre _ (mskE _ _ (2 + 1))
            rw [mskE, if_neg hb, List.append_nil]
            exact hzs
      case kfin =>
        intro zs hzs
        unfold LCg.FinE
        intro D7 h7 tk7 F7 N7 o7
        dsimp only
        repeat (walk1; (try dsimp only))
        unfold Halt
        subst hch
        rw [mskE_sum hi]
        refine' wpAny_mono (Mine.pretty_ok (mskN_lt hp ⟨hs1, hs2⟩) ?zB ?zF ?zX ?zN ?zT ?zk ?zd ?zu ?_) (fun _ _ z => z) (fun _ _ z => z)
        case zB => k_asm
        case zF => k_asm
        case zX => k_asm
        case zN => k_asm
        case zT => k_asm
        case zk => exact rfl
        case zd => decide
        case zu => decide
        intro t8 h8 tk8 F8 N8
        show LCg.CompEnd _ _ _ _ _ _ _ _ _ _ _ _ _ _
        refine LCg.CompEnd.intro F8 N8 _ (fun p hp => .tail _ hp) off0 trivial ⟨?_, rfl⟩
        rw [List.range_succ, List.map_append]
        exact hys.append' (.cons _ _ .nil)
    case efin =>
      intro ys hys
      unfold LCg.FinE
      intro D7 h7 tk7 F7 N7 o7
      obtain ⟨tt, rfl⟩ : ∃ tt, ys = nms (nmP p (p + sp) (p + 2 * sp)) tt := nms_of hys
      clear hys
      dsimp only
      repeat (walk1; (try dsimp only))
      unfold Halt
      refine LCg.CompSrc.range (n := 3) (by rfl) (by k_asm) (by k_asm) (by assumption) (by first | decide | rfl) (by first | rfl | decide) (by first | size_fits | exact Nat.le_of_ble_eq_true rfl) ?_
      intro g4
      dsimp only
      have ha : 1 ≤ Int.fmod f1 4 + 1 ∧ Int.fmod f1 4 + 1 ≤ 4 := by
        have h1 := Int.fmod_nonneg_of_pos f1 (b := 4) (by decide)
        have h2 := Int.fmod_lt_of_pos f1 (b := 4) (by decide)
        omega
      have hd : 1 ≤ Int.fmod f2 4 + 1 ∧ Int.fmod f2 4 + 1 ≤ 4 := by
        have h1 := Int.fmod_nonneg_of_pos f2 (b := 4) (by decide)
        have h2 := Int.fmod_lt_of_pos f2 (b := 4) (by decide)
        omega
      have hc : -1 ≤ Int.fmod f3 5 - 1 ∧ Int.fmod f3 5 - 1 ≤ 3 := by
        have h1 := Int.fmod_nonneg_of_pos f3 (b := 5) (by decide)
        have h2 := Int.fmod_lt_of_pos f3 (b := 5) (by decide)
        omega
      generalize Int.fmod f1 4 + 1 = a at *
      generalize Int.fmod f2 4 + 1 = d at *
      generalize Int.fmod f3 5 - 1 = c at *
      refine LCg.CompRest.succ ?_
      rintro v0 I0 oI0 C0 oC0 Dq0 m0 h0' tk0 E0 ⟨t0, rfl⟩ hC0 hx0 F0 N0 off ne0
      have off0 := off
      dsimp only
      have hx : m0 "high" = some (.int 0 t0) := hx0
      repeat (walk1; (try dsimp only))
      unfold Halt
      refine' wpAny_mono (Mine.book_ok (nm := nmP p (p + sp) (p + 2 * sp)) (tt := tt) (by decide) ha hc hd ?zB ?zF ?zX ?zN ?zT ?zk ?zd ?zu ⟨?zm, ?_⟩) (fun _ _ z => z) (fun _ _ z => z)
      case zB => k_asm
      case zF => k_asm
      case zX => k_asm
      case zN => k_asm
      case zT => k_asm
      case zk => exact rfl
      case zd => decide
      case zu => decide
      case zm => k_mem
      intro b0 bo0 kv0 h0'' tk0' F0' N0' l0' bd0 bf0 bs0
      show LCg.CompEnd _ _ _ _ _ _ _ _ _ _ _ _ _ _
      refine LCg.CompEnd.intro F0' N0' ((b0, bo0) :: _) (perm3 ?zp) ⟨⟨Ne.symm (l0' _ (.head _)), Ne.symm (l0' _ (.tail _ (.head _))), Ne.symm (l0' _ (.tail _ (.tail _ (.head _))))⟩, off0⟩ trivial ?_
      case zp => exact rfl
      clear off0 off ne0 F0 N0 F0' N0' hC0 hx0 hx
      refine LCg.CompRest.succ ?_
      rintro v1 I1 oI1 C1 oC1 Dq1 m1 h1' tk1 E1 ⟨t1, rfl⟩ hC1 hx1 F1 N1 off ne1
      have off0 := off
      dsimp only
      have hx : m1 "high" = some (.int 1 t1) := hx1
      repeat (walk1; (try dsimp only))
      unfold Halt
      refine' wpAny_mono (Mine.book_ok (nm := nmP p (p + sp) (p + 2 * sp)) (tt := tt) (by decide) ha hc hd ?zB ?zF ?zX ?zN ?zT ?zk ?zd ?zu ⟨?zm, ?_⟩) (fun _ _ z => z) (fun _ _ z => z)
      case zB => k_asm
      case zF => k_asm
      case zX => k_asm
      case zN => k_asm
      case zT => k_asm
      case zk => exact rfl
      case zd => decide
      case zu => decide
      case zm => k_mem
      intro b1 bo1 kv1 h1'' tk1' F1' N1' l1' bd1 bf1 bs1
      show LCg.CompEnd _ _ _ _ _ _ _ _ _ _ _ _ _ _
      refine LCg.CompEnd.intro F1' N1' ((b1, bo1) :: _) (perm3 ?zp) ⟨⟨Ne.symm (l1' _ (.head _)), Ne.symm (l1' _ (.tail _ (.head _))), Ne.symm (l1' _ (.tail _ (.tail _ (.head _))))⟩, off0⟩ trivial ?_
      case zp => exact rfl
      clear off0 off ne1 F1 N1 F1' N1' hC1 hx1 hx
      refine LCg.CompRest.succ ?_
      rintro v2 I2 oI2 C2 oC2 Dq2 m2 h2' tk2 E2 ⟨t2, rfl⟩ hC2 hx2 F2 N2 off ne2
      have off0 := off
      dsimp only
      have hx : m2 "high" = some (.int 2 t2) := hx2
      repeat (walk1; (try dsimp only))
      unfold Halt
      refine' wpAny_mono (Mine.book_ok (nm := nmP p (p + sp) (p + 2 * sp)) (tt := tt) (by decide) ha hc hd ?zB ?zF ?zX ?zN ?zT ?zk ?zd ?zu ⟨?zm, ?_⟩) (fun _ _ z => z) (fun _ _ z => z)
      case zB => k_asm
      case zF => k_asm
      case zX => k_asm
      case zN => k_asm
      case zT => k_asm
      case zk => exact rfl
      case zd => decide
      case zu => decide
      case zm => k_mem
      intro b2 bo2 kv2 h2'' tk2' F2' N2' l2' bd2 bf2 bs2
      show LCg.CompEnd _ _ _ _ _ _ _ _ _ _ _ _ _ _
      refine LCg.CompEnd.intro F2' N2' ((b2, bo2) :: _) (perm3 ?zp) ⟨⟨Ne.symm (l2' _ (.head _)), Ne.symm (l2' _ (.tail _ (.head _))), Ne.symm (l2' _ (.tail _ (.tail _ (.head _))))⟩, off0⟩ trivial ?_
      case zp => exact rfl
      clear off0 off ne2 F2 N2 F2' N2' hC2 hx2 hx
      refine LCg.CompRest.zero ?_
      unfold LCg.FinA
      intro D8 h8 tk8 F8 N8 o8
      simp only [List.nil_append, List.cons_append] at N8
      k_sweep
      dsimp only
      repeat (walk1; (try dsimp only))
      unfold Halt
      rename Frag.In _ _ => Xz
      revert Xz
      k_fill
      intro Xz
--TAIL
      refine Mine.merge (fun v => ∃ n t, v = Value.int n t ∧ (n = 2000 ∨ n = 16)) ?w1 ?w2
      case w1 =>
        refine wpAny_IfExp ?_
        dsimp only
        k_steps
        all_goals first | exact .inl rfl | exact .inr rfl | exact ⟨_, rfl⟩ | exact ⟨⟨_, _, rfl, .inl rfl⟩, _, rfl⟩ | exact ⟨⟨_, _, rfl, .inr rfl⟩, _, rfl⟩
      case w2 =>
        rintro v tk9 ⟨n, t, rfl, hn⟩
        dsimp only
        repeat (walk1; (try dsimp only))
        unfold Halt
        have hW : 16 ≤ Int.fmod f5 7 + n ∧ Int.fmod f5 7 + n ≤ 2006 := by
          have h1 := Int.fmod_nonneg_of_pos f5 (b := 7) (by decide)
          have h2 := Int.fmod_lt_of_pos f5 (b := 7) (by decide)
          omega
        generalize Int.fmod f5 7 + n = W at *
        obtain ⟨w, rfl⟩ : ∃ w : Nat, W = (w : Int) := ⟨W.toNat, by omega⟩
        have hw : 16 ≤ w ∧ w ≤ 2006 := by omega
        clear hn hW
        have hb1 := bits_one (w := w)
        refine pow_int (by decide) (by omega) ?_
        obtain ⟨U, hU, hU'⟩ : ∃ U : Int, U = (2 ^ w - 1) ^ 3 ∧ (1 * 2 ^ Int.toNat (w : Int) - 1 : Int) ^ Int.toNat 3 = U := ⟨_, rfl, by rw [Int.toNat_natCast, Int.one_mul]; rfl⟩
        rw [hU']
        clear hU' hb1
        k_sweep
        dsimp only
        repeat (walk1; (try dsimp only))
        unfold Halt
        rename Addr => Dt
        rename Fr _ _ _ _ => lF
        rename News _ _ _ _ => lN
        have lN2 := newsSub (l := [(37, _), (30, _), (Dt, _), (D8, _), (b2, _), (b1, _), (b0, _), (D6, _), (LL + 1 + 1 + 1 + 1 + 1, _), (LL + 1 + 1 + 1 + 1, _), (LL + 1 + 1 + 1, _), (LL + 1 + 1, _)]) lN (by k_subL)
        clear lN
        rename Obj.data _ = Data.cell (some (Value.int a _)) => ca
        obtain ⟨ta, xa⟩ : ∃ ta, _ = Data.cell (some (Value.int a ta)) := ⟨_, ca⟩
        rename Obj.data _ = Data.cell (some (Value.int d _)) => cd
        obtain ⟨td, xd⟩ : ∃ td, _ = Data.cell (some (Value.int d td)) := ⟨_, cd⟩
        rename Obj.data _ = Data.cell (some (Value.int c _)) => cc
        obtain ⟨tc, xc⟩ : ∃ tc, _ = Data.cell (some (Value.int c tc)) := ⟨_, cc⟩
        clear ca cd cc
        obtain ⟨base, hbase, lN3⟩ := cutBase lN2
        clear lN2
        have hb37 : ∀ q ∈ base, q.1 ≠ 37 := by rw [hbase]; (iterate 10 (refine List.forall_mem_cons.mpr (And.intro (by k_ne) ?_))); exact List.forall_mem_nil _
        have hb30 : ∀ q ∈ base, q.1 ≠ 30 := by rw [hbase]; (iterate 10 (refine List.forall_mem_cons.mpr (And.intro (by k_ne) ?_))); exact List.forall_mem_nil _
        refine Mine.lett fun gP gK => ?_
        obtain ⟨mDt, mD8, mb2, mb1, mb0, mD6, mc5, mc4, mc3, mc2⟩ := mem10 hbase
        refine gK ?_
        clear gK gP
        clear hbase
        with_unfolding_all (refine' iterTuple ?g1 lF lN3 ?g2 ?g3 ?g4 ?_)
        case g1 => exact rfl
        case g2 => exact .tail _ (.tail _ mDt)
        case g3 => exact rfl
        case g4 => exact rfl
        intro I l2
        have hbI : ∀ q ∈ base, @Ne Nat q.1 I := fun q hq => Nat.ne_of_lt (l2 q (.tail _ (.tail _ hq)))
        have n37 : @Ne Nat 37 I := Nat.ne_of_lt (l2 _ (.head _))
        have n30 : @Ne Nat 30 I := Nat.ne_of_lt (l2 _ (.tail _ (.head _)))
        clear lF lN3 l2
        refine' itemsInvR (JLaw I D8 w tk9 U base) ?zstep ?zdone _ _ _ (JLaw.mk (X := [(37, tabObj #[]), (30, tabObj #[])]) lawItems rfl rfl rfl .bare)
        case zdone =>
          intro m' news h2 tk2 hJ F2 N2
          cases hJ with | mk hr mb mw mu hX =>
          refine Mine.lett fun gP gK => ?_
          obtain ⟨pt, pt', k37, k30⟩ := hX.tabs
          refine gK ?_
          clear gK gP
          dsimp only
          repeat (walk1; (try dsimp only))
          refine hQ1 _ _ ?_
          dsimp only
          refine ⟨?_, ?_⟩
          · refine goodW_bool F2 (by assumption) (raisesW_false ?_) ?_
            · wrow_none_raised
            · exact post_true _
          · exact ⟨GrownAt.of N2 (List.mem_append_left _ k37), GrownAt.of N2 (List.mem_append_left _ k30), trivial⟩
        case zstep =>
          intro a' r m' news v h2 tk2 oI R hJ hv hcI F2 N2 hEnd hBrk hRet
          cases hJ with | mk hr mb mw mu hX =>
          refine Mine.lett fun gP gK => ?_
          obtain ⟨ch, tch, hch, rfl⟩ := hr _ (.head _)
          refine gK ?_
          clear gK gP
          have hr' := fun it hit => hr it (.tail _ hit)
          clear hr
          obtain rfl : v = .int (ch : Int) tch := hv
          have hc4 : ch ≤ 4 := by
            have : ch = 0 ∨ ch = 1 ∨ ch = 2 ∨ ch = 4 := by simpa using hch
            omega
          refine Mine.lett fun gP gK => ?_
          obtain ⟨g0', g1', g2', g3', fg⟩ := figs ha hc hd hch
          refine gK ?_
          clear gK gP
          obtain ⟨Q1, tf1⟩ := turn_fig hw hU fg.n0 fg.n1 fg.n2 fg.n3 fg.lo fg.hi
          have dl_tf1 := figs_lt hw fg.n0 fg.n1 fg.n2 fg.n3 fg.hi
          generalize hN1 : Mine.D2 w [0, 0, g3', g2', g1', g0'] = N1 at tf1
          obtain ⟨Q2, tf2⟩ := turn_fig hw hU fg.n3 fg.n2 fg.n1 fg.n0 (by have := fg.lo; omega) (by have := fg.hi; omega)
          have dl_tf2 := figs_lt hw fg.n3 fg.n2 fg.n1 fg.n0 (by have := fg.hi; omega)
          generalize hN2 : Mine.D2 w [0, 0, g0', g1', g2', g3'] = N2 at tf2
          have uf := under_fig hw hU
          have hQ1b := tf1.qb
          have hUb : Builtin.Int.intBits U ≤ 8000 := by rw [uf.2.2.2]; omega
          obtain ⟨B2, hB2⟩ : ∃ B2, -Q2 - 1 = B2 := ⟨_, rfl⟩
          have hB2b : Builtin.Int.intBits B2 ≤ 20000 := hB2 ▸ tf2.bb
          have hB2q : -1 - B2 = Q2 := by omega
          have hN1b := tf1.nb
          have hN2b := tf2.nb
          have hE0 := books_sizes (a := a) (c := c) (d := d) hp ⟨hs1, hs2⟩ ha hc hd
          have e7 : (7 : Int) - (ch : Int) = ((7 - ch : Nat) : Int) := by omega
          have rg1 := (rows_fig (a := a) (c := c) (d := d) hp ⟨hs1, hs2⟩ (ch_8 hch).1).trans fg.ea
          have rg2 := (rows_fig (a := a) (c := c) (d := d) hp ⟨hs1, hs2⟩ (ch_8 hch).2).trans fg.eb
          have e3 : (3 * (w : Int)).toNat = 3 * w := by omega
          dsimp only
          repeat (walk1; (try dsimp only))
          unfold Halt
          refine' wpAny_mono (Mine.heights_ok ⟨by omega, by omega⟩ ha hc hd ?zB ?zF ?zX ?zN ?zT ?zk ?zd ?zu ?_) (fun _ _ z => z) (fun _ _ z => z)
          case zB => k_asm
          case zF => k_asm
          case zX => k_asm
          case zN => k_asm
          case zT => k_asm
          case zk => exact rfl
          case zd => decide
          case zu => decide
          intro lh1 vh hh1 tkh Fh1 Nh1 _ hvh
          rw [fg.he] at hvh
          obtain ⟨v0, v1, v2, v3, rfl⟩ := ints4 hvh
          clear hvh
          k_sweep
          dsimp only
          repeat (walk1; (try dsimp only))
          unfold Halt
          rename IntsAre _ _ => hds
          have hds : IntsAre _ [0, 0, g3', g2', g1', g0'] := hds
          refine' wpAny_mono (Mine.d2iU (n := (w : Int)) (oI := oI) (fr := [(_, _), (_, _), (_, _), (lh1, _), (I, oI)]) hX ?zI ?zD ?zfr hb37 ⟨by omega, by omega⟩ hds ⟨Nat.le_of_ble_eq_true rfl, Nat.le_of_ble_eq_true rfl⟩ dl_tf1 ?zB ?zF ?zX ?zN ?zT ?zk ?zd ?zu ⟨?ze, ?_⟩) (fun _ _ z => z) (fun _ _ z => z)
          case zB => k_asm
          case zF => k_asm
          case zX => k_asm
          case zN => k_asm
          case zT => k_asm
          case zk => exact rfl
          case zd => decide
          case zu => decide
          case ze => exact rfl
          case zI => k_mem
          case zD => k_mem
          case zfr => exact consOf ⟨_, rfl⟩ (consOf ⟨_, rfl⟩ (consOf ⟨_, rfl⟩ (twoOf ⟨_, rfl⟩ ⟨_, hcI⟩)))
          rw [show Mine.D2 (Int.toNat (w : Int)) [0, 0, g3', g2', g1', g0'] = N1 from hN1]
          intro c1 o1 q1 u1' Y t6 hh2 tk2' p1 p2 x1 x2 x3 hY Fh2 Nh2
          (try dsimp only [List.cons_append, List.nil_append] at Nh2)
          clear hX hds
          k_sweep
          dsimp only
          repeat (walk1; (try dsimp only))
          unfold Halt
          refine' wpAny_mono (Mine.div21_ok (n := 3 * (w : Int)) ⟨by omega, by omega⟩ tf1.n0 (by rw [e3]; exact uf.2.1) (by rw [e3]; exact uf.2.2.1) (by rw [e3]; exact tf1.ub) tf1.nb (by rw [uf.2.2.2]; omega) ?zB ?zF ?zX ?zN ?zT ?zk ?zd ?zu ?_) (fun _ _ z => z) (fun _ _ z => z)
          case zB => k_asm
          case zF => k_asm
          case zX => k_asm
          case zN => k_asm
          case zT => k_asm
          case zk => exact rfl
          case zd => decide
          case zu => decide
          rw [tf1.qe, tf1.re]
          intro ld u8 u9 hh3 tk3' Fh3 Nh3 _
          k_sweep
          dsimp only
          repeat (walk1; (try dsimp only))
          try any_goals (exact absurd rfl (by with_reducible assumption))
          repeat (walk1; (try dsimp only))
          unfold Halt
          refine' wpAny_mono (Mine.i2dU (n := (w : Int)) (oI := oI) (fr := [(ld, _), (_, _), (_, _), (_, _), (lh1, _), (I, oI)]) hY ?zI x3 ?zfr hb30 ⟨by omega, by omega⟩ tf1.qn tf1.qb tf1.qc ?zB ?zF ?zX ?zN ?zT ?zk ?zd ?zu ⟨?ze, ?_⟩) (fun _ _ z => z) (fun _ _ z => z)
          case zB => k_asm
          case zF => k_asm
          case zX => k_asm
          case zN => k_asm
          case zT => k_asm
          case zk => exact rfl
          case zd => decide
          case zu => decide
          case ze => exact rfl
          case zI => k_mem
          case zfr => exact consOf ⟨_, rfl⟩ (consOf ⟨_, rfl⟩ (consOf ⟨_, rfl⟩ (consOf ⟨_, rfl⟩ (twoOf ⟨_, rfl⟩ ⟨_, hcI⟩))))
          intro lqtf1 yqtf1 c2 o2 q2 u2' hh4 tk4' p3 p4 x4 x5 x6 x7 Fh4 Nh4 hytf1
          (try dsimp only [List.cons_append, List.nil_append] at Nh4)
          clear hY
          have hytf1' : IntsAre yqtf1 (digs w (Int.fdiv ((Builtin.Int.intBits Q1 : Int) + (w : Int) - 1) (w : Int)).toNat Q1) := hytf1
          rw [tf1.qd] at hytf1'
          clear hytf1
          k_sweep
          dsimp only
          repeat (walk1; (try dsimp only))
          unfold Halt
          refine' wpAny_mono (Mine.off_ok (ch := (ch : Int)) (p0 := p) (p1 := p + sp) (p2 := p + 2 * sp) ⟨by omega, by omega⟩ ⟨by omega, by omega, by omega⟩ hE0 bd0 bd1 bd2 bf0 bf1 bf2 bs0 bs1 bs2 ?zB ?zF ?zX ?zN ?zT ?zk ?zd ?zu ⟨⟨?zm1, ?zm2, ?zm3, ?zm4, ?zm5⟩, ?_⟩) (fun _ _ z => z) (fun _ _ z => z)
          case zB => k_asm
          case zF => k_asm
          case zX => k_asm
          case zN => k_asm
          case zT => k_asm
          case zk => exact rfl
          case zd => decide
          case zu => decide
          case zm1 => k_mem
          case zm2 => k_mem
          case zm3 => k_mem
          case zm4 => k_mem
          case zm5 => k_mem
          rw [rg1]
          intro lo1 yo1 ko1 hh5 tk5' Fh5 Nh5 _ ho1
          k_sweep
          dsimp only
          repeat (walk1; (try dsimp only))
          try any_goals (exact absurd rfl (by with_reducible assumption))
          repeat (walk1; (try dsimp only))
          unfold Halt
          rename News _ _ _ _ => lN
          have lN3 := newsDrop2 (newsDrop2 (newsDrop2 (newsDrop2 (newsDrop2 (newsDrop2 (newsDrop2 lN))))))
          clear lN
          refine' wpAny_mono (Mine.d2i_ok (n := (w : Int)) (by omega) p1 p2 ⟨by omega, by omega⟩ (.cons _ _ (.cons _ _ (.cons _ _ (.cons _ _ (.cons _ _ (.cons _ _ .nil)))))) ⟨Nat.le_of_ble_eq_true rfl, Nat.le_of_ble_eq_true rfl⟩ dl_tf2 ?zB ?zF ?zX ?zN ?zT ?zk ?zd ?zu ⟨⟨?zm1, ?zm2, ?zm3⟩, ?_⟩) (fun _ _ z => z) (fun _ _ z => z)
          case zB => k_asm
          case zF => k_asm
          case zX => k_asm
          case zN => k_asm
          case zT => k_asm
          case zk => exact rfl
          case zd => decide
          case zu => decide
          case zm1 => k_mem
          case zm2 => k_mem
          case zm3 => k_mem
          rw [show Mine.D2 (Int.toNat (w : Int)) [0, 0, g0', g1', g2', g3'] = N2 from hN2]
          intro t6 hh2 tk2' Fh2 Nh2
          k_sweep
          dsimp only
          repeat (walk1; (try dsimp only))
          unfold Halt
          refine' wpAny_mono (Mine.im3_ok (a := N2) (b := -U) p1 p2 p3 p4 ⟨x7, x2, x5, x3, x6⟩ tf2.m1 tf2.m2 (by rw [Int.neg_neg]; exact uf.1) tf2.m3 (by rw [Int.neg_neg, uf.2.2.2]; omega) tf2.m4 ?zB ?zF ?zX ?zN ?zT ?zk ?zd ?zu ⟨⟨?zm1, ?zm2, ?zm3, ?zm4⟩, ?_⟩) (fun _ _ z => z) (fun _ _ z => z)
          case zB => k_asm
          case zF => k_asm
          case zX => k_asm
          case zN => k_asm
          case zT => k_asm
          case zk => exact rfl
          case zd => decide
          case zu => decide
          case zm1 => k_mem
          case zm2 => k_mem
          case zm3 => k_mem
          case zm4 => k_mem
          rw [tf2.m6, tf2.m5, hB2]
          intro lm u10 u11 hh6 tk6' Fh6 Nh6 _
          k_sweep
          dsimp only
          repeat (walk1; (try dsimp only))
          try any_goals (exact absurd rfl (by with_reducible assumption))
          repeat (walk1; (try dsimp only))
          unfold Halt
          rw [hB2q]
          refine' wpAny_mono (Mine.i2d_ok (n := (w : Int)) p3 p4 ⟨by omega, by omega⟩ tf2.qn tf2.qb tf2.qc ?zB ?zF ?zX ?zN ?zT ?zk ?zd ?zu ⟨⟨?zm1, ?zm2⟩, ?_⟩) (fun _ _ z => z) (fun _ _ z => z)
          case zB => k_asm
          case zF => k_asm
          case zX => k_asm
          case zN => k_asm
          case zT => k_asm
          case zk => exact rfl
          case zd => decide
          case zu => decide
          case zm1 => k_mem
          case zm2 => k_mem
          intro lqtf2 yqtf2 hh4 tk4' Fh4 Nh4 _ hytf2
          have hytf2' : IntsAre yqtf2 (digs w (Int.fdiv ((Builtin.Int.intBits Q2 : Int) + (w : Int) - 1) (w : Int)).toNat Q2) := hytf2
          rw [tf2.qd] at hytf2'
          clear hytf2
          k_sweep
          dsimp only
          repeat (walk1; (try dsimp only))
          unfold Halt
          refine' wpAny_mono (Mine.off_ok (ch := 7 - (ch : Int)) (p0 := p) (p1 := p + sp) (p2 := p + 2 * sp) ⟨by omega, by omega⟩ ⟨by omega, by omega, by omega⟩ hE0 bd0 bd1 bd2 bf0 bf1 bf2 bs0 bs1 bs2 ?zB ?zF ?zX ?zN ?zT ?zk ?zd ?zu ⟨⟨?zm1, ?zm2, ?zm3, ?zm4, ?zm5⟩, ?_⟩) (fun _ _ z => z) (fun _ _ z => z)
          case zB => k_asm
          case zF => k_asm
          case zX => k_asm
          case zN => k_asm
          case zT => k_asm
          case zk => exact rfl
          case zd => decide
          case zu => decide
          case zm1 => k_mem
          case zm2 => k_mem
          case zm3 => k_mem
          case zm4 => k_mem
          case zm5 => k_mem
          rw [e7, rg2]
          intro lo2 yo2 ko2 hh5 tk5' Fh5 Nh5 _ ho2
          k_sweep
          dsimp only
          repeat (walk1; (try dsimp only))
          try any_goals (exact absurd rfl (by with_reducible assumption))
          repeat (walk1; (try dsimp only))
          refine hEnd _ _ (.inl rfl) ?_
          exact endLaw (fr := [_, _, _, _, _, (I, oI)]) Fh5 Nh5 (by k_mem) (oneOf mDt) hbI n37 n30 hr' mb mw mu p1 p2 x1 x2 x3 p3 p4 x4 x5 x6 x7
end Mine
end
end
end
theorem PySem.Challenge.cw_xe0030_01_holds : PySem.Challenge.rw_xe0030_01.Holds := by
  exact Mine.law_holds
