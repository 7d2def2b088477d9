import PyProof.Rows.All
import Wide.All
import OpenK.AllK
import Wide.FinOn
import PySem.Challenge.RW_om0047_01
set_option Elab.async false
section
open PySem PySem.W PyProof.Rows
namespace Mine
section
local macro_rules | `(tactic| o_head $H) => `(tactic| assumption)
set_option maxRecDepth 100000 in
set_option maxHeartbeats 8000000 in
theorem h0 : PySem.Challenge.rw_om0047_01.row.Holds → PySem.Challenge.rw_om0047_01.row.Holds := by
  intro h
  k_head
end
end Mine
end
section
open PySem PySem.W PySem.Calls PyProof.Rows
namespace Mine
abbrev prg : Program := PySem.Challenge.rw_om0047_01.row.prog
def Fill (_ : OpenLaw) (_ : Params → Frag) : Prop := True
/-- the written part is kept for the walk's looks (k_is): a note, no fact -/
theorem fill : Fill PySem.Challenge.rw_om0047_01 h0.heap_1 := by k_fill; trivial

/-- A call of the def at f: nothing that stood is changed; what comes back is told by Post (heap before, heap behind, value). -/
def CtK (w : World) (k : Nat) (f : Addr) (args : List Value) (kw : List (Str × Value)) (P : Heap → Prop) (Post : Heap → Heap → Value → Prop) : Prop :=
  ∀ (p : Program) (loose : List Str) (mean : ExcName → Option Value) (mg mb : Str → Option Value) (dp : Nat) (fr : Option (List Env)) (gd : Option (List Code)) (un : Nat) (s : Shared) (Q E : Value → Shared → Prop),
    (h0.heap_1 w.params).In s.heap → Top p loose mean mg mb s.heap → dp + k < recursionLimit → un + 8 * k < cLine → P s.heap →
    (∀ (r : Value) (h' : Heap) (tk' : Nat), s.heap.StaysIn h' → Post s.heap h' r → Q r { s with heap := h', toks := tk' }) →
    wpAny (model prg w) ⟨none, dp, fr, gd, un⟩ (call (.ref f) args kw) Q E s
abbrev Ct (w : World) (k : Nat) (f : Addr) (args : List Value) (P : Heap → Prop) (Post : Heap → Heap → Value → Prop) : Prop := CtK w k f args [] P Post

/-- a new list of texts -/
def NewStrs (ys : List Str) (h h' : Heap) (r : Value) : Prop := ∃ l arr n, r = .ref l ∧ h.get? l = none ∧ h'.get? l = some (listOf arr n) ∧ StrsAre arr.toList ys
theorem newStrs_of {h₀ h : Heap} {L l : Addr} {news : List (Addr × Obj)} {arr : Array Value} {n : Nat} {ys : List Str} (N : News h₀ L h news) (hm : (l, listOf arr n) ∈ news) (hs : StrsAre arr.toList ys) : NewStrs ys h₀ h (.ref l) :=
  ⟨l, arr, n, rfl, (N _ hm).2.2, (N _ hm).1, hs⟩
section
variable {prog : Program} {w : World} {A : Around} {E : Value → Shared → Prop} {s : Shared} {a n c : Int} {t u : Tok} {Q : Value → Shared → Prop}
theorem pow_c (e : a ^ n.toNat = c) (hn : 0 ≤ n) (hsz : (Builtin.Int.intBits a : Int) * n ≤ 2 ^ 27) (h : Q (.int c s.toks) { s with toks := s.toks + 1 }) :
    wpAny (model prog w) A (binaryOp .Pow (.int a t) (.int n u)) Q E s := pow_int hn hsz (by rw [e]; exact h)

theorem enter {K : Frag} {p : Program} {loose : List Str} {mean : ExcName → Option Value} {mg mb : Str → Option Value} {name qual : Str} {params : Arguments} {body : List Stmt} {scope : Scope} {dV kV doc pm cdv ct oc : Value} {an od : Option Addr} {osl : Array (Option Value)} {f : Addr} {args : List Value} {kw : List (Str × Value)} {binds : List (Str × Value)}
    (X : K.In s.heap) (T : Top p loose mean mg mb s.heap)
    (ho : K.lookup f = some ⟨oc, od, .func (fnOf name qual params body scope dV kV doc pm an cdv ct), osl⟩) (hcd : codeIn K cdv qual = true) (hroom : A.depth < recursionLimit)
    (hbind : BindsTo s (fnOf name qual params body scope dV kV doc pm an cdv ct) ⟨args, kw⟩ binds) (hloc : ∀ y ∈ binds, scope.names.lookup y.1 = some .local)
    (h : ∀ L h₁, Fr s.heap L h₁ (fun y => binds.reverse.lookup y) → News s.heap L h₁ [] →
      wpAny (model prog w) (A.deeper (envOf qual scope L f cdv)) (execs body (envOf qual scope L f cdv))
        (fun fl s' => Q (match fl with | .ret v => v | _ => .none) s') (fun _ _ => False)
        { s with heap := h₁, toks := s.toks + binds.length })
    (hco : scope.isCoroutine = false) (hgen : scope.isGenerator = false) (hk : scope.kind = .function)
    (hcell : ∀ x ∈ scope.names, x.2 ≠ .cell) : wpAny (model prog w) A (call (.ref f) args kw) Q E s := by
  refine wpAny_call (codeAny_call_def (fd := fnOf name qual params body scope dV kV doc pm an cdv ct) (body := body) (binds := binds) hroom (X _ _ ho) rfl T.nolimit (codeRec_of X hcd) rfl hbind hcell hloc (fun h₁ hns hk₁ => ?_) hco hgen hk)
  exact wpAny_mono (h s.heap.objs.size h₁ ⟨hns, fun b o e => hk₁ b o e, Nat.le_refl _⟩ News.nil) (fun _ _ x => x) fun _ _ x => x.elim

theorem enterC {K : Frag} {p : Program} {loose : List Str} {mean : ExcName → Option Value} {mg mb : Str → Option Value} {name qual : Str} {params : Arguments} {body : List Stmt} {scope : Scope} {dV kV doc pm cdv ct oc : Value} {an od : Option Addr} {osl : Array (Option Value)} {f : Addr} {args : List Value} {kw : List (Str × Value)} {binds : List (Str × Value)}
    (X : K.In s.heap) (T : Top p loose mean mg mb s.heap)
    (ho : K.lookup f = some ⟨oc, od, .func (fnOf name qual params body scope dV kV doc pm an cdv ct), osl⟩) (hcd : codeIn K cdv qual = true) (hroom : A.depth < recursionLimit)
    (hbind : BindsTo s (fnOf name qual params body scope dV kV doc pm an cdv ct) ⟨args, kw⟩ binds) (hkind : (binds.all fun y => scope.names.lookup y.1 == some .local || scope.names.lookup y.1 == some .cell) = true)
    (hnd : ((cellsFrom 0 scope.names []).map (·.1)).Nodup)
    (h : ∀ L h₁ tk cells, Fr s.heap L h₁ (bindL (envOfC qual scope L f cdv).kindOf binds fun _ => none) → News s.heap L h₁ cells →
      CellsAre (bindC (envOfC qual scope L f cdv).kindOf binds fun _ => none) (cellsFrom (L + 1) scope.names []) cells →
      wpAny (model prog w) (A.deeper (envOfC qual scope L f cdv)) (execs body (envOfC qual scope L f cdv))
        (fun fl s' => Q (match fl with | .ret v => v | _ => .none) s') (fun _ _ => False)
        { s with heap := h₁, toks := tk })
    (hco : scope.isCoroutine = false) (hgen : scope.isGenerator = false) (hk : scope.kind = .function) : wpAny (model prog w) A (call (.ref f) args kw) Q E s := by
  refine wpAny_call (codeAny_call_function (X _ _ ho) (o := ⟨oc, od, .func (fnOf name qual params body scope dV kV doc pm an cdv ct), osl⟩) rfl hco hgen rfl (codeRec_of X hcd) (hbind _ _ _ _ ?_) (hroom := hroom))
  refine wpAny_newFunctionEnv_cells hk (kindsX hkind _) fun env' he s' x => ?_
  subst he
  refine ⟨T.nolimit.keeps x.toInCall.keep, codeAny_func ?_⟩
  obtain ⟨h₁, tk, rfl, _⟩ := x.done
  have hk₁ := x.toInCall.keep
  obtain ⟨cells, NC, Y⟩ := Cl.news (h₀ := s.heap) (Nat.le_refl _) fun n c hm => ⟨x.cell n c (lookup_of_mem_nodup (cellsFrom_names scope.names 0 (s.heap.objs.size + 1) [] [] rfl ▸ hnd) hm), x.above n c hm⟩
  exact wpAny_mono (h s.heap.objs.size h₁ tk cells ⟨x.toInCall.ns, fun b o e => hk₁ b o e, Nat.le_refl _⟩ NC Y) (fun _ _ x => x) fun _ _ x => x.elim
end
end Mine
end
section
open PySem PySem.W PySem.Calls PyProof.Rows PyProof.Rows.LCg
namespace Mine

section
variable {w : World} {E : Value → Shared → Prop} {s : Shared} {Q : Value → Shared → Prop} {g : Heap} {L : Addr} {m : Str → Option Value} {news : List (Addr × Obj)}
  {p : Program} {loose : List Str} {mean : ExcName → Option Value} {mg mb : Str → Option Value} {dp : Nat} {fr : Option (List Env)} {gd : Option (List Code)} {un k : Nat} {f : Addr} {args : List Value} {kw : List (Str × Value)} {P : Heap → Prop} {Post : Heap → Heap → Value → Prop}
/-- a contract used inside a frame -/
theorem use_ct (C : CtK w k f args kw P Post) (F : Fr g L s.heap m) (N : News g L s.heap news) (X : (h0.heap_1 w.params).In g) (T : Top p loose mean mg mb g) (hdp : dp + k < recursionLimit) (hun : un + 8 * k < cLine) (hP : P s.heap)
    (h : ∀ r h' tk', Fr g L h' m → News g L h' news → s.heap.StaysIn h' → Post s.heap h' r → Q r { s with heap := h', toks := tk' }) :
    wpAny (model prg w) ⟨none, dp, fr, gd, un⟩ (call (.ref f) args kw) Q E s :=
  C p loose mean mg mb dp fr gd un s Q E (X.keeps F.keep) (T.keeps F.keep) hdp hun hP fun r h' tk' st hp => h r h' tk' (F.keeps st) (N.grown st) st hp
/-- a new object of a call goes onto the ledger -/
theorem News.add {h h' : Heap} {a : Addr} {o : Obj} (F : Fr g L h m) (N : News g L h news) (st : h.StaysIn h') (hn : h.get? a = none) (ho : h'.get? a = some o) : News g L h' ((a, o) :: news) ∧ ∀ p ∈ news, p.1 ≠ a := by
  refine ⟨fun p hp => ?_, fun p hp e => ?_⟩
  · rcases List.mem_cons.mp hp with rfl | hp
    · refine ⟨ho, fun e => ?_, ?_⟩
      · obtain ⟨oL, _, _, hL, _⟩ := F.ns
        simp only at e
        rw [e, hL] at hn; cases hn
      · cases q : g.get? a with
        | none => rfl
        | some o' => rw [F.keep _ _ q] at hn; cases hn
    · exact ⟨st _ _ (N p hp).1, (N p hp).2⟩
  · have := (N p hp).1
    rw [e, hn] at this; cases this
end

/-- the state at a loop's head: what a turn leaves -/
def LoopEnd (g : Heap) (L : Addr) (s₀ : Shared) (I : Addr) (oI : Obj) (S : List (Addr × Obj) → Prop) (J : (Str → Option Value) → List (Addr × Obj) → Prop) (s : Shared) : Prop :=
  ∃ h' tk m' news', s = { s₀ with heap := h', toks := tk } ∧ Fr g L h' m' ∧ News g L h' ((I, oI) :: news') ∧ (∀ p ∈ news', p.1 ≠ I) ∧ S news' ∧ J m' news'

section
variable {prog : Program} {w : World} {A : Around} {s : Shared} {env : Env} {g : Heap} {L : Addr} {m : Str → Option Value} {news : List (Addr × Obj)} {target iter : Expr} {body orelse : List Stmt} {pos : Pos} {Q : Flow → Shared → Prop}

abbrev NoE : Value → Shared → Prop := fun _ _ => False
/-- what the loop's code must show of its iterator -/
def LoopGo (prog : Program) (w : World) (A : Around) (env : Env) (target : Expr) (body orelse : List Stmt) (Q : Flow → Shared → Prop) (it : Value) (s₂ : Shared) : Prop :=
  codeAny (model prog w) A (.forLoop target it body orelse env) (fun r s' => match r with | .ok f => Q f s' | .error e => cameBackBy (model prog w) A env NoE e s') s₂
theorem for_go (h : wpAny (model prog w) A (eval iter env) (fun x s₁ => wpAny (model prog w) A (pyIter x) (fun it s₂ => LoopGo prog w A env target body orelse Q it s₂) NoE s₁) NoE s)
    (hs : ∀ x, foldedSetIterable iter env x = pure x) : wpAny (model prog w) A (exec (.For target iter body orelse pos) env) Q NoE s := wpAny_For h hs

theorem loop_go {I : Addr} {fp : List Addr} {n : Nat} {P : Nat → Value → Prop} {St : Nat → Heap → Prop} {S : List (Addr × Obj) → Prop} (J : Nat → (Str → Option Value) → List (Addr × Obj) → Prop)
    (W : Walks prog w A I fp [I] n P St) (hIo : ∀ i h, St i h → ∃ o, h.get? I = some o)
    (hSt : ∀ i h h' o nw, St i h → h.get? I = some o → h'.get? I = some o → (∀ b o, g.get? b = some o → h'.get? b = some o) → News g L h' nw → S nw → St i h')
    (lg : ∀ i v (s : Shared) (Q' : Unit → Shared → Prop), St i s.heap → P (i - 1) v → Q' () s → wpAny (model prog w) A (letOwnedTupleGo target (.ref I) v) Q' NoE s)
    (hst : St 0 s.heap) (F : Fr g L s.heap m) (N : News g L s.heap news) (hIL : L ≠ I) (hI₀ : g.get? I = none) (off : ∀ p ∈ news, p.1 ≠ I) (hS : S news) (hJ : J 0 m news)
    (turn : ∀ i v m₁ news₁ h tk oI, i < n → P i v → J i m₁ news₁ → S news₁ → Fr g L h m₁ → News g L h ((I, oI) :: news₁) → (∀ p ∈ news₁, p.1 ≠ I) →
      wpAny (model prog w) A (assign target env v) (fun _ s₂ => wpAny (model prog w) A (execs body env) (fun f s₃ => match f with
        | .next | .cont => LoopEnd g L s I oI S (J (i + 1)) s₃
        | .brk => Q .next s₃
        | .ret v => Q (.ret v) s₃) NoE s₂) NoE { s with heap := h, toks := tk })
    (done : ∀ m₁ news₁ h tk, J n m₁ news₁ → Fr g L h m₁ → News g L h news₁ → wpAny (model prog w) A (execs orelse env) Q NoE { s with heap := h, toks := tk }) :
    LoopGo prog w A env target body orelse Q (.ref I) s := by
  refine codeAny_forLoop_any
    (fun k s' => ∃ h' tk i m' news', s' = { s with heap := h', toks := tk } ∧ i ≤ n ∧ k = n + 1 - i ∧ St i h' ∧ Fr g L h' m' ∧ News g L h' news' ∧ (∀ p ∈ news', p.1 ≠ I) ∧ S news' ∧ J i m' news') ?_ (n + 1)
    ⟨s.heap, s.toks, 0, m, news, rfl, Nat.zero_le _, rfl, hst, F, N, off, hS, hJ⟩
  rintro k s' ⟨h', tk, i, m', news', rfl, hi, rfl, hst', F', N', off', hS', hJ'⟩
  by_cases hlt : i < n
  · refine W.item i _ _ _ hlt hst' fun v h₂ tk₂ hP hst₂ hk₂ => ?_
    have hk : ∀ b o, b ≠ I → h'.get? b = some o → h₂.get? b = some o := fun b o hb e => hk₂ b o (by simpa using hb) e
    obtain ⟨oI, hoI⟩ := hIo _ _ hst₂
    have F₂ : Fr g L h₂ m' := fr_but F' (fun b o hb e => hk₂ b o hb e) hIL hI₀
    have N₂ : News g L h₂ ((I, oI) :: news') := fun p hp => by
      rcases List.mem_cons.mp hp with rfl | hp
      · exact ⟨hoI, Ne.symm hIL, hI₀⟩
      · exact ⟨hk _ _ (off' p hp) (N' p hp).1, (N' p hp).2⟩
    refine wpAny_mono (lg (i + 1) v { s with heap := h₂, toks := tk₂ } _ hst₂ (by simpa using hP) ?_) (fun _ _ x => x) fun _ _ x => x.elim
    refine wpAny_mono (turn i v m' news' h₂ tk₂ oI hlt hP hJ' hS' F₂ N₂ off') (fun _ s₂ h₂' => wpAny_mono h₂' (fun f s₃ h₃ => ?_) fun _ _ x => x.elim) fun _ _ x => x.elim
    have fin : LoopEnd g L s I oI S (J (i + 1)) s₃ → ∃ m₀, m₀ < n + 1 - i ∧ ∃ h' tk i m' news', s₃ = { s with heap := h', toks := tk } ∧ i ≤ n ∧ m₀ = n + 1 - i ∧ St i h' ∧ Fr g L h' m' ∧ News g L h' news' ∧ (∀ p ∈ news', p.1 ≠ I) ∧ S news' ∧ J i m' news' := by
      rintro ⟨h₃', tk₃, m₃, news₃, rfl, F₃, N₃, off₃, hS₃, hJ₃⟩
      refine ⟨n + 1 - (i + 1), by omega, h₃', tk₃, i + 1, m₃, news₃, rfl, hlt, rfl, ?_, F₃, fun p hp => N₃ p (.tail _ hp), off₃, hS₃, hJ₃⟩
      exact hSt _ _ _ _ _ hst₂ hoI (N₃ _ (.head _)).1 F₃.keep (fun p hp => N₃ p (.tail _ hp)) hS₃
    cases f with
    | next => exact fin h₃
    | cont => exact fin h₃
    | brk => exact h₃
    | ret v => exact h₃
  · obtain rfl : i = n := Nat.le_antisymm hi (Nat.not_lt.mp hlt)
    refine W.done _ _ _ hst' fun h₂ tk₂ hk₂ => ?_
    exact wpAny_mono (done m' news' h₂ tk₂ hJ' (fr_but F' hk₂ hIL hI₀) (news_but N' hk₂ off')) (fun _ _ x => x) fun _ _ x => x.elim
end

/-- where the items of a loop stand: in the base, or on the ledger, unchanged -/
def TSrc (h₀ : Heap) (ax : Addr) (its : Array Value) (news : List (Addr × Obj)) : Prop := IsTup h₀ ax its ∨ ∃ o, (ax, o) ∈ news ∧ o.cls = .type "tuple" ∧ ∃ n, o.data = .seq its n

section
variable {prog : Program} {w : World} {A : Around} {s : Shared} {env : Env} {g : Heap} {L : Addr} {m : Str → Option Value} {news : List (Addr × Obj)} {target : Expr} {body orelse : List Stmt} {Q : Flow → Shared → Prop}
theorem lg_name {x : Str} {px : Pos} {I : Addr} {v : Value} {Q' : Unit → Shared → Prop} (h : Q' () s) : wpAny (model prog w) A (letOwnedTupleGo (.Name x px) (.ref I) v) Q' NoE s := wpAny_pure h
/-- a loop over a list -/
theorem loop_list {l : Addr} {items : Array Value} (J : Nat → (Str → Option Value) → List (Addr × Obj) → Prop)
    (hh : A.handled = none) (F : Fr g L s.heap m) (N : News g L s.heap news) (hl : SrcAt g l items news) (hJ : J 0 m news)
    (lg : (∃ x px, target = .Name x px) ∨ ((∃ es k tp, target = .Tuple es k tp) ∧ ∀ (i : Nat) (v : Value), items[i]? = some v → ∃ t, v = Value.ref t))
    (turn : ∀ i v m₁ news₁ h tk oI I, items[i]? = some v → J i m₁ news₁ → SrcAt g l items news₁ → Fr g L h m₁ → News g L h ((I, oI) :: news₁) → (∀ p ∈ news₁, p.1 ≠ I) →
      wpAny (model prog w) A (assign target env v) (fun _ s₂ => wpAny (model prog w) A (execs body env) (fun f s₃ => match f with
        | .next | .cont => LoopEnd g L s I oI (SrcAt g l items) (J (i + 1)) s₃
        | .brk => Q .next s₃
        | .ret v => Q (.ret v) s₃) NoE s₂) NoE { s with heap := h, toks := tk })
    (done : ∀ m₁ news₁ h tk, J items.size m₁ news₁ → Fr g L h m₁ → News g L h news₁ → wpAny (model prog w) A (execs orelse env) Q NoE { s with heap := h, toks := tk }) :
    wpAny (model prog w) A (pyIter (.ref l)) (fun it s₂ => LoopGo prog w A env target body orelse Q it s₂) NoE s := by
  have hls := hl.list F.keep N
  have hlt : l < s.heap.objs.size := by obtain ⟨_, e, _⟩ := hls; exact Heap.lt_size e
  refine wpAny_pyIter_list hls ?_
  have up : ∀ b o, s.heap.get? b = some o → (s.heap.push { cls := .type "list_iterator", data := .fields #[.ref l, .int 0 0] }).get? b = some o := fun b o e => Heap.get?_push_of_some _ e
  refine loop_go J (Walks.list hh s.heap.objs.size l (Nat.ne_of_lt hlt) items) (fun i h st => by obtain ⟨o, e, _⟩ := st.1; exact ⟨o, e⟩) list_st ?_ ⟨⟨_, Heap.get?_push_size _ rfl, rfl, rfl⟩, hls.push _⟩
    (F.keeps up) (N.grown up) (Nat.ne_of_lt F.ns.lt) (next_is_new F) (fun p hp => Nat.ne_of_lt (Heap.lt_size (N p hp).1)) hl hJ ?_ done
  · intro i v s' Q' st hv hq
    rcases lg with ⟨x, px, rfl⟩ | ⟨⟨es, k, tp, rfl⟩, hr⟩
    · exact wpAny_pure hq
    · obtain ⟨t, rfl⟩ := hr _ _ hv
      exact wpAny_letOwnedTupleGo_listiter st.1 hq
  · intro i v m₁ news₁ h tk oI hi hv hj hS F₁ N₁ o₁
    exact turn i v m₁ news₁ h tk oI _ hv hj hS F₁ N₁ o₁
end
end Mine
end
section
open PySem PySem.W PySem.Calls PyProof.Rows PyProof.Rows.LCg
set_option linter.unusedVariables false
namespace Mine
section
variable {prog : Program} {w : World} {A : Around} {E : Value → Shared → Prop} {env : Env} {hp : Heap} {gs : Array GenState} {dr : Drawn} {os : OsState}
/-- an expression that gives a whole number, whatever the tokens -/
structure EvI (prog : Program) (w : World) (A : Around) (E : Value → Shared → Prop) (env : Env) (hp : Heap) (gs : Array GenState) (dr : Drawn) (os : OsState) (e : PySem.Expr) (n : Int) : Prop where
  go : ∀ (tk : Nat) (Q : Value → Shared → Prop), (∀ t tk', Q (.int n t) ⟨hp, gs, dr, tk', os⟩) → wpAny (model prog w) A (eval e env) Q E ⟨hp, gs, dr, tk, os⟩
/-- an expression that gives that value -/
structure EvV (prog : Program) (w : World) (A : Around) (E : Value → Shared → Prop) (env : Env) (hp : Heap) (gs : Array GenState) (dr : Drawn) (os : OsState) (e : PySem.Expr) (v : Value) : Prop where
  go : ∀ (tk : Nat) (Q : Value → Shared → Prop), (∀ tk', Q v ⟨hp, gs, dr, tk', os⟩) → wpAny (model prog w) A (eval e env) Q E ⟨hp, gs, dr, tk, os⟩
theorem use_evi {e : PySem.Expr} {n : Int} {tk : Nat} {Q : Value → Shared → Prop} (h : EvI prog w A E env hp gs dr os e n) (k : ∀ t tk', Q (.int n t) ⟨hp, gs, dr, tk', os⟩) :
    wpAny (model prog w) A (eval e env) Q E ⟨hp, gs, dr, tk, os⟩ := h.go tk Q k
theorem evi_const {i : Int} {k : Nat} {pos : Pos} : EvI prog w A E env hp gs dr os (.Constant (.int i) k pos) i := ⟨fun _ _ h => wpAny_Constant_int (h _ _)⟩
theorem evi_val {e : PySem.Expr} {n : Int} {t : Tok} (h : EvV prog w A E env hp gs dr os e (.int n t)) : EvI prog w A E env hp gs dr os e n := ⟨fun tk Q k => h.go tk Q fun tk' => k t tk'⟩
section
variable {l r : PySem.Expr} {pos : Pos} {a b c : Int}
theorem evi_bin {op : Operator} (h1 : EvI prog w A E env hp gs dr os l a) (h2 : EvI prog w A E env hp gs dr os r b)
    (h3 : ∀ (t u : Tok) (s : Shared) (Q : Value → Shared → Prop), Q (.int c s.toks) { s with toks := s.toks + 1 } → wpAny (model prog w) A (binaryOp op (.int a t) (.int b u)) Q E s) :
    EvI prog w A E env hp gs dr os (.BinOp l op r pos) c := ⟨fun tk Q h => wpAny_BinOp (h1.go _ _ fun t tk1 => h2.go _ _ fun u tk2 => h3 t u _ Q (h _ _))⟩
theorem evi_add (h1 : EvI prog w A E env hp gs dr os l a) (h2 : EvI prog w A E env hp gs dr os r b) : EvI prog w A E env hp gs dr os (.BinOp l .Add r pos) (a + b) := evi_bin h1 h2 fun _ _ _ _ h => add_int h
theorem evi_sub (h1 : EvI prog w A E env hp gs dr os l a) (h2 : EvI prog w A E env hp gs dr os r b) : EvI prog w A E env hp gs dr os (.BinOp l .Sub r pos) (a - b) := evi_bin h1 h2 fun _ _ _ _ h => sub_int h
theorem evi_mul (h1 : EvI prog w A E env hp gs dr os l a) (h2 : EvI prog w A E env hp gs dr os r b) (hm : IntMulOk a b) : EvI prog w A E env hp gs dr os (.BinOp l .Mult r pos) (a * b) := evi_bin h1 h2 fun _ _ _ _ h => mul_int h hm
theorem evi_mod (h1 : EvI prog w A E env hp gs dr os l a) (h2 : EvI prog w A E env hp gs dr os r b) (hb : b ≠ 0) : EvI prog w A E env hp gs dr os (.BinOp l .Mod r pos) (a.fmod b) := evi_bin h1 h2 fun _ _ _ _ h => mod_int' hb h
theorem evi_div (h1 : EvI prog w A E env hp gs dr os l a) (h2 : EvI prog w A E env hp gs dr os r b) (hb : b ≠ 0) (hs : b.natAbs.log2 < 9000) : EvI prog w A E env hp gs dr os (.BinOp l .FloorDiv r pos) (a.fdiv b) := evi_bin h1 h2 fun _ _ _ _ h => floordiv_int hb h (.inl (PyProof.noPylong_of_log2 hs))
theorem evi_pow (h1 : EvI prog w A E env hp gs dr os l a) (h2 : EvI prog w A E env hp gs dr os r b) (e : a ^ b.toNat = c) (hn : 0 ≤ b) (hsz : (Builtin.Int.intBits a : Int) * b ≤ 2 ^ 27) : EvI prog w A E env hp gs dr os (.BinOp l .Pow r pos) c := evi_bin h1 h2 fun _ _ _ _ h => pow_c e hn hsz h
end
section
variable {h₀ : Heap} {L aa C c : Addr} {m m₂ : Str → Option Value} {news : List (Addr × Obj)} {cn : Str} {cs : Scope} {ccd : Value} {cl : List (Str × Addr)} {x : Str} {pos : Pos} {v : Value} {o : Obj} {scope : Scope}
theorem evv_L (F : Fr h₀ L hp m) (hv : m x = some v) (hk : cs.kind = .function) (hx : (envX cn cs L aa ccd cl).kindOf x = some .local) (hd : (x == ("__debug__" : Str)) = false) :
    EvV prog w A E (envX cn cs L aa ccd cl) hp gs dr os (.Name x pos) v := ⟨fun _ _ h => nameX_L (s := ⟨hp, gs, dr, _, os⟩) F hv (h _) hk hx hd⟩
theorem evv_C (N : News h₀ L hp news) (hc : cl.lookup x = some c) (hm : (c, o) ∈ news) (hd : o.data = .cell (some v)) (hk : cs.kind = .function) (hx : (envX cn cs L aa ccd cl).kindOf x = some .cell) (hb : (x == ("__debug__" : Str)) = false) :
    EvV prog w A E (envX cn cs L aa ccd cl) hp gs dr os (.Name x pos) v := ⟨fun _ _ h => nameX_C (s := ⟨hp, gs, dr, _, os⟩) N hc hm hd (h _) hk hx hb⟩
theorem evv_own (N : News h₀ L hp news) (hm : (C, o) ∈ news) (hC : LCg.NsObj o m₂) (hx : m₂ x = some v)
    (hk : (compEnvC scope cl C env).scope.kind = .function) (hl : (compEnvC scope cl C env).kindOf x = some .local) (hd : (x == ("__debug__" : Str)) = false) :
    EvV prog w A E (compEnvC scope cl C env) hp gs dr os (.Name x pos) v := ⟨fun _ _ h => LCgL.ld_own (s := ⟨hp, gs, dr, _, os⟩) N hm hC hx (h _) hk hl hd⟩
theorem evv_cell (N : News h₀ L hp news) (hc : cl.lookup x = some c) (hm : (c, o) ∈ news) (hd : o.data = .cell (some v))
    (hk : (compEnvC scope cl C env).scope.kind = .function) (hx : (compEnvC scope cl C env).kindOf x = some .cell) (hb : (x == ("__debug__" : Str)) = false) :
    EvV prog w A E (compEnvC scope cl C env) hp gs dr os (.Name x pos) v := ⟨fun _ _ h => lcf_cell (s := ⟨hp, gs, dr, _, os⟩) N hc hm hd (h _) hk hx hb⟩
theorem evv_free (N : News h₀ L hp news) (hc : cl.lookup x = some c) (hm : (c, o) ∈ news) (hd : o.data = .cell (some v))
    (hk : (compEnvC scope cl C env).scope.kind = .function) (hx : (compEnvC scope cl C env).kindOf x = some .free) (hb : (x == ("__debug__" : Str)) = false) (hn : (x == ("__classdict__" : Str)) = false) :
    EvV prog w A E (compEnvC scope cl C env) hp gs dr os (.Name x pos) v := ⟨fun _ _ h => lcf_free (s := ⟨hp, gs, dr, _, os⟩) N hc hm hd (h _) hk hx hb hn⟩
end
theorem evi_item {h₀ : Heap} {L l : Addr} {news : List (Addr × Obj)} {value slice : PySem.Expr} {pos : Pos} {vs : List Value} {ns : List Int} {k : Int} {z : Nat} (h1 : EvV prog w A E env hp gs dr os value (.ref l)) (N : News h₀ L hp news) (hm : (l, W.listOf vs.toArray z) ∈ news) (hi : IntsAre vs ns)
    (h2 : EvI prog w A E env hp gs dr os slice k) (k0 : 0 ≤ k) (k1 : k < ns.length) (hf : k < 2 ^ 63)
    (hs : ∀ u, subscripted slice false (.ref l) (.int k u) = operate [.ref l, .int k u] (getItem (.ref l) (.int k u))) (hg : ∀ r, letTemporaryGo value (.ref l) r = pure ()) :
    EvI prog w A E env hp gs dr os (.Subscript value slice pos) (ns.getD k.toNat 0) := ⟨fun tk Q h => Subscript_ (h1.go _ _ fun tk1 => h2.go _ _ fun u tk2 => item_list_ints (s := ⟨hp, gs, dr, tk2, os⟩) (News.isList N hm) hi k0 k1 hf (fun t => h t tk2) (hs u) hg)⟩

end

theorem and_l {zp zq : Prop} (zh : zp ∧ zq) : zp := zh.1
theorem and_r {zp zq : Prop} (zh : zp ∧ zq) : zq := zh.2
theorem room2 {a k c d R : Nat} (h : a + k < R) (e : Nat.ble (c + d) k = true) : a + c + d < R := by
  have := Nat.le_of_ble_eq_true e
  omega
theorem room1 {a k c R : Nat} (h : a + k < R) (e : Nat.ble c k = true) : a + c < R := by
  have := Nat.le_of_ble_eq_true e
  omega
theorem room0 {a k R : Nat} (h : a + k < R) : a < R := Nat.lt_of_le_of_lt (Nat.le_add_right a k) h
theorem lt_s0 {a : Nat} : a < a + 1 := Nat.lt_succ_self a
theorem lt_s {a b : Nat} (h : a < b) : a < b + 1 := Nat.lt_succ_of_lt h
theorem le_by {a b c : Nat} (h : a ≤ b) (e : Nat.ble b c = true) : a ≤ c := Nat.le_trans h (Nat.le_of_ble_eq_true e)
/-- a letter for what follows a statement -/
def NextQ (Qs : Flow → Shared → Prop) (P : Shared → Prop) : Prop := ∀ s, P s → Qs .next s
def notNext : Flow → Prop
  | .next => False
  | _ => True
def RestQ (Qs Q : Flow → Shared → Prop) : Prop := ∀ f s, notNext f → Q f s → Qs f s
section
variable {M : Model} {A : Around} {E : Value → Shared → Prop} {s : Shared} {env : Env} {st : Stmt} {rest : List Stmt} {Q : Flow → Shared → Prop}
theorem execs_one (h : wpAny M A (exec st env) Q E s) : wpAny M A (execs [st] env) Q E s :=
  wpAny_execs_cons (wpAny_mono h (fun f s' x => by cases f <;> first | exact wpAny_execs_nil x | exact x) fun _ _ x => x)
theorem execs_seq (h : ∀ Qs : Flow → Shared → Prop, NextQ Qs (wpAny M A (execs rest env) Q E) → RestQ Qs Q → wpAny M A (exec st env) Qs E s) : wpAny M A (execs (st :: rest) env) Q E s :=
  wpAny_execs_cons (h _ (fun _ x => x) fun f s' n x => by cases f <;> first | exact n.elim | exact x)
end
theorem map2 {m₁ : Str → Option Value} {a b : Str} {x y : Value} (hm : m₁ a = some x) (hp : m₁ b = some y) : m₁ = fun z => if z = a then some x else if z = b then some y else m₁ z := by
  funext z
  by_cases h : z = a
  · subst h; simp [hm]
  · by_cases h' : z = b
    · subst h'; simp [h, hp]
    · simp [h, h']
theorem map3 {m₁ : Str → Option Value} {a b c : Str} {x y v : Value} (hm : m₁ a = some x) (hp : m₁ b = some y) (hq : m₁ c = some v) : m₁ = fun z => if z = a then some x else if z = b then some y else if z = c then some v else m₁ z := by
  funext z
  by_cases h : z = a
  · subst h; simp [hm]
  · by_cases h' : z = b
    · subst h'; simp [h, hp]
    · by_cases h'' : z = c
      · subst h''; simp [h, h', hq]
      · simp [h, h', h'']
theorem cut_val {prog : Program} {w : World} {A : Around} {E : Value → Shared → Prop} {s : Shared} {g : Heap} {L : Addr} {m₂ : Str → Option Value} {news : List (Addr × Obj)} {Q : Value → Shared → Prop} {tr : Sem Value} (P : Value → Prop) (F : Fr g L s.heap m₂) (N : News g L s.heap news)
    (h1 : wpAny (model prog w) A tr (fun v s' => P v ∧ ∃ h' tk', s' = { s with heap := h', toks := tk' } ∧ Fr g L h' m₂ ∧ News g L h' news) E s)
    (h2 : ∀ v h' tk', P v → Fr g L h' m₂ → News g L h' news → Q v { s with heap := h', toks := tk' }) : wpAny (model prog w) A tr Q E s :=
  wpAny_mono h1 (fun v s' hp => by obtain ⟨hv, h', tk', rfl, F', N'⟩ := hp; exact h2 v h' tk' hv F' N') fun _ _ x => x
end Mine
end
section
open PySem PySem.W PySem.Calls PyProof.Rows PySem.Builtin
set_option maxRecDepth 100000
namespace Mine
namespace RB
theorem slot_tr : Slot "bytes" "translate" "bytes.translate" :=
  .of (owner := "bytes") (n := "translate") (by rw [typeLookup_type, builtinLookup_eq_fast]; kernel_rfl) (by decide +kernel) (by decide +kernel) (by decide +kernel)
    (by first | exact .inl (by decide +kernel) | exact .inr (by decide +kernel)) (by rw [isSubtype_type]; kernel_rfl)
theorem type_tr : typeOf (.builtin "bytes.translate") = pure (.type "method_descriptor") := by show builtinType _ = _; rw [builtinType_eq_fast]; kernel_rfl
theorem entry_tr : entryFor table "bytes.translate" = some Builtin.«bytes.translate» := entryFor_of_tree (by kernel_rfl)
theorem args_tr (a b : Value) : argsOk "bytes.translate" ⟨[a, b], []⟩ := by
  unfold argsOk; rw [signature?_of (id := "bytes.translate") (n := ['e', 't', 'a', 'l', 's', 'n', 'a', 'r', 't']) (o := ['s', 'e', 't', 'y', 'b']) (by kernel_rfl) FB.owner_bytes]; kernel_rfl
theorem plain_mt : plainId "bytes.maketrans" = true := by decide +kernel
theorem entry_mt : entryFor table "bytes.maketrans" = some Builtin.«bytes.maketrans» := entryFor_of_tree (by kernel_rfl)
theorem check_mt (a b : Value) : checkBuiltinCall "bytes.maketrans" ⟨[a, b], []⟩ = pure () := by kernel_rfl
theorem find_mt : findCls [] (.type "bytes") (.type "type") (PySem.Str.ofString "maketrans") = some (.val (.builtin "bytes.maketrans")) := by rfl
def table (a b : Array UInt8) : Array UInt8 := (a.toList.zip b.toList).foldl (fun t p => t.setIfInBounds p.1.toNat p.2) ((Array.range 256).map (·.toUInt8))
theorem fold_size (l : List (UInt8 × UInt8)) : ∀ t : Array UInt8, (l.foldl (fun t p => t.setIfInBounds p.1.toNat p.2) t).size = t.size := by
  induction l with
  | nil => intro t; rfl
  | cons p l ih => intro t; rw [List.foldl_cons, ih, Array.size_setIfInBounds]
theorem table_size (a b : Array UInt8) : (table a b).size = 256 := by unfold table; rw [fold_size]; simp
def trans (tb b : Array UInt8) : Array UInt8 := b.map fun c => tb.getD c.toNat c
section
variable {prog : Program} {w : World} {M : Model} {A : Around} {E : Value → Shared → Prop} {s : Shared} {a b tb : Array UInt8} {t u : Tok}
theorem in_nil (h : Heap) : Frag.In [] h := fun _ _ e => nomatch e
theorem get_mt {pl : Sem Bool} {Q : Value × List Value → Shared → Prop} (h : Q (.builtin "bytes.maketrans", []) { s with toks := s.toks + 1 }) :
    wpAny (model prog w) A (getMethod (.type "bytes") (PySem.Str.ofString "maketrans") pl) Q E s := by
  have X := in_nil s.heap
  have hstub : opaqueClassAbove (.type "bytes") = pure none := by unfold opaqueClassAbove; dsimp only; rw [show Manifest.isStub "bytes" = false by decide +kernel]; rfl
  have ht : typeOf (.type "bytes") = pure (.type "type") := by first | rfl | kernel_rfl
  have L0 : Looks (model prog w) s.heap (typeOf (.type "bytes")) (.type "type") := Looks.of_pure ht
  have hg : findIn [] (.type "type") "__getattribute__" = some (some (.builtin "type.__getattribute__")) := type_tga
  unfold getMethod specialOf
  refine wpAny_bind (wpAny_bind (L0.here ((looks_findIn X hg).here ?_)))
  dsimp only
  rw [if_pos canon_tga]
  refine wpAny_bind (wpAny_mono (Q := fun v => Q (v, [])) (E := E) ?_ (fun _ _ z => wpAny_pure z) fun _ _ z => z)
  have LO : Looks (model prog w) s.heap (opaqueClassAbove (.type "bytes")) none := Looks.of_pure hstub
  refine cls_open X LO L0 hg (looks_hook X (r := none) (by rfl)) (by show subIn [] _ _ = _; rfl) find_mt ?_
  show wpAny _ _ (ret (.builtin "bytes.maketrans")) _ _ _
  refine wpAny_pure ?_
  have e : handedOut (.builtin "bytes.maketrans") = pure (.builtin "bytes.maketrans") := by unfold handedOut; dsimp only; rw [if_neg (by decide +kernel)]
  exact wpAny_of_eq e h
theorem call_mt {Q : Value → Shared → Prop} (hs : a.size = b.size) (h : ∀ t' k, Q (.bytes (table a b) t') { s with toks := k }) :
    wpAny (model prog w) A (call (.builtin "bytes.maketrans") [.bytes a t, .bytes b u]) Q E s := by
  refine wpAny_call (codeAny_call_builtin plain_mt entry_mt (wpAny_of_eq (check_mt _ _) ?_))
  unfold «bytes.maketrans» Bytes.maketransM
  refine wpAny_bind (wpAny_of_eq (a := ()) (by kernel_rfl) ?_)
  refine wpAny_bind (wpAny_of_eq (a := ()) (by kernel_rfl) ?_)
  refine wpAny_bind (wpAny_of_eq KBd.like_eq ?_)
  refine wpAny_bind (wpAny_of_eq KBd.like_eq ?_)
  dsimp only
  rw [if_neg (by simp [hs])]
  refine wpAny_bind (wpAny_mkBytes (wpAny_pure ?_) ?_)
  · exact h _ _
  · show (table a b).size ≤ sizeLine
    rw [table_size, sizeLine_eq]; omega
theorem get_tr {pl : Sem Bool} {Q : Value × List Value → Shared → Prop} (h : Q (.builtin "bytes.translate", [.bytes b t]) s) : wpAny M A (getMethod (.bytes b t) "translate" pl) Q E s := by
  with_reducible exact KBd.method_of (.bytes b t) (typeIs_bytes _ _ _) slot_tr type_tr KBd.noRef h
theorem pay_eq : Bytes.payload (.bytes b t) = pure b := rfl
theorem tr_meets (hs : tb.size = 256) : Meets («bytes.translate» ⟨[.bytes b t, .bytes tb u], []⟩) (fun _ R s => b.size ≤ sizeLine ∧ ∀ t' k, R (.ok (.ret (.bytes (trans tb b) t'))) { s with toks := k }) := by
  refine .of_wp fun prog w A R s hS => ?_
  obtain ⟨hsz, h⟩ := hS
  unfold «bytes.translate» Bytes.translateM
  dsimp only
  rw [if_neg (by simp)]
  rw [if_neg (by simp)]
  rw [if_neg (by simp)]
  refine wpAny_bind (wpAny_of_eq KBd.like_eq ?_)
  rw [if_neg (by simp [hs])]
  refine wpAny_bind (wpAny_pure ?_)
  dsimp only [List.head?, Option.map]
  refine wpAny_bind (wpAny_pure ?_)
  refine wpAny_bind (wpAny_of_eq pay_eq ?_)
  try dsimp only
  have e : (Array.map (fun c => tb.getD c.toNat c) (Array.filter (fun x => !Array.contains #[] x) b)) = trans tb b := by
    unfold trans
    congr 1
    simp
  rw [e]
  have hz : (trans tb b).size ≤ sizeLine := by unfold trans; rw [Array.size_map]; exact hsz
  by_cases he : (trans tb b == b) = true
  · rw [if_pos he]
    refine wpAny_bind (wpAny_rule ?_)
    have hs' : Bytes.Kind.bytes.same (.bytes b t) = pure (.bytes b t) := by rfl
    refine wpAny_bind (wpAny_of_eq hs' (wpAny_pure ?_))
    have := h t s.toks
    rw [eq_of_beq he] at this
    exact ⟨_, rfl, this⟩
  · rw [if_neg he]
    exact wpAny_bind (wpAny_mkBytes (wpAny_pure ⟨_, rfl, h _ _⟩) hz)
theorem call_tr {Q : Value → Shared → Prop} (hs : tb.size = 256) (hz : b.size ≤ 1000) (h : ∀ t' k, Q (.bytes (trans tb b) t') { s with toks := k }) :
    wpAny (model prog w) A (call (.builtin "bytes.translate") [.bytes b t, .bytes tb u]) Q E s :=
  call_meets slot_tr (typeIs_bytes _ _ _) entry_tr (args_tr _ _) (tr_meets hs) ⟨by rw [sizeLine_eq]; omega, h⟩
end
end RB
end Mine
end
section
open PySem PySem.W PySem.Calls PyProof.Rows PySem.Builtin
set_option maxRecDepth 100000
set_option linter.unusedSimpArgs false
namespace Mine
namespace RB
section
variable {c0 c1 c2 c3 : UInt8} {t u : Tok}
theorem run4 {id : String} (h0 : c0.toNat < 128) (h1 : c1.toNat < 128) (h2 : c2.toNat < 128) (h3 : c3.toNat < 128) :
    _codecs.runDecoder id _codecs.asciiDecoder none true #[c0, c1, c2, c3] 0 [] = pure (#[c0.toNat, c1.toNat, c2.toNat, c3.toNat], 4) := by
  unfold _codecs.runDecoder
  simp only [Std.Legacy.Range.forIn_eq_forIn_range', Std.Legacy.Range.size]
  simp [_codecs.Found.char, List.range', _codecs.asciiDecoder, h0, h1, h2, h3, sizeLine]
theorem road_a {id : String} {b : Array UInt8} : _codecs.decodeRoad id b (PySem.Str.ofString "ascii") none [] = (_codecs.runDecoder id _codecs.asciiDecoder none true b 0 [] >>= fun r => mkStr ⟨r.1⟩) := by kernel_rfl
theorem meets_a {t1 t2 : Tok} {d : PySem.Str} (h0 : c0.toNat < 128) (h1 : c1.toNat < 128) (h2 : c2.toNat < 128) (h3 : c3.toNat < 128) :
    Meets («_codecs.decode.text» ⟨[.bytes #[c0, c1, c2, c3] t, .str (PySem.Str.ofString "ascii") t1, .none, .str d t2], []⟩) (fun _ R s => R (.ok (.ret (.str ⟨#[c0.toNat, c1.toNat, c2.toNat, c3.toNat]⟩ s.toks))) { s with toks := s.toks + 1 }) := by
  refine .of_wp fun prog w A R s h => ?_
  show wpAny _ _ (Bytes.bytesLike _ (.bytes #[c0, c1, c2, c3] t) >>= fun r => _) _ _ s
  refine wpAny_bind (wpAny_of_eq KBd.like_eq ?_)
  refine wpAny_bind (wpAny_of_eq KBd.held_eq ?_)
  show wpAny _ _ (_codecs.decodeRoad _ #[c0, c1, c2, c3] (PySem.Str.ofString "ascii") none [] >>= fun v => _) _ _ s
  rw [road_a, run4 h0 h1 h2 h3]
  refine wpAny_bind (wpAny_bind (wpAny_pure ?_))
  exact wpAny_mkStr (wpAny_pure ⟨_, rfl, h⟩) (by show 4 ≤ sizeLine; rw [sizeLine_eq]; omega)
theorem entry_a : «bytes.decode» ⟨[.bytes #[c0, c1, c2, c3] t, .str (PySem.Str.ofString "ascii") u], []⟩ = (mkStr (PySem.Str.ofString "utf-8") >>= fun _ => mkStr (PySem.Str.ofString "ascii") >>= fun e => mkStr (PySem.Str.ofString "bytes.decode") >>= fun d =>
    call (.builtin "_codecs.decode.text") [.bytes #[c0, c1, c2, c3] t, e, .none, d] >>= fun v => ret v) := by kernel_rfl
theorem meets_dec (h0 : c0.toNat < 128) (h1 : c1.toNat < 128) (h2 : c2.toNat < 128) (h3 : c3.toNat < 128) :
    Meets («bytes.decode» ⟨[.bytes #[c0, c1, c2, c3] t, .str (PySem.Str.ofString "ascii") u], []⟩) (fun _ R s => ∀ t' k, R (.ok (.ret (.str ⟨#[c0.toNat, c1.toNat, c2.toNat, c3.toNat]⟩ t'))) { s with toks := k }) := by
  refine .of_wp fun prog w A R s h => ?_
  rw [entry_a]
  refine wpAny_bind (wpAny_mkStr ?_ (by decide))
  refine wpAny_bind (wpAny_mkStr ?_ (by decide))
  refine wpAny_bind (wpAny_mkStr ?_ (by decide))
  exact wpAny_bind (call_function_meets KBd.kind_text KBd.plain_text KBd.entry_text (KBd.args_text _ _ _ _) (meets_a h0 h1 h2 h3) (wpAny_pure ⟨_, rfl, h _ _⟩))
theorem args_dec2 (a b : Value) : argsOk "bytes.decode" ⟨[a, b], []⟩ := by
  unfold argsOk; rw [signature?_of (id := "bytes.decode") (n := ['e', 'd', 'o', 'c', 'e', 'd']) (o := ['s', 'e', 't', 'y', 'b']) (by kernel_rfl) FB.owner_bytes]; kernel_rfl
theorem call_dec {prog : Program} {w : World} {A : Around} {E : Value → Shared → Prop} {s : Shared} {Q : Value → Shared → Prop} (h0 : c0.toNat < 128) (h1 : c1.toNat < 128) (h2 : c2.toNat < 128) (h3 : c3.toNat < 128) (h : ∀ t' k, Q (.str ⟨#[c0.toNat, c1.toNat, c2.toNat, c3.toNat]⟩ t') { s with toks := k }) :
    wpAny (model prog w) A (call (.builtin "bytes.decode") [.bytes #[c0, c1, c2, c3] t, .str (PySem.Str.ofString "ascii") u]) Q E s :=
  call_meets FB.slot_bytes_decode (typeIs_bytes _ _ _) FB.entry_bytes_decode (args_dec2 _ _) (meets_dec h0 h1 h2 h3) h
end
end RB
end Mine
end
section
open PySem PySem.W PySem.Calls PyProof.Rows PySem.AutoSeq1
set_option maxRecDepth 100000
namespace Mine
namespace RE
theorem tup_new (l : Addr) (items : Array Value) (n : Nat) (dct : Option Addr) (sl : Array (Option Value)) :
    Meets (Builtin.«enumerate.__new__» ⟨[.type "enumerate", .ref l], []⟩) (fun _ R s => s.heap.get? l = some { cls := .type "tuple", dict := dct, data := .seq items n, slots := sl } ∧
      R (.ok (.ret (.ref (s.heap.push { cls := .type "tuple_iterator", data := .fields #[.ref l, .int 0 0] }).objs.size)))
        { s with heap := (s.heap.push { cls := .type "tuple_iterator", data := .fields #[.ref l, .int 0 0] }).push { cls := .type "enumerate", data := .fields #[.none, .bool false, .ref s.heap.objs.size, rawInt 0, .none, .none] } }) :=
  .of_wp fun prog w A R s h => by
    obtain ⟨hp, g, d, tk, os⟩ := s; obtain ⟨hl, h⟩ := h
    have hsub := sub_enumerate
    have hL : Heap.IsTuple (Shared.heap ⟨hp, g, d, tk, os⟩) l items := ⟨_, hl, rfl, n, rfl⟩
    wp_walk using wpAny_loadPart' hl
    refine wpAny_stack_any fun st => wpAny_pure ?_
    split
    · rename_i c _ _ _ _ _
      cases (c == Value.type "enumerate")
      · wp_walk using wpAny_loadPart' hl, wpAny_pyIter_tuple hL
        exact ⟨_, rfl, h⟩
      · wp_walk using wpAny_loadPart' hl, wpAny_pyIter_tuple hL
        exact ⟨_, rfl, h⟩
    · wp_walk using wpAny_loadPart' hl, wpAny_pyIter_tuple hL
      exact ⟨_, rfl, h⟩
section
variable {prog : Program} {w : World} {A : Around} {E : Value → Shared → Prop} {s : Shared}
theorem call_tup {l : Addr} {items : Array Value} {Q : Value → Shared → Prop} (hL : s.heap.IsTuple l items)
    (h : ∀ h', IsEnum h' (s.heap.objs.size + 1) s.heap.objs.size 0 .none → h'.IsTupleIter s.heap.objs.size l 0 → h'.objs.size = s.heap.objs.size + 2 →
      (∀ b o, s.heap.get? b = some o → h'.get? b = some o) → Q (.ref (s.heap.objs.size + 1)) { s with heap := h' }) :
    wpAny (model prog w) A (call (.type "enumerate") [.ref l]) Q E s := by
  obtain ⟨⟨c, dct, dt, sl⟩, hl, hc, n, hd⟩ := hL
  replace hc : c = .type "tuple" := hc
  replace hd : dt = .seq items n := hd
  subst hc hd
  refine callType_new F.called_enumerate (by decide) (F.typeCall_enumerate_1 _) (F.newCall_enumerate_1 _) (fun obj => F.args_object_init_2 obj _) F.entry_enumerate_new
    (tup_new l items n dct sl) ⟨hl, ?_⟩
  have hz : (s.heap.push { cls := .type "tuple_iterator", data := .fields #[.ref l, .int 0 0] }).objs.size = s.heap.objs.size + 1 := Heap.size_push ..
  show _ ∧ _
  rw [hz]
  have he : IsEnum ((s.heap.push { cls := .type "tuple_iterator", data := .fields #[.ref l, .int 0 0] }).push
      { cls := .type "enumerate", data := .fields #[.none, .bool false, .ref s.heap.objs.size, rawInt 0, .none, .none] }) (s.heap.objs.size + 1) s.heap.objs.size 0 .none := by
    have := Heap.get?_push_size (s.heap.push { cls := .type "tuple_iterator", data := .fields #[.ref l, .int 0 0] })
      (o := { cls := .type "enumerate", data := .fields #[.none, .bool false, .ref s.heap.objs.size, rawInt 0, .none, .none] }) rfl
    rw [hz] at this; exact this
  refine ⟨⟨_, he, rfl⟩, h _ he ⟨_, Heap.get?_push_of_some _ (Heap.get?_push_size _ rfl), rfl, rfl⟩ (by rw [Heap.size_push, hz]) fun b o x => Heap.get?_push_of_some _ (Heap.get?_push_of_some _ x)⟩
theorem next_item {it l : Addr} {i : Nat} {items} {x : Value} {Q : Value → Shared → Prop} (hit : s.heap.IsTupleIter it l i)
    (hl : s.heap.IsTuple l items) (hx : items[i]? = some x)
    (hQ : ∀ h', h'.IsTupleIter it l (i + 1) → Heap.SameBut it s.heap h' → Q x { s with heap := h' }) :
    wpAny (model prog w) A (Builtin.SmallTypes.nextOf (.ref it)) Q E s := by
  obtain ⟨o, ho, hc, hd⟩ := id hit
  obtain ⟨ol, hol, _, nl, hdl⟩ := hl
  unfold Builtin.SmallTypes.nextOf
  refine wpAny_bind (wpAny_callSpecial?_slot (name := Str.ofString "__next__") hit.typeIs F.slot_tuple_iterator_next
    (wpAny_call_entry F.slot_tuple_iterator_next hit.typeIs F.entry_tuple_iterator_next ?_ (F.args_tuple_iterator_next_1 _)))
  show wpAny _ _ (field (.ref it) 0 >>= _) _ _ s
  refine wpAny_bind (wpAny_field ho hd (x := .ref l) rfl ?_)
  show wpAny _ _ (if (Value.ref l == Value.none) = true then _ else _) _ _ s
  rw [if_neg (show ¬ ((Value.ref l == Value.none) = true) from Bool.false_ne_true)]
  show wpAny _ _ (field (.ref it) 1 >>= _) _ _ s
  refine wpAny_bind (wpAny_field ho hd (x := .int i 0) rfl ?_)
  show wpAny _ _ (seqItems? (.ref l) >>= _) _ _ s
  refine wpAny_bind (wpAny_seqItems hol hdl ?_)
  simp only [Int.toNat_natCast, hx]
  refine wpAny_bind (wpAny_setField ho hd (by simp) (wpAny_pure ⟨x, rfl, wpAny_pure (hQ _ ?_ (Heap.SameBut.update ..))⟩))
  exact ⟨_, Heap.get?_update_self _ ho (Obj.isFreed_of_fields (Obj.data_mapFields hd _)), (Obj.cls_mapFields ..).trans hc, by
    rw [Obj.data_mapFields hd]; simp [rawInt]⟩
theorem next_end {it l : Addr} {i : Nat} {items} {Q : Value → Shared → Prop} (hh : A.handled = none)
    (hit : s.heap.IsTupleIter it l i) (hl : s.heap.IsTuple l items) (hx : items[i]? = none)
    (hE : ∀ h' e, Heap.ExtBut it s.heap h' → (∃ o, h'.get? e = some o ∧ o.cls = .type "StopIteration") → E (.ref e) { s with heap := h' }) :
    wpAny (model prog w) A (Builtin.SmallTypes.nextOf (.ref it)) Q E s := by
  obtain ⟨o, ho, hc, hd⟩ := id hit
  obtain ⟨ol, hol, _, nl, hdl⟩ := hl
  unfold Builtin.SmallTypes.nextOf
  refine wpAny_bind (wpAny_callSpecial?_slot (name := Str.ofString "__next__") hit.typeIs F.slot_tuple_iterator_next
    (wpAny_call_entry F.slot_tuple_iterator_next hit.typeIs F.entry_tuple_iterator_next ?_ (F.args_tuple_iterator_next_1 _)))
  show wpAny _ _ (field (.ref it) 0 >>= _) _ _ s
  refine wpAny_bind (wpAny_field ho hd (x := .ref l) rfl ?_)
  show wpAny _ _ (if (Value.ref l == Value.none) = true then _ else _) _ _ s
  rw [if_neg (show ¬ ((Value.ref l == Value.none) = true) from Bool.false_ne_true)]
  show wpAny _ _ (field (.ref it) 1 >>= _) _ _ s
  refine wpAny_bind (wpAny_field ho hd (x := .int i 0) rfl ?_)
  show wpAny _ _ (seqItems? (.ref l) >>= _) _ _ s
  refine wpAny_bind (wpAny_seqItems hol hdl ?_)
  simp only [Int.toNat_natCast, hx]
  refine wpAny_bind (wpAny_rule (wpAny_bind (wpAny_setField ho hd (by simp) ?_)))
  show wpAny _ _ (newExc (.type "StopIteration") [] >>= _) _ _ _
  refine wpAny_bind ?_
  simp only [newExc, newTuple]
  refine wpAny_bind (wpAny_newObj_type ?_ (by size_fits))
  refine wpAny_bind (m := firstArgMember _ _) (wpAny_of_eq (a := Value.none) (by first | rfl | (simp only [firstArgMember]; rfl)) ?_)
  refine wpAny_newObj_type ?_ (by size_fits)
  simp only [raiseNew]
  refine wpAny_bind (wpAny_handled ?_)
  first | rw [show A.in1.handled = none from hh] | rw [hh]
  refine wpAny_bind (wpAny_pure (wpAny_throw ?_))
  exact hE _ _ (((Heap.SameBut.update ..).extBut.push _).push _) ⟨_, Heap.get?_push_size _ rfl, rfl⟩
end
theorem draws {prog : Program} {w : World} {A : Around} (hh : A.handled = none) (it l : Addr) (hne : l ≠ it) (items : Array Value) :
    Draws prog w A it [it, l] items.size (fun i v => items[i]? = some v) (fun i h => h.IsTupleIter it l i ∧ h.IsTuple l items) where
  live := fun _ _ st => let ⟨o, ho, _⟩ := st.1; ⟨o, ho⟩
  frame := fun _ _ _ st hk => ⟨st.1.at fun o e => hk it (by simp) o e, st.2.at fun o e => hk l (by simp) o e⟩
  item := fun i s Q E hi st hQ => by
    refine next_item st.1 st.2 (x := items[i]) (by simp [hi]) fun h' hit' hs' => ?_
    exact hQ _ h' s.toks (by simp [hi]) ⟨hit', st.2.extBut hs'.extBut hne⟩ hs'
  done := fun s Q E st hE => next_end hh st.1 st.2 (by simp) hE
end RE
end Mine
end
section
open PySem PySem.W PySem.Calls PyProof.Rows PyProof.Rows.LCg
set_option maxRecDepth 100000
namespace Mine
section
variable {prog : Program} {w : World} {A : Around} {s : Shared} {env : Env} {g : Heap} {m : Str → Option Value} {news : List (Addr × Obj)} {body orelse : List Stmt} {Q : Flow → Shared → Prop}
/-- two names of the frame from a pair that stands in the base -/
theorem assign_pair {s₀ : Shared} {h : Heap} {tk : Nat} {a b : Str} {pa pb tp : Pos} {kk : Nat} {T : Addr} {x y : Value} {Q' : Unit → Shared → Prop} (hh : A.handled = none) (F : Fr g env.locals h m) (N : News g env.locals h news) (hT : IsTup h T #[x, y])
    (ha : env.kindOf a = some .local) (hb : env.kindOf b = some .local) (hp : (env.scope.kind == .class || (env.scope.kind == .module && env.locals != env.globals)) = false)
    (hq : ∀ h' tk', Fr g env.locals h' (fun z => if z = b then some y else if z = a then some x else m z) → News g env.locals h' news → Q' () { s₀ with heap := h', toks := tk' }) :
    wpAny (model prog w) A (assign (.Tuple [.Name a pa, .Name b pb] kk tp) env (.ref T)) Q' NoE { s₀ with heap := h, toks := tk } := by
  refine kcp_assign (s := { s₀ with heap := h, toks := tk }) hh hT ha hb hp F.ns fun h' tk' hn hs => ?_
  have hL₀ : g.get? env.locals = none := Heap.get?_none_of_le F.above
  exact hq h' tk' ⟨hn, fun c o e => hs c o (fun q => by rw [q, hL₀] at e; cases e) (F.keep c o e), F.above⟩ fun p hp => ⟨hs _ _ (N p hp).2.1 (N p hp).1, (N p hp).2⟩

/-- a loop over a tuple of pairs, all of the base -/
theorem loop_tpairs {a b : Str} {pa pb tp : Pos} {kk : Nat} {l : Addr} {items : Array Value} (J : Nat → (Str → Option Value) → List (Addr × Obj) → Prop)
    (hh : A.handled = none) (F : Fr g env.locals s.heap m) (N : News g env.locals s.heap news) (hl : IsTup g l items) (hJ : J 0 m news)
    (ha : env.kindOf a = some .local) (hb : env.kindOf b = some .local) (hp : (env.scope.kind == .class || (env.scope.kind == .module && env.locals != env.globals)) = false)
    (hi : ∀ (i : Nat) (v : Value), items[i]? = some v → ∃ T x y, v = Value.ref T ∧ IsTup g T #[x, y])
    (turn : ∀ i T x y m₁ news₁ h tk oI I, items[i]? = some (Value.ref T) → IsTup g T #[x, y] → J i m₁ news₁ → Fr g env.locals h (fun z => if z = b then some y else if z = a then some x else m₁ z) → News g env.locals h ((I, oI) :: news₁) → (∀ p ∈ news₁, p.1 ≠ I) →
      wpAny (model prog w) A (execs body env) (fun f s₃ => match f with
        | .next | .cont => LoopEnd g env.locals s I oI (fun _ => True) (J (i + 1)) s₃
        | .brk => Q .next s₃
        | .ret v => Q (.ret v) s₃) NoE { s with heap := h, toks := tk })
    (done : ∀ m₁ news₁ h tk, J items.size m₁ news₁ → Fr g env.locals h m₁ → News g env.locals h news₁ → wpAny (model prog w) A (execs orelse env) Q NoE { s with heap := h, toks := tk }) :
    wpAny (model prog w) A (pyIter (.ref l)) (fun it s₂ => LoopGo prog w A env (.Tuple [.Name a pa, .Name b pb] kk tp) body orelse Q it s₂) NoE s := by
  have hls : IsTup s.heap l items := IsTup.keeps hl F.keep
  have hlt : l < s.heap.objs.size := by obtain ⟨_, e, _⟩ := hls; exact Heap.lt_size e
  refine wpAny_pyIter_tuple hls ?_
  have up : ∀ b o, s.heap.get? b = some o → (s.heap.push { cls := .type "tuple_iterator", data := .fields #[.ref l, .int 0 0] }).get? b = some o := fun b o e => Heap.get?_push_of_some _ e
  refine loop_go (S := fun _ => True) J (Walks.tuple hh s.heap.objs.size l (Nat.ne_of_lt hlt) items) (fun i h st => by obtain ⟨o, e, _⟩ := st.1; exact ⟨o, e⟩) ?_ ?_ ⟨⟨_, Heap.get?_push_size _ rfl, rfl, rfl⟩, hls.push _⟩
    (F.keeps up) (N.grown up) (Nat.ne_of_lt F.ns.lt) (next_is_new F) (fun p hp => Nat.ne_of_lt (Heap.lt_size (N p hp).1)) trivial hJ ?_ done
  · intro i h h' o nw st e e' k _ _
    exact ⟨by obtain ⟨o', q, r⟩ := st.1; rw [e] at q; cases q; exact ⟨o, e', r⟩, IsTup.keeps hl k⟩
  · intro i v s' Q' st hv hq
    obtain ⟨T, x, y, rfl, _⟩ := hi _ _ hv
    obtain ⟨o, ho, hc, hd⟩ := st.1
    unfold letOwnedTupleGo
    refine wpAny_bind (wpAny_load ho ?_)
    rw [hc, hd]
    show wpAny _ A (if (["enumerate", "zip", "dict_itemiterator", "dict_reverseitemiterator", "odict_iterator", "itertools.zip_longest", "itertools.pairwise"].contains "tuple_iterator" && _) = true then _ else _) Q' _ s'
    rw [if_neg (by
      intro h
      rw [show (["enumerate", "zip", "dict_itemiterator", "dict_reverseitemiterator", "odict_iterator", "itertools.zip_longest", "itertools.pairwise"].contains "tuple_iterator") = false from by decide, Bool.false_and] at h
      cases h)]
    exact wpAny_pure hq
  · intro i v m₁ news₁ h tk oI hi' hv hj _ F₁ N₁ o₁
    obtain ⟨T, x, y, rfl, hT⟩ := hi _ _ hv
    refine assign_pair hh F₁ N₁ (IsTup.keeps hT F₁.keep) ha hb hp fun h' tk' F' N' => ?_
    exact turn i T x y m₁ news₁ h' tk' oI _ hv hT hj F' N' o₁

/-- a loop over a list of pairs, all of the base -/
theorem loop_lpairs {a b : Str} {pa pb tp : Pos} {kk : Nat} {l : Addr} {items : Array Value} (J : Nat → (Str → Option Value) → List (Addr × Obj) → Prop)
    (hh : A.handled = none) (F : Fr g env.locals s.heap m) (N : News g env.locals s.heap news) (hl : g.IsList l items) (hJ : J 0 m news)
    (ha : env.kindOf a = some .local) (hb : env.kindOf b = some .local) (hp : (env.scope.kind == .class || (env.scope.kind == .module && env.locals != env.globals)) = false)
    (hi : ∀ (i : Nat) (v : Value), items[i]? = some v → ∃ T x y, v = Value.ref T ∧ IsTup g T #[x, y])
    (turn : ∀ i T x y m₁ news₁ h tk oI I, items[i]? = some (Value.ref T) → IsTup g T #[x, y] → J i m₁ news₁ → Fr g env.locals h (fun z => if z = b then some y else if z = a then some x else m₁ z) → News g env.locals h ((I, oI) :: news₁) → (∀ p ∈ news₁, p.1 ≠ I) →
      wpAny (model prog w) A (execs body env) (fun f s₃ => match f with
        | .next | .cont => LoopEnd g env.locals s I oI (SrcAt g l items) (J (i + 1)) s₃
        | .brk => Q .next s₃
        | .ret v => Q (.ret v) s₃) NoE { s with heap := h, toks := tk })
    (done : ∀ m₁ news₁ h tk, J items.size m₁ news₁ → Fr g env.locals h m₁ → News g env.locals h news₁ → wpAny (model prog w) A (execs orelse env) Q NoE { s with heap := h, toks := tk }) :
    wpAny (model prog w) A (pyIter (.ref l)) (fun it s₂ => LoopGo prog w A env (.Tuple [.Name a pa, .Name b pb] kk tp) body orelse Q it s₂) NoE s := by
  refine loop_list J hh F N (.inl hl) hJ (.inr ⟨⟨_, _, _, rfl⟩, fun i v hv => by obtain ⟨T, _, _, e, _⟩ := hi i v hv; exact ⟨T, e⟩⟩) ?_ done
  intro i v m₁ news₁ h tk oI I hv hj _ F₁ N₁ o₁
  obtain ⟨T, x, y, rfl, hT⟩ := hi _ _ hv
  refine assign_pair hh F₁ N₁ (IsTup.keeps hT F₁.keep) ha hb hp fun h' tk' F' N' => ?_
  exact turn i T x y m₁ news₁ h' tk' oI I hv hT hj F' N' o₁
end
end Mine
end
section
open PySem PySem.W PySem.Calls PyProof.Rows PyProof.Rows.LCg
set_option maxRecDepth 100000
namespace Mine
/-- what a turn leaves of a loop with two objects of its own -/
def LoopEnd2 (g : Heap) (L : Addr) (s₀ : Shared) (I : Addr) (oI : Obj) (I' : Addr) (oI' : Obj) (J : (Str → Option Value) → List (Addr × Obj) → Prop) (s : Shared) : Prop :=
  ∃ h' tk m' news', s = { s₀ with heap := h', toks := tk } ∧ Fr g L h' m' ∧ News g L h' ((I, oI) :: (I', oI') :: news') ∧ (∀ p ∈ news', p.1 ≠ I ∧ p.1 ≠ I') ∧ J m' news'
section
variable {prog : Program} {w : World} {A : Around} {s : Shared} {env : Env} {g : Heap} {m : Str → Option Value} {news : List (Addr × Obj)} {body orelse : List Stmt} {Q : Flow → Shared → Prop}
theorem loop_enum {a b : Str} {pa pb tp : Pos} {kk : Nat} {l : Addr} {items : Array Value} (J : Nat → (Str → Option Value) → List (Addr × Obj) → Prop)
    (hh : A.handled = none) (F : Fr g env.locals s.heap m) (N : News g env.locals s.heap news) (hl : IsTup g l items) (hJ : J 0 m news)
    (ha : env.kindOf a = some .local) (hb : env.kindOf b = some .local) (hp : (env.scope.kind == .class || (env.scope.kind == .module && env.locals != env.globals)) = false)
    (turn : ∀ (i : Nat) x t m₁ news₁ h tk oI I oI' I', items[i]? = some x → J i m₁ news₁ → Fr g env.locals h (fun z => if z = b then some x else if z = a then some (.int i t) else m₁ z) → News g env.locals h ((I, oI) :: (I', oI') :: news₁) → (∀ p ∈ news₁, p.1 ≠ I ∧ p.1 ≠ I') →
      wpAny (model prog w) A (execs body env) (fun f s₃ => match f with
        | .next | .cont => LoopEnd2 g env.locals s I oI I' oI' (J (i + 1)) s₃
        | .brk => Q .next s₃
        | .ret v => Q (.ret v) s₃) NoE { s with heap := h, toks := tk })
    (done : ∀ m₁ news₁ h tk, J items.size m₁ news₁ → Fr g env.locals h m₁ → News g env.locals h news₁ → wpAny (model prog w) A (execs orelse env) Q NoE { s with heap := h, toks := tk }) :
    wpAny (model prog w) A (call (.type "enumerate") [.ref l]) (fun xv s₁ => wpAny (model prog w) A (pyIter xv) (fun it s₂ => LoopGo prog w A env (.Tuple [.Name a pa, .Name b pb] kk tp) body orelse Q it s₂) NoE s₁) NoE s := by
  have hls : IsTup s.heap l items := IsTup.keeps hl F.keep
  have hlt := ltN (show l < s.heap.objs.size by obtain ⟨_, e, _⟩ := hls; exact Heap.lt_size e)
  have hLt := ltN F.ns.lt
  have hAb : @LE.le Nat _ g.objs.size env.locals := F.above
  refine RE.call_tup hls fun h₁ hE hI hsz hk => ?_
  refine wpAny_pyIter_enum hE ?_
  obtain ⟨e, he⟩ : ∃ e, e = s.heap.objs.size + 1 := ⟨_, rfl⟩
  obtain ⟨it, hit⟩ : ∃ it, it = s.heap.objs.size := ⟨_, rfl⟩
  rw [← he] at hE ⊢
  rw [← hit] at hE hI
  have hei : @Ne Nat e it := by omega
  have hel : @Ne Nat e l := by omega
  have hil : @Ne Nat l it := by omega
  have hLe : @Ne Nat env.locals e := by omega
  have hLi : @Ne Nat env.locals it := by omega
  have he₀ : g.get? e = none := Heap.get?_none_of_le (by show @LE.le Nat _ _ _; omega)
  have hi₀ : g.get? it = none := Heap.get?_none_of_le (by show @LE.le Nat _ _ _; omega)
  have W := WalksT.enumerateD (prog := prog) (w := w) (A := A) (RE.draws (by simpa using hh) it l hil items) e hei (by simp [hei, hel]) (by simp)
  have off₀ : ∀ p ∈ news, p.1 ≠ e ∧ p.1 ≠ it := fun p hp => by have := ltN (Heap.lt_size (N p hp).1); exact ⟨neN (by omega), neN (by omega)⟩
  refine codeAny_forLoop_any
    (fun k s' => ∃ h' tk i m' news', s' = { s with heap := h', toks := tk } ∧ i ≤ items.size ∧ k = items.size + 1 - i ∧ ((∃ old, IsEnum h' e it i old) ∧ h'.IsTupleIter it l i ∧ h'.IsTuple l items) ∧ Fr g env.locals h' m' ∧ News g env.locals h' news' ∧ (∀ p ∈ news', p.1 ≠ e ∧ p.1 ≠ it) ∧ J i m' news') ?_ (items.size + 1)
    ⟨h₁, s.toks, 0, m, news, rfl, Nat.zero_le _, rfl, ⟨⟨.none, by simpa using hE⟩, hI, Heap.IsTuple.at hls fun o q => hk _ _ q⟩, F.keeps hk, N.grown hk, off₀, hJ⟩
  rintro k s' ⟨h', tk, i, m', news', rfl, hi, rfl, hst', F', N', off', hJ'⟩
  have fr : ∀ {h h' : Heap} {m : Str → Option Value}, Fr g env.locals h m → (∀ b o, b ∉ [e, it] → h.get? b = some o → h'.get? b = some o) → Fr g env.locals h' m := fun F hk =>
    ⟨F.ns.at' fun o q => hk _ o (by simp [hLe, hLi]) q, fun c o q => hk c o (by
      intro hm
      rcases List.mem_cons.mp hm with r | r
      · rw [r, he₀] at q; cases q
      · rw [List.mem_singleton.mp r, hi₀] at q; cases q) (F.keep c o q), F.above⟩
  have nw : ∀ {h h' : Heap} {nw : List (Addr × Obj)}, News g env.locals h nw → (∀ p ∈ nw, p.1 ≠ e ∧ p.1 ≠ it) → (∀ b o, b ∉ [e, it] → h.get? b = some o → h'.get? b = some o) → News g env.locals h' nw := fun N off hk p hp =>
    ⟨hk _ _ (by simp [(off p hp).1, (off p hp).2]) (N p hp).1, (N p hp).2⟩
  by_cases hlt' : i < items.size
  · refine W.item i _ _ _ hlt' hst' fun T vals h₂ tk₂ hPt _ hT hMid hk₂ => ?_
    obtain ⟨t, x, hx, rfl⟩ := hPt
    have hTw := W.apart i T h₂ hMid
    refine W.go [.Name a pa, .Name b pb] kk tp i T { s with heap := h₂, toks := tk₂ } _ _ hMid fun h₃ hst₃ hk₃ => ?_
    have hT₃ : h₃.IsTuple T #[.int i t, x] := hT.at fun o q => hk₃ _ _ hTw q
    obtain ⟨⟨old, hE₃⟩, hI₃, hl₃⟩ := id hst₃
    obtain ⟨oI, hoI, hkI⟩ : ∃ oI : Obj, h₃.get? e = some oI ∧ ∀ h : Heap, h.get? e = some oI → IsEnum h e it ((i + 1 : Nat) : Int) old := ⟨_, hE₃, fun _ q => q⟩
    obtain ⟨oT, hoT, hcT, hdT⟩ := hI₃
    have F₃ := fr (fr F' hk₂) hk₃
    have N₃ : News g env.locals h₃ ((e, oI) :: (it, oT) :: news') := fun p hp => by
      rcases List.mem_cons.mp hp with rfl | hp
      · exact ⟨hoI, Ne.symm hLe, he₀⟩
      · rcases List.mem_cons.mp hp with rfl | hp
        · exact ⟨hoT, Ne.symm hLi, hi₀⟩
        · exact nw (nw N' off' hk₂) off' hk₃ p hp
    refine wpAny_mono (assign_pair (s₀ := s) (tk := tk₂) hh F₃ N₃ hT₃ ha hb hp (Q' := fun _ s₂ => wpAny (model prog w) A (execs body env) (fun f s₃ => match f with
        | .next | .cont => LoopEnd2 g env.locals s e oI it oT (J (i + 1)) s₃
        | .brk => Q .next s₃
        | .ret v => Q (.ret v) s₃) NoE s₂) fun h₄ tk₄ F₄ N₄ => turn i x t m' news' h₄ tk₄ oI e oT it hx hJ' F₄ N₄ off') (fun _ s₂ h₂' => wpAny_mono h₂' (fun f s₃ h₃ => ?_) fun _ _ x => x.elim) fun _ _ x => x.elim
    have fin : LoopEnd2 g env.locals s e oI it oT (J (i + 1)) s₃ → ∃ m₀, m₀ < items.size + 1 - i ∧ ∃ h' tk i m' news', s₃ = { s with heap := h', toks := tk } ∧ i ≤ items.size ∧ m₀ = items.size + 1 - i ∧ ((∃ old, IsEnum h' e it i old) ∧ h'.IsTupleIter it l i ∧ h'.IsTuple l items) ∧ Fr g env.locals h' m' ∧ News g env.locals h' news' ∧ (∀ p ∈ news', p.1 ≠ e ∧ p.1 ≠ it) ∧ J i m' news' := by
      rintro ⟨h₅, tk₅, m₅, news₅, rfl, F₅, N₅, off₅, hJ₅⟩
      refine ⟨items.size + 1 - (i + 1), by omega, h₅, tk₅, i + 1, m₅, news₅, rfl, hlt', rfl, ⟨⟨old, hkI _ (N₅ _ (.head _)).1⟩, ⟨oT, (N₅ _ (.tail _ (.head _))).1, hcT, hdT⟩, IsTup.keeps hl F₅.keep⟩, F₅, fun p hp => N₅ p (.tail _ (.tail _ hp)), off₅, hJ₅⟩
    cases f with
    | next => exact fin h₃
    | cont => exact fin h₃
    | brk => exact h₃
    | ret v => exact h₃
  · obtain rfl : i = items.size := Nat.le_antisymm hi (Nat.not_lt.mp hlt')
    refine W.done _ _ _ hst' fun h₂ tk₂ hk₂ => ?_
    exact wpAny_mono (done m' news' h₂ tk₂ hJ' (fr F' hk₂) (nw N' off' hk₂)) (fun _ _ x => x) fun _ _ x => x.elim
end
end Mine
end
section
open PySem PySem.W PySem.Calls PyProof.Rows PyProof.Rows.LCg
set_option maxRecDepth 100000
namespace Mine
/-- what an element's evaluation leaves of a comprehension's turn (draws may have been made) -/
def CompT (g : Heap) (L : Addr) (m : Str → Option Value) (s₀ : Shared) (Dr : Drawn → Prop) (I : Addr) (oI : Obj) (C : Addr) (oC : Obj) (D : Addr) (oD : Obj) (S : List (Addr × Obj) → Prop) (J : Value → List (Addr × Obj) → Prop) (y : Value) (s : Shared) : Prop :=
  ∃ h' tk dr news', s = { s₀ with heap := h', toks := tk, drawn := dr } ∧ Dr dr ∧ Fr g L h' m ∧ News g L h' ((I, oI) :: (C, oC) :: (D, oD) :: news') ∧ Off3 I C D news' ∧ S news' ∧ J y news'
section
variable {prog : Program} {w : World} {A : Around} {s : Shared} {g : Heap} {L : Addr} {m : Str → Option Value} {env : Env}
theorem comp_loop {elt target iter : Expr} {scope : Scope} {pos : Pos} {it acc : Value} {env : Env} {R : Result → Shared → Prop} (I : Nat → Shared → Prop)
    (turn : ∀ n s, I n s → wpAny (model prog w) A (pyNext it) (fun r s₁ => match r with
      | none => R (.ok .next) s₁
      | some v => wpAny (model prog w) A (letOwnedTupleGo target it v) (fun _ s₁' => wpAny (model prog w) A (assign target env v) (fun _ s₂ => wpAny (model prog w) A (eval elt env) (fun x s₄ =>
          wpAny (model prog w) A (call (.builtin "list.append") [acc, x]) (fun _ s₅ => ∃ m, m < n ∧ I m s₅) NoE s₄) NoE s₂) NoE s₁') NoE s₁) NoE s)
    (n : Nat) (h : I n s) : codeAny (model prog w) A (.compLoop (.ListComp elt [⟨target, iter, [], 0⟩] scope pos) 0 it acc env) R s := by
  refine codeAny_loop rfl I (fun n s hI => ?_) n h
  show wpAny _ A ((compTurn (.ListComp elt [⟨target, iter, [], 0⟩] scope pos) 0 it acc env).onRaise (fun x => do noteFrame x env; theTreesLotGoes x)) _ _ s
  refine wpAny_noted ?_
  rw [compTurn_list1]
  refine wpAny_bind (wpAny_standAt (wpAny_bind (wpAny_mono (turn n s hI) (fun r s₁ h₁ => ?_) fun _ _ x => x.elim)))
  cases r with
  | none => exact wpAny_pure h₁
  | some v =>
    refine wpAny_bind (wpAny_mono h₁ (fun _ s₁' h₁' => wpAny_bind (wpAny_mono h₁' (fun _ s₂ h₂ => ?_) fun _ _ x => x.elim)) fun _ _ x => x.elim)
    exact wpAny_bind (wpAny_bind (wpAny_mono h₂ (fun x s₄ h₄ => wpAny_bind (wpAny_mono h₄ (fun _ s₅ h₅ => wpAny_pure (wpAny_pure ⟨rfl, h₅⟩)) fun _ _ x => x.elim)) fun _ _ x => x.elim))

theorem comp_core {elt target iter : Expr} {scope : Scope} {cl : List (Str × Addr)} {pos : Pos} {s₂ : Shared} {I : Addr} {fp : List Addr} {n : Nat} {P : Nat → Value → Prop} {St : Nat → Heap → Prop} {S : List (Addr × Obj) → Prop} {news : List (Addr × Obj)}
    {RR : Value → Addr → Result → Shared → Prop} (B : Value → (Str → Option Value) → Prop) (Dr : Drawn → Prop) (J : Nat → List Value → List (Addr × Obj) → Prop)
    (W : Walks prog w A I fp [I] n P St) (hsz : n ≤ sizeLine) (hIo : ∀ i h, St i h → ∃ o, h.get? I = some o)
    (hSt : ∀ i h h' o nw, St i h → h.get? I = some o → h'.get? I = some o → (∀ b o, g.get? b = some o → h'.get? b = some o) → News g L h' nw → S nw → St i h')
    (hcell : ∀ y ∈ scope.names, y.2 ≠ .cell) (hkind : scope.kind = .function)
    (lg : ∀ i v (s : Shared) (Q' : Unit → Shared → Prop), St i s.heap → P (i - 1) v → Q' () s → wpAny (model prog w) A (letOwnedTupleGo target (.ref I) v) Q' NoE s)
    (asg : ∀ i v C (s : Shared) m' nw (Q' : Unit → Shared → Prop), P i v → s.heap.Ns C m' → (∀ b o, g.get? b = some o → s.heap.get? b = some o) → News g L s.heap nw → S nw →
      (∀ h₂ tk₂ m₂, h₂.Ns C m₂ → B v m₂ → (∀ b o, b ≠ C → s.heap.get? b = some o → h₂.get? b = some o) → Q' () { s with heap := h₂, toks := tk₂ }) → wpAny (model prog w) A (assign target (compEnvC scope cl C env) v) Q' NoE s)
    (hst : St 0 s₂.heap) (hfp : ∀ b ∈ fp, b < s₂.heap.objs.size)
    (F : Fr g L s₂.heap m) (N : News g L s₂.heap news) (hIL : L ≠ I) (hI₀ : g.get? I = none) (off : ∀ p ∈ news, p.1 ≠ I) (hS : S news) (hDr : Dr s₂.drawn) (hJ : J 0 [] news)
    (turn : ∀ i v I' oI C oC D m₂ ys news₁ h tk dr, i < n → Dr dr → P i v → B v m₂ → NsObj oC m₂ → J i ys news₁ → S news₁ → Fr g L h m → News g L h ((I', oI) :: (C, oC) :: (D, lst ys) :: news₁) → Off3 I' C D news₁ → ((@Ne Nat I' C) ∧ (@Ne Nat I' D) ∧ (@Ne Nat C D)) →
      wpAny (model prog w) A (eval elt (compEnvC scope cl C env)) (CompT g L m s₂ Dr I' oI C oC D (lst ys) S (fun y nw => J (i + 1) (ys ++ [y]) nw)) NoE { s₂ with heap := h, toks := tk, drawn := dr })
    (hRR : ∀ D C h tk dr m' ys news', Dr dr → J n ys news' → Fr g L h m → News g L h ((D, lst ys) :: news') → Off1 D news' → h.Ns C m' → g.get? C = none → g.get? D = none → C ≠ L → D ≠ L → C ≠ D → (∀ p ∈ news', p.1 ≠ C) → RR (.ref D) C (.ok .next) { s₂ with heap := h, toks := tk, drawn := dr }) :
    wpAny (model prog w) A (newList []) (fun acc s₃ => wpAny (model prog w) A (newFunctionEnv scope env.globals cl [] env.qual none .none (some env)) (fun cenv s₄ =>
      codeAny (model prog w) A (.compStart (.ListComp elt [⟨target, iter, [], 0⟩] scope pos) 0 (.ref I) acc { cenv with scope := relabel scope env }) (RR acc cenv.locals) s₄) NoE s₃) NoE s₂ := by
  refine wpAny_newObj_type (wpAny_newFunctionEnv hcell (by intro y hy; simp at hy) (fun h₁ hns₁ hsb₁ => ?_) hkind)
  dsimp only at hns₁ hsb₁ ⊢
  generalize hH2 : s₂.heap.push { cls := .type "list", dict := none, data := .seq ([] : List Value).toArray } = H2 at hns₁ hsb₁ ⊢
  obtain ⟨Dd, hDd⟩ : ∃ D, D = s₂.heap.objs.size := ⟨_, rfl⟩
  obtain ⟨Cc, hCc⟩ : ∃ C, C = H2.objs.size := ⟨_, rfl⟩
  have hC : Cc = Dd + 1 := by rw [hCc, hDd, ← hH2, Heap.size_push]
  rw [← hCc] at hns₁ hsb₁ ⊢
  rw [← hDd] at hfp ⊢
  have low : ∀ b, b < Dd → b ≠ Cc ∧ b ≠ Dd := fun b hb => ⟨by rw [hC]; exact Nat.ne_of_lt (Nat.lt_succ_of_lt hb), Nat.ne_of_lt hb⟩
  have hDC : Dd ≠ Cc := by rw [hC]; exact Nat.ne_of_lt (Nat.lt_succ_self _)
  have lts : ∀ {b : Addr} {o : Obj}, s₂.heap.get? b = some o → b < Dd := fun e => hDd ▸ Heap.lt_size e
  have hIf : I ∈ fp := W.sub I (List.mem_singleton.mpr rfl)
  have hI := low I (hfp I hIf)
  have hL := low L (hDd ▸ F.ns.lt)
  have old : ∀ b o, s₂.heap.get? b = some o → h₁.get? b = some o := fun b o e => hsb₁.extBut b o (low b (lts e)).1 (Heap.get?_push_of_some _ (hH2 ▸ Heap.get?_push_of_some _ e))
  have hacc : h₁.get? Dd = some (lst []) := hsb₁.extBut _ _ hDC (Heap.get?_push_of_some _ (hH2 ▸ hDd ▸ Heap.get?_push_size _ rfl))
  have hst₁ : St 0 h₁ := W.frame _ _ _ hst fun b _ o e => old b o e
  have fresh₀ : ∀ a, Dd ≤ a → g.get? a = none := fun a ha => by
    cases e : g.get? a with
    | none => rfl
    | some o' => exact absurd (lts (F.keep a o' e)) (Nat.not_lt.mpr ha)
  have hD₀ : g.get? Dd = none := fresh₀ _ (Nat.le_refl _)
  have hC₀ : g.get? Cc = none := fresh₀ _ (by rw [hC]; exact Nat.le_succ _)
  have hfC : ∀ b ∈ fp, b ≠ Cc ∧ b ≠ Dd := fun b hb => low b (hfp b hb)
  have off₀ : Off3 I Cc Dd news := Off3.of fun p hp => ⟨off p hp, (low _ (lts (N p hp).1)).1, (low _ (lts (N p hp).1)).2⟩
  have loop : ∀ s₃ : Shared, s₃ = { s₂ with heap := h₁, toks := s₂.toks + ([] : List (Str × Value)).length } →
      codeAny (model prog w) A (.compLoop (.ListComp elt [⟨target, iter, [], 0⟩] scope pos) 0 (.ref I) (.ref Dd) (compEnvC scope cl Cc env)) (RR (.ref Dd) Cc) s₃ := by
    rintro s₃ rfl
    refine comp_loop
      (fun k s' => ∃ h' tk dr i ys m' news', s' = { s₂ with heap := h', toks := tk, drawn := dr } ∧ Dr dr ∧ i ≤ n ∧ k = n + 1 - i ∧ ys.length = i ∧ St i h' ∧ Fr g L h' m ∧ h'.Ns Cc m' ∧ News g L h' ((Dd, lst ys) :: news') ∧ Off3 I Cc Dd news' ∧ S news' ∧ J i ys news') ?_ (n + 1)
      ⟨h₁, _, s₂.drawn, 0, [], _, news, rfl, hDr, Nat.zero_le _, rfl, rfl, hst₁, F.keeps old, hns₁, fun p hp => ?_, off₀, hS, hJ⟩
    · rintro k s' ⟨h', tk, dr, i, ys, m', news', rfl, hdr, hi, rfl, hyl, hst', F', hn', N', off', hS', hJ'⟩
      have off3 := off'.mem
      by_cases hlt : i < n
      · refine W.item i _ _ _ hlt hst' fun v h₂ tk₂ hPv hst₂ hk₂ => ?_
        have N₂ : News g L h₂ ((Dd, lst ys) :: news') := news_but N' hk₂ fun p hp => by
          rcases List.mem_cons.mp hp with rfl | hp
          · exact Ne.symm hI.2
          · exact (off3 p hp).1
        have F₂ : Fr g L h₂ m := fr_but F' hk₂ hIL hI₀
        refine lg (i + 1) v { s₂ with heap := h₂, toks := tk₂, drawn := dr } _ hst₂ (by simpa using hPv) ?_
        refine asg i v Cc _ m' news' _ hPv (hn'.at' fun o e => hk₂ _ o (by simpa using Ne.symm hI.1) e) F₂.keep (fun p hp => N₂ p (.tail _ hp)) hS' fun h₃ tk₃ m₃ hn₃ hB₃ hk₃ => ?_
        have hst₃ : St (i + 1) h₃ := W.frame _ _ _ hst₂ fun b hb o e => hk₃ b o (hfC b hb).1 e
        obtain ⟨oI, heI⟩ := hIo _ _ hst₃
        obtain ⟨oC, heC, hoC⟩ := ns_obj hn₃
        have F₃ : Fr g L h₃ m := ⟨F₂.ns.at' fun o e => hk₃ _ o hL.1 e, fun b o e => hk₃ b o (fun q => by rw [q, hC₀] at e; cases e) (F₂.keep b o e), F₂.above⟩
        have N₃ : News g L h₃ ((I, oI) :: (Cc, oC) :: (Dd, lst ys) :: news') := fun p hp => by
          rcases List.mem_cons.mp hp with rfl | hp
          · exact ⟨heI, Ne.symm hIL, hI₀⟩
          · rcases List.mem_cons.mp hp with rfl | hp
            · exact ⟨heC, Ne.symm hL.1, hC₀⟩
            · have z := N₂ p hp
              refine ⟨hk₃ _ _ ?_ z.1, z.2⟩
              rcases List.mem_cons.mp hp with rfl | hp
              · exact hDC
              · exact (off3 p hp).2.1
        refine wpAny_mono (turn i v I oI Cc oC Dd m₃ ys news' h₃ tk₃ dr hlt hdr hPv hB₃ hoC hJ' hS' F₃ N₃ off' ⟨hI.1, hI.2, Ne.symm hDC⟩) (fun y s₄ h₄ => ?_) fun _ _ e => e
        obtain ⟨h₄, tk₄, dr₄, news₄, rfl, hdr₄, F₄, N₄, off₄, hS₄, hJ₄⟩ := h₄
        have zI := (N₄ (I, oI) List.mem_cons_self).1
        have zC := (N₄ (Cc, oC) (List.mem_cons_of_mem _ List.mem_cons_self)).1
        have zD := (N₄ (Dd, lst ys) (List.mem_cons_of_mem _ (List.mem_cons_of_mem _ List.mem_cons_self))).1
        have N₄' : News g L h₄ news₄ := fun p hp => N₄ p (List.mem_cons_of_mem _ (List.mem_cons_of_mem _ (List.mem_cons_of_mem _ hp)))
        have hst₄ : St (i + 1) h₄ := hSt _ _ _ _ _ hst₃ heI zI F₄.keep N₄' hS₄
        refine append_at (hsz := by show ys.toArray.size ≤ sizeLine; rw [List.size_toArray, hyl]; exact Nat.le_trans hi hsz) zD fun h₅ hs₅ hD₅ => ?_
        have off4 := off₄.mem
        refine ⟨n + 1 - (i + 1), by omega, h₅, tk₄, dr₄, i + 1, ys ++ [y], _, news₄, rfl, hdr₄, hlt, rfl, by rw [List.length_append, List.length_singleton, hyl], W.frame _ _ _ hst₄ fun b hb o e => hs₅.extBut b o (hfC b hb).2 e, F₄.change hs₅ (Ne.symm hL.2) hD₀,
          (hoC.ns zC).sameBut hs₅ (Ne.symm hDC), fun p hp => ?_, off₄, hS₄, hJ₄⟩
        rcases List.mem_cons.mp hp with rfl | hp
        · exact ⟨hD₅.trans (congrArg some (lst_snoc ys y)), Ne.symm hL.2, hD₀⟩
        · exact ⟨hs₅.extBut _ _ (off4 p hp).2.2 (N₄' p hp).1, (N₄' p hp).2⟩
      · obtain rfl : i = n := Nat.le_antisymm hi (Nat.not_lt.mp hlt)
        refine W.done _ _ _ hst' fun h₂ tk₂ hk₂ => ?_
        exact hRR _ _ h₂ tk₂ dr _ ys news' hdr hJ' (fr_but F' hk₂ hIL hI₀) (news_but N' hk₂ fun p hp => by
          rcases List.mem_cons.mp hp with rfl | hp
          · exact Ne.symm hI.2
          · exact (off3 p hp).1) off'.one (hn'.at' fun o e => hk₂ _ o (by simpa using Ne.symm hI.1) e) hC₀ hD₀ (Ne.symm hL.1) (Ne.symm hL.2) (Ne.symm hDC) (fun p hp => (off3 p hp).2.1)
    · rcases List.mem_cons.mp hp with rfl | hp
      · exact ⟨hacc, Ne.symm hL.2, hD₀⟩
      · exact ⟨old _ _ (N p hp).1, (N p hp).2⟩
  exact codeAny_compStart_list (loop _ rfl) (W.self 0 _ _ _ hst₁ (loop _ rfl))

/-- a comprehension whose source is evaluated -/
def CompAt (prog : Program) (w : World) (A : Around) (elt target iter : Expr) (scope : Scope) (pos : Pos) (cl : List (Str × Addr)) (env : Env) (use : Option (Value → Sem Unit)) (Q : Value → Shared → Prop) (xv : Value) (s₁ : Shared) : Prop :=
  wpAny (model prog w) A (pyIter xv) (fun it s₂ => wpAny (model prog w) A (newList []) (fun acc s₃ => wpAny (model prog w) A (newFunctionEnv scope env.globals cl [] env.qual none .none (some env)) (fun cenv s₄ =>
    codeAny (model prog w) A (.compStart (.ListComp elt [⟨target, iter, [], 0⟩] scope pos) 0 it acc { cenv with scope := relabel scope env }) (compPost (model prog w) A NoE use Q acc cenv.locals) s₄) NoE s₃) NoE s₂) NoE s₁
theorem comp_eval {elt target iter : Expr} {scope : Scope} {cl : List (Str × Addr)} {pos : Pos} {Q : Value → Shared → Prop}
    (hclos : closureFor scope env = pure cl) (hkind : scope.kind = .function) (hnames : ∀ y ∈ scope.names, y.2 = .local → scope.names.lookup y.1 = some .local)
    (h : wpAny (model prog w) A (eval iter env) (CompAt prog w A elt target iter scope pos cl env none Q) NoE s)
    (hs : ∀ x, foldedSetIterable iter env x = pure x := by intro _; rfl) : wpAny (model prog w) A (eval (.ListComp elt [⟨target, iter, [], 0⟩] scope pos) env) Q NoE s := by
  rw [eval_ListComp]
  exact wpAny_comprehension_free (use := none) rfl hs hclos hkind hnames h
theorem comp_assign {elt target iter : Expr} {y : Str} {py : Pos} {scope : Scope} {cl : List (Str × Addr)} {pos spos : Pos} {Q : Flow → Shared → Prop}
    (hsw : swapsWith (.ListComp elt [⟨target, iter, [], 0⟩] scope pos) (some (.Name y py)) spos.line env = pure true)
    (hclos : closureFor scope env = pure cl) (hkind : scope.kind = .function) (hnames : ∀ y ∈ scope.names, y.2 = .local → scope.names.lookup y.1 = some .local)
    (h : wpAny (model prog w) A (eval iter env) (CompAt prog w A elt target iter scope pos cl env (some (assign (.Name y py) env)) (fun _ s' => Q .next s')) NoE s)
    (hs : ∀ x, foldedSetIterable iter env x = pure x := by intro _; rfl) : wpAny (model prog w) A (exec (.Assign [.Name y py] (.ListComp elt [⟨target, iter, [], 0⟩] scope pos) spos) env) Q NoE s := by
  rw [exec_Assign_Name_used _ _ _ _ hsw]
  refine wpAny_bind (wpAny_standAt (wpAny_bind ?_))
  show wpAny _ A (do let _ ← comprehension (.ListComp elt [⟨target, iter, [], 0⟩] scope pos) scope env _ (newList []) false (eval iter env) (some (assign (.Name y py) env))) _ _ s
  exact wpAny_bind (wpAny_mono (wpAny_comprehension_free (use := some (assign (.Name y py) env)) (Q := fun _ s' => Q .next s') rfl hs hclos hkind hnames h) (fun _ s' hq => wpAny_pure (wpAny_pure hq)) fun _ _ e => e)
/-- what must be shown behind it: an expression -/
theorem post_eval {Q : Value → Shared → Prop} {s₂ : Shared} {D C : Addr} {h : Heap} {tk : Nat} {dr} {m' : Str → Option Value} {ys : List Value} {news' : List (Addr × Obj)}
    (fin : ∀ h tk, Fr g L h m → News g L h ((D, lst ys) :: news') → Off1 D news' → Q (.ref D) { s₂ with heap := h, toks := tk, drawn := dr })
    (F' : Fr g L h m) (N' : News g L h ((D, lst ys) :: news')) (o1 : Off1 D news') (hn : h.Ns C m') (hC₀ : g.get? C = none) (hCL : C ≠ L) (hCD : C ≠ D) (offC : ∀ p ∈ news', p.1 ≠ C) :
    compPost (model prog w) A NoE none Q (.ref D) C (.ok .next) { s₂ with heap := h, toks := tk, drawn := dr } := by
  refine ⟨m', hn, fun h'' hs'' => fin h'' tk (F'.change hs'' hCL hC₀) (fun p hp => ?_) o1⟩
  refine ⟨hs''.extBut _ _ ?_ (N' p hp).1, (N' p hp).2⟩
  rcases List.mem_cons.mp hp with rfl | hp
  · exact Ne.symm hCD
  · exact offC p hp
theorem post_assign {y : Str} {py : Pos} {P : Shared → Prop} {s₂ : Shared} {D C : Addr} {h : Heap} {tk : Nat} {dr} {m m' : Str → Option Value} {ys : List Value} {news' : List (Addr × Obj)}
    (hLe : env.locals = L) (hy : env.kindOf y = some .local) (hp : (env.scope.kind == .class || (env.scope.kind == .module && env.locals != env.globals)) = false)
    (fin : ∀ h tk, Fr g L h (fun z => if z = y then some (.ref D) else m z) → News g L h ((D, lst ys) :: news') → Off1 D news' → P { s₂ with heap := h, toks := tk, drawn := dr })
    (F' : Fr g L h m) (N' : News g L h ((D, lst ys) :: news')) (o1 : Off1 D news') (hn : h.Ns C m') (hC₀ : g.get? C = none) (hCL : C ≠ L) (hCD : C ≠ D) (offC : ∀ p ∈ news', p.1 ≠ C) :
    compPost (model prog w) A NoE (some (assign (.Name y py) env)) (fun _ s' => P s') (.ref D) C (.ok .next) { s₂ with heap := h, toks := tk, drawn := dr } := by
  subst hLe
  show wpAny _ A (assign (.Name y py) env (.ref D)) _ _ _
  refine wpAny_assign_Name (wpAny_storeName_local hy F'.ns (fun h₂ hn₂ hs₂ => ?_) hp)
  have hL₀ : g.get? env.locals = none := Heap.get?_none_of_le F'.above
  have F₂ : Fr g env.locals h₂ (fun z => if z = y then some (.ref D) else m z) := ⟨hn₂, fun b o e => hs₂.extBut b o (fun q => by rw [q, hL₀] at e; cases e) (F'.keep b o e), F'.above⟩
  refine ⟨m', hn.sameBut hs₂ hCL, fun h'' hs'' => fin h'' _ (F₂.change hs'' hCL hC₀) (fun p hp => ?_) o1⟩
  have z : h₂.get? p.1 = some p.2 := hs₂.extBut _ _ (N' p hp).2.1 (N' p hp).1
  refine ⟨hs''.extBut _ _ ?_ z, (N' p hp).2⟩
  rcases List.mem_cons.mp hp with rfl | hp
  · exact Ne.symm hCD
  · exact offC p hp
/-- the two kinds of target -/
def BName (x : Str) (v : Value) (m₂ : Str → Option Value) : Prop := m₂ x = some v
def BPair (pr : Value → Value → Value → Prop) (x y : Str) (v : Value) (m₂ : Str → Option Value) : Prop := ∃ a b, pr v a b ∧ m₂ x = some a ∧ m₂ y = some b
/-- over a list, with two names -/
theorem compAt_pairs {elt iter : Expr} {x y : Str} {px py tp : Pos} {kk : Nat} {scope : Scope} {cl : List (Str × Addr)} {pos : Pos} {use : Option (Value → Sem Unit)} {Q : Value → Shared → Prop} {ax : Addr} {its : Array Value} {news : List (Addr × Obj)} (pr : Value → Value → Value → Prop) (Dr : Drawn → Prop) (J : Nat → List Value → List (Addr × Obj) → Prop)
    (hcell : ∀ y ∈ scope.names, y.2 ≠ .cell) (hkind : scope.kind = .function) (hx : scope.names.lookup x = some .local) (hy : scope.names.lookup y = some .local) (hxy : ¬ x = y)
    (hh : A.handled = none) (F : Fr g L s.heap m) (N : News g L s.heap news) (hS : SrcAt g ax its news) (hsz : its.size ≤ sizeLine) (hDr : Dr s.drawn) (hJ : J 0 [] news)
    (S2 : List (Addr × Obj) → Prop) (hS2 : S2 news)
    (hpr : ∀ (i : Nat) v h nw, its[i]? = some v → (∀ b o, g.get? b = some o → h.get? b = some o) → News g L h nw → S2 nw → ∃ T a b, v = .ref T ∧ IsTup h T #[a, b] ∧ pr v a b)
    (turn : ∀ i v I' oI C oC D m₂ ys news₁ h tk dr, i < its.size → Dr dr → its[i]? = some v → BPair pr x y v m₂ → NsObj oC m₂ → J i ys news₁ → (SrcAt g ax its news₁ ∧ S2 news₁) → Fr g L h m → News g L h ((I', oI) :: (C, oC) :: (D, lst ys) :: news₁) → Off3 I' C D news₁ → ((@Ne Nat I' C) ∧ (@Ne Nat I' D) ∧ (@Ne Nat C D)) →
      wpAny (model prog w) A (eval elt (compEnvC scope cl C env)) (CompT g L m s Dr I' oI C oC D (lst ys) (fun nw => SrcAt g ax its nw ∧ S2 nw) (fun y nw => J (i + 1) (ys ++ [y]) nw)) NoE { s with heap := h, toks := tk, drawn := dr })
    (hRR : ∀ D C h tk dr m' ys news', Dr dr → J its.size ys news' → Fr g L h m → News g L h ((D, lst ys) :: news') → Off1 D news' → h.Ns C m' → g.get? C = none → g.get? D = none → C ≠ L → D ≠ L → C ≠ D → (∀ p ∈ news', p.1 ≠ C) → compPost (model prog w) A NoE use Q (.ref D) C (.ok .next) { s with heap := h, toks := tk, drawn := dr }) :
    CompAt prog w A elt (.Tuple [.Name x px, .Name y py] kk tp) iter scope pos cl env use Q (.ref ax) s := by
  have hl := hS.list F.keep N
  have hlt : ax < s.heap.objs.size := by obtain ⟨_, e, _⟩ := hl; exact Heap.lt_size e
  refine wpAny_pyIter_list hl ?_
  have up : ∀ b o, s.heap.get? b = some o → (s.heap.push { cls := .type "list_iterator", data := .fields #[.ref ax, .int 0 0] }).get? b = some o := fun b o e => Heap.get?_push_of_some _ e
  refine comp_core (S := fun nw => SrcAt g ax its nw ∧ S2 nw) (BPair pr x y) Dr J (Walks.list hh s.heap.objs.size ax (Nat.ne_of_lt hlt) its) hsz (fun i h st => by obtain ⟨o, e, _⟩ := st.1; exact ⟨o, e⟩) (fun i h h' o nw st e e' k N S => list_st i h h' o nw st e e' k N S.1) hcell hkind ?_ ?_ ⟨⟨_, Heap.get?_push_size _ rfl, rfl, rfl⟩, hl.push _⟩ (fun b hb => ?_)
    (F.keeps up) (N.grown up) (Nat.ne_of_lt F.ns.lt) (next_is_new F) (fun p hp => Nat.ne_of_lt (Heap.lt_size (N p hp).1)) ⟨hS, hS2⟩ hDr hJ turn hRR
  · intro i v s' Q' st hv hq
    obtain ⟨T, a, b, rfl, _⟩ := hpr _ _ _ _ hv F.keep N hS2
    exact wpAny_letOwnedTupleGo_listiter st.1 hq
  · intro i v C s' m' nw Q' hv hn hk N' S' hq
    obtain ⟨T, a, b, rfl, hT, hp⟩ := hpr _ _ _ _ hv hk N' S'.2
    refine kcp_assign (env := compEnvC scope cl C env) hh hT (lookup_relabel_local hx) (lookup_relabel_local hy) (by simp [compEnvC, relabel, hkind]) hn fun h' tk' hn' hs' => ?_
    exact hq h' tk' _ hn' ⟨a, b, hp, by simp [hxy], by simp⟩ hs'
  · show b < (s.heap.push _).objs.size
    rw [Heap.size_push]
    rcases List.mem_cons.mp hb with rfl | hb
    · exact Nat.lt_succ_self _
    · rw [List.mem_singleton.mp hb]; exact Nat.lt_succ_of_lt hlt
/-- over a list, with one name -/
theorem compAt_name {elt iter : Expr} {x : Str} {px : Pos} {scope : Scope} {cl : List (Str × Addr)} {pos : Pos} {use : Option (Value → Sem Unit)} {Q : Value → Shared → Prop} {ax : Addr} {its : Array Value} {news : List (Addr × Obj)} (Dr : Drawn → Prop) (J : Nat → List Value → List (Addr × Obj) → Prop)
    (hcell : ∀ y ∈ scope.names, y.2 ≠ .cell) (hkind : scope.kind = .function) (hx : scope.names.lookup x = some .local)
    (hh : A.handled = none) (F : Fr g L s.heap m) (N : News g L s.heap news) (hS : SrcAt g ax its news) (hsz : its.size ≤ sizeLine) (hDr : Dr s.drawn) (hJ : J 0 [] news)
    (turn : ∀ i v I' oI C oC D m₂ ys news₁ h tk dr, i < its.size → Dr dr → its[i]? = some v → BName x v m₂ → NsObj oC m₂ → J i ys news₁ → SrcAt g ax its news₁ → Fr g L h m → News g L h ((I', oI) :: (C, oC) :: (D, lst ys) :: news₁) → Off3 I' C D news₁ → ((@Ne Nat I' C) ∧ (@Ne Nat I' D) ∧ (@Ne Nat C D)) →
      wpAny (model prog w) A (eval elt (compEnvC scope cl C env)) (CompT g L m s Dr I' oI C oC D (lst ys) (SrcAt g ax its) (fun y nw => J (i + 1) (ys ++ [y]) nw)) NoE { s with heap := h, toks := tk, drawn := dr })
    (hRR : ∀ D C h tk dr m' ys news', Dr dr → J its.size ys news' → Fr g L h m → News g L h ((D, lst ys) :: news') → Off1 D news' → h.Ns C m' → g.get? C = none → g.get? D = none → C ≠ L → D ≠ L → C ≠ D → (∀ p ∈ news', p.1 ≠ C) → compPost (model prog w) A NoE use Q (.ref D) C (.ok .next) { s with heap := h, toks := tk, drawn := dr }) :
    CompAt prog w A elt (.Name x px) iter scope pos cl env use Q (.ref ax) s := by
  have hl := hS.list F.keep N
  have hlt : ax < s.heap.objs.size := by obtain ⟨_, e, _⟩ := hl; exact Heap.lt_size e
  refine wpAny_pyIter_list hl ?_
  have up : ∀ b o, s.heap.get? b = some o → (s.heap.push { cls := .type "list_iterator", data := .fields #[.ref ax, .int 0 0] }).get? b = some o := fun b o e => Heap.get?_push_of_some _ e
  refine comp_core (S := SrcAt g ax its) (BName x) Dr J (Walks.list hh s.heap.objs.size ax (Nat.ne_of_lt hlt) its) hsz (fun i h st => by obtain ⟨o, e, _⟩ := st.1; exact ⟨o, e⟩) list_st hcell hkind ?_ ?_ ⟨⟨_, Heap.get?_push_size _ rfl, rfl, rfl⟩, hl.push _⟩ (fun b hb => ?_)
    (F.keeps up) (N.grown up) (Nat.ne_of_lt F.ns.lt) (next_is_new F) (fun p hp => Nat.ne_of_lt (Heap.lt_size (N p hp).1)) hS hDr hJ turn hRR
  · intro i v s' Q' st hv hq
    exact wpAny_pure hq
  · intro i v C s' m' nw Q' hv hn hk N' S' hq
    exact wpAny_assign_Name (wpAny_storeName_local (lookup_relabel_local hx) hn (fun h₃ hn₃ hs₃ => hq h₃ _ _ hn₃ (by show (if x = x then _ else _) = _; rw [if_pos rfl]) fun b o hb e => hs₃.extBut b o hb e) (by simp [compEnvC, relabel, hkind]))
  · show b < (s.heap.push _).objs.size
    rw [Heap.size_push]
    rcases List.mem_cons.mp hb with rfl | hb
    · exact Nat.lt_succ_self _
    · rw [List.mem_singleton.mp hb]; exact Nat.lt_succ_of_lt hlt
/-- over a range -/
theorem compAt_range {elt iter : Expr} {x : Str} {px : Pos} {scope : Scope} {cl : List (Str × Addr)} {pos : Pos} {use : Option (Value → Sem Unit)} {Q : Value → Shared → Prop} {r : Addr} {a b : Int} {t u v : Tok} {n : Nat} {news : List (Addr × Obj)} (Dr : Drawn → Prop) (J : Nat → List Value → List (Addr × Obj) → Prop)
    (hcell : ∀ y ∈ scope.names, y.2 ≠ .cell) (hkind : scope.kind = .function) (hx : scope.names.lookup x = some .local)
    (hh : A.handled = none) (F : Fr g L s.heap m) (N : News g L s.heap news) (hr : IsRange s.heap r a b 1 t u v) (hsm : Builtin.Range.small a b 1 = true) (hn : Builtin.Range.rangeSize a b 1 = ((n : Nat) : Int)) (hsz : n ≤ sizeLine) (hDr : Dr s.drawn) (hJ : J 0 [] news)
    (turn : ∀ (i : Nat) v I' oI C oC D m₂ ys news₁ h tk dr, i < n → Dr dr → (∃ t, v = .int (a + (i : Int)) t) → BName x v m₂ → NsObj oC m₂ → J i ys news₁ → Fr g L h m → News g L h ((I', oI) :: (C, oC) :: (D, lst ys) :: news₁) → Off3 I' C D news₁ → ((@Ne Nat I' C) ∧ (@Ne Nat I' D) ∧ (@Ne Nat C D)) →
      wpAny (model prog w) A (eval elt (compEnvC scope cl C env)) (CompT g L m s Dr I' oI C oC D (lst ys) (fun _ => True) (fun y nw => J (i + 1) (ys ++ [y]) nw)) NoE { s with heap := h, toks := tk, drawn := dr })
    (hRR : ∀ D C h tk dr m' ys news', Dr dr → J n ys news' → Fr g L h m → News g L h ((D, lst ys) :: news') → Off1 D news' → h.Ns C m' → g.get? C = none → g.get? D = none → C ≠ L → D ≠ L → C ≠ D → (∀ p ∈ news', p.1 ≠ C) → compPost (model prog w) A NoE use Q (.ref D) C (.ok .next) { s with heap := h, toks := tk, drawn := dr }) :
    CompAt prog w A elt (.Name x px) iter scope pos cl env use Q (.ref r) s := by
  refine wpAny_pyIter_range hr hsm ?_
  refine comp_core (S := fun _ => True) (BName x) Dr J (range_walks hh a n) hsz (fun i h st => ⟨_, st⟩) range_st hcell hkind ?_ ?_ (by show IsRangeIter _ _ _ _ _; rw [hn]; simpa using Heap.get?_push_size _ rfl) (fun b hb => ?_)
    (F.keeps fun _ _ e => Heap.get?_push_of_some _ e) (N.grown fun _ _ e => Heap.get?_push_of_some _ e) (Nat.ne_of_lt F.ns.lt) (next_is_new F) (fun p hp => Nat.ne_of_lt (Heap.lt_size (N p hp).1)) trivial hDr hJ (fun i v I' oI C oC D m₂ ys news₁ h tk dr h1 h2 h3 h4 h5 h6 _ => turn i v I' oI C oC D m₂ ys news₁ h tk dr h1 h2 h3 h4 h5 h6) hRR
  · intro i v s' Q' st hv hq
    exact wpAny_pure hq
  · intro i v C s' m' nw Q' hv hn hk N' S' hq
    exact wpAny_assign_Name (wpAny_storeName_local (lookup_relabel_local hx) hn (fun h₃ hn₃ hs₃ => hq h₃ _ _ hn₃ (by show (if x = x then _ else _) = _; rw [if_pos rfl]) fun b o hb e => hs₃.extBut b o hb e) (by simp [compEnvC, relabel, hkind]))
  · rw [List.mem_singleton.mp hb]
    show s.heap.objs.size < (s.heap.push _).objs.size
    rw [Heap.size_push]; exact Nat.lt_succ_self _
end
end Mine
end
section
open PySem PySem.W PySem.Calls PyProof.Rows PyProof.Rows.LCg
set_option maxRecDepth 100000
namespace Mine
/-- a dict that keeps the first value of each key -/
def Kept {β : Type} (R : β → Value → Prop) (kvs : List (Str × Value)) (pre : List (Str × β)) : Prop :=
  kvs.length ≤ pre.length ∧ ∀ k, match pre.lookup k with
    | none => valueAt kvs k = none
    | some y => ∃ v, valueAt kvs k = some v ∧ R y v
section
variable {β : Type} {R : β → Value → Prop} {kvs : List (Str × Value)} {pre : List (Str × β)} {k : Str} {y : β} {v : Value}
theorem Kept.no (h : Kept R kvs pre) (hk : pre.lookup k = none) : valueAt kvs k = none := by
  have := h.2 k; rw [hk] at this; exact this
theorem Kept.yes (h : Kept R kvs pre) (hk : pre.lookup k = some y) : ∃ v, valueAt kvs k = some v ∧ R y v := by
  have := h.2 k; rw [hk] at this; exact this
theorem valueAt_app (kvs : List (Str × Value)) (k k' : Str) (v : Value) : valueAt (kvs ++ [(k, v)]) k' = (valueAt kvs k').or (if k = k' then some v else none) := by
  unfold valueAt
  rw [List.find?_append]
  cases h : List.find? (fun kv => decide (kv.1 = k')) kvs with
  | some q => simp
  | none =>
    by_cases e : k = k'
    · simp [e]
    · simp [e]
theorem lookup_app (pre : List (Str × β)) (k k' : Str) (y : β) : (pre ++ [(k, y)]).lookup k' = (pre.lookup k').or (if k = k' then some y else none) := by
  induction pre with
  | nil =>
    by_cases e : k = k'
    · subst e; simp [List.lookup]
    · have : (k' == k) = false := by simpa using fun h => e h.symm
      simp [List.lookup, this, e]
  | cons p r ih =>
    obtain ⟨a, b⟩ := p
    by_cases e : (k' == a) = true
    · simp [List.lookup_cons, e]
    · have e' : (k' == a) = false := by simpa using e
      simp only [List.cons_append, List.lookup_cons, e']
      exact ih
theorem Kept.new (h : Kept R kvs pre) (hk : pre.lookup k = none) (r : R y v) : Kept R (kvs ++ [(k, v)]) (pre ++ [(k, y)]) := by
  refine ⟨by rw [List.length_append, List.length_append]; exact Nat.add_le_add_right h.1 1, fun k' => ?_⟩
  rw [lookup_app, valueAt_app]
  by_cases e : k = k'
  · subst e
    rw [hk, h.no hk]
    simpa using r
  · have := h.2 k'
    cases hl : pre.lookup k' with
    | none => rw [hl] at this; simp [e, this]
    | some z => rw [hl] at this; obtain ⟨w, hw, hr⟩ := this; simp [hw, hr]
theorem Kept.old {z : β} (h : Kept R kvs pre) (hk : pre.lookup k = some z) : Kept R kvs (pre ++ [(k, y)]) := by
  refine ⟨by rw [List.length_append]; exact Nat.le_add_right_of_le h.1, fun k' => ?_⟩
  rw [lookup_app]
  have := h.2 k'
  by_cases e : k = k'
  · subst e; rw [hk] at this ⊢; simpa using this
  · rw [if_neg e, Option.or_none]; exact this
/-- each entry is answered as the first of its key -/
def ans (full : List (Str × β)) : List β := full.map fun q => (full.lookup q.1).getD q.2
theorem lookup_append' (a b : List (Str × β)) (k : Str) : (a ++ b).lookup k = (a.lookup k).or (b.lookup k) := by
  induction a with
  | nil => simp [List.lookup]
  | cons p r ih =>
    obtain ⟨c, d⟩ := p
    cases e : (k == c) with
    | true => simp [List.lookup_cons, e]
    | false => simp only [List.cons_append, List.lookup_cons, e]; exact ih
theorem ans_step {full : List (Str × β)} {i : Nat} (hi : full[i]? = some (k, y)) {z : β} (hz : (full.take i ++ [(k, y)]).lookup k = some z) : (ans full).take (i + 1) = (ans full).take i ++ [z] := by
  have htk : full.take i ++ [(k, y)] = full.take (i + 1) := by rw [List.take_add_one, hi]; rfl
  have hl : full.lookup k = some z := by
    rw [← List.take_append_drop (i + 1) full, lookup_append', ← htk, hz]; rfl
  rw [List.take_add_one]
  congr 1
  unfold ans
  rw [List.getElem?_map, hi]
  simp [hl]
theorem lookup_new (hk : pre.lookup k = none) : (pre ++ [(k, y)]).lookup k = some y := by rw [lookup_app, hk]; simp
theorem lookup_old {z : β} (hk : pre.lookup k = some z) : (pre ++ [(k, y)]).lookup k = some z := by rw [lookup_app, hk]; simp
theorem ans_length (full : List (Str × β)) : (ans full).length = full.length := by unfold ans; rw [List.length_map]
end
section
variable {prog : Program} {w : World} {A : Around} {E : Value → Shared → Prop} {s : Shared} {g : Heap} {L d : Addr} {m : Str → Option Value} {news : List (Addr × Obj)} {f : Obj → List (Addr × Obj)} {o : Obj} {kvs : List (Str × Value)} {k : Str} {v : Value} {t : Tok} {β : Type} {R : β → Value → Prop} {pre : List (Str × β)}
theorem kept_notin {Q : Value → Shared → Prop} (N : News g L s.heap news) (hp : (d, o) ∈ news) (hd : o.IsDictOf (strKind prog w) kvs) (lo : (d == sysModules) = false) (K : Kept R kvs pre)
    (h1 : pre.lookup k = none → Q (.bool true) { s with toks := s.toks + 1 }) (h2 : ∀ y v, pre.lookup k = some y → valueAt kvs k = some v → R y v → Q (.bool false) { s with toks := s.toks + 1 }) :
    wpAny (model prog w) A (compareOp .NotIn (.str k t) (.ref d)) Q E s := by
  cases hl : pre.lookup k with
  | none => exact kdg_notin N hp hd lo (strKind_is _ _ _ _) false (by rw [K.no hl]; rfl) (h1 hl)
  | some y =>
    obtain ⟨v, hv, hr⟩ := K.yes hl
    exact kdg_notin N hp hd lo (strKind_is _ _ _ _) true (by rw [hv]; rfl) (h2 y v hl hv hr)
theorem kept_in {Q : Value → Shared → Prop} (N : News g L s.heap news) (hp : (d, o) ∈ news) (hd : o.IsDictOf (strKind prog w) kvs) (lo : (d == sysModules) = false) (K : Kept R kvs pre)
    (h1 : pre.lookup k = none → Q (.bool false) { s with toks := s.toks + 1 }) (h2 : ∀ y v, pre.lookup k = some y → valueAt kvs k = some v → R y v → Q (.bool true) { s with toks := s.toks + 1 }) :
    wpAny (model prog w) A (compareOp .In (.str k t) (.ref d)) Q E s := by
  cases hl : pre.lookup k with
  | none => exact kda_in N hp hd lo (strKind_is _ _ _ _) false (by rw [K.no hl]; rfl) (h1 hl)
  | some y =>
    obtain ⟨v, hv, hr⟩ := K.yes hl
    exact kda_in N hp hd lo (strKind_is _ _ _ _) true (by rw [hv]; rfl) (h2 y v hl hv hr)
theorem kept_put {Q : Unit → Shared → Prop} (F : Fr g L s.heap m) (N : News g L s.heap news) (U : UpdF d o news f) (hd : o.IsDictOf (strKind prog w) kvs) (K : Kept R kvs pre) (hl : pre.lookup k = none) (hsz : pre.length ≤ 1000)
    (h : ∀ h' o', Fr g L h' m → News g L h' (f o') → o'.IsDictOf (strKind prog w) (kvs ++ [(k, v)]) → valueAt (kvs ++ [(k, v)]) k = some v → Q () { s with heap := h', toks := s.toks + 1 }) : wpAny (model prog w) A (setItem (.ref d) (.str k t) v) Q E s := by
  have hno := K.no hl
  refine kda_set F N U hd (strKind_is _ _ _ _) (by have := K.1; rw [sizeLine_eq]; omega) fun h' o' F' N' hd' => ?_
  rw [stored_absent hno] at hd'
  exact h h' o' F' N' hd' (by rw [valueAt_app, hno]; simp)
end
/-- what a turn leaves of a loop over a range, draws allowed -/
def LoopEndD (g : Heap) (L : Addr) (s₀ : Shared) (Dr : Drawn → Prop) (I : Addr) (oI : Obj) (J : (Str → Option Value) → List (Addr × Obj) → Prop) (s : Shared) : Prop :=
  ∃ h' tk dr m' news', s = { s₀ with heap := h', toks := tk, drawn := dr } ∧ Dr dr ∧ Fr g L h' m' ∧ News g L h' ((I, oI) :: news') ∧ (∀ p ∈ news', p.1 ≠ I) ∧ J m' news'
section
variable {prog : Program} {w : World} {A : Around} {s : Shared} {env : Env} {g : Heap} {L : Addr} {m : Str → Option Value} {news : List (Addr × Obj)} {body orelse : List Stmt} {Q : Flow → Shared → Prop}
theorem loop_range {x : Str} {px : Pos} {r : Addr} {a b : Int} {t u v : Tok} {n : Nat} (Dr : Drawn → Prop) (J : Nat → (Str → Option Value) → List (Addr × Obj) → Prop)
    (hh : A.handled = none) (F : Fr g L s.heap m) (N : News g L s.heap news) (hr : IsRange s.heap r a b 1 t u v) (hsm : Builtin.Range.small a b 1 = true) (hn : Builtin.Range.rangeSize a b 1 = ((n : Nat) : Int)) (hDr : Dr s.drawn) (hJ : J 0 m news)
    (turn : ∀ (i : Nat) tt m₁ news₁ h tk dr oI I, i < n → Dr dr → J i m₁ news₁ → Fr g L h m₁ → News g L h ((I, oI) :: news₁) → (∀ p ∈ news₁, p.1 ≠ I) →
      wpAny (model prog w) A (assign (.Name x px) env (.int (a + (i : Int)) tt)) (fun _ s₂ => wpAny (model prog w) A (execs body env) (fun f s₃ => match f with
        | .next | .cont => LoopEndD g L s Dr I oI (J (i + 1)) s₃
        | .brk => Q .next s₃
        | .ret v => Q (.ret v) s₃) NoE s₂) NoE { s with heap := h, toks := tk, drawn := dr })
    (done : ∀ m₁ news₁ h tk dr, Dr dr → J n m₁ news₁ → Fr g L h m₁ → News g L h news₁ → wpAny (model prog w) A (execs orelse env) Q NoE { s with heap := h, toks := tk, drawn := dr }) :
    wpAny (model prog w) A (pyIter (.ref r)) (fun it s₂ => LoopGo prog w A env (.Name x px) body orelse Q it s₂) NoE s := by
  refine wpAny_pyIter_range hr hsm ?_
  have hI : s.heap.get? s.heap.objs.size = none := Heap.get?_none_of_le (Nat.le_refl _)
  generalize hIe : s.heap.objs.size = I at hI ⊢
  have W := range_walks (prog := prog) (w := w) (I := I) hh a n
  have up : ∀ {o' : Obj} (b : Addr) (x : Obj), s.heap.get? b = some x → (s.heap.push o').get? b = some x := fun b x e => Heap.get?_push_of_some _ e
  have hIL : L ≠ I := hIe ▸ Nat.ne_of_lt F.ns.lt
  have hI₀ : g.get? I = none := by
    cases e : g.get? I with
    | none => rfl
    | some o' => rw [F.keep _ _ e] at hI; cases hI
  have off : ∀ p ∈ news, p.1 ≠ I := fun p hp e => by have := (N p hp).1; rw [e, hI] at this; cases this
  refine codeAny_forLoop_any
    (fun k s' => ∃ h' tk dr i m' news', s' = { s with heap := h', toks := tk, drawn := dr } ∧ Dr dr ∧ i ≤ n ∧ k = n + 1 - i ∧ IsRangeIter h' I (a + (i : Nat) * 1) ((n : Int) - (i : Nat)) 1 ∧ Fr g L h' m' ∧ News g L h' news' ∧ (∀ p ∈ news', p.1 ≠ I) ∧ J i m' news') ?_ (n + 1)
    ⟨_, s.toks, s.drawn, 0, m, news, rfl, hDr, Nat.zero_le _, rfl, ?_, F.keeps up, N.grown up, off, hJ⟩
  · rintro k s' ⟨h', tk, dr, i, m', news', rfl, hdr, hi, rfl, hst', F', N', off', hJ'⟩
    by_cases hlt : i < n
    · refine W.item i _ _ _ hlt hst' fun v h₂ tk₂ hP hst₂ hk₂ => ?_
      obtain ⟨tt, rfl⟩ := hP
      obtain ⟨oI, hoI⟩ : ∃ o, h₂.get? I = some o := ⟨_, hst₂⟩
      have F₂ : Fr g L h₂ m' := fr_but F' (fun b o hb e => hk₂ b o hb e) hIL hI₀
      have N₂ : News g L h₂ ((I, oI) :: news') := fun p hp => by
        rcases List.mem_cons.mp hp with rfl | hp
        · exact ⟨hoI, Ne.symm hIL, hI₀⟩
        · exact ⟨hk₂ _ _ (by simpa using off' p hp) (N' p hp).1, (N' p hp).2⟩
      refine wpAny_pure ?_
      refine wpAny_mono (turn i tt m' news' h₂ tk₂ dr oI I hlt hdr hJ' F₂ N₂ off') (fun _ s₂ h₂' => wpAny_mono h₂' (fun f s₃ h₃ => ?_) fun _ _ x => x.elim) fun _ _ x => x.elim
      have fin : LoopEndD g L s Dr I oI (J (i + 1)) s₃ → ∃ m₀, m₀ < n + 1 - i ∧ ∃ h' tk dr i m' news', s₃ = { s with heap := h', toks := tk, drawn := dr } ∧ Dr dr ∧ i ≤ n ∧ m₀ = n + 1 - i ∧ IsRangeIter h' I (a + (i : Nat) * 1) ((n : Int) - (i : Nat)) 1 ∧ Fr g L h' m' ∧ News g L h' news' ∧ (∀ p ∈ news', p.1 ≠ I) ∧ J i m' news' := by
        rintro ⟨h₃', tk₃, dr₃, m₃, news₃, rfl, hdr₃, F₃, N₃, off₃, hJ₃⟩
        refine ⟨n + 1 - (i + 1), by omega, h₃', tk₃, dr₃, i + 1, m₃, news₃, rfl, hdr₃, hlt, rfl, ?_, F₃, fun p hp => N₃ p (.tail _ hp), off₃, hJ₃⟩
        exact range_st (h₀ := g) (L := L) _ _ _ _ _ hst₂ hoI (N₃ _ (.head _)).1 F₃.keep (fun p hp => N₃ p (.tail _ hp)) trivial
      cases f with
      | next => exact fin h₃
      | cont => exact fin h₃
      | brk => exact h₃
      | ret v => exact h₃
    · obtain rfl : i = n := Nat.le_antisymm hi (Nat.not_lt.mp hlt)
      refine W.done _ _ _ hst' fun h₂ tk₂ hk₂ => ?_
      exact wpAny_mono (done m' news' h₂ tk₂ dr hdr hJ' (fr_but F' hk₂ hIL hI₀) (news_but N' hk₂ off')) (fun _ _ x => x) fun _ _ x => x.elim
  · show IsRangeIter _ _ _ _ _
    rw [hn, ← hIe]
    simpa using Heap.get?_push_size _ rfl
end
end Mine
end
section
open PySem PySem.W PySem.Calls PyProof.Rows
set_option maxRecDepth 100000
namespace Mine
namespace RS
/-- are sets walked by the text's order -/
def byT (w : World) : Bool := w.params.followText "set-order"
/-- a set of texts -/
def SetS (prog : Program) (w : World) (o : Obj) (xs : List Str) : Prop :=
  o.ExactSet ∧ ∃ es ep t, o.data = .set es ep t ∧ ElemsOf (strKind prog w) es.toList ∧ t.fits es.size = true ∧ t.led = !(byT w) ∧ (es.size = 0 ∨ t.plain = false) ∧ es.size ≤ xs.length ∧ ∀ k, k ∈ xs ↔ ∃ e ∈ es.toList, (strKind prog w).is k e.2 = true
theorem put_led (t : SetTable) (j : Nat) : (t.put j).1.led = t.led := rfl
theorem or_led (t : SetTable) (n : Nat) : (t.orStandIn n).led = t.led := by
  unfold SetTable.orStandIn SetTable.standIn; split <;> rfl
theorem layNew_led (t : SetTable) (es : Array (Int × Value)) (h : Int) (x : Value) : (layNew t es h x).2.1.led = t.led := by
  unfold layNew
  split
  · exact or_led _ _
  · rfl
theorem relaid_led {t t' : SetTable} {hs : Array Int} {n : Nat} {order : Array Nat} (h : t.relaid hs n = some (t', order)) : t'.led = t.led ∧ t'.plain = t.plain := by
  unfold SetTable.relaid SetTable.laid at h
  cases hl : SetTable.layClean (SetTable.sizeAbove n - 1) hs with
  | none => rw [hl] at h; cases h
  | some ow =>
    rw [hl] at h
    have := congrArg (fun z => Prod.fst (Option.getD z (t', order))) h
    have h2 : t' = _ := this.symm
    rw [h2]
    exact ⟨rfl, rfl⟩
theorem relayAll_led (t : SetTable) (es : Array (Int × Value)) (n : Nat) : (relayAll t es n).2.1.led = t.led ∧ (t.plain = false → (relayAll t es n).2.1.plain = false) := by
  unfold relayAll
  split
  · rename_i t' order hr
    have := relaid_led hr
    dsimp only
    split
    · exact ⟨this.1, fun hp => this.2.trans hp⟩
    · exact ⟨rfl, fun _ => rfl⟩
  · exact ⟨rfl, fun _ => rfl⟩
section
variable {prog : Program} {w : World} {A : Around} {E : Value → Shared → Prop} {s : Shared}
theorem choose_ {src : Source} {n : Nat} {Q : Nat → Shared → Prop} (hn : n ≠ 0) (h : ∀ i dr, i < n → Q i { s with drawn := dr }) : wpAny (model prog w) A (choose src n) Q E s := by
  intro Γ p _
  show Sem.wp _ Γ (.choose src n .pure) _ _ p s
  rw [Sem.wp_choose]
  exact ⟨hn, h _ _ (Nat.mod_lt _ (Nat.pos_of_ne_zero hn))⟩
theorem eraseIdx_perm {α : Type} : ∀ (xs : List α) (i : Nat) (x : α), xs[i]? = some x → List.Perm (x :: xs.eraseIdx i) xs
  | [], i, x, h => by simp at h
  | y :: ys, 0, x, h => by simp at h; subst h; exact .rfl
  | y :: ys, i + 1, x, h => by
    have ih := eraseIdx_perm ys i x (by simpa using h)
    exact (List.Perm.swap y x _).trans (ih.cons y)
theorem drawOrder_ {α : Type} : ∀ (n : Nat) (xs : List α) (s : Shared) (Q : List α → Shared → Prop), xs.length = n → (∀ ys dr, List.Perm ys xs → Q ys { s with drawn := dr }) → wpAny (model prog w) A (drawOrder n xs) Q E s
  | 0, xs, s, Q, hl, h => by
    obtain rfl : xs = [] := List.length_eq_zero_iff.mp hl
    exact wpAny_pure (h [] s.drawn .rfl)
  | n + 1, [], s, Q, hl, h => by simp at hl
  | n + 1, y :: ys, s, Q, hl, h => by
    unfold drawOrder
    refine wpAny_bind (choose_ (by simp) fun i dr hi => ?_)
    have hx : (y :: ys)[i]? = some ((y :: ys)[i]) := List.getElem?_eq_getElem hi
    rw [hx]
    dsimp only
    refine wpAny_bind (drawOrder_ n _ _ _ (by rw [List.length_eraseIdx_of_lt hi, hl]; rfl) fun zs dr' hp => wpAny_pure ?_)
    exact h _ dr' ((hp.cons _).trans (eraseIdx_perm _ _ _ hx))
theorem storeS {a : Addr} {o : Obj} {es : Array (Int × Value)} {ep : Nat} {t : SetTable} {h : Heap} (ho : h.get? a = some o) (hd : o.data = .set es ep t) (es' : Array (Int × Value)) (t' : SetTable) :
    (h.update a (Obj.putSet es' t')).get? a = some { o with data := .set es' (ep + 1) t' } := by
  have := Heap.get?_update_self (Obj.putSet es' t') ho (by rw [putSet_of es' t' hd]; rfl)
  rw [putSet_of es' t' hd] at this; exact this
theorem add_tail {g : Bool → Sem Unit} (hg : ∀ (b : Bool) (s₁ : Shared) (Q' : Unit → Shared → Prop), Q' () s₁ → wpAny (model prog w) A (g b) Q' E s₁)
    {a : Addr} {o : Obj} {es : Array (Int × Value)} {ep : Nat} {t : SetTable} (ho : s.heap.get? a = some o) (hd : o.data = .set es ep t)
    {es1 : Array (Int × Value)} {t2 : SetTable} (hb1 : es1.size < scanBound) (hf2 : t2.fits es1.size = true) (hp2 : t2.plain = false) {wasDummy : Bool} {R : Option Bool → Shared → Prop}
    (h : ∀ h' es' ep' t', Heap.SameBut a s.heap h' → h'.get? a = some { o with data := .set es' ep' t' } → List.Perm es'.toList es1.toList → t'.fits es'.size = true → t'.led = t2.led → t'.plain = false → R (some true) { s with heap := h' }) :
    wpAny (model prog w) A (do
        storeSet a es1 t2
        if (!wasDummy && t2.tooFull) = true then do
            g (relayAll t2 es1 (SetTable.grown es1.size)).2.2
            storeSet a (relayAll t2 es1 (SetTable.grown es1.size)).1 (relayAll t2 es1 (SetTable.grown es1.size)).2.1
            pure (some true)
          else pure (some true)) R E s := by
  refine wpAny_bind (wpAny_storeSet_of ho hd ?_ (fits_of_scanBound hb1))
  have ho1 := storeS ho hd es1 t2
  have hsb1 := Heap.SameBut.update s.heap a (Obj.putSet es1 t2)
  split
  · have hp := relayAll_perm t2 es1 (SetTable.grown es1.size)
    have hfr := relayAll_fits t2 es1 (SetTable.grown es1.size)
    have hl := relayAll_led t2 es1 (SetTable.grown es1.size)
    generalize hRl : relayAll t2 es1 (SetTable.grown es1.size) = Rl at hp hfr hl ⊢
    obtain ⟨es2, t3, gave2⟩ := Rl
    dsimp only at hp hfr hl ⊢
    have hsz : es2.size = es1.size := by rw [← Array.length_toList, hp.length_eq, Array.length_toList]
    refine wpAny_bind (hg _ _ _ ?_)
    refine wpAny_bind (wpAny_storeSet_of ho1 rfl ?_ (fits_of_scanBound (hsz ▸ hb1)))
    exact wpAny_pure (h _ es2 _ t3 (hsb1.trans (Heap.SameBut.update _ a _)) (storeS ho1 rfl es2 t3) hp hfr hl.1 (hl.2 hp2))
  · exact wpAny_pure (h _ es1 _ t2 hsb1 ho1 .rfl hf2 rfl hp2)
theorem add_str {a : Addr} {o : Obj} {xs : List Str} {x : Str} {tk : Tok} {Q : Bool → Shared → Prop} (ho : s.heap.get? a = some o) (hS : SetS prog w o xs) (hroom : xs.length + 1 < scanBound)
    (h : ∀ b h' o', Heap.SameBut a s.heap h' → h'.get? a = some o' → SetS prog w o' (xs ++ [x]) → Q b { s with heap := h' }) :
    wpAny (model prog w) A (setAddHashed a (.str x tk) ((strKind prog w).hash x)) Q E s := by
  obtain ⟨hex, es, ep, t, hd, hel, hf, hled, hpl, hsz, hmem⟩ := hS
  have hkey : (strKind prog w).is x (.str x tk) = true := strKind_is prog w x tk
  have hsc : (Value.str x tk).scannable = true := rfl
  have hb : es.size < scanBound := by omega
  have hb1 : es.size + 1 < scanBound := by omega
  unfold setAddHashed setAddHashedIn
  refine wpAny_holding (wpAny_bind (wpAny_setState_of ho hd hf ?_))
  dsimp only
  rw [byScan_of (knd := strKind prog w) hsc hb hel]
  simp only [↓reduceIte]
  unfold setAddByScan
  refine wpAny_bind ?_
  refine wpAny_bind (wpAny_rule ?_)
  refine wpAny_bind (wpAny_setScan_of hkey ho hd hf hel ?_)
  cases hr : List.findIdx? (fun e => (strKind prog w).is x e.2) es.toList with
  | some j =>
    dsimp only
    obtain ⟨hj, hpj, _⟩ := List.findIdx?_eq_some_iff_getElem.mp hr
    have hin : x ∈ xs := (hmem x).mpr ⟨es.toList[j], List.getElem_mem hj, hpj⟩
    refine wpAny_pure (wpAny_pure ?_)
    have e : s = { s with heap := s.heap } := by cases s; rfl
    rw [e]
    refine h _ s.heap o (Heap.SameBut.refl a s.heap) ho ⟨hex, es, ep, t, hd, hel, hf, hled, hpl, by rw [List.length_append]; omega, fun k => ?_⟩
    rw [List.mem_append, List.mem_singleton, ← hmem k]
    exact ⟨fun hk => hk.elim id fun e => e ▸ hin, .inl⟩
  | none =>
    dsimp only
    have hgw : ∀ (b : Bool) {s₁ : Shared} {Q' : Unit → Shared → Prop}, Q' () s₁ → wpAny (model prog w) A (match b with | true => rule "set.scan.the-table-gave-way" | false => pure ()) Q' E s₁ :=
      fun b s₁ Q' hq => by cases b <;> first | exact wpAny_pure hq | exact wpAny_rule hq
    have hperm := layNew_perm t es ((strKind prog w).hash x) (.str x tk)
    have hfits := layNew_fits t es ((strKind prog w).hash x) (.str x tk)
    have hll := layNew_led t es ((strKind prog w).hash x) (.str x tk)
    generalize hL : layNew t es ((strKind prog w).hash x) (.str x tk) = L at hperm hfits hll ⊢
    obtain ⟨es1, t1, wasDummy, gave⟩ := L
    dsimp only at hperm hfits hll ⊢
    rw [Array.toList_push] at hperm
    have hb1' : es1.size < scanBound := by rw [← Array.length_toList, hperm.length_eq, List.length_append, Array.length_toList]; simpa using hb1
    refine wpAny_bind (hgw _ ?_)
    have hsz1 : es1.size = es.size + 1 := by rw [← Array.length_toList, hperm.length_eq, List.length_append, Array.length_toList]; rfl
    have hend : ∀ h' es' ep' t', Heap.SameBut a s.heap h' → h'.get? a = some { o with data := .set es' ep' t' } → List.Perm es'.toList es1.toList → t'.fits es'.size = true → t'.led = t1.led → t'.plain = false → Q true { s with heap := h' } := by
      intro h' es' ep' t' hsb hg hp hf' hl' hp'
      have hpp := hp.trans hperm
      refine h _ h' _ hsb hg ⟨hex, es', ep', t', rfl, (hel.push hkey hsc).perm hpp, hf', hl'.trans (hll.trans hled), .inr hp', ?_, fun k => ?_⟩
      · rw [← Array.length_toList, hpp.length_eq, List.length_append, List.length_append, Array.length_toList]; simpa using hsz
      · rw [List.mem_append, List.mem_singleton, hmem k]
        constructor
        · rintro (⟨e, he, hq⟩ | rfl)
          · exact ⟨e, hpp.mem_iff.mpr (List.mem_append_left _ he), hq⟩
          · exact ⟨_, hpp.mem_iff.mpr (List.mem_append_right _ (List.mem_singleton.mpr rfl)), hkey⟩
        · rintro ⟨e, he, hq⟩
          rcases List.mem_append.mp (hpp.mem_iff.mp he) with he | he
          · exact .inl ⟨e, he, hq⟩
          · rw [List.mem_singleton] at he; subst he
            exact .inr ((strKind prog w).inj _ k x hq hkey)
    split
    · refine wpAny_bind ?_
      rw [hashByValue_scannable 8 hsc]
      refine wpAny_pure ?_
      refine add_tail ?_ ho hd hb1' ?_ ?_ ?_
      · intro b s₁ Q' hq; cases b <;> first | exact wpAny_pure hq | exact wpAny_rule hq
      · exact SetTable.fits_plain_off hfits
      · rfl
      · intro h' es' ep' t' hsb hg hp hf' hl' hp'; dsimp only; exact wpAny_pure (hend h' es' ep' t' hsb hg hp hf' hl' hp')
    · rename_i hpt
      refine wpAny_bind (wpAny_pure ?_)
      simp only [↓reduceIte]
      refine add_tail ?_ ho hd hb1' hfits (by simpa using hpt) ?_
      · intro b s₁ Q' hq; cases b <;> first | exact wpAny_pure hq | exact wpAny_rule hq
      · intro h' es' ep' t' hsb hg hp hf' hl' hp'; dsimp only; exact wpAny_pure (hend h' es' ep' t' hsb hg hp hf' hl' hp')
end
end RS
end Mine
end
section
open PySem PySem.W PySem.Calls PyProof.Rows
set_option maxRecDepth 100000
namespace Mine
namespace RS
section
variable {prog : Program} {w : World} {A : Around} {E : Value → Shared → Prop} {s : Shared}
theorem strs_get : ∀ {vs : List Value} {ys : List Str}, StrsAre vs ys → ∀ {i : Nat} {v : Value}, vs[i]? = some v → ∃ y t, v = .str y t ∧ ys[i]? = some y
  | _, _, .nil, _, _, h => by simp at h
  | _, _, .cons y t r, 0, _, h => ⟨y, t, by simpa using h.symm, rfl⟩
  | _, _, .cons y t r, i + 1, _, h => by simpa using strs_get r (i := i) (by simpa using h)
theorem upd_loop {R : Result → Shared → Prop} {I l : Addr} {items : Array Value} {ys : List Str} (hh : A.in1.handled = none) (hne : l ≠ I) (hy : StrsAre items.toList ys) (a : Addr) (ha1 : a ≠ I) (hal : a ≠ l) (hb : ys.length + 1 < scanBound) :
    ∀ (k i : Nat) (s : Shared) (o : Obj), ys.length - i = k → i ≤ ys.length → s.heap.IsListIter I l i → s.heap.IsList l items → s.heap.get? a = some o → SetS prog w o (ys.take i) →
      (∀ h' tk o', (∀ b x, b ≠ a → b ≠ I → s.heap.get? b = some x → h'.get? b = some x) → h'.get? a = some o' → SetS prog w o' ys → R (.ok (.ret .none)) { s with heap := h', toks := tk }) →
      codeAny (model prog w) A (.builtin "set.update.loop" ⟨[.ref a, .ref I], []⟩) R s := by
  have hsz : items.size = ys.length := by rw [← Array.length_toList]; exact hy.length
  have W := Walks.list (prog := prog) (w := w) (A := A.in1) hh I l hne items
  intro k
  induction k with
  | zero =>
    intro i s o hk hi hit hl ho hS hR
    obtain rfl : i = ys.length := by omega
    refine codeAny_builtin PyProof.Rows.F.entry_set_update_loop ?_
    rw [Around.under_plainId PyProof.Rows.F.plain_set_update_loop _]
    show wpAny _ A.in1 (pyNext (.ref I) >>= _) _ _ s
    refine wpAny_bind (W.done s _ _ ⟨by rw [hsz]; exact hit, hl⟩ fun h' tk hk' => ?_)
    show wpAny _ A.in1 (ret Value.none) _ _ _
    rw [List.take_length] at hS
    exact wpAny_pure (hR h' tk o (fun b x _ hbI e => hk' b x (by simpa using hbI) e) (hk' _ _ (by simpa using ha1) ho) hS)
  | succ k ih =>
    intro i s o hk hi hit hl ho hS hR
    have hlt : i < ys.length := by omega
    refine codeAny_builtin PyProof.Rows.F.entry_set_update_loop ?_
    rw [Around.under_plainId PyProof.Rows.F.plain_set_update_loop _]
    show wpAny _ A.in1 (pyNext (.ref I) >>= _) _ _ s
    refine wpAny_bind (W.item i s _ _ (by rw [hsz]; exact hlt) ⟨hit, hl⟩ fun v h₁ tk₁ hP hst hk₁ => ?_)
    obtain ⟨y, t, rfl, hyi⟩ := strs_get hy (by rw [Array.getElem?_toList]; exact hP)
    show wpAny _ A.in1 (holding [Value.str y t] (setAdd a (.str y t)) >>= _) _ _ _
    refine wpAny_bind (wpAny_holding ?_)
    unfold setAdd
    refine wpAny_holding ?_
    refine wpAny_bind ((strKind prog w).pyHash (k := y) (strKind_is _ _ _ _) ?_)
    have ho₁ : h₁.get? a = some o := hk₁ _ _ (by simpa using ha1) ho
    refine add_str (s := ⟨h₁, s.gens, s.drawn, tk₁ + 1, s.os⟩) ho₁ hS (by rw [List.length_take]; omega) fun b h₂ o₂ hsb hg₂ hS₂ => ?_
    have htk : ys.take i ++ [y] = ys.take (i + 1) := by rw [List.take_add_one, hyi]; rfl
    rw [htk] at hS₂
    refine wpAny_pure ⟨plainId_quiet PyProof.Rows.F.plain_set_update_loop _, ih (i + 1) _ o₂ (by omega) hlt (hst.1.at fun x e => hsb.extBut _ x (Ne.symm ha1) e) (hst.2.at fun x e => hsb.extBut _ x (Ne.symm hal) e) hg₂ hS₂ fun h' tk' o' hk' hg' hS' => ?_⟩
    exact hR h' tk' o' (fun c x h1 h2 e => hk' c x h1 h2 (hsb.extBut c x h1 (hk₁ c x (by simpa using h2) e))) hg' hS'
theorem new_obj : SetS prog w { cls := .type "set", dict := none, data := .set #[] 0 (.fresh 0 0 (!(byT w))) } [] :=
  ⟨⟨rfl, rfl, rfl⟩, #[], 0, _, rfl, fun e he => by simp at he, rfl, rfl, .inl rfl, Nat.le_refl _, fun k => by simp⟩
theorem set_new (a : Value) {Q₁ : Value → Shared → Prop}
    (h : Q₁ (.ref s.heap.objs.size) { s with heap := s.heap.push { cls := .type "set", dict := none, data := .set #[] 0 (.fresh 0 0 (!(byT w))) } }) :
    codeAny (model prog w) A (.call (.builtin "set.__new__") ⟨[.type "set", a], []⟩) (wants Q₁ E) s := by
  refine codeAny_of_tree ?_
  show wpAny _ A.in1 (do checkBuiltinCall "set.__new__" ⟨[.type "set", a], []⟩; again (.builtin "set.__new__" ⟨[.type "set", a], []⟩)) _ _ s
  refine wpAny_bind (wpAny_of_eq (F.newCall_set_1 a) (wpAny_pure ⟨plainId_quiet F.plain_set_new _, codeAny_builtin F.entry_set_new ?_⟩))
  rw [Around.under_plainId F.plain_set_new _]
  unfold Builtin.«set.__new__» Builtin.Frozenset.newClass
  have hsub := sub_set_self
  obtain ⟨hp, g, d, tk, os⟩ := s
  dsimp only
  wp_walk
  refine wpAny_askSetting (wpAny_pure ?_)
  dsimp only
  simp only [newObj]
  refine wpAny_bind (wpAny_alloc (wpAny_pure ?_))
  exact wpAny_pure h
set_option maxHeartbeats 3200000 in
theorem call_set {l : Addr} {items : Array Value} {ys : List Str} {Q : Value → Shared → Prop}
    (hh : A.handled = none) (hl : s.heap.IsList l items) (hy : StrsAre items.toList ys) (hb : ys.length + 1 < scanBound)
    (h : ∀ (h' : Heap) (tk : Nat) (o : Obj), h'.get? s.heap.objs.size = some o → SetS prog w o ys → (∀ b o, s.heap.get? b = some o → h'.get? b = some o) → Q (.ref s.heap.objs.size) { s with heap := h', toks := tk }) :
    wpAny (model prog w) A (call (.type "set") [.ref l]) Q E s := by
  obtain ⟨c, tl, hmro⟩ := F.called_set.mro
  have hmade := F.called_set.made
  have hsub := F.called_set.sub
  refine wpAny_call (codeAny_of_tree ?_)
  show wpAny _ _ (callAny (.type "set") _) _ _ _
  refine wpAny_pure ⟨Code.quiet_builtin _ (by decide +kernel), codeAny_builtin F.entry_type_call ?_⟩
  rw [Around.under_plain (weight_type_call_type "set" [.ref l] []) rfl]
  have h1 := F.called_set.notType
  have h2 := F.called_set.canCreate
  have hct := F.typeCall_set_1 (.ref l)
  repeat (any_goals (first | assumption | wp_step))
  refine codeAny_mono (set_new (.ref l) (E := E) (Q₁ := fun obj s₁ => obj = .ref s.heap.objs.size ∧ s₁ = { s with heap := s.heap.push ({ cls := .type "set", dict := none, data := .set #[] 0 (.fresh 0 0 (!(byT w))) } : Obj) }) ⟨rfl, rfl⟩) fun r s₁ hr => ?_
  have hnS : SetS prog w ({ cls := .type "set", dict := none, data := .set #[] 0 (.fresh 0 0 (!(byT w))) } : Obj) [] := new_obj
  cases r with
  | error e => exact hr
  | ok fl =>
    cases fl with
    | ret obj =>
      obtain ⟨rfl, rfl⟩ := hr
      have hS : (s.heap.push ({ cls := .type "set", dict := none, data := .set #[] 0 (.fresh 0 0 (!(byT w))) } : Obj)).get? s.heap.objs.size = some ({ cls := .type "set", dict := none, data := .set #[] 0 (.fresh 0 0 (!(byT w))) } : Obj) := Heap.get?_push_size _ rfl
      have hT : Shared.TypeIs { s with heap := s.heap.push ({ cls := .type "set", dict := none, data := .set #[] 0 (.fresh 0 0 (!(byT w))) } : Obj) } (.ref s.heap.objs.size) "set" := ⟨_, hS, rfl⟩
      have hli := F.called_set.init.lookup
      have hbi := F.called_set.init.bind (.ref s.heap.objs.size)
      repeat (any_goals (first | assumption | wp_step))
      refine codeAny_mono (codeAny_call_builtin (R := wants (fun r s₂ => r = .none ∧ ∃ h' tk o, s₂ = { s with heap := h', toks := tk } ∧
          h'.get? s.heap.objs.size = some o ∧ SetS prog w o ys ∧ (∀ b o, s.heap.get? b = some o → h'.get? b = some o)) E) F.called_set.init.plain F.entry_set_init (check_set_init_1 hT ?_)) fun r₂ s₂ hr₂ => ?_
      · obtain ⟨ol, hol, hcl, nl, hdl⟩ := hl
        obtain ⟨ocls, odict, odata, oslots⟩ := ol
        simp only at hcl hdl
        subst hcl; subst hdl
        have hol' : (s.heap.push ({ cls := .type "set", dict := none, data := .set #[] 0 (.fresh 0 0 (!(byT w))) } : Obj)).get? l = some { cls := .type "list", dict := odict, data := .seq items nl, slots := oslots } := Heap.get?_push_of_some _ hol
        have hsls := F.sub_list_set
        have hslf := F.sub_list_frozenset
        have hne : (Value.type "list" == Value.type "dict") = false := by decide
        have hl1 : (s.heap.push ({ cls := .type "set", dict := none, data := .set #[] 0 (.fresh 0 0 (!(byT w))) } : Obj)).IsList l items := ⟨_, hol', rfl, nl, rfl⟩
        unfold Builtin.«set.__init__» noKeywords Builtin.Frozenset.updateFrom
        generalize hPI : pyIter = PI
        wp_walk
        subst hPI
        refine wpAny_pyIter_list hl1 ?_
        refine wpAny_bind (wpAny_runValue ?_)
        have hlS : l < s.heap.objs.size := Heap.lt_size hol
        have hh3 : A.in1.in1.in1.handled = none := by simp [hh]
        have hneI : l ≠ (s.heap.push ({ cls := .type "set", dict := none, data := .set #[] 0 (.fresh 0 0 (!(byT w))) } : Obj)).objs.size := by rw [Heap.size_push]; exact Nat.ne_of_lt (Nat.lt_succ_of_lt hlS)
        have hsI : s.heap.objs.size ≠ (s.heap.push ({ cls := .type "set", dict := none, data := .set #[] 0 (.fresh 0 0 (!(byT w))) } : Obj)).objs.size := by rw [Heap.size_push]; exact Nat.ne_of_lt (Nat.lt_succ_self _)
        refine upd_loop hh3 hneI hy s.heap.objs.size hsI (Nat.ne_of_gt hlS) hb (ys.length - 0) 0 _ ({ cls := .type "set", dict := none, data := .set #[] 0 (.fresh 0 0 (!(byT w))) } : Obj) rfl (Nat.zero_le _) ⟨_, Heap.get?_push_size _ rfl, rfl, rfl⟩ (hl1.push _) (Heap.get?_push_of_some _ hS) (by rw [List.take_zero]; exact hnS) fun h' tk o' hk hg hS' => ?_
        show wpAny _ _ _ _ _ _
        refine wpAny_pure ?_
        show wpAny _ _ (ret Value.none) _ _ _
        refine wpAny_pure ⟨rfl, h', tk, o', rfl, hg, hS', fun b o e => hk b o (Nat.ne_of_lt (Heap.lt_size e)) ?_ (Heap.get?_push_of_some _ (Heap.get?_push_of_some _ e))⟩
        rw [Heap.size_push]; exact Nat.ne_of_lt (Nat.lt_succ_of_lt (Heap.lt_size e))
      · cases r₂ with
        | error e => exact hr₂
        | ok fl₂ =>
          cases fl₂ with
          | ret r =>
            obtain ⟨rfl, h', tk, o, rfl, hg, hS', hk'⟩ := hr₂
            repeat (any_goals (first | assumption | wp_step))
            exact h _ _ o hg hS' hk'
          | _ => exact hr₂.elim
    | _ => exact hr.elim
/-- a text in the set -/
theorem in_set {a : Addr} {o : Obj} {xs : List Str} {x : Str} {t : Tok} {Q : Value → Shared → Prop} (ho : s.heap.get? a = some o) (hS : SetS prog w o xs) (hb : xs.length < scanBound)
    (h : Q (.bool (decide (x ∈ xs))) { s with toks := s.toks + 1 }) : wpAny (model prog w) A (compareOp .In (.str x t) (.ref a)) Q E s := by
  obtain ⟨hex, es, ep, tb, hd, hel, hf, _, _, hsz, hmem⟩ := hS
  refine wpAny_inSet_of (knd := strKind prog w) (k := x) (S := fun k => decide (k ∈ xs)) (n := es.size) (strKind_is _ _ _ _) rfl ⟨o, es, ep, tb, ho, hex, hd, hel, fun k => ?_, by omega, hf, rfl⟩ h
  rw [decide_eq_true_eq]; exact hmem k
end
end RS
end Mine
end
section
open PySem PySem.W PySem.Calls PyProof.Rows PyProof.Rows.LCg
set_option maxRecDepth 100000
namespace Mine
namespace RS
theorem entry_set_iter : entryFor table "set.__iter__" = some Builtin.«frozenset.__iter__» := entryFor_alias (id' := "frozenset.__iter__") (by kernel_rfl) rfl (by decide +kernel) (by kernel_rfl)
theorem owner_si : Manifest.owners.lookup (String.ofList ['r', 'o', 't', 'a', 'r', 'e', 't', 'i', '_', 't', 'e', 's'].reverse) = some Manifest.sig_set_iterator := by kernel_rfl
theorem slot_si_next : Slot "set_iterator" "__next__" "set_iterator.__next__" :=
  .of (owner := "set_iterator") (n := "__next__") (by rw [typeLookup_type, builtinLookup_eq_fast]; kernel_rfl) (by decide +kernel) (by decide +kernel) (by decide +kernel)
    (by first | exact .inl (by decide +kernel) | exact .inr (by decide +kernel)) (by rw [isSubtype_type]; kernel_rfl)
theorem entry_si_next : entryFor table "set_iterator.__next__" = some Builtin.«set_iterator.__next__» := entryFor_of_tree (by kernel_rfl)
theorem args_si_next (a : Value) : argsOk "set_iterator.__next__" ⟨[a], []⟩ := by
  unfold argsOk; rw [signature?_of (id := "set_iterator.__next__") (n := ['_', '_', 't', 'x', 'e', 'n', '_', '_']) (o := ['r', 'o', 't', 'a', 'r', 'e', 't', 'i', '_', 't', 'e', 's']) (by kernel_rfl) owner_si]; kernel_rfl
theorem slot_si_iter : Slot "set_iterator" "__iter__" "set_iterator.__iter__" :=
  .of (owner := "set_iterator") (n := "__iter__") (by rw [typeLookup_type, builtinLookup_eq_fast]; kernel_rfl) (by decide +kernel) (by decide +kernel) (by decide +kernel)
    (by first | exact .inl (by decide +kernel) | exact .inr (by decide +kernel)) (by rw [isSubtype_type]; kernel_rfl)
theorem entry_si_iter : entryFor table "set_iterator.__iter__" = some Builtin.«dict_keyiterator.__iter__» := entryFor_alias (id' := "dict_keyiterator.__iter__") (by kernel_rfl) rfl (by decide +kernel) (by kernel_rfl)
theorem args_si_iter (a : Value) : argsOk "set_iterator.__iter__" ⟨[a], []⟩ := by
  unfold argsOk; rw [signature?_of (id := "set_iterator.__iter__") (n := ['_', '_', 'r', 'e', 't', 'i', '_', '_']) (o := ['r', 'o', 't', 'a', 'r', 'e', 't', 'i', '_', 't', 'e', 's']) (by kernel_rfl) owner_si]; kernel_rfl
def itObj (first : Value) (i : Nat) (a : Addr) (n ep : Nat) : Obj := { cls := .type "set_iterator", data := .fields #[first, .int i 0, .ref a, .int n 0, .int ep 0] }
section
variable {prog : Program} {w : World} {A : Around} {E : Value → Shared → Prop} {s : Shared}
theorem si_self {I a : Addr} {first : Value} {i n ep : Nat} {Q : Value → Shared → Prop} (hI : s.heap.get? I = some (itObj first i a n ep)) (h : Q (.ref I) s) : wpAny (model prog w) A (pyIter (.ref I)) Q E s := by
  have hT : s.TypeIs (.ref I) "set_iterator" := ⟨_, hI, rfl⟩
  refine wpAny_pyIter_slot hT slot_si_iter (wpAny_call_entry slot_si_iter hT entry_si_iter ?_ (args_si_iter _))
  show wpAny _ _ (ret (.ref I)) _ _ s
  exact wpAny_pure ⟨_, rfl, "set_iterator", _, hT, slot_si_next.lookup, h⟩
theorem raise_stop {α : Type} {hp : Heap} {Q : Option Value → Shared → Prop} (hh : A.handled = none) (I : Addr) (h0 : Heap) (hx : Heap.ExtBut I h0 hp)
    (hQ : ∀ h', Heap.ExtBut I h0 h' → Q none { s with heap := h' }) {QQ : α → Shared → Prop} :
    wpAny (model prog w) A.in1 (newExc (.type "StopIteration") [] >>= fun x => (raiseNew x : Sem α)) QQ (fun e s' => wpAny (model prog w) A (do if ← isInstance e (.type "StopIteration") then pure none else throw e) Q E s') { s with heap := hp } := by
  show wpAny _ _ (newExc (.type "StopIteration") [] >>= _) _ _ _
  refine wpAny_bind ?_
  simp only [newExc, newTuple]
  refine wpAny_bind (wpAny_newObj_type ?_ (by size_fits))
  refine wpAny_bind (m := firstArgMember _ _) (wpAny_of_eq (a := Value.none) (by first | rfl | (simp only [firstArgMember]; rfl)) ?_)
  refine wpAny_newObj_type ?_ (by size_fits)
  simp only [raiseNew]
  refine wpAny_bind (wpAny_handled ?_)
  first | rw [show A.in1.handled = none from hh] | rw [hh]
  refine wpAny_bind (wpAny_pure (wpAny_throw ?_))
  refine wpAny_bind (wpAny_isInstance (T := "StopIteration") (b := true) ⟨_, Heap.get?_push_size _ rfl, rfl⟩ isSubtype_stop ?_)
  exact wpAny_pure (hQ _ ((hx.push _).push _))
theorem si_upd {h : Heap} {I a : Addr} {first x : Value} {i n ep : Nat} (hI : h.get? I = some (itObj first i a n ep)) (k : Nat) : (h.update I (Obj.mapFields (·.setIfInBounds k x))).get? I = some { cls := .type "set_iterator", data := .fields ((#[first, .int i 0, .ref a, .int n 0, .int ep 0] : Array Value).setIfInBounds k x) } := by
  have := Heap.get?_update_self (Obj.mapFields (·.setIfInBounds k x)) hI rfl
  exact this
end
section
variable {prog : Program} {w : World} {A : Around}
/-- the walk of a set whose iterator counts -/
theorem walk_int (hh : A.handled = none) (I a : Addr) (hne : a ≠ I) (o : Obj) (es : Array (Int × Value)) (ep : Nat) (t : SetTable) (hd : o.data = .set es ep t) (hf : t.fits es.size = true) (f : Nat → Nat) (vals : List Value)
    (hN : ∀ (i : Nat) (A : Around) (s : Shared) (Q : Option (Value × Nat) → Shared → Prop) (E : Value → Shared → Prop), i ≤ vals.length → s.heap.get? a = some o → Q (match vals[i]? with | some x => some (x, f (i + 1)) | none => none) s → wpAny (model prog w) A (setNext a (f i) i ep) Q E s) :
    Walks prog w A I [I, a] [I] vals.length (fun i v => vals[i]? = some v) (fun i h => h.get? a = some o ∧ h.get? I = some (itObj (.int (f i) 0) i a es.size ep)) where
  sub := fun b hb => by simp at hb; simp [hb]
  frame := fun _ _ _ st hk => ⟨hk a (by simp) _ st.1, hk I (by simp) _ st.2⟩
  item := fun i s Q E hi st hQ => by
    have hT : s.TypeIs (.ref I) "set_iterator" := ⟨_, st.2, rfl⟩
    unfold pyNext
    refine wpAny_bind (wpAny_attempt (wpAny_callSpecial?_slot (name := Str.ofString "__next__") hT slot_si_next (wpAny_call_entry slot_si_next hT entry_si_next ?_ (args_si_next _))))
    show wpAny _ _ (fieldsOf (.ref I) >>= _) _ _ s
    refine wpAny_bind (wpAny_fieldsOf st.2 rfl ?_)
    show wpAny _ _ (setEntries a >>= _) _ _ s
    refine wpAny_bind (wpAny_setEntries_of st.1 hd hf ?_)
    rw [if_neg (by simp)]
    show wpAny _ _ (setNext a (f i) i ep >>= _) _ _ s
    refine wpAny_bind (hN i _ s _ _ (Nat.le_of_lt hi) st.1 ?_)
    rw [List.getElem?_eq_getElem hi]
    dsimp only
    show wpAny _ _ (setField (.ref I) 0 (rawInt (f (i + 1))) >>= _) _ _ s
    refine wpAny_bind (wpAny_setField st.2 rfl (by simp) ?_)
    have h1 := si_upd st.2 (x := rawInt (f (i + 1))) 0
    show wpAny _ _ (setField (.ref I) 1 (rawInt ((i : Int) + 1)) >>= _) _ _ _
    refine wpAny_bind (wpAny_setField h1 rfl (by simp) (wpAny_pure ⟨_, rfl, wpAny_pure (hQ _ _ s.toks (by simp [hi]) ⟨?_, ?_⟩ ?_)⟩))
    · exact (Heap.SameBut.update ..).extBut _ _ hne ((Heap.SameBut.update ..).extBut _ _ hne st.1)
    · have := Heap.get?_update_self (Obj.mapFields (·.setIfInBounds 1 (rawInt ((i : Int) + 1)))) h1 rfl
      rw [this]
      simp [Obj.mapFields, itObj, rawInt]
    · intro b x hb e
      exact (Heap.SameBut.update ..).extBut _ _ (by simpa using hb) ((Heap.SameBut.update ..).extBut _ _ (by simpa using hb) e)
  done := fun s Q E st hQ => by
    have hT : s.TypeIs (.ref I) "set_iterator" := ⟨_, st.2, rfl⟩
    unfold pyNext
    refine wpAny_bind (wpAny_attempt (wpAny_callSpecial?_slot (name := Str.ofString "__next__") hT slot_si_next (wpAny_call_entry slot_si_next hT entry_si_next ?_ (args_si_next _))))
    show wpAny _ _ (fieldsOf (.ref I) >>= _) _ _ s
    refine wpAny_bind (wpAny_fieldsOf st.2 rfl ?_)
    show wpAny _ _ (setEntries a >>= _) _ _ s
    refine wpAny_bind (wpAny_setEntries_of st.1 hd hf ?_)
    rw [if_neg (by simp)]
    show wpAny _ _ (setNext a (f vals.length) vals.length ep >>= _) _ _ s
    refine wpAny_bind (hN vals.length _ s _ _ (Nat.le_refl _) st.1 ?_)
    rw [List.getElem?_eq_none (Nat.le_refl _)]
    dsimp only
    show wpAny _ _ (setField (.ref I) 2 .none >>= _) _ _ s
    refine wpAny_bind (wpAny_setField st.2 rfl (by simp) ?_)
    exact raise_stop (s := s) hh I s.heap (Heap.SameBut.update ..).extBut fun h' hx => hQ h' s.toks fun b x hb e => hx b x (by simpa using hb) e
  self := fun i s Q E st h => si_self st.2 h
/-- the walk of a set whose order was drawn -/
theorem walk_ref (hh : A.handled = none) (I a T : Addr) (hne : a ≠ I) (hTI : T ≠ I) (o oT : Obj) (es : Array (Int × Value)) (ep : Nat) (t : SetTable) (hd : o.data = .set es ep t) (hf : t.fits es.size = true) (order : List Nat) (nT : Nat) (hdT : oT.data = .seq (order.map fun k : Nat => Value.int (k : Int) 0).toArray nT)
    (vals : List Value) (hv : vals.length = order.length) (hvals : ∀ (i : Nat) v, vals[i]? = some v → ∃ p e, order[i]? = some p ∧ es[p]? = some (e, v)) :
    Walks prog w A I [I, a, T] [I] vals.length (fun i v => vals[i]? = some v) (fun i h => h.get? a = some o ∧ h.get? T = some oT ∧ h.get? I = some (itObj (.ref T) i a es.size ep)) where
  sub := fun b hb => by simp at hb; simp [hb]
  frame := fun _ _ _ st hk => ⟨hk a (by simp) _ st.1, hk T (by simp) _ st.2.1, hk I (by simp) _ st.2.2⟩
  item := fun i s Q E hi st hQ => by
    have hT : s.TypeIs (.ref I) "set_iterator" := ⟨_, st.2.2, rfl⟩
    unfold pyNext
    refine wpAny_bind (wpAny_attempt (wpAny_callSpecial?_slot (name := Str.ofString "__next__") hT slot_si_next (wpAny_call_entry slot_si_next hT entry_si_next ?_ (args_si_next _))))
    show wpAny _ _ (fieldsOf (.ref I) >>= _) _ _ s
    refine wpAny_bind (wpAny_fieldsOf st.2.2 rfl ?_)
    show wpAny _ _ (setEntries a >>= _) _ _ s
    refine wpAny_bind (wpAny_setEntries_of st.1 hd hf ?_)
    rw [if_neg (by simp)]
    show wpAny _ _ (seqItems? (.ref T) >>= _) _ _ s
    refine wpAny_bind (wpAny_seqItems st.2.1 hdT ?_)
    obtain ⟨p, e, hp, he⟩ := hvals i _ (List.getElem?_eq_getElem hi)
    have hpl : ((order.map fun k : Nat => Value.int (k : Int) 0).toArray)[i]? = some (.int (p : Int) 0) := by simp [hp]
    dsimp only
    rw [show ((i : Int)).toNat = i from rfl, hpl]
    dsimp only
    show wpAny _ _ (setNextDrawn a p ep >>= _) _ _ s
    unfold setNextDrawn
    refine wpAny_bind (wpAny_bind (wpAny_setState_of st.1 hd hf ?_))
    dsimp only
    rw [if_neg (by simp), he]
    refine wpAny_pure ?_
    show wpAny _ _ (setField (.ref I) 1 (rawInt ((i : Int) + 1)) >>= _) _ _ s
    refine wpAny_bind (wpAny_setField st.2.2 rfl (by simp) (wpAny_pure ⟨_, rfl, wpAny_pure (hQ _ _ s.toks (List.getElem?_eq_getElem hi) ⟨?_, ?_, ?_⟩ ?_)⟩))
    · exact (Heap.SameBut.update ..).extBut _ _ hne st.1
    · exact (Heap.SameBut.update ..).extBut _ _ hTI st.2.1
    · have := Heap.get?_update_self (Obj.mapFields (·.setIfInBounds 1 (rawInt ((i : Int) + 1)))) st.2.2 rfl
      rw [this]
      simp [Obj.mapFields, itObj, rawInt]
    · intro b x hb e
      exact (Heap.SameBut.update ..).extBut _ _ (by simpa using hb) e
  done := fun s Q E st hQ => by
    have hT : s.TypeIs (.ref I) "set_iterator" := ⟨_, st.2.2, rfl⟩
    unfold pyNext
    refine wpAny_bind (wpAny_attempt (wpAny_callSpecial?_slot (name := Str.ofString "__next__") hT slot_si_next (wpAny_call_entry slot_si_next hT entry_si_next ?_ (args_si_next _))))
    show wpAny _ _ (fieldsOf (.ref I) >>= _) _ _ s
    refine wpAny_bind (wpAny_fieldsOf st.2.2 rfl ?_)
    show wpAny _ _ (setEntries a >>= _) _ _ s
    refine wpAny_bind (wpAny_setEntries_of st.1 hd hf ?_)
    rw [if_neg (by simp)]
    show wpAny _ _ (seqItems? (.ref T) >>= _) _ _ s
    refine wpAny_bind (wpAny_seqItems st.2.1 hdT ?_)
    have hpl : ((order.map fun k : Nat => Value.int (k : Int) 0).toArray)[vals.length]? = none := by simp [hv]
    dsimp only
    rw [show ((vals.length : Int)).toNat = vals.length from rfl, hpl]
    dsimp only
    show wpAny _ _ (setField (.ref I) 0 (rawInt 0) >>= _) _ _ s
    refine wpAny_bind (wpAny_setField st.2.2 rfl (by simp) ?_)
    have h1 := si_upd st.2.2 (x := rawInt 0) 0
    show wpAny _ _ (setField (.ref I) 2 .none >>= _) _ _ _
    refine wpAny_bind (wpAny_setField h1 rfl (by simp) ?_)
    exact raise_stop (s := s) hh I s.heap (fun b x hb e => (Heap.SameBut.update ..).extBut _ _ hb ((Heap.SameBut.update ..).extBut _ _ hb e)) fun h' hx => hQ h' s.toks fun b x hb e => hx b x (by simpa using hb) e
  self := fun i s Q E st h => si_self st.2.2 h
end
end RS
end Mine
end
section
open PySem PySem.W PySem.Calls PyProof.Rows PyProof.Rows.LCg
set_option maxRecDepth 100000
namespace Mine
namespace RS
theorem vals_all (es : Array (Int × Value)) : (List.range es.size).map (fun p => ((es[p]?).map (·.2)).getD Value.none) = es.toList.map (·.2) := by
  apply List.ext_getElem
  · simp
  · intro i h1 h2
    have hi : i < es.size := by simpa using h1
    simp [hi]
def tupN (order : List Nat) : Obj := { cls := .type "tuple", data := .seq (order.map fun k : Nat => Value.int (k : Int) 0).toArray 0 }
section
variable {prog : Program} {w : World} {A : Around} {E : Value → Shared → Prop} {s : Shared}
theorem iter_set {a : Addr} {o : Obj} {es : Array (Int × Value)} {ep : Nat} {t : SetTable} {Q : Value → Shared → Prop} (ho : s.heap.get? a = some o) (hex : o.ExactSet) (hd : o.data = .set es ep t) (hf : t.fits es.size = true) (hb : es.size ≤ 4096)
    (h1 : (!(byT w) && (!t.plain && decide (es.size > 1))) = false → Q (.ref s.heap.objs.size) { s with heap := s.heap.push (itObj (.int 0 0) 0 a es.size ep) })
    (h2 : (!(byT w) && (!t.plain && decide (es.size > 1))) = true → ∀ order dr, List.Perm order (List.range es.size) → Q (.ref (s.heap.objs.size + 1)) { s with heap := (s.heap.push (tupN order)).push (itObj (.ref s.heap.objs.size) 0 a es.size ep), drawn := dr }) :
    wpAny (model prog w) A (pyIter (.ref a)) Q E s := by
  have hT : s.TypeIs (.ref a) "set" := ⟨o, ho, hex.1⟩
  refine wpAny_pyIter_slot hT F.slot_set_iter (wpAny_call_entry F.slot_set_iter hT entry_set_iter ?_ (F.args_set_iter_1 _))
  unfold Builtin.«frozenset.__iter__» Builtin.Frozenset.slot0 slotArgs
  simp only [List.isEmpty_nil, Bool.not_true, Bool.false_eq_true, ↓reduceIte, bind_assoc, List.length_nil, bne_self_eq_false]
  unfold Builtin.Frozenset.addrOf Builtin.Frozenset.sizeOf
  refine wpAny_bind (wpAny_pure ?_)
  try dsimp only
  refine wpAny_bind (wpAny_pure ?_)
  refine wpAny_bind (wpAny_bind (wpAny_setEntries_of ho hd hf (wpAny_pure ?_)))
  unfold setDrawn setsByText
  refine wpAny_bind (wpAny_bind (wpAny_setState_of ho hd hf ?_))
  refine wpAny_bind (wpAny_bind (wpAny_askSetting (wpAny_pure ?_)))
  refine wpAny_pure ?_
  show wpAny _ _ (if (!(byT w) && (!t.plain && decide (es.size > 1))) = true then _ else _) _ _ _
  cases hc : (!(byT w) && (!t.plain && decide (es.size > 1))) with
  | false =>
    rw [if_neg Bool.false_ne_true]
    refine wpAny_bind (wpAny_pure ?_)
    refine wpAny_bind (wpAny_setEpoch_of ho hd hf ?_)
    refine wpAny_bind (wpAny_newObj_type (wpAny_pure ⟨_, rfl, "set_iterator", _, ⟨_, Heap.get?_push_size _ rfl, rfl⟩, slot_si_next.lookup, h1 hc⟩))
  | true =>
    rw [if_pos rfl]
    refine wpAny_bind (drawOrder_ es.size (List.range es.size) s _ List.length_range fun order dr hp => ?_)
    refine wpAny_bind ?_
    have hlen : order.length = es.size := by rw [hp.length_eq, List.length_range]
    have hfit : (order.map fun k : Nat => Value.int (k : Int) 0).toArray.size ≤ sizeLine := by rw [List.size_toArray, List.length_map, hlen, sizeLine_eq]; omega
    refine wpAny_newObj_type (s := { s with drawn := dr }) ?_ hfit
    refine wpAny_bind (wpAny_setEpoch_of (Heap.get?_push_of_some _ ho) hd hf ?_)
    have hsz : (s.heap.push (tupN order)).objs.size = s.heap.objs.size + 1 := Heap.size_push ..
    have h3 := h2 hc order dr hp
    rw [← hsz] at h3
    exact wpAny_bind (wpAny_newObj_type (wpAny_pure ⟨_, rfl, "set_iterator", _, ⟨_, Heap.get?_push_size _ rfl, rfl⟩, slot_si_next.lookup, h3⟩))
theorem pick_perm {α : Type} (next : Nat → Nat) (xs : Array α) : List.Perm (pickOrder next xs).toList xs.toList := by
  have go : ∀ (n k : Nat) (left : List α) (out : Array α), left.length = n → List.Perm (pickOrder.go next n k left out).toList (out.toList ++ left) := by
    intro n
    induction n with
    | zero => intro k left out hl; obtain rfl : left = [] := List.length_eq_zero_iff.mp hl; simp [pickOrder.go]
    | succ n ih =>
      intro k left out hl
      have hlt : next k % left.length < left.length := Nat.mod_lt _ (by omega)
      unfold pickOrder.go
      have hx : left[next k % left.length]? = some (left[next k % left.length]) := List.getElem?_eq_getElem hlt
      rw [hx]
      dsimp only
      refine (ih (k + 1) _ _ (by rw [List.length_eraseIdx_of_lt hlt, hl]; rfl)).trans ?_
      rw [Array.toList_push, List.append_assoc]
      exact (eraseIdx_perm _ _ _ hx).append_left _
  have := go xs.size 0 xs.toList #[] Array.length_toList
  rw [show (#[] : Array α).toList = [] from rfl, List.nil_append] at this
  exact this
theorem below0 (p : Nat) : SetTable.below #[p] 0 = 0 := by simp [SetTable.below, SetTable.below.go]
theorem below1 (p : Nat) : SetTable.below #[p] (p + 1) = 1 := by simp [SetTable.below, SetTable.below.go]
/-- the next element of a set of one text, or of one that the text's order walks -/
theorem next_one {a : Addr} {o : Obj} {h : Int} {v : Value} {ep : Nat} {t : SetTable} {p : Nat} (hd : o.data = .set #[(h, v)] ep t) (hf : t.fits 1 = true) (hp : t.place = #[p]) (hled : t.led = true) (hb : byT w = false) (i : Nat) (hi : i ≤ 1) {Q : Option (Value × Nat) → Shared → Prop} (ho : s.heap.get? a = some o)
    (hQ : Q (match [v][i]? with | some x => some (x, if i + 1 = 0 then 0 else p + 1) | none => none) s) : wpAny (model prog w) A (setNext a (if i = 0 then 0 else p + 1) i ep) Q E s := by
  unfold setNext setsByText
  refine wpAny_bind (wpAny_setState_of ho hd hf ?_)
  dsimp only
  refine wpAny_bind (wpAny_bind (wpAny_askSetting (wpAny_pure ?_)))
  show wpAny _ _ (if byT w = true then _ else _) _ _ _
  rw [hb, if_neg Bool.false_ne_true]
  show wpAny _ _ (if (!t.plain && decide (1 > 1)) = true then _ else _) _ _ _
  rw [if_neg (by simp)]
  show wpAny _ _ ((if (!t.led && !(#[(h, v)] : Array (Int × Value)).isEmpty) = true then _ else _) >>= _) _ _ _
  rw [hled, if_neg (by simp)]
  refine wpAny_bind (wpAny_pure ?_)
  rw [hp]
  rcases (show i = 0 ∨ i = 1 by omega) with rfl | rfl
  · rw [if_pos rfl, below0]
    exact wpAny_pure hQ
  · rw [if_neg (by omega), below1]
    exact wpAny_pure hQ
theorem next_text {a : Addr} {o : Obj} {es : Array (Int × Value)} {ep : Nat} {t : SetTable} (hd : o.data = .set es ep t) (hf : t.fits es.size = true) (hb : byT w = true) (i : Nat) {Q : Option (Value × Nat) → Shared → Prop} (ho : s.heap.get? a = some o)
    (hQ : Q (match (((pickOrder (w.params.setOrder a ep) es).toList.map (·.2)))[i]? with | some x => some (x, 0) | none => none) s) : wpAny (model prog w) A (setNext a 0 i ep) Q E s := by
  unfold setNext setsByText
  refine wpAny_bind (wpAny_setState_of ho hd hf ?_)
  dsimp only
  refine wpAny_bind (wpAny_bind (wpAny_askSetting (wpAny_pure ?_)))
  show wpAny _ _ (if byT w = true then _ else _) _ _ _
  rw [hb, if_pos rfl, if_neg (by simp)]
  unfold setWalk setsByText
  refine wpAny_bind (wpAny_bind (wpAny_setState_of ho hd hf ?_))
  dsimp only
  refine wpAny_bind (wpAny_bind (wpAny_askSetting (wpAny_pure ?_)))
  show wpAny _ _ (if byT w = true then _ else _) _ _ _
  rw [hb, if_pos rfl]
  refine wpAny_bind (wpAny_askSetting (wpAny_pure ?_))
  refine wpAny_pure ?_
  show Q (Option.map _ (pickOrder (w.params.setOrder a ep) es)[i]?) s
  rw [List.getElem?_map, Array.getElem?_toList] at hQ
  cases hx : (pickOrder (w.params.setOrder a ep) es)[i]? with
  | none => rw [hx] at hQ; exact hQ
  | some e => rw [hx] at hQ; exact hQ
end
section
variable {prog : Program} {w : World} {A : Around} {s : Shared} {env : Env} {g : Heap} {m : Str → Option Value} {news : List (Addr × Obj)} {body orelse : List Stmt} {Q : Flow → Shared → Prop}
/-- what a turn leaves of a loop over a set -/
def LoopEndS (g : Heap) (L : Addr) (s₀ : Shared) (dr : Drawn) (news : List (Addr × Obj)) (J : (Str → Option Value) → Prop) (s : Shared) : Prop :=
  ∃ h' tk m', s = { s₀ with heap := h', toks := tk, drawn := dr } ∧ Fr g L h' m' ∧ News g L h' news ∧ J m'
theorem loop_set {x : Str} {px : Pos} {a : Addr} {o : Obj} {xs : List Str} (J : List Str → (Str → Option Value) → Prop)
    (hh : A.handled = none) (F : Fr g env.locals s.heap m) (N : News g env.locals s.heap news) (hsrc : g.get? a = some o ∨ (a, o) ∈ news) (hS : SetS prog w o xs) (hne : xs ≠ []) (hbx : xs.length ≤ 4096) (hJ : J [] m)
    (turn : ∀ k t seen m₁ h tk dr extra, k ∈ xs → J seen m₁ → Fr g env.locals h m₁ → News g env.locals h (news ++ extra) → (∀ p ∈ news, ∀ q ∈ extra, q.1 ≠ p.1) →
      wpAny (model prog w) A (assign (.Name x px) env (.str k t)) (fun _ s₂ => wpAny (model prog w) A (execs body env) (fun f s₃ => match f with
        | .next | .cont => LoopEndS g env.locals s dr (news ++ extra) (J (seen ++ [k])) s₃
        | .brk => Q .next s₃
        | .ret v => Q (.ret v) s₃) NoE s₂) NoE { s with heap := h, toks := tk, drawn := dr })
    (done : ∀ seen m₁ h tk dr, (∀ k ∈ xs, k ∈ seen) → J seen m₁ → Fr g env.locals h m₁ → News g env.locals h news → wpAny (model prog w) A (execs orelse env) Q NoE { s with heap := h, toks := tk, drawn := dr }) :
    wpAny (model prog w) A (pyIter (.ref a)) (fun it s₂ => LoopGo prog w A env (.Name x px) body orelse Q it s₂) NoE s := by
  obtain ⟨hex, es, ep, t, hd, hel, hf, hled, hpl, hsz, hmem⟩ := hS
  have key : ∀ h' : Heap, (∀ b o, g.get? b = some o → h'.get? b = some o) → (∀ p ∈ news, h'.get? p.1 = some p.2) → h'.get? a = some o := fun h' k1 k2 => hsrc.elim (k1 _ _) fun hm => k2 _ hm
  have hos : s.heap.get? a = some o := key _ F.keep fun p hp => (N p hp).1
  have halt := ltN (Heap.lt_size hos)
  have hLlt := ltN F.ns.lt
  have hAb : @LE.le Nat _ g.objs.size env.locals := F.above
  have hes0 : es.size ≠ 0 := by
    obtain ⟨k, hk⟩ := List.exists_mem_of_ne_nil xs hne
    obtain ⟨e, he, _⟩ := (hmem k).mp hk
    intro h0
    have : es.toList = [] := by rw [← List.length_eq_zero_iff, Array.length_toList]; exact h0
    rw [this] at he; cases he
  have hplain : t.plain = false := hpl.resolve_left hes0
  -- the loop, given a walk
  have main : ∀ (I : Addr) (fp : List Addr) (vals : List Value) (St : Nat → Heap → Prop) (extra : List (Addr × Obj)) (hp : Heap) (dr : Drawn), Walks prog w A I fp [I] vals.length (fun i v => vals[i]? = some v) St → List.Perm vals (es.toList.map (·.2)) →
      (∀ i h, St i h → ∃ oI, h.get? I = some oI) → (∀ i h h' oI, St i h → h.get? I = some oI → h'.get? I = some oI → h'.get? a = some o → (∀ p ∈ extra, h'.get? p.1 = some p.2) → St i h') →
      St 0 hp → (∀ b o, s.heap.get? b = some o → hp.get? b = some o) → (∀ p ∈ extra, hp.get? p.1 = some p.2 ∧ s.heap.get? p.1 = none ∧ p.1 ≠ I) → s.heap.get? I = none →
      LoopGo prog w A env (.Name x px) body orelse Q (.ref I) { s with heap := hp, drawn := dr } := by
    intro I fp vals St extra hp dr W hperm hIo hSt hst hk hex' hI
    have hI₀ : g.get? I = none := by
      cases e : g.get? I with
      | none => rfl
      | some o' => rw [F.keep _ _ e] at hI; cases hI
    have hLI : env.locals ≠ I := fun e => by
      obtain ⟨oL, _, _, hL, _⟩ := F.ns
      rw [e, hI] at hL; cases hL
    have offI : ∀ p ∈ news, p.1 ≠ I := fun p hp e => by have := (N p hp).1; rw [e, hI] at this; cases this
    have offX : ∀ p ∈ news, ∀ q ∈ extra, q.1 ≠ p.1 := fun p hp q hq e => by have := (hex' q hq).2.1; rw [e, (N p hp).1] at this; cases this
    have hX₀ : ∀ p ∈ extra, g.get? p.1 = none := fun p hp => by
      cases e : g.get? p.1 with
      | none => rfl
      | some o' => have := (hex' p hp).2.1; rw [F.keep _ _ e] at this; cases this
    have hXL : ∀ p ∈ extra, p.1 ≠ env.locals := fun p hp e => by
      obtain ⟨oL, _, _, hL, _⟩ := F.ns
      have := (hex' p hp).2.1
      rw [e, hL] at this; cases this
    refine codeAny_forLoop_any
      (fun k s' => ∃ h' tk i m', s' = { s with heap := h', toks := tk, drawn := dr } ∧ i ≤ vals.length ∧ k = vals.length + 1 - i ∧ St i h' ∧ Fr g env.locals h' m' ∧ News g env.locals h' (news ++ extra) ∧ ∃ seen, J seen m' ∧ StrsAre (vals.take i) seen) ?_ (vals.length + 1)
      ⟨hp, s.toks, 0, m, rfl, Nat.zero_le _, rfl, hst, F.keeps hk, ?_, [], hJ, .nil⟩
    · rintro k s' ⟨h', tk, i, m', rfl, hi, rfl, hst', F', N', seen, hJ', hseen⟩
      by_cases hlt : i < vals.length
      · refine W.item i _ _ _ hlt hst' fun v h₂ tk₂ hP hst₂ hk₂ => ?_
        obtain ⟨oI, hoI⟩ := hIo _ _ hst₂
        have F₂ : Fr g env.locals h₂ m' := fr_but F' (fun b o hb e => hk₂ b o hb e) hLI hI₀
        have N₂ : News g env.locals h₂ (news ++ (extra ++ [(I, oI)])) := fun p hp => by
          rw [← List.append_assoc] at hp
          rcases List.mem_append.mp hp with hp | hp
          · refine ⟨hk₂ _ _ ?_ (N' p hp).1, (N' p hp).2⟩
            rcases List.mem_append.mp hp with hp | hp
            · simpa using offI p hp
            · simpa using (hex' p hp).2.2
          · cases List.mem_singleton.mp hp
            exact ⟨hoI, Ne.symm hLI, hI₀⟩
        have hv : v ∈ es.toList.map (·.2) := hperm.mem_iff.mp (List.mem_of_getElem? hP)
        obtain ⟨e, he, rfl⟩ := List.mem_map.mp hv
        obtain ⟨⟨ks, hks, _⟩, _⟩ := hel e he
        obtain ⟨tt, ett⟩ := Value.isStrOf_shape hks
        rw [ett] at hP ⊢
        have hkx : ks ∈ xs := (hmem ks).mpr ⟨e, he, hks⟩
        refine wpAny_pure ?_
        refine wpAny_mono (turn ks tt seen m' h₂ tk₂ dr (extra ++ [(I, oI)]) hkx hJ' F₂ N₂ (fun p hp q hq => ?_)) (fun _ s₂ h₂' => wpAny_mono h₂' (fun f s₃ h₃ => ?_) fun _ _ x => x.elim) fun _ _ x => x.elim
        · rcases List.mem_append.mp hq with hq | hq
          · exact offX p hp q hq
          · cases List.mem_singleton.mp hq; exact Ne.symm (offI p hp)
        have fin : LoopEndS g env.locals s dr (news ++ (extra ++ [(I, oI)])) (J (seen ++ [ks])) s₃ → ∃ m₀, m₀ < vals.length + 1 - i ∧ ∃ h' tk i m', s₃ = { s with heap := h', toks := tk, drawn := dr } ∧ i ≤ vals.length ∧ m₀ = vals.length + 1 - i ∧ St i h' ∧ Fr g env.locals h' m' ∧ News g env.locals h' (news ++ extra) ∧ ∃ seen, J seen m' ∧ StrsAre (vals.take i) seen := by
          rintro ⟨h₃', tk₃, m₃, rfl, F₃, N₃, hJ₃⟩
          refine ⟨vals.length + 1 - (i + 1), by omega, h₃', tk₃, i + 1, m₃, rfl, hlt, rfl, hSt _ _ _ _ hst₂ hoI (N₃ _ (List.mem_append_right _ (List.mem_append_right _ (.head _)))).1 (key _ F₃.keep fun p hp => (N₃ _ (List.mem_append_left _ hp)).1) (fun p hp => (N₃ _ (List.mem_append_right _ (List.mem_append_left _ hp))).1), F₃, fun p hp => N₃ p ?_, _, hJ₃, ?_⟩
          · rcases List.mem_append.mp hp with hp | hp
            · exact List.mem_append_left _ hp
            · exact List.mem_append_right _ (List.mem_append_left _ hp)
          · rw [List.take_add_one, hP]; exact kct_snoc hseen
        cases f with
        | next => exact fin h₃
        | cont => exact fin h₃
        | brk => exact h₃
        | ret v => exact h₃
      · obtain rfl : i = vals.length := Nat.le_antisymm hi (Nat.not_lt.mp hlt)
        refine W.done _ _ _ hst' fun h₂ tk₂ hk₂ => ?_
        have N₂ : News g env.locals h₂ news := fun p hp => ⟨hk₂ _ _ (by simpa using offI p hp) (N' p (List.mem_append_left _ hp)).1, (N' p (List.mem_append_left _ hp)).2⟩
        refine wpAny_mono (done seen m' h₂ tk₂ dr (fun k hk => ?_) hJ' (fr_but F' hk₂ hLI hI₀) N₂) (fun _ _ x => x) fun _ _ x => x.elim
        obtain ⟨e, he, hks⟩ := (hmem k).mp hk
        obtain ⟨tt, ett⟩ := Value.isStrOf_shape hks
        have hin : Value.str k tt ∈ vals := hperm.mem_iff.mpr (ett ▸ List.mem_map.mpr ⟨e, he, rfl⟩)
        rw [List.take_length] at hseen
        obtain ⟨i, hi', hget⟩ := List.mem_iff_getElem.mp hin
        obtain ⟨y, t', e1, e2⟩ := strs_get hseen (List.getElem?_eq_some_iff.mpr ⟨hi', hget⟩)
        injection e1 with e3 _
        exact e3 ▸ List.mem_of_getElem? e2
    · intro p hp
      rcases List.mem_append.mp hp with hp | hp
      · exact ⟨hk _ _ (N p hp).1, (N p hp).2⟩
      · exact ⟨(hex' p hp).1, hXL p hp, hX₀ p hp⟩
  have none_of : ∀ a, s.heap.objs.size ≤ a → s.heap.get? a = none := fun a ha => Heap.get?_none_of_le ha
  have p1 : ∀ {o' : Obj} (b : Addr) (x : Obj), s.heap.get? b = some x → (s.heap.push o').get? b = some x := fun b x e => Heap.get?_push_of_some _ e
  have haN : a ≠ s.heap.objs.size := Nat.ne_of_lt halt
  refine iter_set hos hex hd hf (by omega) (fun hc => ?_) (fun hc order dr hp => ?_)
  · have hIg : ∀ {oI : Obj}, oI.isFreed = false → (s.heap.push oI).get? s.heap.objs.size = some oI := fun h => Heap.get?_push_size _ h
    cases hbt : byT w with
    | true =>
      refine main s.heap.objs.size _ ((pickOrder (w.params.setOrder a ep) es).toList.map (·.2)) _ [] _ s.drawn (walk_int hh s.heap.objs.size a haN o es ep t hd hf (fun _ => 0) _ fun i A' s' Q' E' _ ho' hQ' => next_text hd hf hbt i ho' hQ') ((pick_perm _ _).map _)
        (fun i h st => ⟨_, st.2⟩) (fun i h h' oI st e e' k _ => ⟨k, by rw [e', ← e]; exact st.2⟩) ⟨p1 _ _ hos, hIg rfl⟩ p1 (fun p hp => nomatch hp) (none_of _ (Nat.le_refl _))
    | false =>
      rw [hbt, hplain] at hc
      have h1 : es.size = 1 := by
        have : ¬ es.size > 1 := by simpa using hc
        omega
      obtain ⟨e0, he0⟩ : ∃ e, es = #[e] := by
        obtain ⟨l⟩ := es
        obtain ⟨e, rfl⟩ := List.length_eq_one_iff.mp h1
        exact ⟨e, rfl⟩
      subst he0
      have hfp := hf
      simp only [SetTable.fits, Bool.and_eq_true, beq_iff_eq] at hfp
      obtain ⟨p, hpp⟩ : ∃ p, t.place = #[p] := by
        have h2 := hfp.1
        revert h2
        generalize t.place = pl
        intro h2
        obtain ⟨l⟩ := pl
        obtain ⟨p, rfl⟩ := List.length_eq_one_iff.mp (by simpa using h2 : l.length = 1)
        exact ⟨p, rfl⟩
      have hled' : t.led = true := by rw [hled, hbt]; rfl
      obtain ⟨eh, ev⟩ := e0
      refine main s.heap.objs.size _ [ev] _ [] _ s.drawn (walk_int hh s.heap.objs.size a haN o #[(eh, ev)] ep t hd hf (fun i => if i = 0 then 0 else p + 1) [ev] fun i A' s' Q' E' hi ho' hQ' => next_one hd hf hpp hled' hbt i hi ho' hQ') .rfl
        (fun i h st => ⟨_, st.2⟩) (fun i h h' oI st e e' k _ => ⟨k, by rw [e', ← e]; exact st.2⟩) ⟨p1 _ _ hos, hIg rfl⟩ p1 (fun p hp => nomatch hp) (none_of _ (Nat.le_refl _))
  · have hsz1 : (s.heap.push (tupN order)).objs.size = s.heap.objs.size + 1 := Heap.size_push ..
    have p2 : ∀ {o' : Obj} (b : Addr) (x : Obj), s.heap.get? b = some x → ((s.heap.push (tupN order)).push o').get? b = some x := fun b x e => Heap.get?_push_of_some _ (Heap.get?_push_of_some _ e)
    have hTn : ∀ {o' : Obj}, ((s.heap.push (tupN order)).push o').get? s.heap.objs.size = some (tupN order) := Heap.get?_push_of_some _ (Heap.get?_push_size _ rfl)
    have hIn : ∀ {o' : Obj}, o'.isFreed = false → ((s.heap.push (tupN order)).push o').get? (s.heap.objs.size + 1) = some o' := fun {o'} h => by
      have := Heap.get?_push_size (s.heap.push (tupN order)) (o := o') h
      rw [hsz1] at this; exact this
    have hne1 : s.heap.objs.size ≠ s.heap.objs.size + 1 := Nat.ne_of_lt (Nat.lt_succ_self _)
    have hlen : order.length = es.size := by rw [hp.length_eq, List.length_range]
    have hal : ∀ p ∈ order, p < es.size := fun p hq => List.mem_range.mp (hp.mem_iff.mp hq)
    refine main (s.heap.objs.size + 1) _ (order.map fun p => ((es[p]?).map (·.2)).getD .none) _ [(s.heap.objs.size, tupN order)] _ dr (walk_ref hh (s.heap.objs.size + 1) a s.heap.objs.size (Nat.ne_of_lt (Nat.lt_succ_of_lt halt)) hne1 o (tupN order) es ep t hd hf order 0 rfl _ ?_ ?_) ?_
      (fun i h st => ⟨_, st.2.2⟩) (fun i h h' oI st e e' k kx => ⟨k, kx _ (.head _), by rw [e', ← e]; exact st.2.2⟩) ⟨p2 _ _ hos, hTn, hIn rfl⟩ p2 (fun p hp => by cases List.mem_singleton.mp hp; exact ⟨hTn, none_of _ (Nat.le_refl _), hne1⟩) (none_of _ (Nat.le_succ _))
    · rw [List.length_map]
    · intro i v hv
      rw [List.getElem?_map] at hv
      cases hoi : order[i]? with
      | none => rw [hoi] at hv; cases hv
      | some p =>
        rw [hoi] at hv
        have hlt := hal p (List.mem_of_getElem? hoi)
        have he : es[p]? = some es[p] := Array.getElem?_eq_getElem hlt
        refine ⟨p, es[p].1, rfl, ?_⟩
        have : v = es[p].2 := by
          have := Option.some.inj hv
          dsimp only at this
          rw [he] at this
          exact this.symm
        rw [he, this]
    · refine (hp.map _).trans ?_
      rw [show (List.range es.size).map (fun p => ((es[p]?).map (·.2)).getD Value.none) = es.toList.map (·.2) from ?_]
      exact vals_all es
end
end RS
end Mine
end
section
open PySem PySem.W PySem.Calls PyProof.Rows
namespace Mine
/-- a heap without some objects -/
def eraseH (h : Heap) (as : List Addr) : Heap := ⟨h.objs.mapIdx fun i o => if i ∈ as then { o with data := .freed } else o, h.life⟩
theorem erase_size (h : Heap) (as : List Addr) : (eraseH h as).objs.size = h.objs.size := by simp [eraseH]
theorem erase_in {h : Heap} {as : List Addr} {a : Addr} (ha : a ∈ as) : (eraseH h as).get? a = none := by
  unfold Heap.get? eraseH
  simp only [Array.getElem?_mapIdx]
  cases h.objs[a]? with
  | none => rfl
  | some o => simp [ha]
theorem erase_out {h : Heap} {as : List Addr} {a : Addr} (ha : a ∉ as) : (eraseH h as).get? a = h.get? a := by
  unfold Heap.get? eraseH
  simp only [Array.getElem?_mapIdx]
  cases h.objs[a]? with
  | none => rfl
  | some o => simp [ha]
section
variable {prog : Program} {w : World} {A : Around} {s : Shared} {g : Heap} {L : Addr} {m : Str → Option Value} {news : List (Addr × Obj)}
theorem enterL {K : Frag} {p : Program} {loose : List Str} {mean : ExcName → Option Value} {mg mb : Str → Option Value} {name qual : Str} {params : Arguments} {body : List Stmt} {scope : Scope} {dV kV doc pm cdv ct oc : Value} {an od : Option Addr} {osl : Array (Option Value)} {f : Addr} {args : List Value} {kw : List (Str × Value)} {binds : List (Str × Value)} {R : Result → Shared → Prop}
    (F : Fr g L s.heap m) (N : News g L s.heap news) (X : K.In g) (T : Top p loose mean mg mb g)
    (ho : K.lookup f = some ⟨oc, od, .func (fnOf name qual params body scope dV kV doc pm an cdv ct), osl⟩) (hcd : codeIn K cdv qual = true) (hroom : A.depth < recursionLimit)
    (hbind : BindsTo s (fnOf name qual params body scope dV kV doc pm an cdv ct) ⟨args, kw⟩ binds) (hloc : ∀ y ∈ binds, scope.names.lookup y.1 = some .local)
    (h : ∀ g' L' h₁, (∀ b, (∀ p ∈ news, p.1 ≠ b) → g'.get? b = s.heap.get? b) → (∀ h', (∀ b o, g'.get? b = some o → h'.get? b = some o) → Fr g L h' m) → Fr g' L' h₁ (fun y => binds.reverse.lookup y) → News g' L' h₁ news → K.In g' → Top p loose mean mg mb g' → (∀ b o, g.get? b = some o → g'.get? b = some o) →
      wpAny (model prog w) (A.deeper (envOf qual scope L' f cdv)) (execs body (envOf qual scope L' f cdv))
        (fun fl s' => R (.ok (.ret (match fl with | .ret v => v | _ => .none))) s') (fun _ _ => False)
        { s with heap := h₁, toks := s.toks + binds.length })
    (hco : scope.isCoroutine = false) (hgen : scope.isGenerator = false) (hk : scope.kind = .function)
    (hcell : ∀ x ∈ scope.names, x.2 ≠ .cell) : codeAny (model prog w) A (.call (.ref f) ⟨args, kw⟩) R s := by
  have X' := X.keeps F.keep
  have T' := T.keeps F.keep
  refine codeAny_call_def (fd := fnOf name qual params body scope dV kV doc pm an cdv ct) (body := body) (binds := binds) hroom (X' _ _ ho) rfl T'.nolimit (codeRec_of X' hcd) rfl hbind hcell hloc (fun h₁ hns hk₁ => ?_) hco hgen hk
  have kg : ∀ b o, g.get? b = some o → (eraseH s.heap (news.map (·.1))).get? b = some o := fun b o e => by
    rw [erase_out]
    · exact F.keep b o e
    · intro hm
      obtain ⟨p, hp, rfl⟩ := List.mem_map.mp hm
      rw [(N p hp).2.2] at e; cases e
  have hLo : ∀ p ∈ news, p.1 ≠ L := fun p hp => (N p hp).2.1
  refine wpAny_mono (h (eraseH s.heap (news.map (·.1))) s.heap.objs.size h₁ (fun b hb => erase_out fun hm => by obtain ⟨p, hp, e⟩ := List.mem_map.mp hm; exact hb p hp e) (fun h' hk' => ⟨F.ns.at' fun o e => hk' _ _ ?_, fun b o e => hk' _ _ (kg b o e), F.above⟩) ⟨hns, fun b o e => ?_, ?_⟩ (fun p hp => ⟨hk₁ _ _ (N p hp).1, ?_, erase_in (List.mem_map.mpr ⟨p, hp, rfl⟩)⟩) (X.keeps kg) (T.keeps kg) kg) (fun _ _ x => x) fun _ _ x => x.elim
  · rw [erase_out]
    · exact e
    · intro hm
      obtain ⟨p, hp, e⟩ := List.mem_map.mp hm
      exact hLo p hp e
  · refine hk₁ b o ?_
    by_cases hb : b ∈ news.map (·.1)
    · rw [erase_in hb] at e; cases e
    · rw [erase_out hb] at e; exact e
  · rw [erase_size]; exact Nat.le_refl _
  · exact Nat.ne_of_lt (Heap.lt_size (N p hp).1)
theorem leaveL {g' h' : Heap} {L' : Addr} {m' : Str → Option Value} {nw : List (Addr × Obj)} (back : ∀ h', (∀ b o, g'.get? b = some o → h'.get? b = some o) → Fr g L h' m) (kg : ∀ b o, g.get? b = some o → g'.get? b = some o) (F' : Fr g' L' h' m') (N' : News g' L' h' nw) : Fr g L h' m ∧ News g L h' nw := by
  refine ⟨back h' F'.keep, fun p hp => ⟨(N' p hp).1, fun e => ?_, ?_⟩⟩
  · obtain ⟨oL, _, _, hL, _⟩ := (back g' fun _ _ x => x).ns
    have := (N' p hp).2.2
    rw [e, hL] at this; cases this
  · cases e : g.get? p.1 with
    | none => rfl
    | some o => have := (N' p hp).2.2; rw [kg _ _ e] at this; cases this
end
end Mine
end
section
open PySem PySem.W PySem.Calls PyProof.Rows
namespace Mine
/-- new data: its objects are new, and stand -/
def NewDat (d : Dat) (h h' : Heap) (r : Value) : Prop := ∃ X, (∀ p ∈ X, h.get? p.1 = none ∧ h'.get? p.1 = some p.2) ∧ DatIn X r d
theorem News.addAll {g h h' : Heap} {L : Addr} {m : Str → Option Value} {news X : List (Addr × Obj)} (F : Fr g L h m) (N : News g L h news) (st : h.StaysIn h') (hX : ∀ p ∈ X, h.get? p.1 = none ∧ h'.get? p.1 = some p.2) : News g L h' (X ++ news) ∧ ∀ p ∈ news, ∀ q ∈ X, q.1 ≠ p.1 := by
  refine ⟨fun p hp => ?_, fun p hp q hq e => ?_⟩
  · rcases List.mem_append.mp hp with hp | hp
    · refine ⟨(hX p hp).2, fun e => ?_, ?_⟩
      · obtain ⟨oL, _, _, hL, _⟩ := F.ns
        have := (hX p hp).1
        rw [e, hL] at this; cases this
      · cases q : g.get? p.1 with
        | none => rfl
        | some o' => have := (hX p hp).1; rw [F.keep _ _ q] at this; cases this
    · exact ⟨st _ _ (N p hp).1, (N p hp).2⟩
  · have := (hX q hq).1
    rw [e, (N p hp).1] at this; cases this
theorem newDat_of {g h : Heap} {L : Addr} {X : List (Addr × Obj)} {d : Dat} {r : Value} (N : News g L h X) (hd : DatIn X r d) : NewDat d g h r := ⟨X, fun p hp => ⟨(N p hp).2.2, (N p hp).1⟩, hd⟩
def ModeOk (m : Int) : Prop := 0 ≤ m ∧ m < 16777216
def sizes : List Int := [1, 5, 9, 13, 4, 6, 2, 8]
def MsOk (ms : List (Int × Int)) : Prop := ∀ q ∈ ms, ModeOk q.1 ∧ q.2 ∈ sizes
def DsOk (ds : List (Int × Int)) : Prop := ∀ q ∈ ds, ModeOk q.1 ∧ 0 ≤ q.2 ∧ q.2 < 4
def AsOk (as : List (Int × Option Int)) : Prop := ∀ q ∈ as, ModeOk q.1 ∧ (q.2 = none ∨ q.2 = some q.1)
def datP (q : Int × Int) : Dat := .tuple [.int q.1, .int q.2]
def datO (q : Option Int) : Dat := match q with | none => .none | some i => .int i
def datA (q : Int × Option Int) : Dat := .tuple [.int q.1, datO q.2]
def DrawnIs (h h' : Heap) (r : Value) : Prop := ∃ ms ds as, MsOk ms ∧ DsOk ds ∧ AsOk as ∧ (1 ≤ ms.length ∧ ms.length ≤ 7) ∧ ds.length ≤ 7 ∧ as.length ≤ 21 ∧ NewDat (.tuple [.list (ms.map datP), .list (ds.map datP), .list (as.map datA)]) h h' r
theorem dat_snoc {X : List (Addr × Obj)} {arr : Array Value} {ds : List Dat} {d : Dat} {T : Addr} {o : Obj} {v : Value} (h : DatAll X arr.toList ds) (hd : DatIn ((T, o) :: X) v d) : DatAll ((T, o) :: X) (arr.push v).toList (ds ++ [d]) := by
  rw [Array.toList_push]
  exact (h.mono fun p hp => .tail _ hp).append (.one hd)
theorem dat_more {X : List (Addr × Obj)} {vs : List Value} {ds : List Dat} {p : Addr × Obj} (h : DatAll X vs ds) : DatAll (p :: X) vs ds := h.mono fun _ hp => .tail _ hp
theorem dat_pair {X : List (Addr × Obj)} {T : Addr} {n : Nat} {a b : Value} {da db : Dat} (ha : DatIn ((T, ({ cls := .type "tuple", data := .seq [a, b].toArray n } : Obj)) :: X) a da) (hb : DatIn ((T, ({ cls := .type "tuple", data := .seq [a, b].toArray n } : Obj)) :: X) b db) : DatIn ((T, ({ cls := .type "tuple", data := .seq [a, b].toArray n } : Obj)) :: X) (.ref T) (.tuple [da, db]) :=
  .tuple (.head _) (.cons ha (.cons hb .nil))
end Mine
namespace Mine
def DInv (lm ld la : Addr) (k j : Nat) (news : List (Addr × Obj)) : Prop := ∃ am nm ad nd aa na X ms ds as, news = (lm, W.listOf am nm) :: (ld, W.listOf ad nd) :: (la, W.listOf aa na) :: X ∧ (∀ p ∈ X, p.1 ≠ lm ∧ p.1 ≠ ld ∧ p.1 ≠ la) ∧
  DatAll X am.toList (ms.map datP) ∧ DatAll X ad.toList (ds.map datP) ∧ DatAll X aa.toList (as.map datA) ∧ MsOk ms ∧ DsOk ds ∧ AsOk as ∧ (1 ≤ ms.length ∧ ms.length ≤ k + 1) ∧ ds.length ≤ k + 1 ∧ as.length ≤ j
theorem ok_snoc {α : Type} {P : α → Prop} {l : List α} {a : α} (h : ∀ q ∈ l, P q) (ha : P a) : ∀ q ∈ l ++ [a], P q := by
  intro q hq
  rcases List.mem_append.mp hq with hq | hq
  · exact h q hq
  · cases List.mem_singleton.mp hq; exact ha
theorem off_cons {T : Addr} {o : Obj} {X : List (Addr × Obj)} {lm ld la : Addr} (h : ∀ p ∈ X, p.1 ≠ lm ∧ p.1 ≠ ld ∧ p.1 ≠ la) (h1 : @Ne Nat T lm) (h2 : @Ne Nat T ld) (h3 : @Ne Nat T la) : ∀ p ∈ (T, o) :: X, p.1 ≠ lm ∧ p.1 ≠ ld ∧ p.1 ≠ la :=
  List.forall_mem_cons.mpr ⟨⟨h1, h2, h3⟩, h⟩
section
variable {lm ld la : Addr} {k j nm nd na : Nat} {am ad aa : Array Value} {X : List (Addr × Obj)} {ms ds : List (Int × Int)} {as : List (Int × Option Int)} (off : ∀ p ∈ X, p.1 ≠ lm ∧ p.1 ≠ ld ∧ p.1 ≠ la)
  (hm : DatAll X am.toList (ms.map datP)) (hd : DatAll X ad.toList (ds.map datP)) (ha : DatAll X aa.toList (as.map datA)) (okm : MsOk ms) (okd : DsOk ds) (oka : AsOk as) (lm' : 1 ≤ ms.length ∧ ms.length ≤ k + 1) (ld' : ds.length ≤ k + 1) (la' : as.length ≤ j)
include off hm hd ha okm okd oka lm' ld' la'
theorem DInv.m {T : Addr} {a b : Int} {t u : Tok} (h1 : @Ne Nat T lm) (h2 : @Ne Nat T ld) (h3 : @Ne Nat T la) (q1 : ModeOk a) (q2 : b ∈ sizes) :
    DInv lm ld la (k + 1) (j + 2) ((lm, W.listOf (am.push (.ref T)) (nm + 1)) :: (ld, W.listOf ad nd) :: (la, W.listOf aa na) :: (T, { cls := .type "tuple", data := .seq #[.int a t, .int b u] }) :: X) :=
  ⟨_, _, _, _, _, _, _, ms ++ [(a, b)], ds, as, rfl, off_cons off h1 h2 h3, by rw [List.map_append]; exact dat_snoc hm (dat_pair (.int _ _) (.int _ _)), dat_more hd, dat_more ha, ok_snoc okm ⟨q1, q2⟩, okd, oka, by rw [List.length_append, List.length_singleton]; omega, by omega, by omega⟩
theorem DInv.d {T : Addr} {a b : Int} {t u : Tok} (h1 : @Ne Nat T lm) (h2 : @Ne Nat T ld) (h3 : @Ne Nat T la) (q1 : ModeOk a) (q2 : 0 ≤ b ∧ b < 4) :
    DInv lm ld la (k + 1) (j + 2) ((lm, W.listOf am nm) :: (ld, W.listOf (ad.push (.ref T)) (nd + 1)) :: (la, W.listOf aa na) :: (T, { cls := .type "tuple", data := .seq #[.int a t, .int b u] }) :: X) :=
  ⟨_, _, _, _, _, _, _, ms, ds ++ [(a, b)], as, rfl, off_cons off h1 h2 h3, dat_more hm, by rw [List.map_append]; exact dat_snoc hd (dat_pair (.int _ _) (.int _ _)), dat_more ha, okm, ok_snoc okd ⟨q1, q2⟩, oka, by omega, by rw [List.length_append]; exact Nat.succ_le_succ ld', by omega⟩
theorem DInv.a1 {T : Addr} {a : Int} {c : Option Int} {t : Tok} {v : Value} (h1 : @Ne Nat T lm) (h2 : @Ne Nat T ld) (h3 : @Ne Nat T la) (q1 : ModeOk a) (q2 : (c = none ∧ v = .none) ∨ (c = some a ∧ ∃ u, v = .int a u)) :
    DInv lm ld la k (j + 1) ((lm, W.listOf am nm) :: (ld, W.listOf ad nd) :: (la, W.listOf (aa.push (.ref T)) (na + 1)) :: (T, { cls := .type "tuple", data := .seq #[.int a t, v] }) :: X) := by
  have hv : ∀ Y, DatIn Y v (datO c) := fun Y => by
    rcases q2 with ⟨rfl, rfl⟩ | ⟨rfl, u, rfl⟩
    · exact .none
    · exact .int _ _
  have hc : c = none ∨ c = some a := by
    rcases q2 with ⟨h, _⟩ | ⟨h, _⟩
    · exact .inl h
    · exact .inr h
  exact ⟨_, _, _, _, _, _, _, ms, ds, as ++ [(a, c)], rfl, off_cons off h1 h2 h3, dat_more hm, dat_more hd, by rw [List.map_append]; exact dat_snoc ha (dat_pair (.int _ _) (hv _)), okm, okd, ok_snoc oka ⟨q1, hc⟩, by omega, by omega, by rw [List.length_append]; exact Nat.succ_le_succ la'⟩
end
theorem DInv.up {lm ld la : Addr} {k j k' j' : Nat} {news : List (Addr × Obj)} (h : DInv lm ld la k j news) (hk : k ≤ k') (hj : j ≤ j') : DInv lm ld la k' j' news := by
  obtain ⟨am, nm, ad, nd, aa, na, X, ms, ds, as, e, off, hm, hd, ha, okm, okd, oka, l1, l2, l3⟩ := h
  exact ⟨am, nm, ad, nd, aa, na, X, ms, ds, as, e, off, hm, hd, ha, okm, okd, oka, by omega, by omega, by omega⟩
theorem DInv.a2 {lm ld la : Addr} {k j : Nat} {am ad aa : Array Value} {nm nd na : Nat} {X : List (Addr × Obj)} (h : DInv lm ld la k j ((lm, W.listOf am nm) :: (ld, W.listOf ad nd) :: (la, W.listOf aa na) :: X)) {T : Addr} {a : Int} {c : Option Int} {t : Tok} {v : Value} (h1 : @Ne Nat T lm) (h2 : @Ne Nat T ld) (h3 : @Ne Nat T la) (q1 : ModeOk a) (q2 : (c = none ∧ v = .none) ∨ (c = some a ∧ ∃ u, v = .int a u)) :
    DInv lm ld la k (j + 1) ((lm, W.listOf am nm) :: (ld, W.listOf ad nd) :: (la, W.listOf (aa.push (.ref T)) (na + 1)) :: (T, { cls := .type "tuple", data := .seq #[.int a t, v] }) :: X) := by
  obtain ⟨am', nm', ad', nd', aa', na', X', ms, ds, as, e, off, hm, hd, ha, okm, okd, oka, l1, l2, l3⟩ := h
  simp only [List.cons.injEq, Prod.mk.injEq, true_and] at e
  obtain ⟨e1, e2, e3, rfl⟩ := e
  have f1 := (Data.seq.inj (congrArg Obj.data e1))
  have f2 := (Data.seq.inj (congrArg Obj.data e2))
  have f3 := (Data.seq.inj (congrArg Obj.data e3))
  obtain ⟨rfl, rfl⟩ := f1
  obtain ⟨rfl, rfl⟩ := f2
  obtain ⟨rfl, rfl⟩ := f3
  exact DInv.a1 off hm hd ha okm okd oka l1 l2 l3 h1 h2 h3 q1 q2
theorem News.sub {g h : Heap} {L : Addr} {a b : List (Addr × Obj)} (N : News g L h b) (s : ∀ p ∈ a, p ∈ b) : News g L h a := fun p hp => N p (s p hp)
end Mine
end
section
open PySem PySem.W PySem.Calls PyProof.Rows
set_option linter.unusedSimpArgs false
set_option linter.unusedVariables false
set_option compiler.extract_closed false
namespace Mine
local macro_rules | `(tactic| k_ne) => `(tactic| first
  | with_reducible assumption
  | with_reducible exact Ne.symm (by with_reducible assumption)
  | with_reducible exact Nat.ne_of_gt (by with_reducible assumption)
  | with_reducible exact Nat.ne_of_lt (by with_reducible assumption)
  | (refine Nat.ne_of_gt ?_; walk_at "le9")
  | (refine Nat.ne_of_lt ?_; walk_at "le9")
  | (refine Nat.ne_of_gt ?_; walk_at "and9")
  | (refine Nat.ne_of_lt ?_; walk_at "and9")
  | walk_at "and9"
  | (refine Ne.symm ?_; walk_at "and9")
  | (refine neN ?_; (try dsimp only); omega))
local macro_rules | `(tactic| walk_at "and9") => `(tactic| ((with_reducible apply and_l); (try with_reducible assumption); (iterate 10 (try ((with_reducible apply and_r); (try with_reducible assumption)))); done))
local macro_rules | `(tactic| walk_at "le9") => `(tactic| first | with_reducible exact lt_s0 | (with_reducible refine lt_s ?_; walk_at "le9"))
local macro_rules | `(tactic| walk_at "eval Name") => `(tactic| k_dflt (first | ((with_reducible show wpAny _ _ (eval (Expr.Name _ _) (compEnvC _ _ _ _)) _ _ _); (first | (refine' LCgL.ld_own ?N ?m ?C ?x ?_; (case N => k_asm); (case m => k_mem); (case C => assumption); (case x => assumption)) | (refine' lcf_cell ?N ?c ?m ?d ?_ ?a ?b; (case a => rfl); (case b => rfl); (case N => k_asm); (case c => rfl); (case m => k_mem); (case d => first | rfl | k_asm); k_whole) | (refine' lcf_free ?N ?c ?m ?d ?_ ?a ?b; (case a => rfl); (case b => rfl); (case N => k_asm); (case c => rfl); (case m => k_mem); (case d => first | rfl | k_asm); k_whole) | refine LCgL.ld_global (by k_asm) (by k_asm) (by k_asm) (by k_is) ?_ | refine LCgL.ld_built (by k_asm) (by k_asm) (by k_asm) (by k_is) (by boot_by_name) (by decide) ?_)) | (refine' nameX_L ?F ?v ?_ ?a ?b; (case F => k_asm); (case a => rfl); (case b => rfl); (case v => rfl); k_whole) | (refine' nameX_C ?N ?c ?m ?d ?_ ?a ?b; (case a => rfl); (case b => rfl); (case N => k_asm); (case c => rfl); (case m => k_mem); (case d => first | rfl | k_asm); k_whole) | (refine' nameX_K ?F ?X ?T ?e ?_ ?a ?b; (case F => k_asm); (case X => k_asm); (case T => k_asm); (case a => rfl); (case b => rfl); (case e => k_is); k_whole) | (refine' nameX_B ?F ?X ?T ?e ?v ?n ?_ ?a ?b; (case F => k_asm); (case X => k_asm); (case T => k_asm); (case a => rfl); (case b => rfl); (case e => k_is); (case v => boot_fast); (case n => decide); k_whole)))
local macro_rules | `(tactic| walk_at "eval Constant int") => `(tactic| refine wpAny_Constant_int ?_)
local macro_rules | `(tactic| walk_at "eval Constant str") => `(tactic| refine Calls.Constant_str ?_)
local macro_rules | `(tactic| walk_at "evv") => `(tactic| first | (refine' evv_L ?F ?v ?a ?b ?d; (case F => k_asm); (case a => rfl); (case b => rfl); (case v => rfl); (case d => decide)) | (refine' evv_C ?N ?c ?m ?d ?a ?b ?e; (case a => rfl); (case b => rfl); (case N => k_asm); (case c => rfl); (case m => k_mem); (case d => first | rfl | k_asm); (case e => decide)) | (refine' evv_own ?N ?m ?C ?x ?a ?b ?e; (case a => rfl); (case b => rfl); (case N => k_asm); (case m => k_mem); (case C => assumption); (case x => assumption); (case e => decide)) | (refine' evv_cell ?N ?c ?m ?d ?a ?b ?e; (case a => rfl); (case b => rfl); (case N => k_asm); (case c => rfl); (case m => k_mem); (case d => first | rfl | k_asm); (case e => decide)) | (refine' evv_free ?N ?c ?m ?d ?a ?b ?e ?f; (case a => rfl); (case b => rfl); (case N => k_asm); (case c => rfl); (case m => k_mem); (case d => first | rfl | k_asm); (case e => decide); (case f => decide)))
local macro_rules | `(tactic| walk_at "evi") => `(tactic| first | exact evi_const | (refine' evi_mod ?l ?r ?h; (case l => walk_at "evi"); (case r => walk_at "evi"); (case h => first | decide | omega)) | (refine' evi_div ?l ?r ?h ?s; (case l => walk_at "evi"); (case r => walk_at "evi"); (case h => first | decide | omega); (case s => decide +kernel)) | (refine' evi_add ?l ?r; (case l => walk_at "evi"); (case r => walk_at "evi")) | (refine' evi_sub ?l ?r; (case l => walk_at "evi"); (case r => walk_at "evi")) | (refine' evi_mul ?l ?r ?h; (case l => walk_at "evi"); (case r => walk_at "evi"); (case h => mul_fits)) | (refine' evi_pow ?l ?r ?e ?n ?z; (case l => walk_at "evi"); (case r => walk_at "evi"); (case n => decide); (case z => decide); (case e => (simp only [Nat.reduceAdd, Nat.zero_add, Int.cast_ofNat_Int, Int.natCast_zero, Int.natCast_one, Int.reducePow, Int.zero_add, Int.add_zero, Int.reduceAdd, Int.reduceMul, Int.reduceSub, Int.reduceToNat, Int.sub_zero]; exact rfl))) | (refine' evi_item ?v ?N ?m ?i ?k ?a ?b ?f ?s ?g; (case v => walk_at "evv"); (case N => k_asm); (case m => k_mem); (case i => first | assumption | repeat constructor); (case k => walk_at "evi"); (case a => first | kxi_fact | omega); (case b => first | kxi_fact | omega); (case f => first | kxi_fact | omega); (case s => (intro _; with_unfolding_all rfl)); (case g => (intro _; with_unfolding_all rfl))) | (refine' evi_val ?l; (case l => walk_at "evv")))
local macro_rules | `(tactic| walk_at "eval BinOp") => `(tactic| first | (k_dflt (refine' use_evi ?zz ?_; (case zz => walk_at "evi")); intro _ _) | refine wpAny_BinOp ?_)
local macro_rules | `(tactic| walk_at "eval Subscript") => `(tactic| refine Subscript_ ?_)
local macro_rules | `(tactic| walk_at "eval List") => `(tactic| refine List_ ?_)
local macro_rules | `(tactic| walk_at "eval Tuple") => `(tactic| refine Tuple_ ?_)
local macro_rules | `(tactic| walk_at "eval IfExp") => `(tactic| refine IfExp_ ?_)
local macro_rules | `(tactic| walk_at "spliced") => `(tactic| first | refine args_cons ?_ | (refine args_nil ?_; try simp only [List.cons_append, List.nil_append]))
local macro_rules | `(tactic| walk_at "binaryOp Mod int int") => `(tactic| ((with_reducible refine mod_int' ?_ ?_); first | k_dflt decide | omega))
local macro_rules | `(tactic| walk_at "binaryOp FloorDiv int int") => `(tactic| ((with_reducible refine floordiv_int ?_ ?_); first | k_dflt decide | omega))
local macro_rules | `(tactic| walk_at "binaryOp Add int int") => `(tactic| with_reducible refine add_int ?_)
local macro_rules | `(tactic| walk_at "binaryOp Sub int int") => `(tactic| with_reducible refine sub_int ?_)
local macro_rules | `(tactic| walk_at "binaryOp Pow int int") => `(tactic| ((with_reducible refine' pow_c ?e ?n ?z ?_); (case n => k_dflt decide); (case z => k_dflt decide); (case e => k_dflt (simp only [Nat.reduceAdd, Nat.zero_add, Int.cast_ofNat_Int, Int.natCast_zero, Int.natCast_one, Int.reducePow, Int.zero_add, Int.add_zero, Int.reduceAdd, Int.reduceMul, Int.reduceSub, Int.reduceToNat, Int.sub_zero]; exact rfl))))
local macro_rules | `(tactic| walk_at "storeName") => `(tactic| k_dflt (first | (refine' storeX_L ?F ?N ?_ ?a ?b; (case F => k_asm); (case N => k_asm); (case a => rfl); (case b => rfl); k_whole; intro h' F' N'; (try k_sweep)) | (refine' storeX_C ?F ?N ?c ?U ?d ?_ ?a ?b; (case a => rfl); (case b => rfl); (case F => k_asm); (case N => k_asm); (case c => rfl); (case U => k_updF); (case d => k_asm); k_whole; intro h' o' F' N' d'; (try dsimp only at N'); (try k_sweep))))
local macro_rules | `(tactic| walk_at "bindName") => `(tactic| refine bindName_ ?_)
local macro_rules | `(tactic| walk_at "assignInOrder") => `(tactic| first | refine assignInOrder_cons ?_ | refine assignInOrder_nil ?_)
local macro_rules | `(tactic| walk_at "execs cons") => `(tactic| ((try dsimp only); (try k_gentoks); (try k_fold); (with_reducible refine execs_seq ?_); intro Qs9 hN9 hR9))
section
theorem two_tab {a b d : Str} (ha : a.length = 2) (hb : b.length = 2) {n : Nat} (hn : n < 2) : ([a, b].getD n d).length = 2 := by
  match n, hn with
  | 0, _ => exact ha
  | 1, _ => exact hb
theorem item_two {prog : Program} {w : World} {A : Around} {E : Value → Shared → Prop} {s : Shared} {value slice : PySem.Expr} {x : Str} {t : Tok} {Q : Value → Shared → Prop} {i : Int} {u : Tok} (hx : x.length = 2) (h1 : 0 ≤ i) (h2 : i < 2)
    (h : (Txt.item x i).length = 1 → Q (.str (Txt.item x i) s.toks) { s with toks := s.toks + 1 })
    (hs : subscripted slice false (.str x t) (.int i u) = operate [.str x t, .int i u] (getItem (.str x t) (.int i u)) := by with_unfolding_all rfl)
    (ht : ∀ r, letTemporaryGo value (.str x t) r = pure () := by intro _; with_unfolding_all rfl) :
    wpAny (model prog w) A (subscriptTail value slice (.str x t) (.int i u)) Q E s :=
  item_str (fitsSsize_of (N := 2) (by omega) (by omega) (by decide)) (by omega) (by omega) (fun hh => h (by omega)) hs ht
/-- the k-th figure of a mode's rights, the bit above it, its signs -/
def figP (m : Int) (k : Nat) : Int := (m.fdiv (8 ^ (2 - (0 + (k : Int))).toNat)).fmod 8
def abvP (m : Int) (k : Nat) : Int := (m.fdiv (2 ^ (11 - (0 + (k : Int))).toNat)).fmod 2
def endsK (k : Nat) : Str := if (0 : Int) + k = 2 then Str.ofString "Tt" else Str.ofString "Ss"
theorem endsK_len (k : Nat) : (endsK k).length = 2 := by unfold endsK; split <;> decide +kernel
theorem figP_rng {m : Int} {k : Nat} : 0 ≤ figP m k ∧ figP m k < 8 := ⟨Int.fmod_nonneg_of_pos _ (by decide), Int.fmod_lt_of_pos _ (by decide)⟩
theorem abvP_rng {m : Int} {k : Nat} : 0 ≤ abvP m k ∧ abvP m k < 2 := ⟨Int.fmod_nonneg_of_pos _ (by decide), Int.fmod_lt_of_pos _ (by decide)⟩
theorem p8 {k : Nat} (h : k < 3) : ((8 : Int) ^ (2 - (0 + (k : Int))).toNat ≠ 0 ∧ ((8 : Int) ^ (2 - (0 + (k : Int))).toNat).natAbs.log2 < 9000 ∧ (0 : Int) ≤ 2 - (0 + (k : Int)) ∧ (Builtin.Int.intBits 8 : Int) * (2 - (0 + (k : Int))) ≤ 2 ^ 27)
    ∧ (2 : Int) ^ (11 - (0 + (k : Int))).toNat ≠ 0 ∧ ((2 : Int) ^ (11 - (0 + (k : Int))).toNat).natAbs.log2 < 9000 ∧ (0 : Int) ≤ 11 - (0 + (k : Int)) ∧ (Builtin.Int.intBits 2 : Int) * (11 - (0 + (k : Int))) ≤ 2 ^ 27 := by
  obtain rfl | rfl | rfl : k = 0 ∨ k = 1 ∨ k = 2 := by omega
  all_goals decide +kernel

def kindS (m : Int) : Str := Txt.item (Str.ofString "?pc?d?b?-?l?s???") ((m.fdiv 4096).fmod 16)
def rwxS (ends : Str) (f a : Int) : Str := Txt.item (Str.ofString "-r") (f.fdiv 4) ++ Txt.item (Str.ofString "-w") ((f.fdiv 2).fmod 2) ++ Txt.item ([Str.ofString "-x", ends].getD a.toNat Str.empty) (f.fmod 2)
def lawParts (m : Int) : List Str := [kindS m, rwxS (Str.ofString "Ss") ((m.fdiv 64).fmod 8) ((m.fdiv 2048).fmod 2), rwxS (Str.ofString "Ss") ((m.fdiv 8).fmod 8) ((m.fdiv 1024).fmod 2), rwxS (Str.ofString "Tt") ((m.fdiv 1).fmod 8) ((m.fdiv 512).fmod 2)]
def partK (m : Int) (k : Nat) : Str := rwxS (endsK k) (figP m k) (abvP m k)
theorem parts_eq (m : Int) : kindS m :: (List.range 3).map (partK m) = lawParts m := rfl
set_option maxRecDepth 100000 in
set_option maxHeartbeats 8000000 in
theorem c_parts {w : World} (m : Int) (t : Tok) : Ct w 1 209 [.int m t] (fun _ => True) (NewStrs (lawParts m)) := by
  w_strict (
    intro p loose mean mg mb dp fr gd un s Q E X T hdp hun _ hret
    (k_dflt (refine' enter ?X ?T ?ho ?hcd ?hroom ?hbind ?hloc ?_ ?c2 ?c3 ?c4 ?c5; (case X => k_asm); (case T => k_asm); (case ho => k_is); (case hcd => k_is); (case hroom => (first | assumption | exact room2 (by assumption) rfl | exact room1 (by assumption) rfl | exact room0 (by assumption) | omega | ((try dsimp only [Around.deeper, Around.in1]); omega) | ((try simp only [depth_deeper, units_deeper, depth_in1, units_in1] at *); omega))); (case hbind => first | exact BindsTo.of_eq rfl | exact binds_K (by k_in) rfl (by k_is) rfl rfl rfl); (case hloc => exact locs rfl); (case c2 => exact rfl); (case c3 => exact rfl); (case c4 => exact rfl); (case c5 => decide); k_whole; intro _ _ _ _; (try dsimp only); (try k_fold)))
    repeat ((((fail_if_success (with_reducible show wpAny _ _ (exec (Stmt.For _ _ _ _ _) _) _ _ _)); (fail_if_success (with_reducible show wpAny _ _ (pyIter _) _ _ _)); (first | (k_unfold; (try dsimp only)) | (refine' (?hh : NextQ _ _) _ ?_; (case hh => with_reducible assumption)) | (refine' (?hh : RestQ _ _) _ _ True.intro ?_; (case hh => with_reducible assumption)) | (((with_reducible show wpAny _ _ (subscriptTail _ _ (Value.str (List.getD _ _ _) _) (Value.int _ _)) _ _ _); k_dflt (refine item_two (two_tab (by decide +kernel) (endsK_len _) (by assumption)) (by kxi_fact) (by kxi_fact) ?_); intro _; walk_say "OWN two")) | ((with_reducible show wpAny _ _ (subscriptTail (PySem.Expr.Name _ _) (PySem.Expr.Name _ _) (Value.ref _) (Value.int _ _)) _ _ _); ((with_reducible show wpAny _ _ (subscriptTail _ _ (Value.ref _) (Value.int _ _)) _ _ _); k_dflt (refine' KTb.item_list ?ktbl ?ktbw ?ktb0 ?ktb1 ?ktbf ?_; (case ktbl => exact News.isList (by k_asm) (by k_mem)); (case ktbw => repeat constructor); (case ktb0 => ktb_idx); (case ktb1 => ktb_idx); (case ktbf => ktb_idx)); intro _ ktbLtZ; (simp only [List.length_cons, List.length_nil, Nat.zero_add] at ktbLtZ); walk_say "OWN ends")) | walk1 | (dsimp only; walk1) | (leave1; walk_say "STEP leave1"; try dsimp only)))))
    refine for_go ?_ (by intro _; rfl)
    repeat ((((fail_if_success (with_reducible show wpAny _ _ (exec (Stmt.For _ _ _ _ _) _) _ _ _)); (fail_if_success (with_reducible show wpAny _ _ (pyIter _) _ _ _)); (first | (k_unfold; (try dsimp only)) | (refine' (?hh : NextQ _ _) _ ?_; (case hh => with_reducible assumption)) | (refine' (?hh : RestQ _ _) _ _ True.intro ?_; (case hh => with_reducible assumption)) | (((with_reducible show wpAny _ _ (subscriptTail _ _ (Value.str (List.getD _ _ _) _) (Value.int _ _)) _ _ _); k_dflt (refine item_two (two_tab (by decide +kernel) (endsK_len _) (by assumption)) (by kxi_fact) (by kxi_fact) ?_); intro _; walk_say "OWN two")) | ((with_reducible show wpAny _ _ (subscriptTail (PySem.Expr.Name _ _) (PySem.Expr.Name _ _) (Value.ref _) (Value.int _ _)) _ _ _); ((with_reducible show wpAny _ _ (subscriptTail _ _ (Value.ref _) (Value.int _ _)) _ _ _); k_dflt (refine' KTb.item_list ?ktbl ?ktbw ?ktb0 ?ktb1 ?ktbf ?_; (case ktbl => exact News.isList (by k_asm) (by k_mem)); (case ktbw => repeat constructor); (case ktb0 => ktb_idx); (case ktb1 => ktb_idx); (case ktbf => ktb_idx)); intro _ ktbLtZ; (simp only [List.length_cons, List.length_nil, Nat.zero_add] at ktbLtZ); walk_say "OWN ends")) | walk1 | (dsimp only; walk1) | (leave1; walk_say "STEP leave1"; try dsimp only)))))
    rename_i l9 _ _ _ _ _ _ _ _ _ _ _ _ _ hR9 F9 N9 _
    refine loop_range (n := 3) (fun dr => dr = s.drawn) (fun i m₁ n₁ => m₁ (Str.ofString "mode") = some (.int m t) ∧ m₁ (Str.ofString "parts") = some (.ref l9) ∧ ∃ arr z, n₁ = [(l9, W.listOf arr z)] ∧ StrsAre arr.toList (kindS m :: (List.range i).map (partK m))) rfl F9 N9 hR9 (by decide) (by decide) rfl ⟨rfl, rfl, _, _, rfl, .cons _ _ .nil⟩ ?_ ?_
    · rintro i tt m₁ news₁ h tk dr oI I hi rfl ⟨e1, e2, arr, z, rfl, hys⟩ F1 N1 off1
      rw [map2 e1 e2] at F1
      have o1 := neN (off1 _ (.head _))
      dsimp only at o1
      clear F9 N9
      obtain ⟨⟨z1, z2, z3, z4⟩, y1, y2, y3, y4⟩ := p8 hi
      obtain ⟨f1, f2⟩ := figP_rng (m := m) (k := i)
      obtain ⟨a1, a2⟩ := abvP_rng (m := m) (k := i)
      have hz : arr.size ≤ 100 := by
        have := hys.length
        rw [Array.length_toList, List.length_cons, List.length_map, List.length_range] at this
        omega
      repeat' (first
        | ((with_reducible show (∃ _, _) ∧ _); exact ⟨⟨_, by first | rw [endsK, if_pos (by assumption)] | rw [endsK, if_neg (by assumption)]⟩, _, _, rfl, by k_asm, by k_asm⟩)
        | ((with_reducible show wpAny _ _ (eval (PySem.Expr.IfExp _ _ _ _) _) _ _ _); refine cut_val (fun v => ∃ t, v = .str (endsK i) t) (by k_asm) (by k_asm) (IfExp_ ?_) ?_)
        | ((with_reducible show ∀ _, _); rintro _ h3 tk3 ⟨t3, rfl⟩ F3 N3; (try k_sweep))
        | ((with_reducible show wpAny _ _ (eval (PySem.Expr.BinOp _ _ _ _) _) _ _ _); (k_dflt (refine' use_evi (n := figP m i) (evi_mod (evi_div ?za (evi_pow evi_const (evi_sub evi_const ?zb) rfl z3 z4) z1 z2) evi_const (by decide)) ?_; (case za => walk_at "evi"); (case zb => walk_at "evi"))); intro _ _)
        | ((with_reducible show wpAny _ _ (eval (PySem.Expr.BinOp _ _ _ _) _) _ _ _); (k_dflt (refine' use_evi (n := abvP m i) (evi_mod (evi_div ?za (evi_pow evi_const (evi_sub evi_const ?zb) rfl y3 y4) y1 y2) evi_const (by decide)) ?_; (case za => walk_at "evi"); (case zb => walk_at "evi"))); intro _ _)
        | (first | (k_unfold; (try dsimp only)) | (refine' (?hh : NextQ _ _) _ ?_; (case hh => with_reducible assumption)) | (refine' (?hh : RestQ _ _) _ _ True.intro ?_; (case hh => with_reducible assumption)) | (((with_reducible show wpAny _ _ (subscriptTail _ _ (Value.str (List.getD _ _ _) _) (Value.int _ _)) _ _ _); k_dflt (refine item_two (two_tab (by decide +kernel) (endsK_len _) (by assumption)) (by kxi_fact) (by kxi_fact) ?_); intro _; walk_say "OWN two")) | ((with_reducible show wpAny _ _ (subscriptTail (PySem.Expr.Name _ _) (PySem.Expr.Name _ _) (Value.ref _) (Value.int _ _)) _ _ _); ((with_reducible show wpAny _ _ (subscriptTail _ _ (Value.ref _) (Value.int _ _)) _ _ _); k_dflt (refine' KTb.item_list ?ktbl ?ktbw ?ktb0 ?ktb1 ?ktbf ?_; (case ktbl => exact News.isList (by k_asm) (by k_mem)); (case ktbw => repeat constructor); (case ktb0 => ktb_idx); (case ktb1 => ktb_idx); (case ktbf => ktb_idx)); intro _ ktbLtZ; (simp only [List.length_cons, List.length_nil, Nat.zero_add] at ktbLtZ); walk_say "OWN ends")) | walk1 | (dsimp only; walk1) | (leave1; walk_say "STEP leave1"; try dsimp only)))
      exact ⟨_, _, _, _, [(l9, W.listOf _ _)], rfl, rfl, by k_asm, News.sub (by k_asm) (List.forall_mem_cons.mpr ⟨by k_mem, List.forall_mem_cons.mpr ⟨by k_mem, fun _ h => nomatch h⟩⟩), List.forall_mem_cons.mpr ⟨o1, fun _ h => nomatch h⟩, rfl, rfl, _, _, rfl, by rw [List.range_succ, List.map_append, ← List.cons_append, Array.toList_push]; exact kct_snoc hys⟩
    · rintro m₁ news₁ h tk dr rfl ⟨e1, e2, arr, z, rfl, hys⟩ F1 N1
      rw [map2 e1 e2] at F1
      clear F9 N9
      repeat' ((first | (k_unfold; (try dsimp only)) | (refine' (?hh : NextQ _ _) _ ?_; (case hh => with_reducible assumption)) | (refine' (?hh : RestQ _ _) _ _ True.intro ?_; (case hh => with_reducible assumption)) | (((with_reducible show wpAny _ _ (subscriptTail _ _ (Value.str (List.getD _ _ _) _) (Value.int _ _)) _ _ _); k_dflt (refine item_two (two_tab (by decide +kernel) (endsK_len _) (by assumption)) (by kxi_fact) (by kxi_fact) ?_); intro _; walk_say "OWN two")) | ((with_reducible show wpAny _ _ (subscriptTail (PySem.Expr.Name _ _) (PySem.Expr.Name _ _) (Value.ref _) (Value.int _ _)) _ _ _); ((with_reducible show wpAny _ _ (subscriptTail _ _ (Value.ref _) (Value.int _ _)) _ _ _); k_dflt (refine' KTb.item_list ?ktbl ?ktbw ?ktb0 ?ktb1 ?ktbf ?_; (case ktbl => exact News.isList (by k_asm) (by k_mem)); (case ktbw => repeat constructor); (case ktb0 => ktb_idx); (case ktb1 => ktb_idx); (case ktbf => ktb_idx)); intro _ ktbLtZ; (simp only [List.length_cons, List.length_nil, Nat.zero_add] at ktbLtZ); walk_say "OWN ends")) | walk1 | (dsimp only; walk1) | (leave1; walk_say "STEP leave1"; try dsimp only)))
      (((try dsimp only); (try k_unfold); (try dsimp only)))
      exact hret _ _ _ (Fr.keep (by assumption)) (newStrs_of (by assumption) (by k_mem) (parts_eq m ▸ hys)))
end
section
def lawMode (q : Int) : Int := (([63, 62, 0, 21].getD (q.fmod 4).toNat 0) * 262144 + ([8, 4, 63, 62, 56, 10, 3, 40].getD ((q.fdiv 4).fmod 8).toNat 0) * 4096 + ([63, 62, 7, 6, 39, 45, 36, 0].getD ((q.fdiv 32).fmod 8).toNat 0) * 64 + ([63, 62, 7, 6, 39, 45, 36, 0].getD ((q.fdiv 256).fmod 8).toNat 0) + q.fdiv 2048).fmod 16777216
set_option maxRecDepth 100000 in
set_option maxHeartbeats 8000000 in
theorem c_mode {w : World} (q : Int) (t : Tok) : Ct w 1 181 [.int q t] (fun _ => True) (fun _ _ r => ∃ u, r = .int (lawMode q) u) := by
  w_strict (
    intro p loose mean mg mb dp fr gd un s Q E X T hdp hun _ hret
    (k_dflt (refine' enter ?X ?T ?ho ?hcd ?hroom ?hbind ?hloc ?_ ?c2 ?c3 ?c4 ?c5; (case X => k_asm); (case T => k_asm); (case ho => k_is); (case hcd => k_is); (case hroom => (first | assumption | exact room2 (by assumption) rfl | exact room1 (by assumption) rfl | exact room0 (by assumption) | omega | ((try dsimp only [Around.deeper, Around.in1]); omega) | ((try simp only [depth_deeper, units_deeper, depth_in1, units_in1] at *); omega))); (case hbind => first | exact BindsTo.of_eq rfl | exact binds_K (by k_in) rfl (by k_is) rfl rfl rfl); (case hloc => exact locs rfl); (case c2 => exact rfl); (case c3 => exact rfl); (case c4 => exact rfl); (case c5 => decide); k_whole; intro _ _ _ _; (try dsimp only); (try k_fold)))
    repeat' ((first | (k_unfold; (try dsimp only)) | (refine' (?hh : NextQ _ _) _ ?_; (case hh => with_reducible assumption)) | (refine' (?hh : RestQ _ _) _ _ True.intro ?_; (case hh => with_reducible assumption)) | walk1 | (dsimp only; walk1) | (leave1; walk_say "STEP leave1"; try dsimp only)))
    try dsimp only
    try k_unfold
    try dsimp only
    exact hret _ _ _ (Fr.keep (by assumption)) ⟨_, rfl⟩)
end
section
set_option maxRecDepth 100000 in
set_option maxHeartbeats 8000000 in
theorem c_buf {w : World} (b : Array UInt8) (t : Tok) : Ct w 1 28 [.bytes b t] (fun _ => True) (fun _ _ r => r = .bytes b t) := by
  w_strict (
    intro p loose mean mg mb dp fr gd un s Q E X T hdp hun hhow hret
    (k_dflt (refine' enter ?X ?T ?ho ?hcd ?hroom ?hbind ?hloc ?_ ?c2 ?c3 ?c4 ?c5; (case X => k_asm); (case T => k_asm); (case ho => k_is); (case hcd => k_is); (case hroom => (first | assumption | exact room2 (by assumption) rfl | exact room1 (by assumption) rfl | exact room0 (by assumption) | omega | ((try dsimp only [Around.deeper, Around.in1]); omega) | ((try simp only [depth_deeper, units_deeper, depth_in1, units_in1] at *); omega))); (case hbind => first | exact BindsTo.of_eq rfl | exact binds_K (by k_in) rfl (by k_is) rfl rfl rfl); (case hloc => exact locs rfl); (case c2 => exact rfl); (case c3 => exact rfl); (case c4 => exact rfl); (case c5 => decide); k_whole; intro _ _ _ _; (try dsimp only); (try k_fold)))
    repeat' ((first | (k_unfold; (try dsimp only)) | (refine' (?hh : NextQ _ _) _ ?_; (case hh => with_reducible assumption)) | (refine' (?hh : RestQ _ _) _ _ True.intro ?_; (case hh => with_reducible assumption)) | ((with_reducible show wpAny _ _ (call (Value.type "type") _ _) _ _ _); (refine call_type_of (typeIs_bytes _ _ _) (by with_unfolding_all decide) ?_)) | walk1 | (dsimp only; walk1) | (leave1; walk_say "STEP leave1"; try dsimp only)))
    try dsimp only
    try k_unfold
    try dsimp only
    exact hret _ _ _ (Fr.keep (by assumption)) rfl)
set_option maxRecDepth 100000 in
set_option maxHeartbeats 8000000 in
theorem c_truth {w : World} (b : Bool) : Ct w 1 35 [.bool b] (fun _ => True) (fun _ _ r => r = .bool b) := by
  w_strict (
    intro p loose mean mg mb dp fr gd un s Q E X T hdp hun hhow hret
    (k_dflt (refine' enter ?X ?T ?ho ?hcd ?hroom ?hbind ?hloc ?_ ?c2 ?c3 ?c4 ?c5; (case X => k_asm); (case T => k_asm); (case ho => k_is); (case hcd => k_is); (case hroom => (first | assumption | exact room2 (by assumption) rfl | exact room1 (by assumption) rfl | exact room0 (by assumption) | omega | ((try dsimp only [Around.deeper, Around.in1]); omega) | ((try simp only [depth_deeper, units_deeper, depth_in1, units_in1] at *); omega))); (case hbind => first | exact BindsTo.of_eq rfl | exact binds_K (by k_in) rfl (by k_is) rfl rfl rfl); (case hloc => exact locs rfl); (case c2 => exact rfl); (case c3 => exact rfl); (case c4 => exact rfl); (case c5 => decide); k_whole; intro _ _ _ _; (try dsimp only); (try k_fold)))
    repeat' ((first | (k_unfold; (try dsimp only)) | (refine' (?hh : NextQ _ _) _ ?_; (case hh => with_reducible assumption)) | (refine' (?hh : RestQ _ _) _ _ True.intro ?_; (case hh => with_reducible assumption)) | ((with_reducible show wpAny _ _ (call (Value.type "type") _ _) _ _ _); (refine call_type_of (typeIs_bytes _ _ _) (by with_unfolding_all decide) ?_)) | walk1 | (dsimp only; walk1) | (leave1; walk_say "STEP leave1"; try dsimp only)))
    all_goals try dsimp only
    all_goals try k_unfold
    all_goals try dsimp only
    all_goals exact hret _ _ _ (Fr.keep (by assumption)) (by simp_all))
end
section
def b64Ints : List Int := [65, 66, 67, 68, 69, 70, 71, 72, 73, 74, 75, 76, 77, 78, 79, 80, 81, 82, 83, 84, 85, 86, 87, 88, 89, 90, 97, 98, 99, 100, 101, 102, 103, 104, 105, 106, 107, 108, 109, 110, 111, 112, 113, 114, 115, 116, 117, 118, 119, 120, 121, 122, 48, 49, 50, 51, 52, 53, 54, 55, 56, 57, 43, 47]
theorem and63 (e : Int) : Builtin.bitAnd e 63 = e % 64 := kbt_mask e 6
theorem and65535 (e : Int) : Builtin.bitAnd e 65535 = e % 65536 := kbt_mask e 16
theorem and_low (k x : Nat) (h : x < 2 ^ 8) : (2 ^ 8 * k) &&& x = 0 := by
  apply Nat.eq_of_testBit_eq
  intro i
  rw [Nat.testBit_and, Nat.testBit_two_pow_mul, Nat.zero_testBit]
  by_cases hi : i ≥ 8
  · rw [Nat.testBit_lt_two_pow (Nat.lt_of_lt_of_le h (Nat.pow_le_pow_right (by decide) hi)), Bool.and_false]
  · simp [hi]
theorem or_low {a x : Int} (ha : 0 ≤ a) (h0 : 0 ≤ x) (h1 : x < 256) : Builtin.bitOr (a * 256) x = a * 256 + x := by
  rw [bitOr_and, bitAnd_pp (by omega) h0]
  have e : (a * 256).toNat = 2 ^ 8 * a.toNat := by omega
  rw [e, and_low _ _ (by omega)]
  omega
section
variable {prog : Program} {w : World} {A : Around} {E : Value → Shared → Prop} {s : Shared} {value slice : PySem.Expr} {b : Array UInt8} {t u : Tok} {e a x n c : Int} {Q : Value → Shared → Prop}
theorem b64_item (hk : KBw.bInts b = b64Ints)
    (h : ∀ t' k, 0 ≤ b64Ints.getD (e % 64).toNat 0 → b64Ints.getD (e % 64).toNat 0 < 256 → Q (.int (b64Ints.getD (e % 64).toNat 0) t') { s with toks := k })
    (hs : subscripted slice false (.bytes b t) (.int (e % 64) u) = operate [.bytes b t, .int (e % 64) u] (getItem (.bytes b t) (.int (e % 64) u)) := by with_unfolding_all rfl)
    (ht : ∀ r, letTemporaryGo value (.bytes b t) r = pure () := by intro _; with_unfolding_all rfl) : wpAny (model prog w) A (subscriptTail value slice (.bytes b t) (.int (e % 64) u)) Q E s := by
  have h64 : b64Ints.length = 64 := rfl
  exact KBw.item_K hk (by rw [h64]; omega) (by omega) (by rw [h64]; omega) h hs ht
theorem and_63 (h : Q (.int (e % 64) s.toks) { s with toks := s.toks + 1 }) : wpAny (model prog w) A (binaryOp .BitAnd (.int e t) (.int 63 u)) Q E s := and_int (by rw [and63]; exact h)
theorem and_65535 (h : Q (.int (e % 65536) s.toks) { s with toks := s.toks + 1 }) : wpAny (model prog w) A (binaryOp .BitAnd (.int e t) (.int 65535 u)) Q E s := and_int (by rw [and65535]; exact h)
theorem or_256 (ha : 0 ≤ a) (h0 : 0 ≤ x) (h1 : x < 256) (h : Q (.int (a * 256 + x) s.toks) { s with toks := s.toks + 1 }) : wpAny (model prog w) A (binaryOp .BitOr (.int (a * 256) t) (.int x u)) Q E s := or_int (by rw [or_low ha h0 h1]; exact h)
theorem shl_8 (h0 : 0 ≤ a) (h1 : a < 65536) (h : Q (.int (a * 256) s.toks) { s with toks := s.toks + 1 }) : wpAny (model prog w) A (binaryOp .LShift (.int a t) (.int 8 u)) Q E s :=
  lshift_int_small (by decide) (by decide) (by omega) h
theorem shr_c (e : (2 : Int) ^ n.toNat = c) (hn : 0 ≤ n) (hc : 0 ≤ c) (h : Q (.int (a / c) s.toks) { s with toks := s.toks + 1 }) : wpAny (model prog w) A (binaryOp .RShift (.int a t) (.int n u)) Q E s :=
  rshift_int hn (by rw [e, Int.fdiv_eq_ediv_of_nonneg _ hc]; exact h)
end
theorem evi_lc {prog : Program} {w : World} {A : Around} {E : Value → Shared → Prop} {env : Env} {hp : Heap} {gs : Array GenState} {dr : Drawn} {os : OsState} {l r : PySem.Expr} {p1 p2 p3 p4 p5 : Pos} {k1 k2 : Nat} {a x c : Int} (h1 : EvI prog w A E env hp gs dr os l a) (h2 : EvI prog w A E env hp gs dr os r x) (ha : 0 ≤ a ∧ a < 65536) (hx : 0 ≤ x ∧ x < 256) (hc : (a * 256 + x) % 65536 = c) :
    EvI prog w A E env hp gs dr os (.BinOp (.BinOp (.BinOp l .LShift (.Constant (.int 8) k1 p1) p2) .BitOr r p3) .BitAnd (.Constant (.int 65535) k2 p4) p5) c :=
  evi_bin (evi_bin (evi_bin h1 evi_const fun _ _ _ _ h => shl_8 ha.1 ha.2 h) h2 fun _ _ _ _ h => or_256 ha.1 hx.1 hx.2 h) evi_const fun _ _ _ _ h => and_65535 (hc ▸ h)
def sgn (f : Int) : Int := b64Ints.getD f.toNat 0
theorem b64_all : ∀ x ∈ b64Ints, 0 ≤ x ∧ x < 256 := by decide
theorem sgn_rng (f : Int) : 0 ≤ sgn f ∧ sgn f < 256 := by
  unfold sgn
  rw [List.getD_eq_getElem?_getD]
  cases h : b64Ints[f.toNat]? with
  | none => decide
  | some v => exact b64_all v (List.mem_of_getElem? h)
theorem sgn_out {a0 a1 a2 a3 f0 f1 f2 f3 : Int} {t : Tok} (h0 : a0 % 64 = f0) (h1 : a1 % 64 = f1) (h2 : a2 % 64 = f2) (h3 : a3 % 64 = f3) :
    Value.bytes (byteArr [b64Ints.getD (a0 % 64).toNat 0, b64Ints.getD (a1 % 64).toNat 0, b64Ints.getD (a2 % 64).toNat 0, b64Ints.getD (a3 % 64).toNat 0]) t = .bytes (byteArr [sgn f0, sgn f1, sgn f2, sgn f3]) t := by subst h0 h1 h2 h3; rfl
theorem make_bytes {prog : Program} {w : World} {A : Around} {E : Value → Shared → Prop} {s : Shared} {g : Heap} {L l : Addr} {m : Str → Option Value} {news : List (Addr × Obj)} {arr : Array Value} {n : Nat} {ns : List Int} {Q : Value → Shared → Prop} (F : Fr g L s.heap m) (N : News g L s.heap news) (hm : (l, W.listOf arr n) ∈ news)
    (hi : IntsAre arr.toList ns) (hr : ∀ n ∈ ns, 0 ≤ n ∧ n < 256) (hz : ns.length ≤ 1000) (hh : A.handled = none) (h : ∀ h' t k, Fr g L h' m → News g L h' news → Q (.bytes (byteArr ns) t) { s with heap := h', toks := k }) :
    wpAny (model prog w) A (call (.type "bytes") [.ref l]) Q E s :=
  call_bytes_ints (vs := arr.toList) ⟨_, (N _ hm).1, rfl, n, by simp [W.listOf]⟩ hi hr (by rw [hi.length, sizeLine_eq]; omega) hh fun h' t k st => h h' t k (F.keeps st) (N.grown st)
theorem rng4 (a b c d : Int) : ∀ n ∈ [b64Ints.getD (a % 64).toNat 0, b64Ints.getD (b % 64).toNat 0, b64Ints.getD (c % 64).toNat 0, b64Ints.getD (d % 64).toNat 0], 0 ≤ n ∧ n < 256 := by
  intro n hn
  simp only [List.mem_cons, List.not_mem_nil, or_false] at hn
  rcases hn with rfl | rfl | rfl | rfl <;> exact sgn_rng _
set_option maxRecDepth 100000 in
set_option maxHeartbeats 8000000 in
theorem c_b2a {w : World} (b : Array UInt8) (x y z : Int) (hb : KBw.bInts b = [x, y, z]) (t : Tok) :
    CtK w 2 43 [.bytes b t] [(Str.ofString "newline", .bool false)] (fun _ => True) (fun _ _ r => ∃ u, r = .bytes (byteArr [sgn (x / 4), sgn (x % 4 * 16 + y / 16), sgn (y % 16 * 4 + z / 64), sgn (z % 64)]) u) := by
  w_strict (
    intro p loose mean mg mb dp fr gd un s Q E X T hdp hun hhow hret
    (k_dflt (refine' enter ?X ?T ?ho ?hcd ?hroom ?hbind ?hloc ?_ ?c2 ?c3 ?c4 ?c5; (case X => k_asm); (case T => k_asm); (case ho => k_is); (case hcd => k_is); (case hroom => (first | assumption | exact room2 (by assumption) rfl | exact room1 (by assumption) rfl | exact room0 (by assumption) | omega | ((try dsimp only [Around.deeper, Around.in1]); omega) | ((try simp only [depth_deeper, units_deeper, depth_in1, units_in1] at *); omega))); (case hbind => first | exact BindsTo.of_eq rfl | exact binds_K (by k_in) rfl (by k_is) rfl rfl rfl); (case hloc => exact locs rfl); (case c2 => exact rfl); (case c3 => exact rfl); (case c4 => exact rfl); (case c5 => decide); k_whole; intro _ _ _ _; (try dsimp only); (try k_fold)))
    repeat' (first
      | ((with_reducible show wpAny _ _ (eval (PySem.Expr.BinOp _ _ _ _) _) _ _ _); (k_dflt (refine' use_evi (evi_lc (c := x) ?zl ?zr ?za ?zx ?zc) ?_; (case zl => walk_at "evi"); (case zr => walk_at "evi"); (case za => omega); (case zx => omega); (case zc => omega))); intro _ _)
      | ((with_reducible show wpAny _ _ (eval (PySem.Expr.BinOp _ _ _ _) _) _ _ _); (k_dflt (refine' use_evi (evi_lc (c := x * 256 + y) ?zl ?zr ?za ?zx ?zc) ?_; (case zl => walk_at "evi"); (case zr => walk_at "evi"); (case za => omega); (case zx => omega); (case zc => omega))); intro _ _)
      | ((with_reducible show wpAny _ _ (eval (PySem.Expr.BinOp _ _ _ _) _) _ _ _); (k_dflt (refine' use_evi (evi_lc (c := ((x * 256 + y) * 256 + z) % 65536) ?zl ?zr ?za ?zx ?zc) ?_; (case zl => walk_at "evi"); (case zr => walk_at "evi"); (case za => omega); (case zx => omega); (case zc => omega))); intro _ _)
      | (first | (k_unfold; (try dsimp only)) | (refine' (?hh : NextQ _ _) _ ?_; (case hh => with_reducible assumption)) | (refine' (?hh : RestQ _ _) _ _ True.intro ?_; (case hh => with_reducible assumption)) | ((with_reducible show wpAny _ _ (call (Value.type "bytes") _ _) _ _ _); (k_dflt (refine' make_bytes ?F ?N ?m ?i ?r ?z ?h ?_; (case F => k_asm); (case N => k_asm); (case m => k_mem); (case i => exact .cons _ _ (.cons _ _ (.cons _ _ (.cons _ _ .nil)))); (case r => exact rng4 _ _ _ _); (case z => exact Nat.le_of_ble_eq_true rfl); (case h => rfl)); intro _ _ _ _ _; (try k_sweep))) | ((with_reducible show wpAny _ _ (binaryOp Operator.RShift (Value.int _ _) (Value.int _ _)) _ _ _); ((with_reducible refine' shr_c ?e ?n ?z ?_); (case n => k_dflt decide); (case e => k_dflt (simp only [Nat.reduceAdd, Nat.zero_add, Int.cast_ofNat_Int, Int.natCast_zero, Int.natCast_one, Int.reducePow, Int.zero_add, Int.add_zero, Int.reduceAdd, Int.reduceMul, Int.reduceSub, Int.reduceToNat, Int.sub_zero]; exact rfl)); (case z => k_dflt decide))) | ((with_reducible show wpAny _ _ (binaryOp Operator.LShift (Value.int _ _) (Value.int _ _)) _ _ _); ((with_reducible refine shl_8 ?_ ?_ ?_); omega; omega)) | ((with_reducible show wpAny _ _ (binaryOp Operator.BitOr (Value.int _ _) (Value.int _ _)) _ _ _); ((with_reducible refine or_256 ?_ ?_ ?_ ?_); omega; omega; omega)) | ((with_reducible show wpAny _ _ (binaryOp Operator.BitAnd (Value.int _ _) (Value.int _ _)) _ _ _); first | with_reducible refine and_63 ?_ | with_reducible refine and_65535 ?_) | ((with_reducible show wpAny _ _ (subscriptTail (PySem.Expr.Name _ _) (PySem.Expr.BinOp _ _ _ _) (Value.bytes _ _) (Value.int _ _)) _ _ _); (k_dflt (refine b64_item (by decide +kernel) ?_); intro _ _ _ _)) | ((with_reducible show wpAny _ _ (pyIter (Value.bytes _ _)) _ _ _); ((rename Fr _ _ _ _ => lF'Z); (rename News _ _ _ _ => lN'Z); (with_unfolding_all refine iter_bytesUnr (by rfl) lF'Z lN'Z (by assumption) ?_); clear lF'Z lN'Z; intro _ l1Z; (try k_lt l1Z))) | ((with_reducible show wpAny _ _ (call (Value.ref _) _ _) _ _ _); (k_dflt (refine' use_ct (c_truth _) ?F ?N ?X ?T ?d ?u ?P ?_; (case F => k_asm); (case N => k_asm); (case X => k_asm); (case T => k_asm); (case d => (first | assumption | exact room2 (by assumption) rfl | exact room1 (by assumption) rfl | exact room0 (by assumption) | omega | ((try dsimp only [Around.deeper, Around.in1]); omega) | ((try simp only [depth_deeper, units_deeper, depth_in1, units_in1] at *); omega))); (case u => (first | assumption | exact room2 (by assumption) rfl | exact room1 (by assumption) rfl | exact room0 (by assumption) | omega | ((try dsimp only [Around.deeper, Around.in1]); omega) | ((try simp only [depth_deeper, units_deeper, depth_in1, units_in1] at *); omega))); (case P => exact trivial); k_whole); intro _ _ _ _ _ _ hp9Z; subst hp9Z; (try dsimp only); (try k_sweep))) | ((with_reducible show wpAny _ _ (call (Value.ref _) _ _) _ _ _); (k_dflt (refine' use_ct (c_buf _ _) ?F ?N ?X ?T ?d ?u ?P ?_; (case F => k_asm); (case N => k_asm); (case X => k_asm); (case T => k_asm); (case d => (first | assumption | exact room2 (by assumption) rfl | exact room1 (by assumption) rfl | exact room0 (by assumption) | omega | ((try dsimp only [Around.deeper, Around.in1]); omega) | ((try simp only [depth_deeper, units_deeper, depth_in1, units_in1] at *); omega))); (case u => (first | assumption | exact room2 (by assumption) rfl | exact room1 (by assumption) rfl | exact room0 (by assumption) | omega | ((try dsimp only [Around.deeper, Around.in1]); omega) | ((try simp only [depth_deeper, units_deeper, depth_in1, units_in1] at *); omega))); (case P => exact trivial); k_whole); intro _ _ _ _ _ _ hp9Z; subst hp9Z; (try dsimp only); (try k_sweep))) | walk1 | (dsimp only; walk1) | (leave1; walk_say "STEP leave1"; try dsimp only)))
    (((try dsimp only); (try k_unfold); (try dsimp only)))
    refine hret _ _ _ (Fr.keep (by assumption)) ⟨_, sgn_out ?_ ?_ ?_ ?_⟩ <;> omega)
end
section
/-- the four octets that base 64 writes of three -/
def b64Out (x y z : Int) : List Int := [sgn (x / 4), sgn (x % 4 * 16 + y / 16), sgn (y % 16 * 4 + z / 64), sgn (z % 64)]
section
set_option maxRecDepth 100000 in
set_option maxHeartbeats 8000000 in
theorem c_b64 {w : World} (b : Array UInt8) (x y z : Int) (hb : KBw.bInts b = [x, y, z]) (t : Tok) :
    Ct w 3 51 [.bytes b t] (fun _ => True) (fun _ _ r => ∃ u, r = .bytes (byteArr (b64Out x y z)) u) := by
  w_strict (
    intro p loose mean mg mb dp fr gd un s Q E X T hdp hun hhow hret
    (k_dflt (refine' enter ?X ?T ?ho ?hcd ?hroom ?hbind ?hloc ?_ ?c2 ?c3 ?c4 ?c5; (case X => k_asm); (case T => k_asm); (case ho => k_is); (case hcd => k_is); (case hroom => (first | assumption | exact room2 (by assumption) rfl | exact room1 (by assumption) rfl | exact room0 (by assumption) | omega | ((try dsimp only [Around.deeper, Around.in1]); omega) | ((try simp only [depth_deeper, units_deeper, depth_in1, units_in1] at *); omega))); (case hbind => first | exact BindsTo.of_eq rfl | exact binds_K (by k_in) rfl (by k_is) rfl rfl rfl); (case hloc => exact locs rfl); (case c2 => exact rfl); (case c3 => exact rfl); (case c4 => exact rfl); (case c5 => decide); k_whole; intro _ _ _ _; (try dsimp only); (try k_fold)))
    repeat' ((first | (k_unfold; (try dsimp only)) | (refine' (?hh : NextQ _ _) _ ?_; (case hh => with_reducible assumption)) | (refine' (?hh : RestQ _ _) _ _ True.intro ?_; (case hh => with_reducible assumption)) | ((with_reducible show wpAny _ _ (call (Value.builtin "bytes.translate") _ _) _ _ _); (k_dflt (refine RB.call_tr (RB.table_size _ _) (by exact Nat.le_of_ble_eq_true rfl) ?_); intro _ _)) | ((with_reducible show wpAny _ _ (call (Value.builtin "bytes.maketrans") _ _) _ _ _); (k_dflt (refine RB.call_mt (by rfl) ?_); intro _ _)) | ((with_reducible show wpAny _ _ (getMethod (Value.bytes _ _) _ _) _ _ _); (refine RB.get_tr ?_)) | ((with_reducible show wpAny _ _ (getMethod (Value.type "bytes") _ _) _ _ _); (refine RB.get_mt ?_)) | ((with_reducible show wpAny _ _ (call (Value.ref _) _ _) _ _ _); (k_dflt (refine' use_ct (c_b2a _ _ _ _ (by assumption) _) ?F ?N ?X ?T ?d ?u ?P ?_; (case F => k_asm); (case N => k_asm); (case X => k_asm); (case T => k_asm); (case d => (first | assumption | exact room2 (by assumption) rfl | exact room1 (by assumption) rfl | exact room0 (by assumption) | omega | ((try dsimp only [Around.deeper, Around.in1]); omega) | ((try simp only [depth_deeper, units_deeper, depth_in1, units_in1] at *); omega))); (case u => (first | assumption | exact room2 (by assumption) rfl | exact room1 (by assumption) rfl | exact room0 (by assumption) | omega | ((try dsimp only [Around.deeper, Around.in1]); omega) | ((try simp only [depth_deeper, units_deeper, depth_in1, units_in1] at *); omega))); (case P => exact trivial); k_whole); intro _ _ _ _ _ _ hp9Z; obtain ⟨u9Z, hp9Z⟩ := hp9Z; subst hp9Z; (try dsimp only); (try k_sweep))) | walk1 | (dsimp only; walk1) | (leave1; walk_say "STEP leave1"; try dsimp only)))
    (((try dsimp only); (try k_unfold); (try dsimp only)))
    exact hret _ _ _ (Fr.keep (by assumption)) ⟨_, rfl⟩)
set_option maxRecDepth 100000 in
set_option maxHeartbeats 8000000 in
theorem c_b64a {w : World} (b : Array UInt8) (x y z : Int) (hb : KBw.bInts b = [x, y, z]) (t : Tok) (p q : UInt8) (ta : Tok) :
    Ct w 3 51 [.bytes b t, .bytes #[p, q] ta] (fun _ => True) (fun _ _ r => ∃ u, r = .bytes (RB.trans (RB.table #[43, 47] #[p, q]) (byteArr (b64Out x y z))) u) := by
  w_strict (
    intro p loose mean mg mb dp fr gd un s Q E X T hdp hun hhow hret
    (k_dflt (refine' enter ?X ?T ?ho ?hcd ?hroom ?hbind ?hloc ?_ ?c2 ?c3 ?c4 ?c5; (case X => k_asm); (case T => k_asm); (case ho => k_is); (case hcd => k_is); (case hroom => (first | assumption | exact room2 (by assumption) rfl | exact room1 (by assumption) rfl | exact room0 (by assumption) | omega | ((try dsimp only [Around.deeper, Around.in1]); omega) | ((try simp only [depth_deeper, units_deeper, depth_in1, units_in1] at *); omega))); (case hbind => first | exact BindsTo.of_eq rfl | exact binds_K (by k_in) rfl (by k_is) rfl rfl rfl); (case hloc => exact locs rfl); (case c2 => exact rfl); (case c3 => exact rfl); (case c4 => exact rfl); (case c5 => decide); k_whole; intro _ _ _ _; (try dsimp only); (try k_fold)))
    repeat' ((first | (k_unfold; (try dsimp only)) | (refine' (?hh : NextQ _ _) _ ?_; (case hh => with_reducible assumption)) | (refine' (?hh : RestQ _ _) _ _ True.intro ?_; (case hh => with_reducible assumption)) | ((with_reducible show wpAny _ _ (call (Value.builtin "bytes.translate") _ _) _ _ _); (k_dflt (refine RB.call_tr (RB.table_size _ _) (by exact Nat.le_of_ble_eq_true rfl) ?_); intro _ _)) | ((with_reducible show wpAny _ _ (call (Value.builtin "bytes.maketrans") _ _) _ _ _); (k_dflt (refine RB.call_mt (by rfl) ?_); intro _ _)) | ((with_reducible show wpAny _ _ (getMethod (Value.bytes _ _) _ _) _ _ _); (refine RB.get_tr ?_)) | ((with_reducible show wpAny _ _ (getMethod (Value.type "bytes") _ _) _ _ _); (refine RB.get_mt ?_)) | ((with_reducible show wpAny _ _ (call (Value.ref _) _ _) _ _ _); (k_dflt (refine' use_ct (c_b2a _ _ _ _ (by assumption) _) ?F ?N ?X ?T ?d ?u ?P ?_; (case F => k_asm); (case N => k_asm); (case X => k_asm); (case T => k_asm); (case d => (first | assumption | exact room2 (by assumption) rfl | exact room1 (by assumption) rfl | exact room0 (by assumption) | omega | ((try dsimp only [Around.deeper, Around.in1]); omega) | ((try simp only [depth_deeper, units_deeper, depth_in1, units_in1] at *); omega))); (case u => (first | assumption | exact room2 (by assumption) rfl | exact room1 (by assumption) rfl | exact room0 (by assumption) | omega | ((try dsimp only [Around.deeper, Around.in1]); omega) | ((try simp only [depth_deeper, units_deeper, depth_in1, units_in1] at *); omega))); (case P => exact trivial); k_whole); intro _ _ _ _ _ _ hp9Z; obtain ⟨u9Z, hp9Z⟩ := hp9Z; subst hp9Z; (try dsimp only); (try k_sweep))) | walk1 | (dsimp only; walk1) | (leave1; walk_say "STEP leave1"; try dsimp only)))
    all_goals (first | (exfalso; simp_all; done) | skip)
    (((try dsimp only); (try k_unfold); (try dsimp only)))
    exact hret _ _ _ (Fr.keep (by assumption)) ⟨_, rfl⟩)
end
end
section
open PySem PySem.W PySem.Calls PyProof.Rows PySem.Builtin
set_option maxRecDepth 100000
theorem byteArr3 {x y z : Int} (hx : 0 ≤ x ∧ x < 256) (hy : 0 ≤ y ∧ y < 256) (hz : 0 ≤ z ∧ z < 256) : KBw.bInts (byteArr [x, y, z]) = [x, y, z] := by
  have e : ∀ v : Int, 0 ≤ v ∧ v < 256 → ((v.toNat.toUInt8.toNat : Nat) : Int) = v := fun v hv => by
    have h2 : v.toNat < 256 := by omega
    simp [Nat.mod_eq_of_lt h2]; omega
  simp only [KBw.bInts, byteArr, List.map_cons, List.map_nil]
  rw [e x hx, e y hy, e z hz]
theorem trans4 (tb : Array UInt8) (a b c d : Int) : RB.trans tb (byteArr [a, b, c, d]) = #[tb.getD a.toNat.toUInt8.toNat a.toNat.toUInt8, tb.getD b.toNat.toUInt8.toNat b.toNat.toUInt8, tb.getD c.toNat.toUInt8.toNat c.toNat.toUInt8, tb.getD d.toNat.toUInt8.toNat d.toNat.toUInt8] := by
  simp [RB.trans, byteArr]
theorem table_get (p q : UInt8) (n : Nat) (d : UInt8) (hn : n < 256) : (RB.table #[43, 47] #[p, q]).getD n d = if n = 47 then q else if n = 43 then p else n.toUInt8 := by
  unfold RB.table
  simp only [List.zip_cons_cons, List.zip_nil_left, List.foldl_cons, List.foldl_nil]
  rw [Array.getD_eq_getD_getElem?]
  rw [Array.getElem?_setIfInBounds]
  have h47 : (47 : UInt8).toNat = 47 := rfl
  have h43 : (43 : UInt8).toNat = 43 := rfl
  rw [h47, h43]
  by_cases h1 : n = 47
  · subst h1; simp
  · rw [if_neg (fun e => h1 e.symm), if_neg h1, Array.getElem?_setIfInBounds]
    by_cases h2 : n = 43
    · subst h2; simp
    · rw [if_neg (fun e => h2 e.symm), if_neg h2]
      simp [hn]
/-- the signs' codes of the four alphabets -/
def alphaL (how : Int) : List Nat := ([65, 66, 67, 68, 69, 70, 71, 72, 73, 74, 75, 76, 77, 78, 79, 80, 81, 82, 83, 84, 85, 86, 87, 88, 89, 90, 97, 98, 99, 100, 101, 102, 103, 104, 105, 106, 107, 108, 109, 110, 111, 112, 113, 114, 115, 116, 117, 118, 119, 120, 121, 122, 48, 49, 50, 51, 52, 53, 54, 55, 56, 57] : List Nat) ++
  (if how = 0 then [43, 47] else if how = 1 then [47, 43] else if how = 2 then [45, 95] else [47, 47])
def figs (m : Int) : List Int := [m / 262144 % 64, m / 4096 % 64, m / 64 % 64, m % 64]
def alpha (how f : Int) : Nat := (alphaL how).getD f.toNat 0
def signS (how m : Int) : Str := ⟨((figs m).map (alpha how)).toArray⟩

def usTab : Array UInt8 := #[0, 1, 2, 3, 4, 5, 6, 7, 8, 9, 10, 11, 12, 13, 14, 15, 16, 17, 18, 19, 20, 21, 22, 23, 24, 25, 26, 27, 28, 29, 30, 31, 32, 33, 34, 35, 36, 37, 38, 39, 40, 41, 42, 45, 44, 45, 46, 95, 48, 49, 50, 51, 52, 53, 54, 55, 56, 57, 58, 59, 60, 61, 62, 63, 64, 65, 66, 67, 68, 69, 70, 71, 72, 73, 74, 75, 76, 77, 78, 79, 80, 81, 82, 83, 84, 85, 86, 87, 88, 89, 90, 91, 92, 93, 94, 95, 96, 97, 98, 99, 100, 101, 102, 103, 104, 105, 106, 107, 108, 109, 110, 111, 112, 113, 114, 115, 116, 117, 118, 119, 120, 121, 122, 123, 124, 125, 126, 127, 128, 129, 130, 131, 132, 133, 134, 135, 136, 137, 138, 139, 140, 141, 142, 143, 144, 145, 146, 147, 148, 149, 150, 151, 152, 153, 154, 155, 156, 157, 158, 159, 160, 161, 162, 163, 164, 165, 166, 167, 168, 169, 170, 171, 172, 173, 174, 175, 176, 177, 178, 179, 180, 181, 182, 183, 184, 185, 186, 187, 188, 189, 190, 191, 192, 193, 194, 195, 196, 197, 198, 199, 200, 201, 202, 203, 204, 205, 206, 207, 208, 209, 210, 211, 212, 213, 214, 215, 216, 217, 218, 219, 220, 221, 222, 223, 224, 225, 226, 227, 228, 229, 230, 231, 232, 233, 234, 235, 236, 237, 238, 239, 240, 241, 242, 243, 244, 245, 246, 247, 248, 249, 250, 251, 252, 253, 254, 255]
theorem usTab_size : usTab.size = 256 := by decide +kernel
/-- one octet of the answer is its alphabet's sign, an ASCII one -/
theorem code0 : ∀ i : Nat, i < 64 → (b64Ints.getD i 0).toNat.toUInt8.toNat = (alphaL 0).getD i 0 ∧ (b64Ints.getD i 0).toNat.toUInt8.toNat < 128 := by decide +kernel
theorem code2 : ∀ i : Nat, i < 64 → (usTab.getD (b64Ints.getD i 0).toNat.toUInt8.toNat (b64Ints.getD i 0).toNat.toUInt8).toNat = (alphaL 2).getD i 0 ∧ (usTab.getD (b64Ints.getD i 0).toNat.toUInt8.toNat (b64Ints.getD i 0).toNat.toUInt8).toNat < 128 := by decide +kernel
theorem code1' : ∀ i : Nat, i < 64 → ((if (b64Ints.getD i 0).toNat.toUInt8.toNat = 47 then 43 else if (b64Ints.getD i 0).toNat.toUInt8.toNat = 43 then 47 else (b64Ints.getD i 0).toNat.toUInt8.toNat.toUInt8 : UInt8)).toNat = (alphaL 1).getD i 0 ∧ (alphaL 1).getD i 0 < 128 := by decide +kernel
theorem code3' : ∀ i : Nat, i < 64 → ((if (b64Ints.getD i 0).toNat.toUInt8.toNat = 47 then 47 else if (b64Ints.getD i 0).toNat.toUInt8.toNat = 43 then 47 else (b64Ints.getD i 0).toNat.toUInt8.toNat.toUInt8 : UInt8)).toNat = (alphaL 3).getD i 0 ∧ (alphaL 3).getD i 0 < 128 := by decide +kernel
end
section
open PySem PySem.W PySem.Calls PyProof.Rows PySem.Builtin
set_option maxRecDepth 100000
/-- the octets of a number below 2 ** 24, as the law reckons them -/
abbrev oct0 (m : Int) : Int := m.fdiv 65536
abbrev oct1 (m : Int) : Int := (m.fdiv 256).fmod 256
abbrev oct2 (m : Int) : Int := m.fmod 256
theorem fdiv_pos (m : Int) {c : Int} (hc : 0 ≤ c) : m.fdiv c = m / c := Int.fdiv_eq_ediv_of_nonneg m hc
theorem fmod_pos (m : Int) {c : Int} (hc : 0 ≤ c) : m.fmod c = m % c := Int.fmod_eq_emod_of_nonneg m hc
theorem oct_rng {m : Int} (hm : 0 ≤ m ∧ m < 16777216) : (0 ≤ oct0 m ∧ oct0 m < 256) ∧ (0 ≤ oct1 m ∧ oct1 m < 256) ∧ 0 ≤ oct2 m ∧ oct2 m < 256 := by
  unfold oct0 oct1 oct2
  rw [fdiv_pos m (by decide), fdiv_pos m (by decide), fmod_pos _ (by decide), fmod_pos _ (by decide)]
  omega
theorem oct_list {m : Int} (hm : 0 ≤ m ∧ m < 16777216) : ∀ n ∈ [oct0 m, oct1 m, oct2 m], 0 ≤ n ∧ n < 256 := by
  obtain ⟨h0, h1, h2⟩ := oct_rng hm
  intro n hn
  simp only [List.mem_cons, List.not_mem_nil, or_false] at hn
  rcases hn with rfl | rfl | rfl <;> assumption
theorem oct_ints {m : Int} (hm : 0 ≤ m ∧ m < 16777216) : KBw.bInts (byteArr [oct0 m, oct1 m, oct2 m]) = [oct0 m, oct1 m, oct2 m] := by
  obtain ⟨h0, h1, h2⟩ := oct_rng hm
  exact byteArr3 h0 h1 h2
theorem out_figs {m : Int} (hm : 0 ≤ m ∧ m < 16777216) : b64Out (oct0 m) (oct1 m) (oct2 m) = (figs m).map sgn := by
  unfold b64Out figs oct0 oct1 oct2
  rw [fdiv_pos m (by decide), fdiv_pos m (by decide), fmod_pos _ (by decide), fmod_pos _ (by decide)]
  simp only [List.map_cons, List.map_nil, List.cons.injEq, and_true]
  exact ⟨congrArg sgn (by omega), congrArg sgn (by omega), congrArg sgn (by omega), congrArg sgn (by omega)⟩
theorem fig_lt (m c : Int) : (m / c % 64).toNat < 64 := by omega
theorem fig_lt' (m : Int) : (m % 64).toNat < 64 := by omega
section
variable {prog : Program} {w : World} {A : Around} {E : Value → Shared → Prop} {s : Shared} {t u : Tok} {m : Int} {Q : Value → Shared → Prop}
theorem decE {b : Array UInt8} {how : Int} (g : Int → UInt8) (hb : b = ((figs m).map g).toArray) (hg : ∀ f : Int, f.toNat < 64 → (g f).toNat = alpha how f ∧ (g f).toNat < 128)
    (h : ∀ t' k, Q (.str (signS how m) t') { s with toks := k }) : wpAny (model prog w) A (call (.builtin "bytes.decode") [.bytes b t, .str (PySem.Str.ofString "ascii") u]) Q E s := by
  subst hb
  have h0 := hg _ (fig_lt m 262144)
  have h1 := hg _ (fig_lt m 4096)
  have h2 := hg _ (fig_lt m 64)
  have h3 := hg _ (fig_lt' m)
  refine RB.call_dec h0.2 h1.2 h2.2 h3.2 fun t' k => ?_
  have := h t' k
  unfold signS figs at this
  simp only [List.map_cons, List.map_nil] at this
  rw [← h0.1, ← h1.1, ← h2.1, ← h3.1] at this
  exact this
theorem dec0 (hm : 0 ≤ m ∧ m < 16777216) (h : ∀ t' k, Q (.str (signS 0 m) t') { s with toks := k }) : wpAny (model prog w) A (call (.builtin "bytes.decode") [.bytes (byteArr (b64Out (oct0 m) (oct1 m) (oct2 m))) t, .str (PySem.Str.ofString "ascii") u]) Q E s :=
  decE (fun f => (sgn f).toNat.toUInt8) (by rw [out_figs hm]; rfl) (fun f hf => code0 _ hf) h
theorem dec2 (hm : 0 ≤ m ∧ m < 16777216) (h : ∀ t' k, Q (.str (signS 2 m) t') { s with toks := k }) : wpAny (model prog w) A (call (.builtin "bytes.decode") [.bytes (RB.trans usTab (byteArr (b64Out (oct0 m) (oct1 m) (oct2 m)))) t, .str (PySem.Str.ofString "ascii") u]) Q E s :=
  decE (fun f => usTab.getD (sgn f).toNat.toUInt8.toNat (sgn f).toNat.toUInt8) (by rw [out_figs hm]; exact trans4 _ _ _ _ _) (fun f hf => code2 _ hf) h
theorem dec1 (hm : 0 ≤ m ∧ m < 16777216) (h : ∀ t' k, Q (.str (signS 1 m) t') { s with toks := k }) : wpAny (model prog w) A (call (.builtin "bytes.decode") [.bytes (RB.trans (RB.table #[43, 47] #[47, 43]) (byteArr (b64Out (oct0 m) (oct1 m) (oct2 m)))) t, .str (PySem.Str.ofString "ascii") u]) Q E s :=
  decE (fun f => (RB.table #[43, 47] #[47, 43]).getD (sgn f).toNat.toUInt8.toNat (sgn f).toNat.toUInt8) (by rw [out_figs hm]; exact trans4 _ _ _ _ _) (fun f hf => by
    rw [table_get _ _ _ _ (UInt8.toNat_lt _)]
    have := code1' _ hf
    exact ⟨this.1, this.1 ▸ this.2⟩) h
theorem dec3 (hm : 0 ≤ m ∧ m < 16777216) (h : ∀ t' k, Q (.str (signS 3 m) t') { s with toks := k }) : wpAny (model prog w) A (call (.builtin "bytes.decode") [.bytes (RB.trans (RB.table #[43, 47] #[47, 47]) (byteArr (b64Out (oct0 m) (oct1 m) (oct2 m)))) t, .str (PySem.Str.ofString "ascii") u]) Q E s :=
  decE (fun f => (RB.table #[43, 47] #[47, 47]).getD (sgn f).toNat.toUInt8.toNat (sgn f).toNat.toUInt8) (by rw [out_figs hm]; exact trans4 _ _ _ _ _) (fun f hf => by
    rw [table_get _ _ _ _ (UInt8.toNat_lt _)]
    have := code3' _ hf
    exact ⟨this.1, this.1 ▸ this.2⟩) h
end
end
section
section
set_option maxRecDepth 100000 in
set_option maxHeartbeats 8000000 in
theorem c_std {w : World} (b : Array UInt8) (x y z : Int) (hb : KBw.bInts b = [x, y, z]) (t : Tok) :
    Ct w 4 58 [.bytes b t] (fun _ => True) (fun _ _ r => ∃ u, r = .bytes (byteArr (b64Out x y z)) u) := by
  w_strict (
    intro p loose mean mg mb dp fr gd un s Q E X T hdp hun hhow hret
    (k_dflt (refine' enter ?X ?T ?ho ?hcd ?hroom ?hbind ?hloc ?_ ?c2 ?c3 ?c4 ?c5; (case X => k_asm); (case T => k_asm); (case ho => k_is); (case hcd => k_is); (case hroom => (first | assumption | exact room2 (by assumption) rfl | exact room1 (by assumption) rfl | exact room0 (by assumption) | omega | ((try dsimp only [Around.deeper, Around.in1]); omega) | ((try simp only [depth_deeper, units_deeper, depth_in1, units_in1] at *); omega))); (case hbind => first | exact BindsTo.of_eq rfl | exact binds_K (by k_in) rfl (by k_is) rfl rfl rfl); (case hloc => exact locs rfl); (case c2 => exact rfl); (case c3 => exact rfl); (case c4 => exact rfl); (case c5 => decide); k_whole; intro _ _ _ _; (try dsimp only); (try k_fold)))
    repeat' ((first | (k_unfold; (try dsimp only)) | (refine' (?hh : NextQ _ _) _ ?_; (case hh => with_reducible assumption)) | (refine' (?hh : RestQ _ _) _ _ True.intro ?_; (case hh => with_reducible assumption)) | ((with_reducible show wpAny _ _ (call (Value.builtin "bytes.translate") _ _) _ _ _); (k_dflt (refine RB.call_tr usTab_size (by exact Nat.le_of_ble_eq_true rfl) ?_); intro _ _)) | ((with_reducible show wpAny _ _ (getMethod (Value.bytes _ _) _ _) _ _ _); (refine RB.get_tr ?_)) | ((with_reducible show wpAny _ _ (call (Value.ref _) _ _) _ _ _); (k_dflt (refine' use_ct (c_b64 _ _ _ _ (by assumption) _) ?F ?N ?X ?T ?d ?u ?P ?_; (case F => k_asm); (case N => k_asm); (case X => k_asm); (case T => k_asm); (case d => (first | assumption | exact room2 (by assumption) rfl | exact room1 (by assumption) rfl | exact room0 (by assumption) | omega | ((try dsimp only [Around.deeper, Around.in1]); omega) | ((try simp only [depth_deeper, units_deeper, depth_in1, units_in1] at *); omega))); (case u => (first | assumption | exact room2 (by assumption) rfl | exact room1 (by assumption) rfl | exact room0 (by assumption) | omega | ((try dsimp only [Around.deeper, Around.in1]); omega) | ((try simp only [depth_deeper, units_deeper, depth_in1, units_in1] at *); omega))); (case P => exact trivial); k_whole); intro _ _ _ _ _ _ hp9Z; obtain ⟨u9Z, hp9Z⟩ := hp9Z; subst hp9Z; (try dsimp only); (try k_sweep))) | walk1 | (dsimp only; walk1) | (leave1; walk_say "STEP leave1"; try dsimp only)))
    (((try dsimp only); (try k_unfold); (try dsimp only)))
    exact hret _ _ _ (Fr.keep (by assumption)) ⟨_, rfl⟩)
set_option maxRecDepth 100000 in
set_option maxHeartbeats 8000000 in
theorem c_us {w : World} (b : Array UInt8) (x y z : Int) (hb : KBw.bInts b = [x, y, z]) (t : Tok) :
    Ct w 4 65 [.bytes b t] (fun _ => True) (fun _ _ r => ∃ u, r = .bytes (RB.trans usTab (byteArr (b64Out x y z))) u) := by
  w_strict (
    intro p loose mean mg mb dp fr gd un s Q E X T hdp hun hhow hret
    (k_dflt (refine' enter ?X ?T ?ho ?hcd ?hroom ?hbind ?hloc ?_ ?c2 ?c3 ?c4 ?c5; (case X => k_asm); (case T => k_asm); (case ho => k_is); (case hcd => k_is); (case hroom => (first | assumption | exact room2 (by assumption) rfl | exact room1 (by assumption) rfl | exact room0 (by assumption) | omega | ((try dsimp only [Around.deeper, Around.in1]); omega) | ((try simp only [depth_deeper, units_deeper, depth_in1, units_in1] at *); omega))); (case hbind => first | exact BindsTo.of_eq rfl | exact binds_K (by k_in) rfl (by k_is) rfl rfl rfl); (case hloc => exact locs rfl); (case c2 => exact rfl); (case c3 => exact rfl); (case c4 => exact rfl); (case c5 => decide); k_whole; intro _ _ _ _; (try dsimp only); (try k_fold)))
    repeat' ((first | (k_unfold; (try dsimp only)) | (refine' (?hh : NextQ _ _) _ ?_; (case hh => with_reducible assumption)) | (refine' (?hh : RestQ _ _) _ _ True.intro ?_; (case hh => with_reducible assumption)) | ((with_reducible show wpAny _ _ (call (Value.builtin "bytes.translate") _ _) _ _ _); (k_dflt (refine RB.call_tr usTab_size (by exact Nat.le_of_ble_eq_true rfl) ?_); intro _ _)) | ((with_reducible show wpAny _ _ (getMethod (Value.bytes _ _) _ _) _ _ _); (refine RB.get_tr ?_)) | ((with_reducible show wpAny _ _ (call (Value.ref _) _ _) _ _ _); (k_dflt (refine' use_ct (c_b64 _ _ _ _ (by assumption) _) ?F ?N ?X ?T ?d ?u ?P ?_; (case F => k_asm); (case N => k_asm); (case X => k_asm); (case T => k_asm); (case d => (first | assumption | exact room2 (by assumption) rfl | exact room1 (by assumption) rfl | exact room0 (by assumption) | omega | ((try dsimp only [Around.deeper, Around.in1]); omega) | ((try simp only [depth_deeper, units_deeper, depth_in1, units_in1] at *); omega))); (case u => (first | assumption | exact room2 (by assumption) rfl | exact room1 (by assumption) rfl | exact room0 (by assumption) | omega | ((try dsimp only [Around.deeper, Around.in1]); omega) | ((try simp only [depth_deeper, units_deeper, depth_in1, units_in1] at *); omega))); (case P => exact trivial); k_whole); intro _ _ _ _ _ _ hp9Z; obtain ⟨u9Z, hp9Z⟩ := hp9Z; subst hp9Z; (try dsimp only); (try k_sweep))) | walk1 | (dsimp only; walk1) | (leave1; walk_say "STEP leave1"; try dsimp only)))
    (((try dsimp only); (try k_unfold); (try dsimp only)))
    exact hret _ _ _ (Fr.keep (by assumption)) ⟨_, rfl⟩)
end
end
section
section
set_option maxRecDepth 100000 in
set_option maxHeartbeats 8000000 in
theorem c_file {w : World} (m : Int) (hm : 0 ≤ m ∧ m < 16777216) (t : Tok) (how : Int) (hh : 0 ≤ how ∧ how < 4) (u : Tok) :
    Ct w 5 195 [.int m t, .int how u] (fun _ => True) (fun _ _ r => ∃ u, r = .str (signS how m) u) := by
  w_strict (
    intro p loose mean mg mb dp fr gd un s Q E X T hdp hun hhow hret
    (k_dflt (refine' enter ?X ?T ?ho ?hcd ?hroom ?hbind ?hloc ?_ ?c2 ?c3 ?c4 ?c5; (case X => k_asm); (case T => k_asm); (case ho => k_is); (case hcd => k_is); (case hroom => (first | assumption | exact room2 (by assumption) rfl | exact room1 (by assumption) rfl | exact room0 (by assumption) | omega | ((try dsimp only [Around.deeper, Around.in1]); omega) | ((try simp only [depth_deeper, units_deeper, depth_in1, units_in1] at *); omega))); (case hbind => first | exact BindsTo.of_eq rfl | exact binds_K (by k_in) rfl (by k_is) rfl rfl rfl); (case hloc => exact locs rfl); (case c2 => exact rfl); (case c3 => exact rfl); (case c4 => exact rfl); (case c5 => decide); k_whole; intro _ _ _ _; (try dsimp only); (try k_fold)))
    repeat' ((first | (k_unfold; (try dsimp only)) | (refine' (?hh : NextQ _ _) _ ?_; (case hh => with_reducible assumption)) | (refine' (?hh : RestQ _ _) _ _ True.intro ?_; (case hh => with_reducible assumption)) | ((with_reducible show wpAny _ _ (call (Value.builtin "bytes.decode") _ _) _ _ _); (k_dflt (first | refine dec0 (by assumption) ?_ | refine dec1 (by assumption) ?_ | refine dec2 (by assumption) ?_ | refine dec3 (by assumption) ?_); intro _ _)) | ((with_reducible show wpAny _ _ (call (Value.type "bytes") _ _) _ _ _); (k_dflt (refine' make_bytes ?F ?N ?m ?i ?r ?z ?h ?_; (case F => k_asm); (case N => k_asm); (case m => k_mem); (case i => exact .cons _ _ (.cons _ _ (.cons _ _ .nil))); (case r => exact oct_list (by assumption)); (case z => exact Nat.le_of_ble_eq_true rfl); (case h => rfl)); intro _ _ _ _ _; (try k_sweep))) | ((with_reducible show wpAny _ _ (call (Value.ref _) _ _) _ _ _); (k_dflt (refine' use_ct (c_b64a _ _ _ _ (by exact oct_ints (by assumption)) _ _ _ _) ?F ?N ?X ?T ?d ?u ?P ?_; (case F => k_asm); (case N => k_asm); (case X => k_asm); (case T => k_asm); (case d => (first | assumption | exact room2 (by assumption) rfl | exact room1 (by assumption) rfl | exact room0 (by assumption) | omega | ((try dsimp only [Around.deeper, Around.in1]); omega) | ((try simp only [depth_deeper, units_deeper, depth_in1, units_in1] at *); omega))); (case u => (first | assumption | exact room2 (by assumption) rfl | exact room1 (by assumption) rfl | exact room0 (by assumption) | omega | ((try dsimp only [Around.deeper, Around.in1]); omega) | ((try simp only [depth_deeper, units_deeper, depth_in1, units_in1] at *); omega))); (case P => exact trivial); k_whole); intro _ _ _ _ _ _ hp9Z; obtain ⟨u9Z, hp9Z⟩ := hp9Z; subst hp9Z; (try dsimp only); (try k_sweep))) | ((with_reducible show wpAny _ _ (call (Value.ref _) _ _) _ _ _); (k_dflt (refine' use_ct (c_us _ _ _ _ (by exact oct_ints (by assumption)) _) ?F ?N ?X ?T ?d ?u ?P ?_; (case F => k_asm); (case N => k_asm); (case X => k_asm); (case T => k_asm); (case d => (first | assumption | exact room2 (by assumption) rfl | exact room1 (by assumption) rfl | exact room0 (by assumption) | omega | ((try dsimp only [Around.deeper, Around.in1]); omega) | ((try simp only [depth_deeper, units_deeper, depth_in1, units_in1] at *); omega))); (case u => (first | assumption | exact room2 (by assumption) rfl | exact room1 (by assumption) rfl | exact room0 (by assumption) | omega | ((try dsimp only [Around.deeper, Around.in1]); omega) | ((try simp only [depth_deeper, units_deeper, depth_in1, units_in1] at *); omega))); (case P => exact trivial); k_whole); intro _ _ _ _ _ _ hp9Z; obtain ⟨u9Z, hp9Z⟩ := hp9Z; subst hp9Z; (try dsimp only); (try k_sweep))) | ((with_reducible show wpAny _ _ (call (Value.ref _) _ _) _ _ _); (k_dflt (refine' use_ct (c_std _ _ _ _ (by exact oct_ints (by assumption)) _) ?F ?N ?X ?T ?d ?u ?P ?_; (case F => k_asm); (case N => k_asm); (case X => k_asm); (case T => k_asm); (case d => (first | assumption | exact room2 (by assumption) rfl | exact room1 (by assumption) rfl | exact room0 (by assumption) | omega | ((try dsimp only [Around.deeper, Around.in1]); omega) | ((try simp only [depth_deeper, units_deeper, depth_in1, units_in1] at *); omega))); (case u => (first | assumption | exact room2 (by assumption) rfl | exact room1 (by assumption) rfl | exact room0 (by assumption) | omega | ((try dsimp only [Around.deeper, Around.in1]); omega) | ((try simp only [depth_deeper, units_deeper, depth_in1, units_in1] at *); omega))); (case P => exact trivial); k_whole); intro _ _ _ _ _ _ hp9Z; obtain ⟨u9Z, hp9Z⟩ := hp9Z; subst hp9Z; (try dsimp only); (try k_sweep))) | walk1 | (dsimp only; walk1) | (leave1; walk_say "STEP leave1"; try dsimp only)))
    all_goals (((try dsimp only); (try k_unfold); (try dsimp only)))
    all_goals exact hret _ _ _ (Fr.keep (by assumption)) ⟨_, congrArg (fun h => Value.str (signS h m) _) (by omega)⟩)
set_option maxRecDepth 100000 in
set_option maxHeartbeats 8000000 in
theorem c_fileN {w : World} (how : Int) (u : Tok) :
    Ct w 5 195 [.none, .int how u] (fun _ => True) (fun _ _ r => r = .none) := by
  w_strict (
    intro p loose mean mg mb dp fr gd un s Q E X T hdp hun hhow hret
    (k_dflt (refine' enter ?X ?T ?ho ?hcd ?hroom ?hbind ?hloc ?_ ?c2 ?c3 ?c4 ?c5; (case X => k_asm); (case T => k_asm); (case ho => k_is); (case hcd => k_is); (case hroom => (first | assumption | exact room2 (by assumption) rfl | exact room1 (by assumption) rfl | exact room0 (by assumption) | omega | ((try dsimp only [Around.deeper, Around.in1]); omega) | ((try simp only [depth_deeper, units_deeper, depth_in1, units_in1] at *); omega))); (case hbind => first | exact BindsTo.of_eq rfl | exact binds_K (by k_in) rfl (by k_is) rfl rfl rfl); (case hloc => exact locs rfl); (case c2 => exact rfl); (case c3 => exact rfl); (case c4 => exact rfl); (case c5 => decide); k_whole; intro _ _ _ _; (try dsimp only); (try k_fold)))
    repeat' ((first | (k_unfold; (try dsimp only)) | (refine' (?hh : NextQ _ _) _ ?_; (case hh => with_reducible assumption)) | (refine' (?hh : RestQ _ _) _ _ True.intro ?_; (case hh => with_reducible assumption)) | ((with_reducible show wpAny _ _ (call (Value.builtin "bytes.decode") _ _) _ _ _); (k_dflt (first | refine dec0 (by assumption) ?_ | refine dec1 (by assumption) ?_ | refine dec2 (by assumption) ?_ | refine dec3 (by assumption) ?_); intro _ _)) | ((with_reducible show wpAny _ _ (call (Value.type "bytes") _ _) _ _ _); (k_dflt (refine' make_bytes ?F ?N ?m ?i ?r ?z ?h ?_; (case F => k_asm); (case N => k_asm); (case m => k_mem); (case i => exact .cons _ _ (.cons _ _ (.cons _ _ .nil))); (case r => exact oct_list (by assumption)); (case z => exact Nat.le_of_ble_eq_true rfl); (case h => rfl)); intro _ _ _ _ _; (try k_sweep))) | ((with_reducible show wpAny _ _ (call (Value.ref _) _ _) _ _ _); (k_dflt (refine' use_ct (c_b64a _ _ _ _ (by exact oct_ints (by assumption)) _ _ _ _) ?F ?N ?X ?T ?d ?u ?P ?_; (case F => k_asm); (case N => k_asm); (case X => k_asm); (case T => k_asm); (case d => (first | assumption | exact room2 (by assumption) rfl | exact room1 (by assumption) rfl | exact room0 (by assumption) | omega | ((try dsimp only [Around.deeper, Around.in1]); omega) | ((try simp only [depth_deeper, units_deeper, depth_in1, units_in1] at *); omega))); (case u => (first | assumption | exact room2 (by assumption) rfl | exact room1 (by assumption) rfl | exact room0 (by assumption) | omega | ((try dsimp only [Around.deeper, Around.in1]); omega) | ((try simp only [depth_deeper, units_deeper, depth_in1, units_in1] at *); omega))); (case P => exact trivial); k_whole); intro _ _ _ _ _ _ hp9Z; obtain ⟨u9Z, hp9Z⟩ := hp9Z; subst hp9Z; (try dsimp only); (try k_sweep))) | ((with_reducible show wpAny _ _ (call (Value.ref _) _ _) _ _ _); (k_dflt (refine' use_ct (c_us _ _ _ _ (by exact oct_ints (by assumption)) _) ?F ?N ?X ?T ?d ?u ?P ?_; (case F => k_asm); (case N => k_asm); (case X => k_asm); (case T => k_asm); (case d => (first | assumption | exact room2 (by assumption) rfl | exact room1 (by assumption) rfl | exact room0 (by assumption) | omega | ((try dsimp only [Around.deeper, Around.in1]); omega) | ((try simp only [depth_deeper, units_deeper, depth_in1, units_in1] at *); omega))); (case u => (first | assumption | exact room2 (by assumption) rfl | exact room1 (by assumption) rfl | exact room0 (by assumption) | omega | ((try dsimp only [Around.deeper, Around.in1]); omega) | ((try simp only [depth_deeper, units_deeper, depth_in1, units_in1] at *); omega))); (case P => exact trivial); k_whole); intro _ _ _ _ _ _ hp9Z; obtain ⟨u9Z, hp9Z⟩ := hp9Z; subst hp9Z; (try dsimp only); (try k_sweep))) | ((with_reducible show wpAny _ _ (call (Value.ref _) _ _) _ _ _); (k_dflt (refine' use_ct (c_std _ _ _ _ (by exact oct_ints (by assumption)) _) ?F ?N ?X ?T ?d ?u ?P ?_; (case F => k_asm); (case N => k_asm); (case X => k_asm); (case T => k_asm); (case d => (first | assumption | exact room2 (by assumption) rfl | exact room1 (by assumption) rfl | exact room0 (by assumption) | omega | ((try dsimp only [Around.deeper, Around.in1]); omega) | ((try simp only [depth_deeper, units_deeper, depth_in1, units_in1] at *); omega))); (case u => (first | assumption | exact room2 (by assumption) rfl | exact room1 (by assumption) rfl | exact room0 (by assumption) | omega | ((try dsimp only [Around.deeper, Around.in1]); omega) | ((try simp only [depth_deeper, units_deeper, depth_in1, units_in1] at *); omega))); (case P => exact trivial); k_whole); intro _ _ _ _ _ _ hp9Z; obtain ⟨u9Z, hp9Z⟩ := hp9Z; subst hp9Z; (try dsimp only); (try k_sweep))) | walk1 | (dsimp only; walk1) | (leave1; walk_say "STEP leave1"; try dsimp only)))
    (((try dsimp only); (try k_unfold); (try dsimp only)))
    exact hret _ _ _ (Fr.keep (by assumption)) rfl)
end
end
section
open PySem PySem.W PySem.Calls PyProof.Rows PySem.Builtin
set_option maxRecDepth 100000
theorem item_cps (x : Str) (i : Int) (h0 : 0 ≤ i) (h1 : i < x.length) : Txt.item x i = ⟨#[x.cps.getD i.toNat 0]⟩ := by
  unfold Txt.item Txt.charAt
  rw [seqIndex_of h0 h1]
  simp [Array.getD_eq_getD_getElem?]
theorem join_nil4 (a b c d : Str) : Txt.join (PySem.Str.ofString "") [a, b, c, d] = ⟨a.cps ++ b.cps ++ c.cps ++ d.cps⟩ := by
  have e : PySem.Str.ofString "" = ⟨#[]⟩ := by decide +kernel
  rw [e]
  simp [Txt.join, Builtin.Str.glued]
theorem item_alpha {x : Str} {how : Int} (hl : x.length = 64) (hA : ∀ i, i < 64 → x.cps.getD i 0 = (alphaL how).getD i 0) (f : Int) : Txt.item x (f.fmod 64) = ⟨#[alpha how (f % 64)]⟩ := by
  rw [fmod_pos f (by decide), item_cps x _ (by omega) (by rw [hl]; omega), hA _ (by omega)]
  rfl
theorem signs_join {x : Str} {how m : Int} (hl : x.length = 64) (hA : ∀ i, i < 64 → x.cps.getD i 0 = (alphaL how).getD i 0) :
    Txt.join (PySem.Str.ofString "") [Txt.item x ((m.fdiv 262144).fmod 64), Txt.item x ((m.fdiv 4096).fmod 64), Txt.item x ((m.fdiv 64).fmod 64), Txt.item x ((m.fdiv 1).fmod 64)] = signS how m := by
  rw [join_nil4, item_alpha hl hA, item_alpha hl hA, item_alpha hl hA, item_alpha hl hA, fdiv_pos m (by decide), fdiv_pos m (by decide), fdiv_pos m (by decide), fdiv_pos m (by decide)]
  have e : m / 1 % 64 = m % 64 := by omega
  rw [e]
  simp [signS, figs]
theorem alS0 : ∀ i, i < 64 → (PySem.Str.ofString "ABCDEFGHIJKLMNOPQRSTUVWXYZabcdefghijklmnopqrstuvwxyz0123456789" ++ PySem.Str.ofString "+/").cps.getD i 0 = (alphaL 0).getD i 0 := by decide +kernel
theorem alS1 : ∀ i, i < 64 → (PySem.Str.ofString "ABCDEFGHIJKLMNOPQRSTUVWXYZabcdefghijklmnopqrstuvwxyz0123456789" ++ PySem.Str.ofString "/+").cps.getD i 0 = (alphaL 1).getD i 0 := by decide +kernel
theorem alS2 : ∀ i, i < 64 → (PySem.Str.ofString "ABCDEFGHIJKLMNOPQRSTUVWXYZabcdefghijklmnopqrstuvwxyz0123456789" ++ PySem.Str.ofString "-_").cps.getD i 0 = (alphaL 2).getD i 0 := by decide +kernel
theorem alS3 : ∀ i, i < 64 → (PySem.Str.ofString "ABCDEFGHIJKLMNOPQRSTUVWXYZabcdefghijklmnopqrstuvwxyz0123456789" ++ PySem.Str.ofString "//").cps.getD i 0 = (alphaL 3).getD i 0 := by decide +kernel
theorem alL0 : (PySem.Str.ofString "ABCDEFGHIJKLMNOPQRSTUVWXYZabcdefghijklmnopqrstuvwxyz0123456789" ++ PySem.Str.ofString "+/").length = 64 := by decide +kernel
theorem alL1 : (PySem.Str.ofString "ABCDEFGHIJKLMNOPQRSTUVWXYZabcdefghijklmnopqrstuvwxyz0123456789" ++ PySem.Str.ofString "/+").length = 64 := by decide +kernel
theorem alL2 : (PySem.Str.ofString "ABCDEFGHIJKLMNOPQRSTUVWXYZabcdefghijklmnopqrstuvwxyz0123456789" ++ PySem.Str.ofString "-_").length = 64 := by decide +kernel
theorem alL3 : (PySem.Str.ofString "ABCDEFGHIJKLMNOPQRSTUVWXYZabcdefghijklmnopqrstuvwxyz0123456789" ++ PySem.Str.ofString "//").length = 64 := by decide +kernel
theorem sign_val {a b : Int} {m : Int} {x : Str} {t : Tok} (e : x = signS a m) (h : a = b) : Value.str x t = .str (signS b m) t := by rw [e, h]
end
section
/-- an alphabet of that kind -/
structure AlIs (how : Int) (x : Str) : Prop where
  len : x.length = 64
  at_ : ∀ i, i < 64 → x.cps.getD i 0 = (alphaL how).getD i 0
def AlV (how : Int) (v : Value) : Prop := ∃ x t, v = .str x t ∧ AlIs how x
theorem alv {how c : Int} {x : Str} {t : Tok} (e : how = c) (h1 : x.length = 64) (h2 : ∀ i, i < 64 → x.cps.getD i 0 = (alphaL c).getD i 0) : AlV how (.str x t) := by subst e; exact ⟨_, _, rfl, h1, h2⟩
/-- the k-th figure -/
def figK (m : Int) (k : Nat) : Int := (m.fdiv (64 ^ (3 - (0 + (k : Int))).toNat)).fmod 64
def sgnK (x : Str) (m : Int) (k : Nat) : Str := Txt.item x (figK m k)
theorem p64 {k : Nat} (h : k < 4) : (64 : Int) ^ (3 - (0 + (k : Int))).toNat ≠ 0 ∧ ((64 : Int) ^ (3 - (0 + (k : Int))).toNat).natAbs.log2 < 9000 ∧ (0 : Int) ≤ 3 - (0 + (k : Int)) ∧ (Builtin.Int.intBits 64 : Int) * (3 - (0 + (k : Int))) ≤ 2 ^ 27 := by
  obtain rfl | rfl | rfl | rfl : k = 0 ∨ k = 1 ∨ k = 2 ∨ k = 3 := by omega
  all_goals decide +kernel
theorem item_al {prog : Program} {w : World} {A : Around} {E : Value → Shared → Prop} {s : Shared} {value slice : PySem.Expr} {x : Str} {t : Tok} {Q : Value → Shared → Prop} {m how : Int} {k : Nat} {u : Tok} (hx : AlIs how x)
    (h : Q (.str (sgnK x m k) s.toks) { s with toks := s.toks + 1 })
    (hs : subscripted slice false (.str x t) (.int (figK m k) u) = operate [.str x t, .int (figK m k) u] (getItem (.str x t) (.int (figK m k) u)) := by with_unfolding_all rfl)
    (ht : ∀ r, letTemporaryGo value (.str x t) r = pure () := by intro _; with_unfolding_all rfl) :
    wpAny (model prog w) A (subscriptTail value slice (.str x t) (.int (figK m k) u)) Q E s := by
  have h1 : 0 ≤ figK m k ∧ figK m k < 64 := ⟨Int.fmod_nonneg_of_pos _ (by decide), Int.fmod_lt_of_pos _ (by decide)⟩
  have h2 := hx.len
  exact item_str (fitsSsize_of (N := 64) (by omega) (by omega) (by decide)) (by omega) (by omega) (fun _ => h) hs ht
theorem sgn_one {x : Str} {how m : Int} {k : Nat} (hx : AlIs how x) : (sgnK x m k).length = 1 := by
  have h1 : 0 ≤ figK m k ∧ figK m k < 64 := ⟨Int.fmod_nonneg_of_pos _ (by decide), Int.fmod_lt_of_pos _ (by decide)⟩
  unfold sgnK
  rw [item_cps x _ h1.1 (by rw [hx.len]; exact h1.2)]
  rfl
theorem sgns_fit {x : Str} {how m : Int} (hx : AlIs how x) : (((List.range 4).map (sgnK x m)).map (·.length)).sum + ((List.range 4).map (sgnK x m)).length * (Str.ofString "").length ≤ 16777216 := by
  rw [show (List.range 4).map (sgnK x m) = [sgnK x m 0, sgnK x m 1, sgnK x m 2, sgnK x m 3] from rfl]
  simp only [List.map_cons, List.map_nil, sgn_one hx, List.length_cons, List.length_nil]
  decide +kernel
theorem sgn_val {x : Str} {how m : Int} {t : Tok} (hx : AlIs how x) : Value.str (Txt.join (Str.ofString "") ((List.range 4).map (sgnK x m))) t = .str (signS how m) t := by
  rw [← signs_join hx.len hx.at_]; rfl
section
set_option maxRecDepth 100000 in
set_option maxHeartbeats 8000000 in
theorem c_signs {w : World} (m : Int) (t : Tok) (how : Int) (hh : 0 ≤ how ∧ how < 4) (u : Tok) : Ct w 1 214 [.int m t, .int how u] (fun _ => True) (fun _ _ r => ∃ v, r = .str (signS how m) v) := by
  w_strict (
    intro p loose mean mg mb dp fr gd un s Q E X T hdp hun hhow hret
    obtain ⟨hh1, hh2⟩ := hh
    (k_dflt (refine' enterC ?X ?T ?ho ?hcd ?hroom ?hbind ?hkd ?hnd ?_ ?c2 ?c3 ?c4; (case X => k_asm); (case T => k_asm); (case ho => k_is); (case hcd => k_is); (case hroom => (first | assumption | exact room2 (by assumption) rfl | exact room1 (by assumption) rfl | exact room0 (by assumption) | omega | ((try dsimp only [Around.deeper, Around.in1]); omega) | ((try simp only [depth_deeper, units_deeper, depth_in1, units_in1] at *); omega))); (case hbind => first | exact BindsTo.of_eq rfl | exact binds_K (by k_in) rfl (by k_is) rfl rfl rfl); (case hkd => exact rfl); (case hnd => decide +kernel); (case c2 => exact rfl); (case c3 => exact rfl); (case c4 => exact rfl); k_whole; intro _ _ _ _ _ _ Y'Z; k_cells Y'Z; (try dsimp only); (try k_fold)))
    (repeat' ((fail_if_success (with_reducible show wpAny _ _ (eval (PySem.Expr.BinOp _ _ _ _) _) _ _ _)); (first | (k_unfold; (try dsimp only)) | (refine' (?hh : NextQ _ _) _ ?_; (case hh => with_reducible assumption)) | (refine' (?hh : RestQ _ _) _ _ True.intro ?_; (case hh => with_reducible assumption)) | ((with_reducible show wpAny _ _ (call (Value.builtin "str.join") _ _) _ _ _); (k_dflt (refine' join_list ?k1 ?k2 (sgns_fit (by assumption)) ?_; (case k1 => is_list); (case k2 => assumption)); intro _ _; (try k_sweep))) | walk1 | (dsimp only; walk1) | (leave1; walk_say "STEP leave1"; try dsimp only))))
    refine cut_val (AlV how) (by k_asm) (by k_asm) ?_ ?_
    · repeat' ((fail_if_success (with_reducible show AlV _ _ ∧ _)); (first | (k_unfold; (try dsimp only)) | (refine' (?hh : NextQ _ _) _ ?_; (case hh => with_reducible assumption)) | (refine' (?hh : RestQ _ _) _ _ True.intro ?_; (case hh => with_reducible assumption)) | ((with_reducible show wpAny _ _ (call (Value.builtin "str.join") _ _) _ _ _); (k_dflt (refine' join_list ?k1 ?k2 (sgns_fit (by assumption)) ?_; (case k1 => is_list); (case k2 => assumption)); intro _ _; (try k_sweep))) | walk1 | (dsimp only; walk1) | (leave1; walk_say "STEP leave1"; try dsimp only)))
      all_goals exact ⟨by first | exact alv (by assumption) alL0 alS0 | exact alv (by assumption) alL1 alS1 | exact alv (by assumption) alL2 alS2 | exact alv (by assumption) alL3 alS3, _, _, rfl, by k_asm, News.sub (by k_asm) fun p hp => .tail _ hp⟩
    · rintro _ h1 tk1 ⟨x, t1, rfl, hal⟩ F1 N1
      try k_sweep
      (repeat' ((fail_if_success (with_reducible show wpAny _ _ (eval (PySem.Expr.ListComp _ _ _ _) _) _ _ _)); (first | (k_unfold; (try dsimp only)) | (refine' (?hh : NextQ _ _) _ ?_; (case hh => with_reducible assumption)) | (refine' (?hh : RestQ _ _) _ _ True.intro ?_; (case hh => with_reducible assumption)) | ((with_reducible show wpAny _ _ (call (Value.builtin "str.join") _ _) _ _ _); (k_dflt (refine' join_list ?k1 ?k2 (sgns_fit (by assumption)) ?_; (case k1 => is_list); (case k2 => assumption)); intro _ _; (try k_sweep))) | walk1 | (dsimp only; walk1) | (leave1; walk_say "STEP leave1"; try dsimp only))))
      refine comp_eval (by with_unfolding_all rfl) (by rfl) (by decide) ?_
      repeat' ((first | (k_unfold; (try dsimp only)) | (refine' (?hh : NextQ _ _) _ ?_; (case hh => with_reducible assumption)) | (refine' (?hh : RestQ _ _) _ _ True.intro ?_; (case hh => with_reducible assumption)) | ((with_reducible show wpAny _ _ (call (Value.builtin "str.join") _ _) _ _ _); (k_dflt (refine' join_list ?k1 ?k2 (sgns_fit (by assumption)) ?_; (case k1 => is_list); (case k2 => assumption)); intro _ _; (try k_sweep))) | walk1 | (dsimp only; walk1) | (leave1; walk_say "STEP leave1"; try dsimp only)))
      rename_i L9 _ _ _ om _ dm _ _ _ _ oc _ _ dc _ _ _ _ _ _ _ _ hR4 F4 N4 _
      refine compAt_range (n := 4) (fun dr => dr = s.drawn) (fun i ys nw => nw = [(L9 + 1 + 1, oc), (L9 + 1, om)] ∧ StrsAre ys ((List.range i).map (sgnK x m))) (by decide) rfl rfl rfl F4 N4 hR4 (by decide) (by decide) (by rw [sizeLine_eq]; omega) rfl ⟨rfl, .nil⟩ ?_ ?_
      · rintro i v I' oI C oC D m₂ ys news₁ h tk dr hi rfl ⟨tv, rfl⟩ hb hns ⟨rfl, hys⟩ F5 N5 off5 ne5
        have hb' : m₂ (Str.ofString "k") = some (.int (0 + (i : Int)) tv) := hb
        obtain ⟨z1, z2, z3, z4⟩ := p64 hi
        clear F4 N4
        repeat' (first
          | ((with_reducible show wpAny _ _ (eval (PySem.Expr.BinOp _ _ _ _) _) _ _ _); (k_dflt (refine' use_evi (n := figK m i) (evi_mod (evi_div ?za (evi_pow evi_const (evi_sub evi_const ?zb) rfl z3 z4) z1 z2) evi_const (by decide)) ?_; (case za => walk_at "evi"); (case zb => walk_at "evi"))); intro _ _)
          | ((with_reducible show wpAny _ _ (subscriptTail _ _ (Value.str _ _) (Value.int _ _)) _ _ _); refine item_al hal ?_)
          | (first | (k_unfold; (try dsimp only)) | (refine' (?hh : NextQ _ _) _ ?_; (case hh => with_reducible assumption)) | (refine' (?hh : RestQ _ _) _ _ True.intro ?_; (case hh => with_reducible assumption)) | ((with_reducible show wpAny _ _ (call (Value.builtin "str.join") _ _) _ _ _); (k_dflt (refine' join_list ?k1 ?k2 (sgns_fit (by assumption)) ?_; (case k1 => is_list); (case k2 => assumption)); intro _ _; (try k_sweep))) | walk1 | (dsimp only; walk1) | (leave1; walk_say "STEP leave1"; try dsimp only)))
        exact ⟨_, _, _, _, rfl, rfl, F5, N5, off5, trivial, rfl, by rw [List.range_succ, List.map_append]; exact kct_snoc hys⟩
      · rintro D C' h tk dr m' ys news' rfl ⟨rfl, hys⟩ F5 N5 off5 hn hC0 hD0 hCL hDL hCD offC
        refine post_eval ?_ F5 N5 off5 hn hC0 hCL hCD offC
        intro h8 tk8 F8 N8 off8
        clear F5 N5 F4 N4
        repeat' ((first | (k_unfold; (try dsimp only)) | (refine' (?hh : NextQ _ _) _ ?_; (case hh => with_reducible assumption)) | (refine' (?hh : RestQ _ _) _ _ True.intro ?_; (case hh => with_reducible assumption)) | ((with_reducible show wpAny _ _ (call (Value.builtin "str.join") _ _) _ _ _); (k_dflt (refine' join_list ?k1 ?k2 (sgns_fit (by assumption)) ?_; (case k1 => is_list); (case k2 => assumption)); intro _ _; (try k_sweep))) | walk1 | (dsimp only; walk1) | (leave1; walk_say "STEP leave1"; try dsimp only)))
        (((try dsimp only); (try k_unfold); (try dsimp only)))
        exact hret _ _ _ (Fr.keep (by assumption)) ⟨_, sgn_val hal⟩)
end
end
section
def slashL (how : Int) : List Int := if how = 0 then [63] else if how = 1 then [62] else if how = 2 then [] else [62, 63]
/-- what a figure is shown as -/
def FigIs (how f : Int) (v : Value) : Prop := (f ∈ slashL how ∧ ∃ t, v = .str (Str.ofString "slash") t) ∨ (f ∉ slashL how ∧ ∃ t, v = .int f t)
theorem fig_s {l : List Int} {how f : Int} {t : Tok} (e : l = slashL how) (h : (l.any fun x => x == f) = true) : FigIs how f (.str (Str.ofString "slash") t) := by
  subst e
  obtain ⟨x, hx, he⟩ := List.any_eq_true.mp h
  exact .inl ⟨(eq_of_beq he) ▸ hx, _, rfl⟩
theorem fig_i {l : List Int} {how f : Int} {t : Tok} (e : l = slashL how) (h : (l.any fun x => x == f) = false) : FigIs how f (.int f t) := by
  subst e
  refine .inr ⟨fun hm => ?_, _, rfl⟩
  rw [List.any_eq_false] at h
  exact h f hm (by simp)
theorem sl0 {how : Int} (h : how = 0) : [63] = slashL how := by subst h; rfl
theorem sl1 {how : Int} (h : how = 1) : [62] = slashL how := by subst h; rfl
theorem sl2 {how : Int} (h : how = 2) : [] = slashL how := by subst h; rfl
theorem sl3 {how : Int} (h : how = 3) : [62, 63] = slashL how := by subst h; rfl
/-- a new list of shown figures -/
def NewFigs (how m : Int) (h h' : Heap) (r : Value) : Prop := ∃ l v0 v1 v2 v3 n, r = .ref l ∧ h.get? l = none ∧ h'.get? l = some (W.listOf #[v0, v1, v2, v3] n) ∧ FigIs how (m / 262144 % 64) v0 ∧ FigIs how (m / 4096 % 64) v1 ∧ FigIs how (m / 64 % 64) v2 ∧ FigIs how (m % 64) v3
theorem newFigs_of {how m : Int} {h₀ h : Heap} {L l : Addr} {news : List (Addr × Obj)} {v0 v1 v2 v3 : Value} (N : News h₀ L h news) (hm : (l, LCg.lst [v0, v1, v2, v3]) ∈ news)
    (h0 : FigIs how ((m.fdiv 262144).fmod 64) v0) (h1 : FigIs how ((m.fdiv 4096).fmod 64) v1) (h2 : FigIs how ((m.fdiv 64).fmod 64) v2) (h3 : FigIs how ((m.fdiv 1).fmod 64) v3) : NewFigs how m h₀ h (.ref l) := by
  rw [fmod_pos _ (by decide), fdiv_pos m (by decide)] at h0 h1 h2 h3
  rw [show m / 1 % 64 = m % 64 by omega] at h3
  exact ⟨l, v0, v1, v2, v3, _, rfl, (N _ hm).2.2, (N _ hm).1, h0, h1, h2, h3⟩
theorem ints_sl {l : List Int} {how : Int} {vs : List Value} (e : l = slashL how) (h : IntsAre vs l) : IntsAre vs (slashL how) := e ▸ h
theorem cut_sl {prog : Program} {w : World} {A : Around} {E : Value → Shared → Prop} {s : Shared} {g : Heap} {L : Addr} {m₂ : Str → Option Value} {news : List (Addr × Obj)} {Q : Value → Shared → Prop} {tr : Sem Value} {how : Int} (F : Fr g L s.heap m₂) (N : News g L s.heap news)
    (h1 : wpAny (model prog w) A tr (fun v s' => ∃ h' tk' l vs z, v = .ref l ∧ s' = { s with heap := h', toks := tk' } ∧ Fr g L h' m₂ ∧ News g L h' ((l, W.listOf vs.toArray z) :: news) ∧ IntsAre vs (slashL how)) E s)
    (h2 : ∀ l vs z h' tk', IntsAre vs (slashL how) → Fr g L h' m₂ → News g L h' ((l, W.listOf vs.toArray z) :: news) → Q (.ref l) { s with heap := h', toks := tk' }) : wpAny (model prog w) A tr Q E s :=
  wpAny_mono h1 (fun v s' hp => by obtain ⟨h', tk', l, vs, z, rfl, rfl, F', N', hi⟩ := hp; exact h2 l vs z h' tk' hi F' N') fun _ _ x => x
theorem figs_snoc {m how : Int} {ys : List Value} {j : Nat} {w : Value} (hl : ys.length = j) (hf : ∀ k v, ys[k]? = some v → FigIs how (figK m k) v) (h : FigIs how (figK m j) w) : ∀ k v, (ys ++ [w])[k]? = some v → FigIs how (figK m k) v := by
  intro k v e
  rcases Nat.lt_trichotomy k j with hk | rfl | hk
  · exact hf k v (by rwa [List.getElem?_append_left (by omega)] at e)
  · rw [← hl, List.getElem?_concat_length] at e; cases e; exact h
  · rw [List.getElem?_eq_none (by rw [List.length_append, hl]; exact hk)] at e; cases e
theorem four_of {α : Type} {ys : List α} (h : ys.length = 4) : ∃ a b c d, ys = [a, b, c, d] := by
  obtain ⟨a, ys, rfl⟩ := List.exists_cons_of_length_eq_add_one h
  obtain ⟨b, ys, rfl⟩ := List.exists_cons_of_length_eq_add_one (Nat.succ.inj h)
  obtain ⟨c, ys, rfl⟩ := List.exists_cons_of_length_eq_add_one (Nat.succ.inj (Nat.succ.inj h))
  obtain ⟨d, ys, rfl⟩ := List.exists_cons_of_length_eq_add_one (Nat.succ.inj (Nat.succ.inj (Nat.succ.inj h)))
  obtain rfl := List.length_eq_zero_iff.mp (Nat.succ.inj (Nat.succ.inj (Nat.succ.inj (Nat.succ.inj h))))
  exact ⟨a, b, c, d, rfl⟩
theorem fig_at {m : Int} {ys : List Value} (h : IntsAre ys ((List.range 4).map (figK m))) {j : Nat} (hj : j < 4) {v : Value} (hv : ys[j]? = some v) : ∃ t, v = .int (figK m j) t := by
  obtain ⟨n, t, rfl, hn⟩ := IntsAre.at h j v hv
  have : ((List.range 4).map (figK m))[j]? = some (figK m j) := by
    rw [List.getElem?_map, List.getElem?_range hj]; rfl
  rw [this] at hn; cases hn; exact ⟨t, rfl⟩
section
set_option maxRecDepth 100000 in
set_option maxHeartbeats 8000000 in
theorem c_figs {w : World} (m : Int) (t : Tok) (how : Int) (hh : 0 ≤ how ∧ how < 4) (u : Tok) : Ct w 1 219 [.int m t, .int how u] (fun _ => True) (NewFigs how m) := by
  w_strict (
    intro p loose mean mg mb dp fr gd un s Q E X T hdp hun hhow hret
    obtain ⟨hh1, hh2⟩ := hh
    (k_dflt (refine' enterC ?X ?T ?ho ?hcd ?hroom ?hbind ?hkd ?hnd ?_ ?c2 ?c3 ?c4; (case X => k_asm); (case T => k_asm); (case ho => k_is); (case hcd => k_is); (case hroom => (first | assumption | exact room2 (by assumption) rfl | exact room1 (by assumption) rfl | exact room0 (by assumption) | omega | ((try dsimp only [Around.deeper, Around.in1]); omega) | ((try simp only [depth_deeper, units_deeper, depth_in1, units_in1] at *); omega))); (case hbind => first | exact BindsTo.of_eq rfl | exact binds_K (by k_in) rfl (by k_is) rfl rfl rfl); (case hkd => exact rfl); (case hnd => decide +kernel); (case c2 => exact rfl); (case c3 => exact rfl); (case c4 => exact rfl); k_whole; intro _ _ _ _ _ _ Y'Z; k_cells Y'Z; (try dsimp only); (try k_fold)))
    (repeat' ((fail_if_success (with_reducible show wpAny _ _ (eval (PySem.Expr.Subscript _ _ _) _) _ _ _)); (first | (k_unfold; (try dsimp only)) | (refine' (?hh : NextQ _ _) _ ?_; (case hh => with_reducible assumption)) | (refine' (?hh : RestQ _ _) _ _ True.intro ?_; (case hh => with_reducible assumption)) | walk1 | (dsimp only; walk1) | (leave1; walk_say "STEP leave1"; try dsimp only))))
    refine cut_sl (how := how) (by k_asm) (by k_asm) ?_ ?_
    · repeat' ((fail_if_success (with_reducible show ∃ _, _)); (first | (k_unfold; (try dsimp only)) | (refine' (?hh : NextQ _ _) _ ?_; (case hh => with_reducible assumption)) | (refine' (?hh : RestQ _ _) _ _ True.intro ?_; (case hh => with_reducible assumption)) | walk1 | (dsimp only; walk1) | (leave1; walk_say "STEP leave1"; try dsimp only)))
      all_goals exact ⟨_, _, _, _, _, rfl, rfl, by k_asm, News.sub (by k_asm) (List.forall_mem_cons.mpr ⟨by k_mem, fun p hp => .tail _ (.tail _ (.tail _ (.tail _ (.tail _ hp))))⟩), by first | exact ints_sl (sl0 (by assumption)) (.cons _ _ .nil) | exact ints_sl (sl1 (by assumption)) (.cons _ _ .nil) | exact ints_sl (sl2 (by assumption)) .nil | exact ints_sl (sl3 (by assumption)) (.cons _ _ (.cons _ _ .nil))⟩
    · intro l vs z h1 tk1 hvs F1 N1
      try k_sweep
      (repeat' ((fail_if_success (with_reducible show wpAny _ _ (exec (Stmt.Assign [_] (PySem.Expr.ListComp _ _ _ _) _) _) _ _ _)); (first | (k_unfold; (try dsimp only)) | (refine' (?hh : NextQ _ _) _ ?_; (case hh => with_reducible assumption)) | (refine' (?hh : RestQ _ _) _ _ True.intro ?_; (case hh => with_reducible assumption)) | walk1 | (dsimp only; walk1) | (leave1; walk_say "STEP leave1"; try dsimp only))))
      refine comp_assign (by with_unfolding_all rfl) (by with_unfolding_all rfl) (by rfl) (by decide) ?_
      repeat' ((first | (k_unfold; (try dsimp only)) | (refine' (?hh : NextQ _ _) _ ?_; (case hh => with_reducible assumption)) | (refine' (?hh : RestQ _ _) _ _ True.intro ?_; (case hh => with_reducible assumption)) | walk1 | (dsimp only; walk1) | (leave1; walk_say "STEP leave1"; try dsimp only)))
      rename_i L9 _ _ _ om _ dm _ _ _ _ _ _ oc _ _ dc _ _ _ _ _ _ _ _ hR4 F4 N4 _
      simp only [List.cons_append, List.nil_append] at N4
      refine compAt_range (n := 4) (fun dr => dr = s.drawn) (fun i ys nw => nw = [(l, W.listOf vs.toArray z), (L9 + 1 + 1, oc), (L9 + 1, om)] ∧ IntsAre ys ((List.range i).map (figK m))) (by decide) rfl rfl rfl F4 N4 hR4 (by decide) (by decide) (by rw [sizeLine_eq]; omega) rfl ⟨rfl, .nil⟩ ?_ ?_
      · rintro i v I' oI C oC D m₂ ys news₁ h tk dr hi rfl ⟨tv, rfl⟩ hb hns ⟨rfl, hys⟩ F5 N5 off5 ne5
        have hb' : m₂ (Str.ofString "k") = some (.int (0 + (i : Int)) tv) := hb
        obtain ⟨z1, z2, z3, z4⟩ := p64 hi
        clear F4 N4
        repeat' (first
          | ((with_reducible show wpAny _ _ (eval (PySem.Expr.BinOp _ _ _ _) _) _ _ _); (k_dflt (refine' use_evi (n := figK m i) (evi_mod (evi_div ?za (evi_pow evi_const (evi_sub evi_const ?zb) rfl z3 z4) z1 z2) evi_const (by decide)) ?_; (case za => walk_at "evi"); (case zb => walk_at "evi"))); intro _ _)
          | (first | (k_unfold; (try dsimp only)) | (refine' (?hh : NextQ _ _) _ ?_; (case hh => with_reducible assumption)) | (refine' (?hh : RestQ _ _) _ _ True.intro ?_; (case hh => with_reducible assumption)) | walk1 | (dsimp only; walk1) | (leave1; walk_say "STEP leave1"; try dsimp only)))
        exact ⟨_, _, _, _, rfl, rfl, F5, N5, off5, trivial, rfl, by rw [List.range_succ, List.map_append]; exact ksk_snoc hys⟩
      · rintro D C' h tk dr m' ys news' rfl ⟨rfl, hys⟩ F5 N5 off5 hn hC0 hD0 hCL hDL hCD offC
        refine' post_assign ?r0 ?r1 ?r2 ?fin ?F ?N off5 hn hC0 ?L hCD offC
        case F => exact F5
        case r0 => rfl
        case r1 => rfl
        case r2 => rfl
        case N => exact N5
        case L => exact hCL
        intro h6 tk6 F6 N6 off6
        clear F5 N5 F4 N4
        have hyl : ys.length = 4 := by rw [hys.length]; rfl
        (repeat' ((fail_if_success (with_reducible show wpAny _ _ (eval (PySem.Expr.ListComp _ _ _ _) _) _ _ _)); (first | (k_unfold; (try dsimp only)) | (refine' (?hh : NextQ _ _) _ ?_; (case hh => with_reducible assumption)) | (refine' (?hh : RestQ _ _) _ _ True.intro ?_; (case hh => with_reducible assumption)) | walk1 | (dsimp only; walk1) | (leave1; walk_say "STEP leave1"; try dsimp only))))
        refine comp_eval (by with_unfolding_all rfl) (by rfl) (by decide) ?_
        repeat' ((first | (k_unfold; (try dsimp only)) | (refine' (?hh : NextQ _ _) _ ?_; (case hh => with_reducible assumption)) | (refine' (?hh : RestQ _ _) _ _ True.intro ?_; (case hh => with_reducible assumption)) | walk1 | (dsimp only; walk1) | (leave1; walk_say "STEP leave1"; try dsimp only)))
        refine compAt_name (its := ys.toArray) (fun dr => dr = s.drawn) (fun i ys' nw => nw = [(D, LCg.lst ys), (l, W.listOf vs.toArray z), (L9 + 1 + 1, oc), (L9 + 1, om)] ∧ ys'.length = i ∧ ∀ j v, ys'[j]? = some v → FigIs how (figK m j) v) (by decide) rfl rfl rfl F6 N6 (.inr ⟨_, .head _, rfl, _, rfl⟩) (by rw [List.size_toArray, hyl, sizeLine_eq]; omega) rfl ⟨rfl, rfl, fun j v e => by simp at e⟩ ?_ ?_
        · rintro j v I' oI' C2 oC2 D2 m₂ ys' news₁ h tk dr hj rfl hv hb hns ⟨rfl, hl, hf⟩ hSr F7 N7 off7 ne7
          obtain ⟨tv, rfl⟩ := fig_at hys (by rw [List.size_toArray, hyl] at hj; exact hj) (by simpa using hv)
          have hb' : m₂ (Str.ofString "figure") = some (.int (figK m j) tv) := hb
          clear F6 N6 hSr
          repeat' (first
            | ((with_reducible show FigIs _ _ _ ∧ _); exact ⟨by first | exact fig_s rfl (by assumption) | exact fig_i rfl (by assumption), _, _, rfl, by k_asm, by k_asm⟩)
            | ((with_reducible show wpAny _ _ (eval (PySem.Expr.IfExp _ _ _ _) _) _ _ _); refine cut_val (FigIs how (figK m j)) F7 N7 (IfExp_ ?_) ?_)
            | ((with_reducible show ∀ _, _); rintro v3 h3 tk3 hf3 F3 N3; clear F7 N7)
            | ((with_reducible show wpAny _ _ (compareOp CmpOp.In (Value.int _ _) (Value.ref _)) _ _ _); refine in_list_ints (News.isList (by k_asm) (by k_mem)) hvs ?_)
            | (first | (k_unfold; (try dsimp only)) | (refine' (?hh : NextQ _ _) _ ?_; (case hh => with_reducible assumption)) | (refine' (?hh : RestQ _ _) _ _ True.intro ?_; (case hh => with_reducible assumption)) | walk1 | (dsimp only; walk1) | (leave1; walk_say "STEP leave1"; try dsimp only)))
          exact ⟨_, _, _, _, rfl, rfl, F3, N3, off7, .inr ⟨_, .head _, rfl, _, rfl⟩, rfl, by rw [List.length_append, hl]; rfl, figs_snoc hl hf hf3⟩
        · rintro D2 C2 h tk dr m' ys2 news2 rfl ⟨rfl, hl2, hf2⟩ F7 N7 off7 hn' hC0' hD0' hCL' hDL' hCD' offC'
          refine post_eval ?_ F7 N7 off7 hn' hC0' hCL' hCD' offC'
          intro h8 tk8 F8 N8 off8
          clear F7 N7 F6 N6
          obtain ⟨v0, v1, v2, v3, rfl⟩ := four_of (hl2.trans (by rw [List.size_toArray, hyl]))
          repeat' ((first | (k_unfold; (try dsimp only)) | (refine' (?hh : NextQ _ _) _ ?_; (case hh => with_reducible assumption)) | (refine' (?hh : RestQ _ _) _ _ True.intro ?_; (case hh => with_reducible assumption)) | walk1 | (dsimp only; walk1) | (leave1; walk_say "STEP leave1"; try dsimp only)))
          (((try dsimp only); (try k_unfold); (try dsimp only)))
          exact hret _ _ _ (Fr.keep (by assumption)) (newFigs_of N8 (.head _) (hf2 0 _ rfl) (hf2 1 _ rfl) (hf2 2 _ rfl) (hf2 3 _ rfl)))
end
end
section
def fmTabs : List (List (Int × Str)) := [[(40960, Str.ofString "l"), (49152, Str.ofString "s"), (32768, Str.ofString "-"), (24576, Str.ofString "b"), (16384, Str.ofString "d"), (8192, Str.ofString "c"), (4096, Str.ofString "p")],
  [(256, Str.ofString "r")], [(128, Str.ofString "w")], [(2112, Str.ofString "s"), (2048, Str.ofString "S"), (64, Str.ofString "x")],
  [(32, Str.ofString "r")], [(16, Str.ofString "w")], [(1032, Str.ofString "s"), (1024, Str.ofString "S"), (8, Str.ofString "x")],
  [(4, Str.ofString "r")], [(2, Str.ofString "w")], [(513, Str.ofString "t"), (512, Str.ofString "T"), (1, Str.ofString "x")]]
def PairsAt (g : Heap) (a : Addr) (l : List (Int × Str)) : Prop :=
  ∃ items : Array Value, IsTup g a items ∧ items.size = l.length ∧ ∀ (i : Nat) (v : Value), items[i]? = some v → ∃ T b c t u, v = Value.ref T ∧ l[i]? = some (b, c) ∧ IsTup g T #[.int b t, .str c u]
theorem pairs_nil {g : Heap} {a : Addr} (h : IsTup g a #[]) : PairsAt g a [] := ⟨_, h, rfl, fun i v h => by simp at h⟩
theorem pairs_1 {g : Heap} {a T : Addr} {b : Int} {c : Str} {t u : Tok} (h : IsTup g a [Value.ref T].toArray) (h0 : IsTup g T #[.int b t, .str c u]) : PairsAt g a [(b, c)] :=
  ⟨_, h, rfl, fun i v hv => by
    match i, hv with
    | 0, hv => exact ⟨T, b, c, t, u, by simpa using hv.symm, rfl, h0⟩
    | i + 1, hv => simp at hv⟩
theorem pairs_3 {g : Heap} {a T0 T1 T2 : Addr} {b0 b1 b2 : Int} {c0 c1 c2 : Str} {t0 t1 t2 u0 u1 u2 : Tok} (h : IsTup g a [Value.ref T0, Value.ref T1, Value.ref T2].toArray) (h0 : IsTup g T0 #[.int b0 t0, .str c0 u0]) (h1 : IsTup g T1 #[.int b1 t1, .str c1 u1]) (h2 : IsTup g T2 #[.int b2 t2, .str c2 u2]) : PairsAt g a [(b0, c0), (b1, c1), (b2, c2)] :=
  ⟨_, h, rfl, fun i v hv => by
    match i, hv with
    | 0, hv => exact ⟨T0, b0, c0, t0, u0, by simpa using hv.symm, rfl, h0⟩
    | 1, hv => exact ⟨T1, b1, c1, t1, u1, by simpa using hv.symm, rfl, h1⟩
    | 2, hv => exact ⟨T2, b2, c2, t2, u2, by simpa using hv.symm, rfl, h2⟩
    | i + 3, hv => simp at hv⟩
set_option maxRecDepth 100000 in
set_option maxHeartbeats 4000000 in
theorem tabs_K {w : World} {g : Heap} (X : (h0.heap_1 w.params).In g) : ∃ items : Array Value, IsTup g 105 items ∧ items.size = 10 ∧ ∀ (i : Nat) (v : Value), items[i]? = some v → ∃ a l, v = Value.ref a ∧ fmTabs[i]? = some l ∧ PairsAt g a l := by
  refine ⟨_, tupK X (by k_is), rfl, fun i v hv => ?_⟩
  match i, hv with
  | 0, hv =>
    refine ⟨80, _, by simpa using hv.symm, rfl, ⟨_, tupK X (by k_is), rfl, fun i v hv => ?_⟩⟩
    match i, hv with
    | 0, hv => exact ⟨73, _, _, _, _, by simpa using hv.symm, rfl, tupK X (by k_is)⟩
    | 1, hv => exact ⟨74, _, _, _, _, by simpa using hv.symm, rfl, tupK X (by k_is)⟩
    | 2, hv => exact ⟨75, _, _, _, _, by simpa using hv.symm, rfl, tupK X (by k_is)⟩
    | 3, hv => exact ⟨76, _, _, _, _, by simpa using hv.symm, rfl, tupK X (by k_is)⟩
    | 4, hv => exact ⟨77, _, _, _, _, by simpa using hv.symm, rfl, tupK X (by k_is)⟩
    | 5, hv => exact ⟨78, _, _, _, _, by simpa using hv.symm, rfl, tupK X (by k_is)⟩
    | 6, hv => exact ⟨79, _, _, _, _, by simpa using hv.symm, rfl, tupK X (by k_is)⟩
    | i + 7, hv => simp at hv
  | 1, hv => exact ⟨82, _, by simpa using hv.symm, rfl, pairs_1 (tupK X (by k_is)) (tupK X (by k_is))⟩
  | 2, hv => exact ⟨84, _, by simpa using hv.symm, rfl, pairs_1 (tupK X (by k_is)) (tupK X (by k_is))⟩
  | 3, hv => exact ⟨88, _, by simpa using hv.symm, rfl, pairs_3 (tupK X (by k_is)) (tupK X (by k_is)) (tupK X (by k_is)) (tupK X (by k_is))⟩
  | 4, hv => exact ⟨90, _, by simpa using hv.symm, rfl, pairs_1 (tupK X (by k_is)) (tupK X (by k_is))⟩
  | 5, hv => exact ⟨92, _, by simpa using hv.symm, rfl, pairs_1 (tupK X (by k_is)) (tupK X (by k_is))⟩
  | 6, hv => exact ⟨96, _, by simpa using hv.symm, rfl, pairs_3 (tupK X (by k_is)) (tupK X (by k_is)) (tupK X (by k_is)) (tupK X (by k_is))⟩
  | 7, hv => exact ⟨98, _, by simpa using hv.symm, rfl, pairs_1 (tupK X (by k_is)) (tupK X (by k_is))⟩
  | 8, hv => exact ⟨100, _, by simpa using hv.symm, rfl, pairs_1 (tupK X (by k_is)) (tupK X (by k_is))⟩
  | 9, hv => exact ⟨104, _, by simpa using hv.symm, rfl, pairs_3 (tupK X (by k_is)) (tupK X (by k_is)) (tupK X (by k_is)) (tupK X (by k_is))⟩
  | i + 10, hv => simp at hv
end
section
set_option maxRecDepth 100000 in
set_option maxHeartbeats 8000000 in
theorem c_ifmt {w : World} (m : Int) (t : Tok) : Ct w 1 72 [.int m t] (fun _ => True) (fun _ _ r => ∃ u, r = .int (Builtin.bitAnd m 61440) u) := by
  w_strict (
    intro p loose mean mg mb dp fr gd un s Q E X T hdp hun hhow hret
    (k_dflt (refine' enter ?X ?T ?ho ?hcd ?hroom ?hbind ?hloc ?_ ?c2 ?c3 ?c4 ?c5; (case X => k_asm); (case T => k_asm); (case ho => k_is); (case hcd => k_is); (case hroom => (first | assumption | exact room2 (by assumption) rfl | exact room1 (by assumption) rfl | exact room0 (by assumption) | omega | ((try dsimp only [Around.deeper, Around.in1]); omega) | ((try simp only [depth_deeper, units_deeper, depth_in1, units_in1] at *); omega))); (case hbind => first | exact BindsTo.of_eq rfl | exact binds_K (by k_in) rfl (by k_is) rfl rfl rfl); (case hloc => exact locs rfl); (case c2 => exact rfl); (case c3 => exact rfl); (case c4 => exact rfl); (case c5 => decide); k_whole; intro _ _ _ _; (try dsimp only); (try k_fold)))
    repeat' ((first | (k_unfold; (try dsimp only)) | (refine' (?hh : NextQ _ _) _ ?_; (case hh => with_reducible assumption)) | (refine' (?hh : RestQ _ _) _ _ True.intro ?_; (case hh => with_reducible assumption)) | walk1 | (dsimp only; walk1) | (leave1; walk_say "STEP leave1"; try dsimp only)))
    (((try dsimp only); (try k_unfold); (try dsimp only)))
    exact hret _ _ _ (Fr.keep (by assumption)) ⟨_, rfl⟩)
/-- does an entry of the table fit -/
def fits (z : Bool) (m b : Int) : Bool := if z then decide (Builtin.bitAnd m 61440 = b) else decide (Builtin.bitAnd m b = b)
def selC (z : Bool) (m : Int) (l : List (Int × Str)) : Str := match l.find? (fun q => fits z m q.1) with
  | some q => q.2
  | none => if z then Str.ofString "?" else Str.ofString "-"
def perms (m : Int) (i : Nat) : List Str := (List.range i).map fun j => selC (j == 0) m (fmTabs.getD j [])
theorem sel_hit {z : Bool} {m : Int} {l : List (Int × Str)} {j : Nat} {b : Int} {c : Str} (hj : l[j]? = some (b, c)) (hno : ∀ q ∈ l.take j, fits z m q.1 = false) (hb : fits z m b = true) : selC z m l = c := by
  have e : l = l.take j ++ (b, c) :: l.drop (j + 1) := by
    obtain ⟨hlt, he⟩ := List.getElem?_eq_some_iff.mp hj
    rw [← he, ← List.drop_eq_getElem_cons hlt, List.take_append_drop]
  unfold selC
  rw [e, List.find?_append, List.find?_eq_none.mpr (fun q hq => by simp [hno q hq])]
  simp [hb]
theorem sel_miss {z : Bool} {m : Int} {l : List (Int × Str)} (hno : ∀ q ∈ l, fits z m q.1 = false) : selC z m l = if z then Str.ofString "?" else Str.ofString "-" := by
  unfold selC
  rw [List.find?_eq_none.mpr (fun q hq => by simp [hno q hq])]
theorem take_step {z : Bool} {m : Int} {l : List (Int × Str)} {j : Nat} {b : Int} {c : Str} (hj : l[j]? = some (b, c)) (hno : ∀ q ∈ l.take j, fits z m q.1 = false) (hb : fits z m b = false) : ∀ q ∈ l.take (j + 1), fits z m q.1 = false := by
  intro q hq
  rw [List.take_add_one, hj] at hq
  rcases List.mem_append.mp hq with h | h
  · exact hno q h
  · simp at h; subst h; exact hb
theorem perms_succ {m : Int} {i : Nat} {l : List (Int × Str)} (hl : fmTabs[i]? = some l) : perms m (i + 1) = perms m i ++ [selC (i == 0) m l] := by
  unfold perms
  rw [List.range_succ, List.map_append]
  simp [List.getD_eq_getElem?_getD, hl]
theorem strs_push {arr : Array Value} {ys : List Str} {y : Str} {t : Tok} (h : StrsAre arr.toList ys) : StrsAre (arr.push (.str y t)).toList (ys ++ [y]) := by
  rw [Array.toList_push]; exact kct_snoc h
theorem fits_z {i : Nat} {m b : Int} (hi : (i : Int) = 0) (h : Builtin.bitAnd m 61440 = b) : fits (i == 0) m b = true := by
  obtain rfl : i = 0 := by omega
  simp [fits, h]
theorem fits_zn {i : Nat} {m b : Int} (hi : (i : Int) = 0) (h : Builtin.bitAnd m 61440 ≠ b) : fits (i == 0) m b = false := by
  obtain rfl : i = 0 := by omega
  simp [fits, h]
theorem fits_n {i : Nat} {m b : Int} (hi : (i : Int) ≠ 0) (h : Builtin.bitAnd m b = b) : fits (i == 0) m b = true := by
  have : i ≠ 0 := by omega
  simp [fits, this, h]
theorem fits_nn {i : Nat} {m b : Int} (hi : (i : Int) ≠ 0) (h : Builtin.bitAnd m b ≠ b) : fits (i == 0) m b = false := by
  have : i ≠ 0 := by omega
  simp [fits, this, h]
theorem one_off {I I' l : Addr} {o : Obj} (h : l ≠ I) (h' : l ≠ I') : ∀ p ∈ [(l, o)], p.1 ≠ I ∧ p.1 ≠ I' := by
  intro p hp; cases List.mem_singleton.mp hp; exact ⟨h, h'⟩
theorem hit_strs {arr : Array Value} {m : Int} {i j : Nat} {l : List (Int × Str)} {b : Int} {c : Str} {u : Tok} (hs : StrsAre arr.toList (perms m i)) (hl : fmTabs[i]? = some l) (hj : l[j]? = some (b, c)) (hno : ∀ q ∈ l.take j, fits (i == 0) m q.1 = false) (hb : fits (i == 0) m b = true) :
    StrsAre (arr.push (.str c u)).toList (perms m (i + 1)) := by
  rw [perms_succ hl, sel_hit hj hno hb]; exact strs_push hs
theorem miss_strs {arr : Array Value} {m : Int} {i k : Nat} {l : List (Int × Str)} {y : Str} {u : Tok} (hs : StrsAre arr.toList (perms m i)) (hl : fmTabs[i]? = some l) (hk : k = l.length) (hno : ∀ q ∈ l.take k, fits (i == 0) m q.1 = false) (hy : y = if (i == 0) then Str.ofString "?" else Str.ofString "-") :
    StrsAre (arr.push (.str y u)).toList (perms m (i + 1)) := by
  subst hk
  rw [List.take_length] at hno
  rw [perms_succ hl, sel_miss hno, ← hy]; exact strs_push hs
theorem q_z {i : Nat} (hi : (i : Int) = 0) : Str.ofString "?" = if (i == 0) then Str.ofString "?" else Str.ofString "-" := by
  obtain rfl : i = 0 := by omega
  simp
theorem q_n {i : Nat} (hi : (i : Int) ≠ 0) : Str.ofString "-" = if (i == 0) then Str.ofString "?" else Str.ofString "-" := by
  have : i ≠ 0 := by omega
  simp [this]
theorem tab_one : ∀ l ∈ fmTabs, ∀ q ∈ l, q.2.length = 1 := by decide +kernel
theorem sel_one {z : Bool} {m : Int} {j : Nat} : (selC z m (fmTabs.getD j [])).length = 1 := by
  unfold selC
  split
  · rename_i q hq
    have h1 := List.mem_of_find?_eq_some hq
    by_cases h : j < fmTabs.length
    · have e : fmTabs.getD j [] = fmTabs[j] := by simp [List.getD_eq_getElem?_getD, h]
      rw [e] at h1
      exact tab_one _ (List.getElem_mem h) _ h1
    · have e : fmTabs.getD j [] = [] := by simp [List.getD_eq_getElem?_getD, Nat.le_of_not_lt h]
      rw [e] at h1; cases h1
  · cases z <;> decide +kernel
theorem perms_one {m : Int} {i : Nat} : ∀ x ∈ perms m i, x.length = 1 := by
  intro x hx
  obtain ⟨j, _, rfl⟩ := List.mem_map.mp hx
  exact sel_one
theorem sum_one : ∀ {l : List Str}, (∀ x ∈ l, x.length = 1) → (l.map (·.length)).sum = l.length
  | [], _ => rfl
  | x :: l, h => by
    rw [List.map_cons, List.sum_cons, h x (.head _), sum_one (fun y hy => h y (.tail _ hy)), List.length_cons]; omega
theorem perms_fit {m : Int} : ((perms m 10).map (·.length)).sum + (perms m 10).length * (Str.ofString "").length ≤ 16777216 := by
  rw [sum_one perms_one]
  have h1 : (perms m 10).length = 10 := by simp [perms]
  have h2 : (Str.ofString "").length = 0 := by decide +kernel
  rw [h1, h2]; omega
section
set_option maxRecDepth 100000 in
set_option maxHeartbeats 8000000 in
theorem c_fm {w : World} (m : Int) (t : Tok) : Ct w 2 112 [.int m t] (fun _ => True) (fun _ _ r => ∃ u, r = .str (Txt.join (Str.ofString "") (perms m 10)) u) := by
  w_strict (
    intro p loose mean mg mb dp fr gd un s Q E X T hdp hun hhow hret
    obtain ⟨tops, hT, hTs, hTi⟩ := tabs_K X
    (k_dflt (refine' enter ?X ?T ?ho ?hcd ?hroom ?hbind ?hloc ?_ ?c2 ?c3 ?c4 ?c5; (case X => k_asm); (case T => k_asm); (case ho => k_is); (case hcd => k_is); (case hroom => (first | assumption | exact room2 (by assumption) rfl | exact room1 (by assumption) rfl | exact room0 (by assumption) | omega | ((try dsimp only [Around.deeper, Around.in1]); omega) | ((try simp only [depth_deeper, units_deeper, depth_in1, units_in1] at *); omega))); (case hbind => first | exact BindsTo.of_eq rfl | exact binds_K (by k_in) rfl (by k_is) rfl rfl rfl); (case hloc => exact locs rfl); (case c2 => exact rfl); (case c3 => exact rfl); (case c4 => exact rfl); (case c5 => decide); k_whole; intro _ _ _ _; (try dsimp only); (try k_fold)))
    repeat ((((fail_if_success (with_reducible show wpAny _ _ (exec (Stmt.For _ _ _ _ _) _) _ _ _)); (fail_if_success (with_reducible show wpAny _ _ (pyIter _) _ _ _)); (first | (k_unfold; (try dsimp only)) | (refine' (?hh : NextQ _ _) _ ?_; (case hh => with_reducible assumption)) | (refine' (?hh : RestQ _ _) _ _ True.intro ?_; (case hh => with_reducible assumption)) | ((with_reducible show wpAny _ _ (call (Value.ref _) _ _) _ _ _); (k_dflt (refine' use_ct (c_ifmt _ _) ?F ?N ?X ?T ?d ?u ?P ?_; (case F => k_asm); (case N => k_asm); (case X => k_asm); (case T => k_asm); (case d => (first | assumption | exact room2 (by assumption) rfl | exact room1 (by assumption) rfl | exact room0 (by assumption) | omega | ((try dsimp only [Around.deeper, Around.in1]); omega) | ((try simp only [depth_deeper, units_deeper, depth_in1, units_in1] at *); omega))); (case u => (first | assumption | exact room2 (by assumption) rfl | exact room1 (by assumption) rfl | exact room0 (by assumption) | omega | ((try dsimp only [Around.deeper, Around.in1]); omega) | ((try simp only [depth_deeper, units_deeper, depth_in1, units_in1] at *); omega))); (case P => exact trivial); k_whole); intro _ _ _ _ _ _ hp9Z; obtain ⟨u9Z, hp9Z⟩ := hp9Z; subst hp9Z; (try dsimp only); (try k_sweep))) | ((with_reducible show wpAny _ _ (call (Value.builtin "str.join") _ _) _ _ _); (k_dflt (refine' join_list ?k1 ?k2 perms_fit ?_; (case k1 => is_list); (case k2 => assumption)); intro _ _; (try k_sweep))) | ((with_reducible show wpAny _ _ (call (Value.builtin "list.append") _ _) _ _ _); (k_dflt (refine' append_K ?k1 ?k2 ?k3 ?_ ?z; (case k1 => k_asm); (case k2 => k_asm); (case k3 => k_upd); (case z => (rw [sizeLine_eq]; omega)); k_whole); intro _ _ _; (try k_sweep))) | walk1 | (dsimp only; walk1) | (leave1; walk_say "STEP leave1"; try dsimp only)))))
    refine for_go ?_ (by intro _; rfl)
    repeat ((((fail_if_success (with_reducible show wpAny _ _ (exec (Stmt.For _ _ _ _ _) _) _ _ _)); (fail_if_success (with_reducible show wpAny _ _ (pyIter _) _ _ _)); (first | (k_unfold; (try dsimp only)) | (refine' (?hh : NextQ _ _) _ ?_; (case hh => with_reducible assumption)) | (refine' (?hh : RestQ _ _) _ _ True.intro ?_; (case hh => with_reducible assumption)) | ((with_reducible show wpAny _ _ (call (Value.ref _) _ _) _ _ _); (k_dflt (refine' use_ct (c_ifmt _ _) ?F ?N ?X ?T ?d ?u ?P ?_; (case F => k_asm); (case N => k_asm); (case X => k_asm); (case T => k_asm); (case d => (first | assumption | exact room2 (by assumption) rfl | exact room1 (by assumption) rfl | exact room0 (by assumption) | omega | ((try dsimp only [Around.deeper, Around.in1]); omega) | ((try simp only [depth_deeper, units_deeper, depth_in1, units_in1] at *); omega))); (case u => (first | assumption | exact room2 (by assumption) rfl | exact room1 (by assumption) rfl | exact room0 (by assumption) | omega | ((try dsimp only [Around.deeper, Around.in1]); omega) | ((try simp only [depth_deeper, units_deeper, depth_in1, units_in1] at *); omega))); (case P => exact trivial); k_whole); intro _ _ _ _ _ _ hp9Z; obtain ⟨u9Z, hp9Z⟩ := hp9Z; subst hp9Z; (try dsimp only); (try k_sweep))) | ((with_reducible show wpAny _ _ (call (Value.builtin "str.join") _ _) _ _ _); (k_dflt (refine' join_list ?k1 ?k2 perms_fit ?_; (case k1 => is_list); (case k2 => assumption)); intro _ _; (try k_sweep))) | ((with_reducible show wpAny _ _ (call (Value.builtin "list.append") _ _) _ _ _); (k_dflt (refine' append_K ?k1 ?k2 ?k3 ?_ ?z; (case k1 => k_asm); (case k2 => k_asm); (case k3 => k_upd); (case z => (rw [sizeLine_eq]; omega)); k_whole); intro _ _ _; (try k_sweep))) | walk1 | (dsimp only; walk1) | (leave1; walk_say "STEP leave1"; try dsimp only)))))
    rename_i l9 _ _ _ F9 N9 _ _ _
    refine loop_enum (fun i m₁ n₁ => m₁ (Str.ofString "mode") = some (.int m t) ∧ m₁ (Str.ofString "perm") = some (.ref l9) ∧ ∃ arr n, n₁ = [(l9, W.listOf arr n)] ∧ StrsAre arr.toList (perms m i)) rfl (by k_asm) (by k_asm) hT ?_ rfl rfl rfl ?_ ?_
    · exact ⟨rfl, rfl, _, _, rfl, .nil⟩
    · rintro i x t1 m₁ news₁ h tk1 oI I oI' I' hx ⟨hm, hp, arr, n, rfl, hs⟩ F1 N1 off
      obtain ⟨a, l, rfl, hl, items, hIt, hsz, hpr⟩ := hTi i x hx
      rw [map2 hm hp] at F1
      have hne1 := neN (off _ (.head _)).1
      have hne2 := neN (off _ (.head _)).2
      dsimp only at hne1 hne2
      clear N9 F9
      repeat ((((fail_if_success (with_reducible show wpAny _ _ (exec (Stmt.For _ _ _ _ _) _) _ _ _)); (fail_if_success (with_reducible show wpAny _ _ (pyIter _) _ _ _)); (first | (k_unfold; (try dsimp only)) | (refine' (?hh : NextQ _ _) _ ?_; (case hh => with_reducible assumption)) | (refine' (?hh : RestQ _ _) _ _ True.intro ?_; (case hh => with_reducible assumption)) | ((with_reducible show wpAny _ _ (call (Value.ref _) _ _) _ _ _); (k_dflt (refine' use_ct (c_ifmt _ _) ?F ?N ?X ?T ?d ?u ?P ?_; (case F => k_asm); (case N => k_asm); (case X => k_asm); (case T => k_asm); (case d => (first | assumption | exact room2 (by assumption) rfl | exact room1 (by assumption) rfl | exact room0 (by assumption) | omega | ((try dsimp only [Around.deeper, Around.in1]); omega) | ((try simp only [depth_deeper, units_deeper, depth_in1, units_in1] at *); omega))); (case u => (first | assumption | exact room2 (by assumption) rfl | exact room1 (by assumption) rfl | exact room0 (by assumption) | omega | ((try dsimp only [Around.deeper, Around.in1]); omega) | ((try simp only [depth_deeper, units_deeper, depth_in1, units_in1] at *); omega))); (case P => exact trivial); k_whole); intro _ _ _ _ _ _ hp9Z; obtain ⟨u9Z, hp9Z⟩ := hp9Z; subst hp9Z; (try dsimp only); (try k_sweep))) | ((with_reducible show wpAny _ _ (call (Value.builtin "str.join") _ _) _ _ _); (k_dflt (refine' join_list ?k1 ?k2 perms_fit ?_; (case k1 => is_list); (case k2 => assumption)); intro _ _; (try k_sweep))) | ((with_reducible show wpAny _ _ (call (Value.builtin "list.append") _ _) _ _ _); (k_dflt (refine' append_K ?k1 ?k2 ?k3 ?_ ?z; (case k1 => k_asm); (case k2 => k_asm); (case k3 => k_upd); (case z => (rw [sizeLine_eq]; omega)); k_whole); intro _ _ _; (try k_sweep))) | walk1 | (dsimp only; walk1) | (leave1; walk_say "STEP leave1"; try dsimp only)))))
      refine for_go ?_ (by intro _; rfl)
      repeat ((((fail_if_success (with_reducible show wpAny _ _ (exec (Stmt.For _ _ _ _ _) _) _ _ _)); (fail_if_success (with_reducible show wpAny _ _ (pyIter _) _ _ _)); (first | (k_unfold; (try dsimp only)) | (refine' (?hh : NextQ _ _) _ ?_; (case hh => with_reducible assumption)) | (refine' (?hh : RestQ _ _) _ _ True.intro ?_; (case hh => with_reducible assumption)) | ((with_reducible show wpAny _ _ (call (Value.ref _) _ _) _ _ _); (k_dflt (refine' use_ct (c_ifmt _ _) ?F ?N ?X ?T ?d ?u ?P ?_; (case F => k_asm); (case N => k_asm); (case X => k_asm); (case T => k_asm); (case d => (first | assumption | exact room2 (by assumption) rfl | exact room1 (by assumption) rfl | exact room0 (by assumption) | omega | ((try dsimp only [Around.deeper, Around.in1]); omega) | ((try simp only [depth_deeper, units_deeper, depth_in1, units_in1] at *); omega))); (case u => (first | assumption | exact room2 (by assumption) rfl | exact room1 (by assumption) rfl | exact room0 (by assumption) | omega | ((try dsimp only [Around.deeper, Around.in1]); omega) | ((try simp only [depth_deeper, units_deeper, depth_in1, units_in1] at *); omega))); (case P => exact trivial); k_whole); intro _ _ _ _ _ _ hp9Z; obtain ⟨u9Z, hp9Z⟩ := hp9Z; subst hp9Z; (try dsimp only); (try k_sweep))) | ((with_reducible show wpAny _ _ (call (Value.builtin "str.join") _ _) _ _ _); (k_dflt (refine' join_list ?k1 ?k2 perms_fit ?_; (case k1 => is_list); (case k2 => assumption)); intro _ _; (try k_sweep))) | ((with_reducible show wpAny _ _ (call (Value.builtin "list.append") _ _) _ _ _); (k_dflt (refine' append_K ?k1 ?k2 ?k3 ?_ ?z; (case k1 => k_asm); (case k2 => k_asm); (case k3 => k_upd); (case z => (rw [sizeLine_eq]; omega)); k_whole); intro _ _ _; (try k_sweep))) | walk1 | (dsimp only; walk1) | (leave1; walk_say "STEP leave1"; try dsimp only)))))
      refine loop_tpairs (fun j m₂ n₂ => m₂ (Str.ofString "mode") = some (.int m t) ∧ m₂ (Str.ofString "perm") = some (.ref l9) ∧ m₂ (Str.ofString "index") = some (.int i t1) ∧ n₂ = [(I, oI), (I', oI'), (l9, W.listOf arr n)] ∧ ∀ q ∈ l.take j, fits (i == 0) m q.1 = false) rfl (by k_asm) (by k_asm) hIt ?_ rfl rfl rfl ?_ ?_ ?_
      · exact ⟨rfl, rfl, rfl, rfl, by simp⟩
      · intro j v hv
        obtain ⟨T', b, c, tb, u, e, _, hT'⟩ := hpr j v hv
        exact ⟨T', _, _, e, hT'⟩
      · rintro j T' x y m₂ news₂ h2 tk2 oI2 I2 hj hTT ⟨hm2, hp2, hi2, rfl, hno⟩ F2 N2 off2
        obtain ⟨T'', b, c, tb, u, e, hjl, hT''⟩ := hpr j _ hj
        cases e
        obtain ⟨rfl, rfl⟩ : x = .int b tb ∧ y = .str c u := by
          obtain ⟨o1, e1, _, n1, d1⟩ := hTT
          obtain ⟨o2, e2, _, n2, d2⟩ := hT''
          rw [e1] at e2; cases e2
          rw [d1] at d2
          simpa using (Data.seq.inj d2).1
        rw [map3 hm2 hp2 hi2] at F2
        have hne3 := neN (off2 _ (.head _))
        have hne4 := neN (off2 _ (.tail _ (.head _)))
        have hne5 := neN (off2 _ (.tail _ (.tail _ (.head _))))
        dsimp only at hne3 hne4 hne5
        clear F1 N1
        have hz : arr.size ≤ 10 := by
          have h1 := hs.length
          have h2 : (perms m i).length = i := by simp [perms]
          have h3 : i < 10 := hTs ▸ (Array.getElem?_eq_some_iff.mp hx).1
          rw [Array.length_toList] at h1
          omega
        repeat' ((first | (k_unfold; (try dsimp only)) | (refine' (?hh : NextQ _ _) _ ?_; (case hh => with_reducible assumption)) | (refine' (?hh : RestQ _ _) _ _ True.intro ?_; (case hh => with_reducible assumption)) | ((with_reducible show wpAny _ _ (call (Value.ref _) _ _) _ _ _); (k_dflt (refine' use_ct (c_ifmt _ _) ?F ?N ?X ?T ?d ?u ?P ?_; (case F => k_asm); (case N => k_asm); (case X => k_asm); (case T => k_asm); (case d => (first | assumption | exact room2 (by assumption) rfl | exact room1 (by assumption) rfl | exact room0 (by assumption) | omega | ((try dsimp only [Around.deeper, Around.in1]); omega) | ((try simp only [depth_deeper, units_deeper, depth_in1, units_in1] at *); omega))); (case u => (first | assumption | exact room2 (by assumption) rfl | exact room1 (by assumption) rfl | exact room0 (by assumption) | omega | ((try dsimp only [Around.deeper, Around.in1]); omega) | ((try simp only [depth_deeper, units_deeper, depth_in1, units_in1] at *); omega))); (case P => exact trivial); k_whole); intro _ _ _ _ _ _ hp9Z; obtain ⟨u9Z, hp9Z⟩ := hp9Z; subst hp9Z; (try dsimp only); (try k_sweep))) | ((with_reducible show wpAny _ _ (call (Value.builtin "str.join") _ _) _ _ _); (k_dflt (refine' join_list ?k1 ?k2 perms_fit ?_; (case k1 => is_list); (case k2 => assumption)); intro _ _; (try k_sweep))) | ((with_reducible show wpAny _ _ (call (Value.builtin "list.append") _ _) _ _ _); (k_dflt (refine' append_K ?k1 ?k2 ?k3 ?_ ?z; (case k1 => k_asm); (case k2 => k_asm); (case k3 => k_upd); (case z => (rw [sizeLine_eq]; omega)); k_whole); intro _ _ _; (try k_sweep))) | walk1 | (dsimp only; walk1) | (leave1; walk_say "STEP leave1"; try dsimp only)))
        all_goals try dsimp only
        all_goals first
          | exact ⟨_, _, _, _, rfl, by k_asm, fun p hp => (by assumption : News _ _ _ _) p (.tail _ hp), one_off hne1 hne2, rfl, rfl, _, _, rfl, hit_strs hs hl hjl hno (fits_z (by omega) (by omega))⟩
          | exact ⟨_, _, _, _, rfl, by k_asm, fun p hp => (by assumption : News _ _ _ _) p (.tail _ hp), one_off hne1 hne2, rfl, rfl, _, _, rfl, hit_strs hs hl hjl hno (fits_n (by omega) (by omega))⟩
          | exact ⟨_, _, _, _, rfl, by k_asm, by k_asm, off2, trivial, rfl, rfl, rfl, rfl, take_step hjl hno (fits_zn (by omega) (by omega))⟩
          | exact ⟨_, _, _, _, rfl, by k_asm, by k_asm, off2, trivial, rfl, rfl, rfl, rfl, take_step hjl hno (fits_nn (by omega) (by omega))⟩
      · rintro m₂ news₂ h2 tk2 ⟨hm2, hp2, hi2, rfl, hno⟩ F2 N2
        rw [map3 hm2 hp2 hi2] at F2
        clear F1 N1
        have hz : arr.size ≤ 10 := by
          have h1 := hs.length
          have h2 : (perms m i).length = i := by simp [perms]
          have h3 : i < 10 := hTs ▸ (Array.getElem?_eq_some_iff.mp hx).1
          rw [Array.length_toList] at h1
          omega
        repeat' ((first | (k_unfold; (try dsimp only)) | (refine' (?hh : NextQ _ _) _ ?_; (case hh => with_reducible assumption)) | (refine' (?hh : RestQ _ _) _ _ True.intro ?_; (case hh => with_reducible assumption)) | ((with_reducible show wpAny _ _ (call (Value.ref _) _ _) _ _ _); (k_dflt (refine' use_ct (c_ifmt _ _) ?F ?N ?X ?T ?d ?u ?P ?_; (case F => k_asm); (case N => k_asm); (case X => k_asm); (case T => k_asm); (case d => (first | assumption | exact room2 (by assumption) rfl | exact room1 (by assumption) rfl | exact room0 (by assumption) | omega | ((try dsimp only [Around.deeper, Around.in1]); omega) | ((try simp only [depth_deeper, units_deeper, depth_in1, units_in1] at *); omega))); (case u => (first | assumption | exact room2 (by assumption) rfl | exact room1 (by assumption) rfl | exact room0 (by assumption) | omega | ((try dsimp only [Around.deeper, Around.in1]); omega) | ((try simp only [depth_deeper, units_deeper, depth_in1, units_in1] at *); omega))); (case P => exact trivial); k_whole); intro _ _ _ _ _ _ hp9Z; obtain ⟨u9Z, hp9Z⟩ := hp9Z; subst hp9Z; (try dsimp only); (try k_sweep))) | ((with_reducible show wpAny _ _ (call (Value.builtin "str.join") _ _) _ _ _); (k_dflt (refine' join_list ?k1 ?k2 perms_fit ?_; (case k1 => is_list); (case k2 => assumption)); intro _ _; (try k_sweep))) | ((with_reducible show wpAny _ _ (call (Value.builtin "list.append") _ _) _ _ _); (k_dflt (refine' append_K ?k1 ?k2 ?k3 ?_ ?z; (case k1 => k_asm); (case k2 => k_asm); (case k3 => k_upd); (case z => (rw [sizeLine_eq]; omega)); k_whole); intro _ _ _; (try k_sweep))) | walk1 | (dsimp only; walk1) | (leave1; walk_say "STEP leave1"; try dsimp only)))
        all_goals try dsimp only
        all_goals first
          | exact ⟨_, _, _, _, rfl, by k_asm, by k_asm, one_off hne1 hne2, rfl, rfl, _, _, rfl, miss_strs hs hl hsz hno (q_z (by omega))⟩
          | exact ⟨_, _, _, _, rfl, by k_asm, by k_asm, one_off hne1 hne2, rfl, rfl, _, _, rfl, miss_strs hs hl hsz hno (q_n (by omega))⟩
    · rintro m₁ news₁ h tk1 ⟨hm, hp, arr, n, rfl, hs⟩ F1 N1
      rw [map2 hm hp] at F1
      rw [hTs] at hs
      clear N9 F9
      repeat' ((first | (k_unfold; (try dsimp only)) | (refine' (?hh : NextQ _ _) _ ?_; (case hh => with_reducible assumption)) | (refine' (?hh : RestQ _ _) _ _ True.intro ?_; (case hh => with_reducible assumption)) | ((with_reducible show wpAny _ _ (call (Value.ref _) _ _) _ _ _); (k_dflt (refine' use_ct (c_ifmt _ _) ?F ?N ?X ?T ?d ?u ?P ?_; (case F => k_asm); (case N => k_asm); (case X => k_asm); (case T => k_asm); (case d => (first | assumption | exact room2 (by assumption) rfl | exact room1 (by assumption) rfl | exact room0 (by assumption) | omega | ((try dsimp only [Around.deeper, Around.in1]); omega) | ((try simp only [depth_deeper, units_deeper, depth_in1, units_in1] at *); omega))); (case u => (first | assumption | exact room2 (by assumption) rfl | exact room1 (by assumption) rfl | exact room0 (by assumption) | omega | ((try dsimp only [Around.deeper, Around.in1]); omega) | ((try simp only [depth_deeper, units_deeper, depth_in1, units_in1] at *); omega))); (case P => exact trivial); k_whole); intro _ _ _ _ _ _ hp9Z; obtain ⟨u9Z, hp9Z⟩ := hp9Z; subst hp9Z; (try dsimp only); (try k_sweep))) | ((with_reducible show wpAny _ _ (call (Value.builtin "str.join") _ _) _ _ _); (k_dflt (refine' join_list ?k1 ?k2 perms_fit ?_; (case k1 => is_list); (case k2 => assumption)); intro _ _; (try k_sweep))) | ((with_reducible show wpAny _ _ (call (Value.builtin "list.append") _ _) _ _ _); (k_dflt (refine' append_K ?k1 ?k2 ?k3 ?_ ?z; (case k1 => k_asm); (case k2 => k_asm); (case k3 => k_upd); (case z => (rw [sizeLine_eq]; omega)); k_whole); intro _ _ _; (try k_sweep))) | walk1 | (dsimp only; walk1) | (leave1; walk_say "STEP leave1"; try dsimp only)))
      (((try dsimp only); (try k_unfold); (try dsimp only)))
      exact hret _ _ _ (Fr.keep (by assumption)) ⟨_, rfl⟩)
end
end
section
open PySem PySem.W PySem.Calls PyProof.Rows PySem.Builtin PySem.Builtin.Str
set_option maxRecDepth 100000
theorem and_two (x y : Int) : Builtin.bitAnd x (2 * y) = 2 * Builtin.bitAnd (x / 2) y := by
  rw [kbt_halves, show 2 * y / 2 = y by omega, if_neg (by omega)]; omega
theorem and_odd (x y : Int) : Builtin.bitAnd x (2 * y + 1) = 2 * Builtin.bitAnd (x / 2) y + x % 2 := by
  rw [kbt_halves, show (2 * y + 1) / 2 = y by omega]
  split <;> omega
theorem and_shift (y : Int) : ∀ (k : Nat) (x : Int), Builtin.bitAnd x (2 ^ k * y) = 2 ^ k * Builtin.bitAnd (x / 2 ^ k) y
  | 0, x => by simp
  | k + 1, x => by
    rw [show (2 : Int) ^ (k + 1) * y = 2 * (2 ^ k * y) by rw [Int.pow_succ, Int.mul_comm (2 ^ k) 2, Int.mul_assoc], and_two, and_shift y k, Int.ediv_ediv_of_nonneg (by decide), Int.pow_succ, Int.mul_comm (2 ^ k) 2, Int.mul_assoc]
theorem and_kind (m : Int) : Builtin.bitAnd m 61440 = 4096 * (m / 4096 % 16) := by
  have := and_shift 15 12 m
  rw [bitAnd_m4] at this
  exact this
theorem and_pow {m : Int} (k : Nat) : Builtin.bitAnd m (2 ^ k) = (m / 2 ^ k % 2) * 2 ^ k := kbt_bit m k
theorem and_1 (m : Int) : Builtin.bitAnd m 1 = m % 2 := bitAnd_m1 m
theorem and_2 (m : Int) : Builtin.bitAnd m 2 = m / 2 % 2 * 2 := kbt_bit m 1
theorem and_4 (m : Int) : Builtin.bitAnd m 4 = m / 4 % 2 * 4 := kbt_bit m 2
theorem and_8 (m : Int) : Builtin.bitAnd m 8 = m / 8 % 2 * 8 := kbt_bit m 3
theorem and_16 (m : Int) : Builtin.bitAnd m 16 = m / 16 % 2 * 16 := kbt_bit m 4
theorem and_32 (m : Int) : Builtin.bitAnd m 32 = m / 32 % 2 * 32 := kbt_bit m 5
theorem and_64 (m : Int) : Builtin.bitAnd m 64 = m / 64 % 2 * 64 := kbt_bit m 6
theorem and_128 (m : Int) : Builtin.bitAnd m 128 = m / 128 % 2 * 128 := kbt_bit m 7
theorem and_256 (m : Int) : Builtin.bitAnd m 256 = m / 256 % 2 * 256 := kbt_bit m 8
theorem and_512 (m : Int) : Builtin.bitAnd m 512 = m / 512 % 2 * 512 := kbt_bit m 9
theorem and_1024 (m : Int) : Builtin.bitAnd m 1024 = m / 1024 % 2 * 1024 := kbt_bit m 10
theorem and_2048 (m : Int) : Builtin.bitAnd m 2048 = m / 2048 % 2 * 2048 := kbt_bit m 11
theorem and_2112 (m : Int) : Builtin.bitAnd m 2112 = m / 2048 % 2 * 2048 + m / 64 % 2 * 64 := by
  have h := and_shift 33 6 m
  have h2 := and_odd (m / 64) 16
  rw [and_16, Int.ediv_ediv_of_nonneg (by decide), Int.ediv_ediv_of_nonneg (by decide)] at h2
  simp only [Int.reducePow, Int.reduceMul, Int.reduceAdd] at h h2
  rw [h, h2]; omega
theorem and_1032 (m : Int) : Builtin.bitAnd m 1032 = m / 1024 % 2 * 1024 + m / 8 % 2 * 8 := by
  have h := and_shift 129 3 m
  have h2 := and_odd (m / 8) 64
  rw [and_64, Int.ediv_ediv_of_nonneg (by decide), Int.ediv_ediv_of_nonneg (by decide)] at h2
  simp only [Int.reducePow, Int.reduceMul, Int.reduceAdd] at h h2
  rw [h, h2]; omega
theorem and_513 (m : Int) : Builtin.bitAnd m 513 = m / 512 % 2 * 512 + m % 2 := by
  have h2 := and_odd m 256
  rw [and_256, Int.ediv_ediv_of_nonneg (by decide)] at h2
  simp only [Int.reduceMul, Int.reduceAdd] at h2
  rw [h2]; omega
theorem perms10 (m : Int) : perms m 10 = [selC true m (fmTabs.getD 0 []), selC false m (fmTabs.getD 1 []), selC false m (fmTabs.getD 2 []), selC false m (fmTabs.getD 3 []), selC false m (fmTabs.getD 4 []), selC false m (fmTabs.getD 5 []), selC false m (fmTabs.getD 6 []), selC false m (fmTabs.getD 7 []), selC false m (fmTabs.getD 8 []), selC false m (fmTabs.getD 9 [])] := rfl
theorem mod2 (x : Int) : x % 2 = 0 ∨ x % 2 = 1 := by omega
theorem d4 (x : Int) : x % 8 / 4 = x / 4 % 2 := by omega
theorem d2 (x : Int) : x % 8 / 2 % 2 = x / 2 % 2 := by omega
theorem d1 (x : Int) : x % 8 % 2 = x % 2 := by omega
theorem d44 (m a : Int) (ha : 0 ≤ a) : m / a % 8 / 4 = m / (a * 4) % 2 := by rw [d4, Int.ediv_ediv_of_nonneg ha]
theorem d22 (m a : Int) (ha : 0 ≤ a) : m / a % 8 / 2 % 2 = m / (a * 2) % 2 := by rw [d2, Int.ediv_ediv_of_nonneg ha]
theorem two_vals {k : Int} (h0 : 0 ≤ k) (h1 : k < 2) : k = 0 ∨ k = 1 := by omega
theorem kind_of_k : ∀ k : Fin 16, (match [(40960, Str.ofString "l"), (49152, Str.ofString "s"), (32768, Str.ofString "-"), (24576, Str.ofString "b"), (16384, Str.ofString "d"), (8192, Str.ofString "c"), (4096, Str.ofString "p")].find? (fun q : Int × Str => decide (4096 * (k.1 : Int) = q.1)) with
  | some q => q.2
  | none => Str.ofString "?") = Txt.item (Str.ofString "?pc?d?b?-?l?s???") (k.1 : Int) := by decide +kernel
theorem sel_kind (m : Int) : selC true m (fmTabs.getD 0 []) = kindS m := by
  have e := kind_of_k ⟨(m / 4096 % 16).toNat, by omega⟩
  have e2 : ((m / 4096 % 16).toNat : Int) = m / 4096 % 16 := by omega
  simp only [e2] at e
  unfold kindS
  rw [fmod_pos _ (by decide), fdiv_pos m (by decide), ← e]
  unfold selC fits
  simp only [if_true, and_kind]
  rfl
theorem sel_one2 (z : Int) (a b : Str) {m c : Int} (h : Builtin.bitAnd m c = z * c) (hc : 0 < c) (hz : z = 0 ∨ z = 1) (hb : b = Str.ofString "-") (x : Str) (h0 : Txt.item x 0 = b) (h1 : Txt.item x 1 = a) : selC false m [(c, a)] = Txt.item x z := by
  unfold selC fits
  rcases hz with rfl | rfl
  · have : ¬ Builtin.bitAnd m c = c := by rw [h]; omega
    simp [this, h0, hb]
  · have : Builtin.bitAnd m c = c := by rw [h]; omega
    simp [this, h1]
theorem sel_three {z y : Int} {m c d : Int} {a b : Str} {ends : Str} (hcd : Builtin.bitAnd m (c + d) = z * c + y * d) (hc : Builtin.bitAnd m c = z * c) (hd : Builtin.bitAnd m d = y * d) (h0 : 0 < d) (h1 : d < c) (hz : z = 0 ∨ z = 1) (hy : y = 0 ∨ y = 1)
    (e0 : Txt.item ends 0 = b) (e1 : Txt.item ends 1 = a) : selC false m [(c + d, a), (c, b), (d, Str.ofString "x")] = Txt.item ([Str.ofString "-x", ends].getD z.toNat Str.empty) y := by
  have x0 : Txt.item (Str.ofString "-x") 0 = Str.ofString "-" := by decide +kernel
  have x1 : Txt.item (Str.ofString "-x") 1 = Str.ofString "x" := by decide +kernel
  unfold selC fits
  rcases hz with rfl | rfl <;> rcases hy with rfl | rfl
  · have a1 : ¬ Builtin.bitAnd m (c + d) = c + d := by rw [hcd]; omega
    have a2 : ¬ Builtin.bitAnd m c = c := by rw [hc]; omega
    have a3 : ¬ Builtin.bitAnd m d = d := by rw [hd]; omega
    simp [a1, a2, a3, x0]
  · have a1 : ¬ Builtin.bitAnd m (c + d) = c + d := by rw [hcd]; omega
    have a2 : ¬ Builtin.bitAnd m c = c := by rw [hc]; omega
    have a3 : Builtin.bitAnd m d = d := by rw [hd]; omega
    simp [a1, a2, a3, x1]
  · have a1 : ¬ Builtin.bitAnd m (c + d) = c + d := by rw [hcd]; omega
    have a2 : Builtin.bitAnd m c = c := by rw [hc]; omega
    simp [a1, a2, e0]
  · have a1 : Builtin.bitAnd m (c + d) = c + d := by rw [hcd]; omega
    simp [a1, e1]
theorem join_dot (a b c d : Str) : Txt.join (Str.ofString ".") [a, b, c, d] = ⟨a.cps ++ #[46] ++ b.cps ++ #[46] ++ c.cps ++ #[46] ++ d.cps⟩ := by
  have e : Str.ofString "." = ⟨#[46]⟩ := by decide +kernel
  rw [e]
  simp [Txt.join, Builtin.Str.glued]
theorem one_char {x : Str} (h : x.length = 1) : ∃ c, x = ⟨#[c]⟩ := by
  obtain ⟨a⟩ := x
  match a, h with
  | ⟨[c]⟩, _ => exact ⟨c, rfl⟩
theorem join_ten (c0 c1 c2 c3 c4 c5 c6 c7 c8 c9 : Nat) : Txt.join (Str.ofString "") [⟨#[c0]⟩, ⟨#[c1]⟩, ⟨#[c2]⟩, ⟨#[c3]⟩, ⟨#[c4]⟩, ⟨#[c5]⟩, ⟨#[c6]⟩, ⟨#[c7]⟩, ⟨#[c8]⟩, ⟨#[c9]⟩] = ⟨#[c0, c1, c2, c3, c4, c5, c6, c7, c8, c9]⟩ := by
  have e : Str.ofString "" = ⟨#[]⟩ := by decide +kernel
  rw [e]
  simp [Txt.join, Builtin.Str.glued]
theorem slice_10 {c0 c1 c2 c3 c4 c5 c6 c7 c8 c9 : Nat} {a b : Option Int} {is : List Nat} (h : strSliceIndices a b 1 10 = is) (hl : (is.length == 10) = false) :
    Txt.slice ⟨#[c0, c1, c2, c3, c4, c5, c6, c7, c8, c9]⟩ a b = ⟨(is.filterMap ((#[c0, c1, c2, c3, c4, c5, c6, c7, c8, c9] : Array Nat)[·]?)).toArray⟩ := by
  unfold Txt.slice
  rw [show (Str.length ⟨#[c0, c1, c2, c3, c4, c5, c6, c7, c8, c9]⟩) = 10 from rfl, h, if_neg (by rw [hl]; decide)]
theorem i0 : strSliceIndices none (some 1) 1 10 = [0] := by decide +kernel
theorem i1 : strSliceIndices (some 1) (some 4) 1 10 = [1, 2, 3] := by decide +kernel
theorem i2 : strSliceIndices (some 4) (some 7) 1 10 = [4, 5, 6] := by decide +kernel
theorem i3 : strSliceIndices (some 7) none 1 10 = [7, 8, 9] := by decide +kernel
/-- the four pieces of the shown mode -/
theorem cut_shown (m : Int) : ∀ J, J = Txt.join (Str.ofString "") (perms m 10) →
    J.length = 10 ∧ Txt.slice J none (some 1) = kindS m ∧ Txt.slice J (some 1) (some 4) = rwxS (Str.ofString "Ss") ((m.fdiv 64).fmod 8) ((m.fdiv 2048).fmod 2) ∧ Txt.slice J (some 4) (some 7) = rwxS (Str.ofString "Ss") ((m.fdiv 8).fmod 8) ((m.fdiv 1024).fmod 2) ∧ Txt.slice J (some 7) none = rwxS (Str.ofString "Tt") ((m.fdiv 1).fmod 8) ((m.fdiv 512).fmod 2) := by
  rintro _ rfl
  have r0 : Txt.item (Str.ofString "-r") 0 = Str.ofString "-" := by decide +kernel
  have r1 : Txt.item (Str.ofString "-r") 1 = Str.ofString "r" := by decide +kernel
  have w0 : Txt.item (Str.ofString "-w") 0 = Str.ofString "-" := by decide +kernel
  have w1 : Txt.item (Str.ofString "-w") 1 = Str.ofString "w" := by decide +kernel
  have s0 : Txt.item (Str.ofString "Ss") 0 = Str.ofString "S" := by decide +kernel
  have s1 : Txt.item (Str.ofString "Ss") 1 = Str.ofString "s" := by decide +kernel
  have t0 : Txt.item (Str.ofString "Tt") 0 = Str.ofString "T" := by decide +kernel
  have t1 : Txt.item (Str.ofString "Tt") 1 = Str.ofString "t" := by decide +kernel
  have p1 : selC false m (fmTabs.getD 1 []) = Txt.item (Str.ofString "-r") (m / 256 % 2) := sel_one2 _ _ _ (and_256 m) (by decide) (mod2 _) rfl _ r0 r1
  have p2 : selC false m (fmTabs.getD 2 []) = Txt.item (Str.ofString "-w") (m / 128 % 2) := sel_one2 _ _ _ (and_128 m) (by decide) (mod2 _) rfl _ w0 w1
  have p3 : selC false m (fmTabs.getD 3 []) = Txt.item ([Str.ofString "-x", Str.ofString "Ss"].getD (m / 2048 % 2).toNat Str.empty) (m / 64 % 2) := sel_three (c := 2048) (d := 64) (and_2112 m) (and_2048 m) (and_64 m) (by decide) (by decide) (mod2 _) (mod2 _) s0 s1
  have p4 : selC false m (fmTabs.getD 4 []) = Txt.item (Str.ofString "-r") (m / 32 % 2) := sel_one2 _ _ _ (and_32 m) (by decide) (mod2 _) rfl _ r0 r1
  have p5 : selC false m (fmTabs.getD 5 []) = Txt.item (Str.ofString "-w") (m / 16 % 2) := sel_one2 _ _ _ (and_16 m) (by decide) (mod2 _) rfl _ w0 w1
  have p6 : selC false m (fmTabs.getD 6 []) = Txt.item ([Str.ofString "-x", Str.ofString "Ss"].getD (m / 1024 % 2).toNat Str.empty) (m / 8 % 2) := sel_three (c := 1024) (d := 8) (and_1032 m) (and_1024 m) (and_8 m) (by decide) (by decide) (mod2 _) (mod2 _) s0 s1
  have p7 : selC false m (fmTabs.getD 7 []) = Txt.item (Str.ofString "-r") (m / 4 % 2) := sel_one2 _ _ _ (and_4 m) (by decide) (mod2 _) rfl _ r0 r1
  have p8 : selC false m (fmTabs.getD 8 []) = Txt.item (Str.ofString "-w") (m / 2 % 2) := sel_one2 _ _ _ (and_2 m) (by decide) (mod2 _) rfl _ w0 w1
  have p9 : selC false m (fmTabs.getD 9 []) = Txt.item ([Str.ofString "-x", Str.ofString "Tt"].getD (m / 512 % 2).toNat Str.empty) (m % 2) := sel_three (c := 512) (d := 1) (by rw [Int.mul_one]; exact and_513 m) (and_512 m) (by rw [Int.mul_one]; exact and_1 m) (by decide) (by decide) (mod2 _) (mod2 _) t0 t1
  have q1 : rwxS (Str.ofString "Ss") ((m.fdiv 64).fmod 8) ((m.fdiv 2048).fmod 2) = selC false m (fmTabs.getD 1 []) ++ selC false m (fmTabs.getD 2 []) ++ selC false m (fmTabs.getD 3 []) := by
    rw [p1, p2, p3]; unfold rwxS
    simp only [fmod_pos _ (show (0 : Int) ≤ 8 by decide), fmod_pos _ (show (0 : Int) ≤ 2 by decide), fdiv_pos _ (show (0 : Int) ≤ 64 by decide), fdiv_pos _ (show (0 : Int) ≤ 2048 by decide), fdiv_pos _ (show (0 : Int) ≤ 4 by decide), fdiv_pos _ (show (0 : Int) ≤ 2 by decide)]
    rw [show m / 64 % 8 / 4 = m / 256 % 2 from d44 m 64 (by decide), show m / 64 % 8 / 2 % 2 = m / 128 % 2 from d22 m 64 (by decide), d1]
  have q2 : rwxS (Str.ofString "Ss") ((m.fdiv 8).fmod 8) ((m.fdiv 1024).fmod 2) = selC false m (fmTabs.getD 4 []) ++ selC false m (fmTabs.getD 5 []) ++ selC false m (fmTabs.getD 6 []) := by
    rw [p4, p5, p6]; unfold rwxS
    simp only [fmod_pos _ (show (0 : Int) ≤ 8 by decide), fmod_pos _ (show (0 : Int) ≤ 2 by decide), fdiv_pos _ (show (0 : Int) ≤ 8 by decide), fdiv_pos _ (show (0 : Int) ≤ 1024 by decide), fdiv_pos _ (show (0 : Int) ≤ 4 by decide), fdiv_pos _ (show (0 : Int) ≤ 2 by decide)]
    rw [show m / 8 % 8 / 4 = m / 32 % 2 from d44 m 8 (by decide), show m / 8 % 8 / 2 % 2 = m / 16 % 2 from d22 m 8 (by decide), d1]
  have q3 : rwxS (Str.ofString "Tt") ((m.fdiv 1).fmod 8) ((m.fdiv 512).fmod 2) = selC false m (fmTabs.getD 7 []) ++ selC false m (fmTabs.getD 8 []) ++ selC false m (fmTabs.getD 9 []) := by
    rw [p7, p8, p9]; unfold rwxS
    simp only [fmod_pos _ (show (0 : Int) ≤ 8 by decide), fmod_pos _ (show (0 : Int) ≤ 2 by decide), fdiv_pos _ (show (0 : Int) ≤ 1 by decide), fdiv_pos _ (show (0 : Int) ≤ 512 by decide), fdiv_pos _ (show (0 : Int) ≤ 4 by decide), fdiv_pos _ (show (0 : Int) ≤ 2 by decide)]
    rw [Int.ediv_one, d4, d2, d1]
  rw [perms10, q1, q2, q3, ← sel_kind]
  obtain ⟨c0, e0⟩ := one_char (sel_one (z := true) (m := m) (j := 0))
  obtain ⟨c1, e1⟩ := one_char (sel_one (z := false) (m := m) (j := 1))
  obtain ⟨c2, e2⟩ := one_char (sel_one (z := false) (m := m) (j := 2))
  obtain ⟨c3, e3⟩ := one_char (sel_one (z := false) (m := m) (j := 3))
  obtain ⟨c4, e4⟩ := one_char (sel_one (z := false) (m := m) (j := 4))
  obtain ⟨c5, e5⟩ := one_char (sel_one (z := false) (m := m) (j := 5))
  obtain ⟨c6, e6⟩ := one_char (sel_one (z := false) (m := m) (j := 6))
  obtain ⟨c7, e7⟩ := one_char (sel_one (z := false) (m := m) (j := 7))
  obtain ⟨c8, e8⟩ := one_char (sel_one (z := false) (m := m) (j := 8))
  obtain ⟨c9, e9⟩ := one_char (sel_one (z := false) (m := m) (j := 9))
  rw [e0, e1, e2, e3, e4, e5, e6, e7, e8, e9, join_ten]
  exact ⟨rfl, slice_10 i0 (by decide), slice_10 i1 (by decide), slice_10 i2 (by decide), slice_10 i3 (by decide)⟩
end
section
def nameS (m : Int) : Str := Txt.join (Str.ofString ".") (lawParts m)
theorem lawParts_len (m : Int) : ∀ x ∈ lawParts m, x.length ≤ 10 := by
  obtain ⟨J, hJ⟩ : ∃ J, J = Txt.join (Str.ofString "") (perms m 10) := ⟨_, rfl⟩
  obtain ⟨h, h0, h1, h2, h3⟩ := cut_shown m J hJ
  clear hJ
  have hle : ∀ a b, (Txt.slice J a b).length ≤ 10 := fun a b => Nat.le_trans (Txt.slice_le J a b) (Nat.le_of_eq h)
  have k0 := hle none (some 1)
  have k1 := hle (some 1) (some 4)
  have k2 := hle (some 4) (some 7)
  have k3 := hle (some 7) none
  rw [h0] at k0
  rw [h1] at k1
  rw [h2] at k2
  rw [h3] at k3
  unfold lawParts
  exact List.forall_mem_cons.mpr ⟨k0, List.forall_mem_cons.mpr ⟨k1, List.forall_mem_cons.mpr ⟨k2, List.forall_mem_cons.mpr ⟨k3, fun _ h => nomatch h⟩⟩⟩⟩
theorem join4_fit (m : Int) : ((lawParts m).map (·.length)).sum + (lawParts m).length * (Str.ofString ".").length ≤ 16777216 := by
  have e : (Str.ofString ".").length = 1 := by decide +kernel
  have h := lawParts_len m
  unfold lawParts at h ⊢
  simp only [List.mem_cons, List.not_mem_nil, or_false, forall_eq_or_imp, forall_eq] at h
  simp only [List.map_cons, List.map_nil, List.sum_cons, List.sum_nil, List.length_cons, List.length_nil, e]; omega
theorem fit10 {J : Str} (h : J.length = 10) : J.length ≤ sizeLine := by rw [sizeLine_eq]; omega
theorem c_fm' {w : World} (m : Int) (t : Tok) : Ct w 2 112 [.int m t] (fun _ => True) (fun _ _ r => ∃ J u, r = .str J u ∧ J.length = 10 ∧ [Txt.slice J none (some 1), Txt.slice J (some 1) (some 4), Txt.slice J (some 4) (some 7), Txt.slice J (some 7) none] = lawParts m) := by
  intro p loose mean mg mb dp fr gd un s Q E X T hdp hun hhow hret
  refine c_fm m t p loose mean mg mb dp fr gd un s Q E X T hdp hun hhow fun r h' tk' st hp => hret r h' tk' st ?_
  obtain ⟨u, rfl⟩ := hp
  obtain ⟨h, h0, h1, h2, h3⟩ := cut_shown m _ rfl
  exact ⟨_, u, rfl, h, by rw [h0, h1, h2, h3]; rfl⟩
theorem join_parts {prog : Program} {w : World} {A : Around} {E : Value → Shared → Prop} {s : Shared} {t : Tok} {Q : Value → Shared → Prop} {D : Addr} {items : Array Value} {ys : List Str} {m : Int} (hl : s.heap.IsList D items) (hi : StrsAre items.toList ys) (e : ys = lawParts m)
    (h : ∀ t' k, Q (.str (nameS m) t') { s with toks := k }) : wpAny (model prog w) A (call (.builtin "str.join") [.str (Str.ofString ".") t, .ref D]) Q E s := by
  subst e
  exact join_list hl hi (join4_fit m) h
section
set_option maxRecDepth 100000 in
set_option maxHeartbeats 8000000 in
theorem c_name {w : World} (m : Int) (t : Tok) : Ct w 3 202 [.int m t] (fun _ => True) (fun _ _ r => ∃ u, r = .str (nameS m) u) := by
  w_strict (
    intro p loose mean mg mb dp fr gd un s Q E X T hdp hun hhow hret
    (k_dflt (refine' enter ?X ?T ?ho ?hcd ?hroom ?hbind ?hloc ?_ ?c2 ?c3 ?c4 ?c5; (case X => k_asm); (case T => k_asm); (case ho => k_is); (case hcd => k_is); (case hroom => (first | assumption | exact room2 (by assumption) rfl | exact room1 (by assumption) rfl | exact room0 (by assumption) | omega | ((try dsimp only [Around.deeper, Around.in1]); omega) | ((try simp only [depth_deeper, units_deeper, depth_in1, units_in1] at *); omega))); (case hbind => first | exact BindsTo.of_eq rfl | exact binds_K (by k_in) rfl (by k_is) rfl rfl rfl); (case hloc => exact locs rfl); (case c2 => exact rfl); (case c3 => exact rfl); (case c4 => exact rfl); (case c5 => decide); k_whole; intro _ _ _ _; (try dsimp only); (try k_fold)))
    repeat' ((first | (k_unfold; (try dsimp only)) | (refine' (?hh : NextQ _ _) _ ?_; (case hh => with_reducible assumption)) | (refine' (?hh : RestQ _ _) _ _ True.intro ?_; (case hh => with_reducible assumption)) | ((with_reducible show wpAny _ _ (call (Value.ref _) _ _) _ _ _); (k_dflt (refine' use_ct (c_fm' _ _) ?F ?N ?X ?T ?d ?u ?P ?_; (case F => k_asm); (case N => k_asm); (case X => k_asm); (case T => k_asm); (case d => (first | assumption | exact room2 (by assumption) rfl | exact room1 (by assumption) rfl | exact room0 (by assumption) | omega | ((try dsimp only [Around.deeper, Around.in1]); omega) | ((try simp only [depth_deeper, units_deeper, depth_in1, units_in1] at *); omega))); (case u => (first | assumption | exact room2 (by assumption) rfl | exact room1 (by assumption) rfl | exact room0 (by assumption) | omega | ((try dsimp only [Around.deeper, Around.in1]); omega) | ((try simp only [depth_deeper, units_deeper, depth_in1, units_in1] at *); omega))); (case P => exact trivial); k_whole); intro _ _ _ _ _ _ hp9Z; obtain ⟨J9Z, u9Z, hp9Z, hJl9Z, hJ9Z⟩ := hp9Z; subst hp9Z; (try dsimp only); (try k_sweep))) | ((with_reducible show wpAny _ _ (subscriptTail (PySem.Expr.Name _ _) (PySem.Expr.Slice _ _ _ _) (Value.str _ _) (Value.ref _)) _ _ _); (k_dflt (first | ((with_reducible show wpAny _ _ (subscriptTail _ (Expr.Slice none (some _) none _) _ _) _ _ _); refine' slice_strN_ns (s := ⟨_, _, _, _, _⟩) (hsz := fit10 ?z) ?F ?N ?_; (case F => k_asm); (case N => k_asm); (case z => assumption)) | ((with_reducible show wpAny _ _ (subscriptTail _ (Expr.Slice (some _) none none _) _ _) _ _ _); refine' slice_strN_sn (s := ⟨_, _, _, _, _⟩) (hsz := fit10 ?z) ?F ?N ?_; (case F => k_asm); (case N => k_asm); (case z => assumption)) | ((with_reducible show wpAny _ _ (subscriptTail _ (Expr.Slice (some _) (some _) none _) _ _) _ _ _); refine' slice_strN_ss (s := ⟨_, _, _, _, _⟩) (hsz := fit10 ?z) ?F ?N ?_; (case F => k_asm); (case N => k_asm); (case z => assumption))); intro _ _ _ _ _; (try k_sweep))) | ((with_reducible show wpAny _ _ (call (Value.builtin "str.join") _ _) _ _ _); (k_dflt (refine' join_parts ?k1 ?k2 ?k3 ?_; (case k1 => is_list); (case k2 => exact .cons _ _ (.cons _ _ (.cons _ _ (.cons _ _ .nil)))); (case k3 => assumption)); intro _ _; (try k_sweep))) | walk1 | (dsimp only; walk1) | (leave1; walk_say "STEP leave1"; try dsimp only)))
    (((try dsimp only); (try k_unfold); (try dsimp only)))
    exact hret _ _ _ (Fr.keep (by assumption)) ⟨_, rfl⟩)
end
end
section
theorem lawMode_ok (q : Int) : ModeOk (lawMode q) := by
  unfold lawMode ModeOk
  rw [fmod_pos _ (by decide)]
  omega
theorem mode_ok2 (a : Int) : ModeOk (a.fmod 16777216) := by
  unfold ModeOk
  rw [fmod_pos _ (by decide)]
  omega
theorem size_ok (n : Nat) (h : n < 8) : [1, 5, 9, 13, 4, 6, 2, 8].getD n 0 ∈ sizes := by
  match n, h with
  | 0, _ | 1, _ | 2, _ | 3, _ | 4, _ | 5, _ | 6, _ | 7, _ => decide
theorem ints_atL : ∀ {vs : List Value} {ns : List Int}, IntsAre vs ns → ∀ {i : Nat} {v : Value}, vs[i]? = some v → ∃ n tn, v = .int n tn ∧ ns[i]? = some n
  | _, _, .nil, _, _, h => by simp at h
  | _, _, .cons n t r, 0, _, h => ⟨n, t, by simpa using h.symm, rfl⟩
  | _, _, .cons n t r, i + 1, _, h => by simpa using ints_atL r (i := i) (by simpa using h)
theorem ints_at {arr : Array Value} {ns : List Int} (h : IntsAre arr.toList ns) {i : Nat} {v : Value} (hv : arr[i]? = some v) : ∃ n tn, v = .int n tn ∧ ns[i]? = some n :=
  ints_atL h (by rw [Array.getElem?_toList]; exact hv)
theorem fmod8 (a : Int) : (a.fmod 8).toNat < 8 := by rw [fmod_pos _ (by decide)]; omega
theorem fmod4 (a : Int) : 0 ≤ a.fmod 4 ∧ a.fmod 4 < 4 := by rw [fmod_pos _ (by decide)]; omega
theorem lit9 {i : Nat} {v : Value} {t0 t1 t2 t3 t4 t5 t6 t7 t8 : Tok} (h : (#[Value.int 298980 t0, Value.int 36836 t1, Value.int 36781 t2, Value.int 823213 t3, Value.int 36845 t4, Value.int 16877 t5, Value.int 18925 t6, Value.int 12288 t7, Value.int 1339392 t8] : Array Value)[i]? = some v) : i < 9 ∧ ∃ n tn, v = .int n tn ∧ ModeOk n := by
  match i, h with
  | 0, h | 1, h | 2, h | 3, h | 4, h | 5, h | 6, h | 7, h | 8, h => exact ⟨by decide, _, _, by simpa using h.symm, by decide, by decide⟩
  | i + 9, h => simp at h
theorem src_keep {g : Heap} {l lm ld la : Addr} {its : Array Value} {a b c a' b' c' : Obj} {p : Addr × Obj} {Y : List (Addr × Obj)} (h : LCg.SrcAt g l its ((lm, a) :: (ld, b) :: (la, c) :: Y)) (h1 : @Ne Nat l lm) (h2 : @Ne Nat l ld) (h3 : @Ne Nat l la) : LCg.SrcAt g l its ((lm, a') :: (ld, b') :: (la, c') :: p :: Y) := by
  rcases h with h | ⟨o, hm, r⟩
  · exact .inl h
  · rcases List.mem_cons.mp hm with e | hm
    · exact absurd (congrArg Prod.fst e) h1
    · rcases List.mem_cons.mp hm with e | hm
      · exact absurd (congrArg Prod.fst e) h2
      · rcases List.mem_cons.mp hm with e | hm
        · exact absurd (congrArg Prod.fst e) h3
        · exact .inr ⟨o, .tail _ (.tail _ (.tail _ (.tail _ hm))), r⟩
theorem drawn_dat {g h : Heap} {L T lm ld la : Addr} {am ad aa : Array Value} {nm nd na nt : Nat} {Y : List (Addr × Obj)} {ms ds : List (Int × Int)} {as : List (Int × Option Int)}
    (N : News g L h ((T, ({ cls := .type "tuple", data := .seq #[.ref lm, .ref ld, .ref la] nt } : Obj)) :: (lm, W.listOf am nm) :: (ld, W.listOf ad nd) :: (la, W.listOf aa na) :: Y))
    (hm : DatAll Y am.toList (ms.map datP)) (hd : DatAll Y ad.toList (ds.map datP)) (ha : DatAll Y aa.toList (as.map datA)) : NewDat (.tuple [.list (ms.map datP), .list (ds.map datP), .list (as.map datA)]) g h (.ref T) :=
  newDat_of N (.tuple (.head _) (.cons (.list (.tail _ (.head _)) (dat_more (dat_more (dat_more (dat_more hm))))) (.cons (.list (.tail _ (.tail _ (.head _))) (dat_more (dat_more (dat_more (dat_more hd))))) (.cons (.list (.tail _ (.tail _ (.tail _ (.head _)))) (dat_more (dat_more (dat_more (dat_more ha))))) .nil))))
section
local macro_rules | `(tactic| k_all) => `(tactic| with_reducible assumption)
local macro_rules | `(tactic| walk_at "sub9") => `(tactic| first | (refine' List.forall_mem_cons.mpr ⟨?a, ?b⟩; (case a => k_mem); (case b => walk_at "sub9")) | (intro p hp; repeat' (first | exact hp | refine List.Mem.tail _ ?_)))
set_option maxRecDepth 100000 in
set_option maxHeartbeats 8000000 in
theorem c_drawn {w : World} (l : Addr) (arr : Array Value) (ns : List Int) (hI : IntsAre arr.toList ns) (hn : ns.length ≤ 6) : Ct w 2 188 [.ref l] (fun h => h.IsList l arr) DrawnIs := by
  w_strict (
    intro p loose mean mg mb dp fr gd un s Q E X T hdp hun hP hret
    (k_dflt (refine' enter ?X ?T ?ho ?hcd ?hroom ?hbind ?hloc ?_ ?c2 ?c3 ?c4 ?c5; (case X => k_asm); (case T => k_asm); (case ho => k_is); (case hcd => k_is); (case hroom => (first | assumption | exact room2 (by assumption) rfl | exact room1 (by assumption) rfl | exact room0 (by assumption) | omega | ((try dsimp only [Around.deeper, Around.in1]); omega) | ((try simp only [depth_deeper, units_deeper, depth_in1, units_in1] at *); omega))); (case hbind => first | exact BindsTo.of_eq rfl | exact binds_K (by k_in) rfl (by k_is) rfl rfl rfl); (case hloc => exact locs rfl); (case c2 => exact rfl); (case c3 => exact rfl); (case c4 => exact rfl); (case c5 => decide); k_whole; intro _ _ _ _; (try dsimp only); (try k_fold)))
    repeat ((((fail_if_success (with_reducible show wpAny _ _ (exec (Stmt.For _ _ _ _ _) _) _ _ _)); (fail_if_success (with_reducible show wpAny _ _ (pyIter _) _ _ _)); (first | (k_unfold; (try dsimp only)) | (refine' (?hh : NextQ _ _) _ ?_; (case hh => with_reducible assumption)) | (refine' (?hh : RestQ _ _) _ _ True.intro ?_; (case hh => with_reducible assumption)) | ((with_reducible show wpAny _ _ (call (Value.ref _) _ _) _ _ _); (k_dflt (refine' use_ct (c_mode _ _) ?F ?N ?X ?T ?d ?u ?P ?_; (case F => k_asm); (case N => k_asm); (case X => k_asm); (case T => k_asm); (case d => (first | assumption | exact room2 (by assumption) rfl | exact room1 (by assumption) rfl | exact room0 (by assumption) | omega | ((try dsimp only [Around.deeper, Around.in1]); omega) | ((try simp only [depth_deeper, units_deeper, depth_in1, units_in1] at *); omega))); (case u => (first | assumption | exact room2 (by assumption) rfl | exact room1 (by assumption) rfl | exact room0 (by assumption) | omega | ((try dsimp only [Around.deeper, Around.in1]); omega) | ((try simp only [depth_deeper, units_deeper, depth_in1, units_in1] at *); omega))); (case P => exact trivial); k_whole); intro _ _ _ _ _ _ hp9Z; obtain ⟨u9Z, hp9Z⟩ := hp9Z; subst hp9Z; (try dsimp only); (try k_sweep))) | ((with_reducible show wpAny _ _ (subscriptTail (PySem.Expr.Name _ _) (PySem.Expr.Name _ _) (Value.ref _) (Value.int _ _)) _ _ _); ((with_reducible show wpAny _ _ (subscriptTail _ _ (Value.ref _) (Value.int _ _)) _ _ _); k_dflt (refine' KTb.item_list ?ktbl ?ktbw ?ktb0 ?ktb1 ?ktbf ?_; (case ktbl => exact News.isList (by k_asm) (by k_mem)); (case ktbw => repeat constructor); (case ktb0 => ktb_idx); (case ktb1 => ktb_idx); (case ktbf => ktb_idx)); intro _ ktbLtZ; (simp only [List.length_cons, List.length_nil, Nat.zero_add] at ktbLtZ); walk_say "OWN ends")) | ((with_reducible show wpAny _ _ (call (Value.builtin "list.append") _ _) _ _ _); (k_dflt (refine' append_K ?k1 ?k2 ?k3 ?_ ?z; (case k1 => k_asm); (case k2 => k_asm); (case k3 => k_upd); (case z => (rw [sizeLine_eq]; (try simp only [Array.size_push]); omega)); k_whole); intro _ _ _; (try k_sweep))) | walk1 | (dsimp only; walk1) | (leave1; walk_say "STEP leave1"; try dsimp only)))))
    refine for_go ?_ (by intro _; rfl)
    repeat ((((fail_if_success (with_reducible show wpAny _ _ (exec (Stmt.For _ _ _ _ _) _) _ _ _)); (fail_if_success (with_reducible show wpAny _ _ (pyIter _) _ _ _)); (first | (k_unfold; (try dsimp only)) | (refine' (?hh : NextQ _ _) _ ?_; (case hh => with_reducible assumption)) | (refine' (?hh : RestQ _ _) _ _ True.intro ?_; (case hh => with_reducible assumption)) | ((with_reducible show wpAny _ _ (call (Value.ref _) _ _) _ _ _); (k_dflt (refine' use_ct (c_mode _ _) ?F ?N ?X ?T ?d ?u ?P ?_; (case F => k_asm); (case N => k_asm); (case X => k_asm); (case T => k_asm); (case d => (first | assumption | exact room2 (by assumption) rfl | exact room1 (by assumption) rfl | exact room0 (by assumption) | omega | ((try dsimp only [Around.deeper, Around.in1]); omega) | ((try simp only [depth_deeper, units_deeper, depth_in1, units_in1] at *); omega))); (case u => (first | assumption | exact room2 (by assumption) rfl | exact room1 (by assumption) rfl | exact room0 (by assumption) | omega | ((try dsimp only [Around.deeper, Around.in1]); omega) | ((try simp only [depth_deeper, units_deeper, depth_in1, units_in1] at *); omega))); (case P => exact trivial); k_whole); intro _ _ _ _ _ _ hp9Z; obtain ⟨u9Z, hp9Z⟩ := hp9Z; subst hp9Z; (try dsimp only); (try k_sweep))) | ((with_reducible show wpAny _ _ (subscriptTail (PySem.Expr.Name _ _) (PySem.Expr.Name _ _) (Value.ref _) (Value.int _ _)) _ _ _); ((with_reducible show wpAny _ _ (subscriptTail _ _ (Value.ref _) (Value.int _ _)) _ _ _); k_dflt (refine' KTb.item_list ?ktbl ?ktbw ?ktb0 ?ktb1 ?ktbf ?_; (case ktbl => exact News.isList (by k_asm) (by k_mem)); (case ktbw => repeat constructor); (case ktb0 => ktb_idx); (case ktb1 => ktb_idx); (case ktbf => ktb_idx)); intro _ ktbLtZ; (simp only [List.length_cons, List.length_nil, Nat.zero_add] at ktbLtZ); walk_say "OWN ends")) | ((with_reducible show wpAny _ _ (call (Value.builtin "list.append") _ _) _ _ _); (k_dflt (refine' append_K ?k1 ?k2 ?k3 ?_ ?z; (case k1 => k_asm); (case k2 => k_asm); (case k3 => k_upd); (case z => (rw [sizeLine_eq]; (try simp only [Array.size_push]); omega)); k_whole); intro _ _ _; (try k_sweep))) | walk1 | (dsimp only; walk1) | (leave1; walk_say "STEP leave1"; try dsimp only)))))
    rename_i D1 _ q1 lm _ q2 D2 _ q3 ld _ q4 la _ q5 D3 _ q6 _ _ _ _ F9 N9 _ _ _
    obtain ⟨q21, q22⟩ : lm ≠ ld ∧ ld ≠ la := by
      constructor
      · exact neN (by omega)
      · exact neN (by omega)
    have N8 := News.sub N9 (a := [(lm, _), (ld, _), (la, _), (D1, _), (D2, _)]) (List.forall_mem_cons.mpr ⟨by k_mem, List.forall_mem_cons.mpr ⟨by k_mem, List.forall_mem_cons.mpr ⟨by k_mem, List.forall_mem_cons.mpr ⟨by k_mem, List.forall_mem_cons.mpr ⟨by k_mem, fun _ h => nomatch h⟩⟩⟩⟩⟩)
    clear N9
    refine loop_list (fun i m₁ n₁ => m₁ (Str.ofString "mods") = some (.ref lm) ∧ m₁ (Str.ofString "dirs") = some (.ref ld) ∧ m₁ (Str.ofString "asks") = some (.ref la) ∧ DInv lm ld la i (2 * i) n₁) rfl (by k_asm) N8 (.inl hP) ?_ (.inl ⟨_, _, rfl⟩) ?_ ?_
    · refine ⟨rfl, rfl, rfl, _, _, _, _, _, _, _, [(16877, 5)], [(32768, 2)], [], rfl, ?_, .cons (.tuple (.head _) (.cons (.int _ _) (.cons (.int _ _) .nil))) .nil, .cons (.tuple (.tail _ (.head _)) (.cons (.int _ _) (.cons (.int _ _) .nil))) .nil, .nil, ?_, ?_, ?_, by decide, by decide, by decide⟩
      · exact off_cons (off_cons (fun _ h => nomatch h) (by omega) (by omega) (by omega)) (by omega) (by omega) (by omega)
      · intro q hq; cases List.mem_singleton.mp hq; exact ⟨⟨by decide, by decide⟩, by decide⟩
      · intro q hq; cases List.mem_singleton.mp hq; exact ⟨⟨by decide, by decide⟩, by decide, by decide⟩
      · intro q hq; cases hq
    · rintro i v m₁ news₁ h tk oI I hv ⟨hm1, hm2, hm3, am, nm, ad, nd, aa, na, Y, ms, ds, as, rfl, off, dm, dd, da, okm, okd, oka, l1, l2, l3⟩ hS F1 N1 offI
      obtain ⟨n, tn, rfl, hni⟩ : ∃ n tn, v = .int n tn ∧ ns[i]? = some n := ints_at hI hv
      rw [map3 hm1 hm2 hm3] at F1
      have hi : i < 6 := by
        have := (Array.getElem?_eq_some_iff.mp hv).1
        have h2 := hI.length
        rw [Array.length_toList] at h2
        omega
      have hz1 : am.size ≤ 100 := by have := dm.length; simp only [Array.length_toList, List.length_map] at this; omega
      have hz2 : ad.size ≤ 100 := by have := dd.length; simp only [Array.length_toList, List.length_map] at this; omega
      have hz3 : aa.size ≤ 100 := by have := da.length; simp only [Array.length_toList, List.length_map] at this; omega
      have oY1 : ∀ p ∈ Y, p.1 ≠ lm := fun p hp => (off p hp).1
      have oY2 : ∀ p ∈ Y, p.1 ≠ ld := fun p hp => (off p hp).2.1
      have oY3 : ∀ p ∈ Y, p.1 ≠ la := fun p hp => (off p hp).2.2
      have oI1 := neN (offI _ (.head _))
      have oI2 := neN (offI _ (.tail _ (.head _)))
      have oI3 := neN (offI _ (.tail _ (.tail _ (.head _))))
      have oIY : ∀ p ∈ Y, p.1 ≠ I := fun p hp => offI _ (.tail _ (.tail _ (.tail _ hp)))
      dsimp only at oI1 oI2 oI3
      clear N8 F9
      repeat' ((first | (k_unfold; (try dsimp only)) | (refine' (?hh : NextQ _ _) _ ?_; (case hh => with_reducible assumption)) | (refine' (?hh : RestQ _ _) _ _ True.intro ?_; (case hh => with_reducible assumption)) | ((with_reducible show wpAny _ _ (call (Value.ref _) _ _) _ _ _); (k_dflt (refine' use_ct (c_mode _ _) ?F ?N ?X ?T ?d ?u ?P ?_; (case F => k_asm); (case N => k_asm); (case X => k_asm); (case T => k_asm); (case d => (first | assumption | exact room2 (by assumption) rfl | exact room1 (by assumption) rfl | exact room0 (by assumption) | omega | ((try dsimp only [Around.deeper, Around.in1]); omega) | ((try simp only [depth_deeper, units_deeper, depth_in1, units_in1] at *); omega))); (case u => (first | assumption | exact room2 (by assumption) rfl | exact room1 (by assumption) rfl | exact room0 (by assumption) | omega | ((try dsimp only [Around.deeper, Around.in1]); omega) | ((try simp only [depth_deeper, units_deeper, depth_in1, units_in1] at *); omega))); (case P => exact trivial); k_whole); intro _ _ _ _ _ _ hp9Z; obtain ⟨u9Z, hp9Z⟩ := hp9Z; subst hp9Z; (try dsimp only); (try k_sweep))) | ((with_reducible show wpAny _ _ (subscriptTail (PySem.Expr.Name _ _) (PySem.Expr.Name _ _) (Value.ref _) (Value.int _ _)) _ _ _); ((with_reducible show wpAny _ _ (subscriptTail _ _ (Value.ref _) (Value.int _ _)) _ _ _); k_dflt (refine' KTb.item_list ?ktbl ?ktbw ?ktb0 ?ktb1 ?ktbf ?_; (case ktbl => exact News.isList (by k_asm) (by k_mem)); (case ktbw => repeat constructor); (case ktb0 => ktb_idx); (case ktb1 => ktb_idx); (case ktbf => ktb_idx)); intro _ ktbLtZ; (simp only [List.length_cons, List.length_nil, Nat.zero_add] at ktbLtZ); walk_say "OWN ends")) | ((with_reducible show wpAny _ _ (call (Value.builtin "list.append") _ _) _ _ _); (k_dflt (refine' append_K ?k1 ?k2 ?k3 ?_ ?z; (case k1 => k_asm); (case k2 => k_asm); (case k3 => k_upd); (case z => (rw [sizeLine_eq]; (try simp only [Array.size_push]); omega)); k_whole); intro _ _ _; (try k_sweep))) | walk1 | (dsimp only; walk1) | (leave1; walk_say "STEP leave1"; try dsimp only)))
      all_goals try dsimp only
      · refine' ⟨_, _, _, (lm, W.listOf _ _) :: (ld, W.listOf _ _) :: (la, W.listOf _ _) :: (_, _) :: Y, rfl, ?xF, ?xN, ?xo, .inl hP, ?xa, ?xb, ?xc, (DInv.m off dm dd da okm okd oka l1 l2 l3 ?xh1 ?xh2 ?xh3 ?xq1 ?xq2).up (by omega) (by omega)⟩
        case xN => exact News.sub (by k_asm) (by walk_at "sub9")
        case xF => k_asm
        case xo => k_all
        case xa => rfl
        case xb => rfl
        case xc => rfl
        case xh1 => omega
        case xh2 => omega
        case xh3 => omega
        case xq1 => exact lawMode_ok _
        case xq2 => exact size_ok _ (fmod8 _)
      · refine' ⟨_, _, _, (lm, W.listOf _ _) :: (ld, W.listOf _ _) :: (la, W.listOf _ _) :: (_, _) :: Y, rfl, ?xF, ?xN, ?xo, .inl hP, ?xa, ?xb, ?xc, (DInv.d off dm dd da okm okd oka l1 l2 l3 ?xh1 ?xh2 ?xh3 ?xq1 ?xq2).up (by omega) (by omega)⟩
        case xN => exact News.sub (by k_asm) (by walk_at "sub9")
        case xF => k_asm
        case xo => k_all
        case xa => rfl
        case xb => rfl
        case xc => rfl
        case xh1 => omega
        case xh2 => omega
        case xh3 => omega
        case xq1 => exact lawMode_ok _
        case xq2 => exact fmod4 _
      · refine' ⟨_, _, _, (lm, W.listOf _ _) :: (ld, W.listOf _ _) :: (la, W.listOf _ _) :: (_, _) :: (_, _) :: Y, rfl, ?xF, ?xN, ?xo, .inl hP, ?xa, ?xb, ?xc, ((DInv.a1 off dm dd da okm okd oka l1 l2 l3 ?xh1 ?xh2 ?xh3 ?xq1 (.inr ⟨rfl, _, rfl⟩)).a2 ?yh1 ?yh2 ?yh3 ?yq1 (.inr ⟨rfl, _, rfl⟩)).up (by omega) (by omega)⟩
        case xN => exact News.sub (by k_asm) (by walk_at "sub9")
        case xF => k_asm
        case xo => k_all
        case xa => rfl
        case xb => rfl
        case xc => rfl
        case xh1 => omega
        case xh2 => omega
        case xh3 => omega
        case yh1 => omega
        case yh2 => omega
        case yh3 => omega
        case xq1 => exact lawMode_ok _
        case yq1 => exact mode_ok2 _
      · refine' ⟨_, _, _, (lm, W.listOf _ _) :: (ld, W.listOf _ _) :: (la, W.listOf _ _) :: (_, _) :: (_, _) :: Y, rfl, ?xF, ?xN, ?xo, .inl hP, ?xa, ?xb, ?xc, ((DInv.a1 off dm dd da okm okd oka l1 l2 l3 ?xh1 ?xh2 ?xh3 ?xq1 (.inl ⟨rfl, rfl⟩)).a2 ?yh1 ?yh2 ?yh3 ?yq1 (.inr ⟨rfl, _, rfl⟩)).up (by omega) (by omega)⟩
        case xN => exact News.sub (by k_asm) (by walk_at "sub9")
        case xF => k_asm
        case xo => k_all
        case xa => rfl
        case xb => rfl
        case xc => rfl
        case xh1 => omega
        case xh2 => omega
        case xh3 => omega
        case yh1 => omega
        case yh2 => omega
        case yh3 => omega
        case xq1 => exact lawMode_ok _
        case yq1 => exact mode_ok2 _
    · rintro m₁ news₁ h tk ⟨hm1, hm2, hm3, am, nm, ad, nd, aa, na, Y, ms, ds, as, rfl, off, dm, dd, da, okm, okd, oka, l1, l2, l3⟩ F1 N1
      rw [map3 hm1 hm2 hm3] at F1
      clear N8 F9
      have hA : arr.size = ns.length := by rw [← hI.length, Array.length_toList]
      rw [hA] at l1 l2 l3
      have oY1 : ∀ p ∈ Y, p.1 ≠ lm := fun p hp => (off p hp).1
      have oY2 : ∀ p ∈ Y, p.1 ≠ ld := fun p hp => (off p hp).2.1
      have oY3 : ∀ p ∈ Y, p.1 ≠ la := fun p hp => (off p hp).2.2
      repeat ((((fail_if_success (with_reducible show wpAny _ _ (exec (Stmt.For _ _ _ _ _) _) _ _ _)); (fail_if_success (with_reducible show wpAny _ _ (pyIter _) _ _ _)); (first | (k_unfold; (try dsimp only)) | (refine' (?hh : NextQ _ _) _ ?_; (case hh => with_reducible assumption)) | (refine' (?hh : RestQ _ _) _ _ True.intro ?_; (case hh => with_reducible assumption)) | ((with_reducible show wpAny _ _ (call (Value.ref _) _ _) _ _ _); (k_dflt (refine' use_ct (c_mode _ _) ?F ?N ?X ?T ?d ?u ?P ?_; (case F => k_asm); (case N => k_asm); (case X => k_asm); (case T => k_asm); (case d => (first | assumption | exact room2 (by assumption) rfl | exact room1 (by assumption) rfl | exact room0 (by assumption) | omega | ((try dsimp only [Around.deeper, Around.in1]); omega) | ((try simp only [depth_deeper, units_deeper, depth_in1, units_in1] at *); omega))); (case u => (first | assumption | exact room2 (by assumption) rfl | exact room1 (by assumption) rfl | exact room0 (by assumption) | omega | ((try dsimp only [Around.deeper, Around.in1]); omega) | ((try simp only [depth_deeper, units_deeper, depth_in1, units_in1] at *); omega))); (case P => exact trivial); k_whole); intro _ _ _ _ _ _ hp9Z; obtain ⟨u9Z, hp9Z⟩ := hp9Z; subst hp9Z; (try dsimp only); (try k_sweep))) | ((with_reducible show wpAny _ _ (subscriptTail (PySem.Expr.Name _ _) (PySem.Expr.Name _ _) (Value.ref _) (Value.int _ _)) _ _ _); ((with_reducible show wpAny _ _ (subscriptTail _ _ (Value.ref _) (Value.int _ _)) _ _ _); k_dflt (refine' KTb.item_list ?ktbl ?ktbw ?ktb0 ?ktb1 ?ktbf ?_; (case ktbl => exact News.isList (by k_asm) (by k_mem)); (case ktbw => repeat constructor); (case ktb0 => ktb_idx); (case ktb1 => ktb_idx); (case ktbf => ktb_idx)); intro _ ktbLtZ; (simp only [List.length_cons, List.length_nil, Nat.zero_add] at ktbLtZ); walk_say "OWN ends")) | ((with_reducible show wpAny _ _ (call (Value.builtin "list.append") _ _) _ _ _); (k_dflt (refine' append_K ?k1 ?k2 ?k3 ?_ ?z; (case k1 => k_asm); (case k2 => k_asm); (case k3 => k_upd); (case z => (rw [sizeLine_eq]; (try simp only [Array.size_push]); omega)); k_whole); intro _ _ _; (try k_sweep))) | walk1 | (dsimp only; walk1) | (leave1; walk_say "STEP leave1"; try dsimp only)))))
      refine for_go ?_ (by intro _; rfl)
      repeat ((((fail_if_success (with_reducible show wpAny _ _ (exec (Stmt.For _ _ _ _ _) _) _ _ _)); (fail_if_success (with_reducible show wpAny _ _ (pyIter _) _ _ _)); (first | (k_unfold; (try dsimp only)) | (refine' (?hh : NextQ _ _) _ ?_; (case hh => with_reducible assumption)) | (refine' (?hh : RestQ _ _) _ _ True.intro ?_; (case hh => with_reducible assumption)) | ((with_reducible show wpAny _ _ (call (Value.ref _) _ _) _ _ _); (k_dflt (refine' use_ct (c_mode _ _) ?F ?N ?X ?T ?d ?u ?P ?_; (case F => k_asm); (case N => k_asm); (case X => k_asm); (case T => k_asm); (case d => (first | assumption | exact room2 (by assumption) rfl | exact room1 (by assumption) rfl | exact room0 (by assumption) | omega | ((try dsimp only [Around.deeper, Around.in1]); omega) | ((try simp only [depth_deeper, units_deeper, depth_in1, units_in1] at *); omega))); (case u => (first | assumption | exact room2 (by assumption) rfl | exact room1 (by assumption) rfl | exact room0 (by assumption) | omega | ((try dsimp only [Around.deeper, Around.in1]); omega) | ((try simp only [depth_deeper, units_deeper, depth_in1, units_in1] at *); omega))); (case P => exact trivial); k_whole); intro _ _ _ _ _ _ hp9Z; obtain ⟨u9Z, hp9Z⟩ := hp9Z; subst hp9Z; (try dsimp only); (try k_sweep))) | ((with_reducible show wpAny _ _ (subscriptTail (PySem.Expr.Name _ _) (PySem.Expr.Name _ _) (Value.ref _) (Value.int _ _)) _ _ _); ((with_reducible show wpAny _ _ (subscriptTail _ _ (Value.ref _) (Value.int _ _)) _ _ _); k_dflt (refine' KTb.item_list ?ktbl ?ktbw ?ktb0 ?ktb1 ?ktbf ?_; (case ktbl => exact News.isList (by k_asm) (by k_mem)); (case ktbw => repeat constructor); (case ktb0 => ktb_idx); (case ktb1 => ktb_idx); (case ktbf => ktb_idx)); intro _ ktbLtZ; (simp only [List.length_cons, List.length_nil, Nat.zero_add] at ktbLtZ); walk_say "OWN ends")) | ((with_reducible show wpAny _ _ (call (Value.builtin "list.append") _ _) _ _ _); (k_dflt (refine' append_K ?k1 ?k2 ?k3 ?_ ?z; (case k1 => k_asm); (case k2 => k_asm); (case k3 => k_upd); (case z => (rw [sizeLine_eq]; (try simp only [Array.size_push]); omega)); k_whole); intro _ _ _; (try k_sweep))) | walk1 | (dsimp only; walk1) | (leave1; walk_say "STEP leave1"; try dsimp only)))))
      rename_i l9 _ F8 N8 lt9
      obtain ⟨lt91, lt92, lt93, lt94⟩ := lt9
      have o9 : ∀ p ∈ Y, p.1 ≠ l9 := fun p hp => Nat.ne_of_lt (kst_ltOf lt94 p hp)
      have hl91 := neN (show l9 ≠ lm from neN (by omega))
      have hl92 := neN (show l9 ≠ ld from neN (by omega))
      have hl93 := neN (show l9 ≠ la from neN (by omega))
      have N7 := News.sub N8 (a := (lm, _) :: (ld, _) :: (la, _) :: (l9, _) :: Y) (by walk_at "sub9")
      clear N8
      refine loop_list (fun i m₁ n₁ => m₁ (Str.ofString "mods") = some (.ref lm) ∧ m₁ (Str.ofString "dirs") = some (.ref ld) ∧ m₁ (Str.ofString "asks") = some (.ref la) ∧ DInv lm ld la 6 (12 + i) n₁) rfl (by k_asm) N7 (.inr ⟨_, .tail _ (.tail _ (.tail _ (.head _))), rfl, _, rfl⟩) ?_ (.inl ⟨_, _, rfl⟩) ?_ ?_
      · exact ⟨rfl, rfl, rfl, _, _, _, _, _, _, _, ms, ds, as, rfl, off_cons off (by omega) (by omega) (by omega), dat_more dm, dat_more dd, dat_more da, okm, okd, oka, by omega, by omega, by omega⟩
      · rintro i v m₁ news₁ h tk oI I hv ⟨hm1, hm2, hm3, am, nm, ad, nd, aa, na, Y, ms, ds, as, rfl, off, dm, dd, da, okm, okd, oka, l1, l2, l3⟩ hS F1 N1 offI
        obtain ⟨hi, n, tn, rfl, hn⟩ := lit9 hv
        rw [map3 hm1 hm2 hm3] at F1
        have hz3 : aa.size ≤ 100 := by have := da.length; simp only [Array.length_toList, List.length_map] at this; omega
        have oY1 : ∀ p ∈ Y, p.1 ≠ lm := fun p hp => (off p hp).1
        have oY2 : ∀ p ∈ Y, p.1 ≠ ld := fun p hp => (off p hp).2.1
        have oY3 : ∀ p ∈ Y, p.1 ≠ la := fun p hp => (off p hp).2.2
        have oI1 := neN (offI _ (.head _))
        have oI2 := neN (offI _ (.tail _ (.head _)))
        have oI3 := neN (offI _ (.tail _ (.tail _ (.head _))))
        have oIY : ∀ p ∈ Y, p.1 ≠ I := fun p hp => offI _ (.tail _ (.tail _ (.tail _ hp)))
        dsimp only at oI1 oI2 oI3
        clear N7 F8
        repeat' ((first | (k_unfold; (try dsimp only)) | (refine' (?hh : NextQ _ _) _ ?_; (case hh => with_reducible assumption)) | (refine' (?hh : RestQ _ _) _ _ True.intro ?_; (case hh => with_reducible assumption)) | ((with_reducible show wpAny _ _ (call (Value.ref _) _ _) _ _ _); (k_dflt (refine' use_ct (c_mode _ _) ?F ?N ?X ?T ?d ?u ?P ?_; (case F => k_asm); (case N => k_asm); (case X => k_asm); (case T => k_asm); (case d => (first | assumption | exact room2 (by assumption) rfl | exact room1 (by assumption) rfl | exact room0 (by assumption) | omega | ((try dsimp only [Around.deeper, Around.in1]); omega) | ((try simp only [depth_deeper, units_deeper, depth_in1, units_in1] at *); omega))); (case u => (first | assumption | exact room2 (by assumption) rfl | exact room1 (by assumption) rfl | exact room0 (by assumption) | omega | ((try dsimp only [Around.deeper, Around.in1]); omega) | ((try simp only [depth_deeper, units_deeper, depth_in1, units_in1] at *); omega))); (case P => exact trivial); k_whole); intro _ _ _ _ _ _ hp9Z; obtain ⟨u9Z, hp9Z⟩ := hp9Z; subst hp9Z; (try dsimp only); (try k_sweep))) | ((with_reducible show wpAny _ _ (subscriptTail (PySem.Expr.Name _ _) (PySem.Expr.Name _ _) (Value.ref _) (Value.int _ _)) _ _ _); ((with_reducible show wpAny _ _ (subscriptTail _ _ (Value.ref _) (Value.int _ _)) _ _ _); k_dflt (refine' KTb.item_list ?ktbl ?ktbw ?ktb0 ?ktb1 ?ktbf ?_; (case ktbl => exact News.isList (by k_asm) (by k_mem)); (case ktbw => repeat constructor); (case ktb0 => ktb_idx); (case ktb1 => ktb_idx); (case ktbf => ktb_idx)); intro _ ktbLtZ; (simp only [List.length_cons, List.length_nil, Nat.zero_add] at ktbLtZ); walk_say "OWN ends")) | ((with_reducible show wpAny _ _ (call (Value.builtin "list.append") _ _) _ _ _); (k_dflt (refine' append_K ?k1 ?k2 ?k3 ?_ ?z; (case k1 => k_asm); (case k2 => k_asm); (case k3 => k_upd); (case z => (rw [sizeLine_eq]; (try simp only [Array.size_push]); omega)); k_whole); intro _ _ _; (try k_sweep))) | walk1 | (dsimp only; walk1) | (leave1; walk_say "STEP leave1"; try dsimp only)))
        all_goals try dsimp only
        · refine' ⟨_, _, _, (lm, W.listOf _ _) :: (ld, W.listOf _ _) :: (la, W.listOf _ _) :: (_, _) :: Y, rfl, ?xF, ?xN, ?xo, src_keep hS hl91 hl92 hl93, ?xa, ?xb, ?xc, (DInv.a1 off dm dd da okm okd oka l1 l2 l3 ?xh1 ?xh2 ?xh3 ?xq1 (.inl ⟨rfl, rfl⟩)).up (by omega) (by omega)⟩
          case xN => exact News.sub (by k_asm) (by walk_at "sub9")
          case xF => k_asm
          case xo => k_all
          case xa => rfl
          case xb => rfl
          case xc => rfl
          case xh1 => omega
          case xh2 => omega
          case xh3 => omega
          case xq1 => exact hn
        · refine' ⟨_, _, _, (lm, W.listOf _ _) :: (ld, W.listOf _ _) :: (la, W.listOf _ _) :: (_, _) :: Y, rfl, ?xF, ?xN, ?xo, src_keep hS hl91 hl92 hl93, ?xa, ?xb, ?xc, (DInv.a1 off dm dd da okm okd oka l1 l2 l3 ?xh1 ?xh2 ?xh3 ?xq1 (.inr ⟨rfl, _, rfl⟩)).up (by omega) (by omega)⟩
          case xN => exact News.sub (by k_asm) (by walk_at "sub9")
          case xF => k_asm
          case xo => k_all
          case xa => rfl
          case xb => rfl
          case xc => rfl
          case xh1 => omega
          case xh2 => omega
          case xh3 => omega
          case xq1 => exact hn
      · rintro m₁ news₁ h tk ⟨hm1, hm2, hm3, am, nm, ad, nd, aa, na, Y, ms, ds, as, rfl, off, dm, dd, da, okm, okd, oka, l1, l2, l3⟩ F1 N1
        rw [map3 hm1 hm2 hm3] at F1
        clear N7 F8
        repeat' ((first | (k_unfold; (try dsimp only)) | (refine' (?hh : NextQ _ _) _ ?_; (case hh => with_reducible assumption)) | (refine' (?hh : RestQ _ _) _ _ True.intro ?_; (case hh => with_reducible assumption)) | ((with_reducible show wpAny _ _ (call (Value.ref _) _ _) _ _ _); (k_dflt (refine' use_ct (c_mode _ _) ?F ?N ?X ?T ?d ?u ?P ?_; (case F => k_asm); (case N => k_asm); (case X => k_asm); (case T => k_asm); (case d => (first | assumption | exact room2 (by assumption) rfl | exact room1 (by assumption) rfl | exact room0 (by assumption) | omega | ((try dsimp only [Around.deeper, Around.in1]); omega) | ((try simp only [depth_deeper, units_deeper, depth_in1, units_in1] at *); omega))); (case u => (first | assumption | exact room2 (by assumption) rfl | exact room1 (by assumption) rfl | exact room0 (by assumption) | omega | ((try dsimp only [Around.deeper, Around.in1]); omega) | ((try simp only [depth_deeper, units_deeper, depth_in1, units_in1] at *); omega))); (case P => exact trivial); k_whole); intro _ _ _ _ _ _ hp9Z; obtain ⟨u9Z, hp9Z⟩ := hp9Z; subst hp9Z; (try dsimp only); (try k_sweep))) | ((with_reducible show wpAny _ _ (subscriptTail (PySem.Expr.Name _ _) (PySem.Expr.Name _ _) (Value.ref _) (Value.int _ _)) _ _ _); ((with_reducible show wpAny _ _ (subscriptTail _ _ (Value.ref _) (Value.int _ _)) _ _ _); k_dflt (refine' KTb.item_list ?ktbl ?ktbw ?ktb0 ?ktb1 ?ktbf ?_; (case ktbl => exact News.isList (by k_asm) (by k_mem)); (case ktbw => repeat constructor); (case ktb0 => ktb_idx); (case ktb1 => ktb_idx); (case ktbf => ktb_idx)); intro _ ktbLtZ; (simp only [List.length_cons, List.length_nil, Nat.zero_add] at ktbLtZ); walk_say "OWN ends")) | ((with_reducible show wpAny _ _ (call (Value.builtin "list.append") _ _) _ _ _); (k_dflt (refine' append_K ?k1 ?k2 ?k3 ?_ ?z; (case k1 => k_asm); (case k2 => k_asm); (case k3 => k_upd); (case z => (rw [sizeLine_eq]; (try simp only [Array.size_push]); omega)); k_whole); intro _ _ _; (try k_sweep))) | walk1 | (dsimp only; walk1) | (leave1; walk_say "STEP leave1"; try dsimp only)))
        (((try dsimp only); (try k_unfold); (try dsimp only)))
        refine hret _ _ _ (Fr.keep (by assumption)) ⟨ms, ds, as, okm, okd, oka, l1, l2, l3, drawn_dat (by assumption) dm dd da⟩)
end
end
section
open PySem PySem.W PySem.Calls PyProof.Rows
/-- a value bears data in a heap -/
def DatH (h : Heap) (v : Value) (d : Dat) : Prop := ∃ X, (∀ p ∈ X, h.get? p.1 = some p.2) ∧ DatIn X v d
theorem DatH.stays {h h' : Heap} {v : Value} {d : Dat} (x : DatH h v d) (k : ∀ b o, h.get? b = some o → h'.get? b = some o) : DatH h' v d := by
  obtain ⟨X, hX, hd⟩ := x
  exact ⟨X, fun p hp => k _ _ (hX p hp), hd⟩
theorem DatH.of {g h : Heap} {L : Addr} {news X : List (Addr × Obj)} {v : Value} {d : Dat} (N : News g L h news) (hd : DatIn X v d) (s : ∀ p ∈ X, p ∈ news) : DatH h v d := ⟨X, fun p hp => (N p (s p hp)).1, hd⟩
theorem DatH.list {h : Heap} {v : Value} {ds : List Dat} (x : DatH h v (.list ds)) : ∃ (l : Addr) (vs : List Value) (n : Nat), v = .ref l ∧ h.get? l = some (W.listOf vs.toArray n) ∧ vs.length = ds.length ∧ ∀ (i : Nat) (u : Value), vs[i]? = some u → ∃ d, ds[i]? = some d ∧ DatH h u d := by
  obtain ⟨X, hX, hd⟩ := x
  cases hd with
  | list hm ha =>
    rename_i a vs n
    refine ⟨a, vs, n, rfl, hX _ hm, ha.length, fun i u hu => ?_⟩
    have hlt : i < ds.length := by rw [← ha.length]; exact (List.getElem?_eq_some_iff.mp hu).1
    obtain ⟨v', e, hd'⟩ := ha.get hlt
    rw [hu] at e
    cases e
    exact ⟨ds[i], List.getElem?_eq_getElem hlt, X, hX, hd'⟩
theorem DatH.tup2 {h : Heap} {v : Value} {a b : Dat} (x : DatH h v (.tuple [a, b])) : ∃ T x y, v = .ref T ∧ IsTup h T #[x, y] ∧ DatH h x a ∧ DatH h y b := by
  obtain ⟨X, hX, hd⟩ := x
  cases hd with
  | tuple hm ha =>
    rename_i t vs n
    cases ha with
    | cons h1 r =>
      cases r with
      | cons h2 r2 =>
        cases r2
        exact ⟨t, _, _, rfl, ⟨_, hX _ hm, rfl, n, rfl⟩, ⟨X, hX, h1⟩, ⟨X, hX, h2⟩⟩
theorem DatH.int {h : Heap} {v : Value} {i : Int} (x : DatH h v (.int i)) : ∃ t, v = .int i t := by
  obtain ⟨X, hX, hd⟩ := x
  cases hd; exact ⟨_, rfl⟩
theorem DatH.str {h : Heap} {v : Value} {y : Str} (x : DatH h v (.str y)) : ∃ t, v = .str y t := by
  obtain ⟨X, hX, hd⟩ := x
  cases hd; exact ⟨_, rfl⟩
theorem DatH.opt {h : Heap} {v : Value} {q : Option Int} (x : DatH h v (datO q)) : (q = none ∧ v = .none) ∨ ∃ i t, q = some i ∧ v = .int i t := by
  obtain ⟨X, hX, hd⟩ := x
  cases q with
  | none => cases hd; exact .inl ⟨rfl, rfl⟩
  | some i => cases hd; exact .inr ⟨i, _, rfl, rfl⟩
theorem strs_dat (X : List (Addr × Obj)) : ∀ {vs : List Value} {ys : List Str}, StrsAre vs ys → DatAll X vs (ys.map .str)
  | _, _, .nil => .nil
  | _, _, .cons y t r => .cons (.str y t) (strs_dat X r)
theorem dat_strs {X : List (Addr × Obj)} : ∀ {vs : List Value} {ys : List Str}, DatAll X vs (ys.map .str) → StrsAre vs ys
  | [], [], _ => .nil
  | [], _ :: _, h => nomatch h
  | _ :: _, [], h => nomatch h
  | v :: vs, y :: ys, .cons h r => by
    cases h
    exact .cons y _ (dat_strs r)
theorem DatH.strs {h : Heap} {v : Value} {ys : List Str} (x : DatH h v (.list (ys.map .str))) : ∃ (l : Addr) (vs : List Value) (n : Nat), v = .ref l ∧ h.get? l = some (W.listOf vs.toArray n) ∧ StrsAre vs ys := by
  obtain ⟨X, hX, hd⟩ := x
  cases hd with
  | list hm ha => exact ⟨_, _, _, rfl, hX _ hm, dat_strs ha⟩
/-- the texts of the law -/
abbrev strsD (ys : List Str) : Dat := .list (ys.map .str)
def datM (q : Int × Int) : Dat := .tuple [strsD (lawParts q.1), .int q.2]
theorem newStrs_dat {ys : List Str} {h h' : Heap} {r : Value} (x : NewStrs ys h h' r) : NewDat (strsD ys) h h' r := by
  obtain ⟨l, arr, n, rfl, hn, hg, hs⟩ := x
  refine ⟨[(l, listOf arr n)], fun p hp => ?_, ?_⟩
  · cases List.mem_singleton.mp hp; exact ⟨hn, hg⟩
  · exact .list (vs := arr.toList) (n := n) (.head _) (strs_dat _ hs)
theorem NewDat.datH {d : Dat} {h h' : Heap} {r : Value} (x : NewDat d h h' r) : DatH h' r d := by
  obtain ⟨X, hX, hd⟩ := x
  exact ⟨X, fun p hp => (hX p hp).2, hd⟩
/-- the figures as they are shown -/
def shF (how f : Int) : Dat := if f ∈ slashL how then .str (Str.ofString "slash") else .int f
theorem figIs_dat {how f : Int} {v : Value} (x : FigIs how f v) (X : List (Addr × Obj)) : DatIn X v (shF how f) := by
  rcases x with ⟨h, t, rfl⟩ | ⟨h, t, rfl⟩
  · unfold shF; rw [if_pos h]; exact .str _ _
  · unfold shF; rw [if_neg h]; exact .int _ _
end
section
open PySem PySem.W PySem.Calls PyProof.Rows
set_option maxRecDepth 100000
theorem ok_item {x : Str} (hx : PyData.strOk x = true) {i : Int} (h0 : 0 ≤ i) (h1 : i < x.length) : PyData.strOk (Txt.item x i) = true := by
  rw [item_cps x i h0 h1]
  unfold PyData.strOk at hx ⊢
  have hlt : i.toNat < x.cps.size := by have : (x.length : Int) = (x.cps.size : Int) := rfl; omega
  have : x.cps.getD i.toNat 0 < 0x110000 := by
    rw [Array.all_eq_true] at hx
    have := hx i.toNat hlt
    simp [Array.getD_eq_getD_getElem?, hlt]
    simpa using this
  simpa using this
theorem ok_app {x y : Str} (hx : PyData.strOk x = true) (hy : PyData.strOk y = true) : PyData.strOk (x ++ y) = true := by
  unfold PyData.strOk at *
  show (x.cps ++ y.cps).all _ = true
  rw [Array.all_append, hx, hy]; rfl
theorem ok_rwx {e : Str} (he : PyData.strOk e = true) (hl : e.length = 2) {f a : Int} (hf : 0 ≤ f ∧ f < 8) (ha : 0 ≤ a ∧ a < 2) : PyData.strOk (rwxS e f a) = true := by
  unfold rwxS
  have k1 : PyData.strOk (Str.ofString "-r") = true := by decide +kernel
  have k2 : PyData.strOk (Str.ofString "-w") = true := by decide +kernel
  have k3 : PyData.strOk (Str.ofString "-x") = true := by decide +kernel
  have l1 : (Str.ofString "-r").length = 2 := by decide +kernel
  have l2 : (Str.ofString "-w").length = 2 := by decide +kernel
  have l3 : (Str.ofString "-x").length = 2 := by decide +kernel
  rw [fdiv_pos f (by decide), fdiv_pos f (by decide), fmod_pos _ (by decide), fmod_pos _ (by decide)]
  refine ok_app (ok_app (ok_item k1 (by omega) (by rw [l1]; omega)) (ok_item k2 (by omega) (by rw [l2]; omega))) ?_
  rcases (show a = 0 ∨ a = 1 by omega) with rfl | rfl
  · exact ok_item k3 (by omega) (by show _ < ((Str.ofString "-x").length : Int); rw [l3]; omega)
  · exact ok_item he (by omega) (by show _ < (e.length : Int); rw [hl]; omega)
theorem parts_ok (m : Int) : ∀ x ∈ lawParts m, PyData.strOk x = true := by
  have k0 : PyData.strOk (Str.ofString "?pc?d?b?-?l?s???") = true := by decide +kernel
  have l0 : (Str.ofString "?pc?d?b?-?l?s???").length = 16 := by decide +kernel
  have k1 : PyData.strOk (Str.ofString "Ss") = true := by decide +kernel
  have k2 : PyData.strOk (Str.ofString "Tt") = true := by decide +kernel
  have l1 : (Str.ofString "Ss").length = 2 := by decide +kernel
  have l2 : (Str.ofString "Tt").length = 2 := by decide +kernel
  have r8 : ∀ z : Int, 0 ≤ z.fmod 8 ∧ z.fmod 8 < 8 := fun z => by rw [fmod_pos _ (by decide)]; omega
  have r2 : ∀ z : Int, 0 ≤ z.fmod 2 ∧ z.fmod 2 < 2 := fun z => by rw [fmod_pos _ (by decide)]; omega
  have r16 : ∀ z : Int, 0 ≤ z.fmod 16 ∧ z.fmod 16 < 16 := fun z => by rw [fmod_pos _ (by decide)]; omega
  unfold lawParts
  exact List.forall_mem_cons.mpr ⟨ok_item k0 (r16 _).1 (by rw [l0]; exact (r16 _).2), List.forall_mem_cons.mpr ⟨ok_rwx k1 l1 (r8 _) (r2 _), List.forall_mem_cons.mpr ⟨ok_rwx k1 l1 (r8 _) (r2 _), List.forall_mem_cons.mpr ⟨ok_rwx k2 l2 (r8 _) (r2 _), fun _ h => nomatch h⟩⟩⟩⟩
theorem ok_strs {ys : List Str} (h : ∀ x ∈ ys, PyData.strOk x = true) : ∀ d ∈ ys.map Dat.str, kqdOk 8 d = true := by
  intro d hd
  obtain ⟨x, hx, rfl⟩ := List.mem_map.mp hd
  exact h x hx
theorem ok_shF (how f : Int) : kqdOk 8 (shF how f) = true := by
  unfold shF
  split
  · show PyData.strOk (Str.ofString "slash") = true
    decide +kernel
  · rfl
theorem pick_to {vs : List Value} {y : Int} (h : 0 ≤ y) : kms_pick vs none (some y) = vs.take y.toNat := by
  unfold kms_pick kms_lo kms_hi
  dsimp only
  rw [if_neg (by omega), List.drop_zero, Nat.sub_zero]
  rcases Nat.le_total y.toNat vs.length with h' | h'
  · rw [Nat.min_eq_left h']
  · rw [Nat.min_eq_right h', List.take_length, List.take_of_length_le h']
theorem strs_take : ∀ {vs : List Value} {ys : List Str} (n : Nat), StrsAre vs ys → StrsAre (vs.take n) (ys.take n)
  | _, _, 0, _ => .nil
  | _, _, _ + 1, .nil => .nil
  | _, _, n + 1, .cons y t r => .cons y t (strs_take n r)
theorem datAll_take {X : List (Addr × Obj)} : ∀ {vs : List Value} {ds : List Dat} (n : Nat), DatAll X vs ds → DatAll X (vs.take n) (ds.take n)
  | _, _, 0, _ => .nil
  | _, _, _ + 1, .nil => .nil
  | _, _, n + 1, .cons h r => .cons h (datAll_take n r)
section
variable {prog : Program} {w : World} {A : Around} {E : Value → Shared → Prop} {s : Shared} {g : Heap} {L a b l : Addr} {m : Str → Option Value} {news : List (Addr × Obj)} {value slice : PySem.Expr} {vs xs ys : List Value} {Q : Value → Shared → Prop} {y : Int} {u : Tok}
theorem slice_to (F : Fr g L s.heap m) (N : News g L s.heap news) (hl : s.heap.IsList l vs.toArray) (hy : 0 ≤ y)
    (h : ∀ D h', Fr g L h' m → News g L h' ((D, W.listOf (vs.take y.toNat).toArray 0) :: news) → (∀ p ∈ news, p.1 < D) → Q (.ref D) { s with heap := h' })
    (hs : subscripted slice false (.ref l) (.ref s.heap.objs.size) = operate [.ref s.heap.objs.size, .ref l] (getItem (.ref l) (.ref s.heap.objs.size))) (ht : ∀ r, letTemporaryGo value (.ref l) r = pure ()) (hz : vs.length ≤ 1000) :
    wpAny (model prog w) A (subscriptTail value slice (.ref l) (.ref s.heap.objs.size)) Q E { s with heap := s.heap.push { cls := .type "slice", data := .fields #[.none, .int y u, .none] } } :=
  kms_slice_lit (its := vs.toArray) F N hl .none (.int _ _) (by simpa using pick_to hy) h hs ht (by rw [List.size_toArray, sizeLine_eq]; omega)
theorem slice_toT (F : Fr g L s.heap m) (N : News g L s.heap news) (hl : s.heap.IsList l vs.toArray) (hy : 0 ≤ y)
    (h : ∀ D h', Fr g L h' m → News g L h' ((D, W.listOf (vs.take y.toNat).toArray 0) :: news) → (∀ p ∈ news, p.1 < D) → Q (.ref D) { s with heap := h' })
    (hs : subscripted slice false (.ref l) (.ref s.heap.objs.size) = operate [.ref s.heap.objs.size, .ref l] (getItem (.ref l) (.ref s.heap.objs.size))) (hz : vs.length ≤ 1000) :
    wpAny (model prog w) A (subscriptTail value slice (.ref l) (.ref s.heap.objs.size)) Q E { s with heap := s.heap.push { cls := .type "slice", data := .fields #[.none, .int y u, .none] } } :=
  kba_turn (value' := .Name (Str.ofString "x") default) (fun _ => rfl) (slice_to F N hl hy h hs (fun _ => rfl) hz)
open Classical in
theorem eq_lists {ds es : List Dat} {ka kb : Nat} (N : News g L s.heap news) (ma : (a, W.listOf xs.toArray ka) ∈ news) (mb : (b, W.listOf ys.toArray kb) ∈ news) (Da : DatAll [] xs ds) (Db : DatAll [] ys es) (ha : ∀ d ∈ ds, kqdOk 8 d = true) (hb : ∀ d ∈ es, kqdOk 8 d = true) (hu : A.units + 64 < cLine)
    (h1 : ds = es → Q (.bool true) s) (h2 : ds ≠ es → Q (.bool false) s) : wpAny (model prog w) A (compareOp .Eq (.ref a) (.ref b)) Q E s := by
  refine kqd_eq N ma rfl rfl Da (fun _ h => nomatch h) mb rfl rfl Db (fun _ h => nomatch h) ha hb hu ?_
  by_cases h : ds = es
  · rw [decide_eq_true h]; exact h1 h
  · rw [decide_eq_false h]; exact h2 h
open Classical in
theorem ne_lists {ds es : List Dat} {ka kb : Nat} (N : News g L s.heap news) (ma : (a, W.listOf xs.toArray ka) ∈ news) (mb : (b, W.listOf ys.toArray kb) ∈ news) (Da : DatAll [] xs ds) (Db : DatAll [] ys es) (ha : ∀ d ∈ ds, kqdOk 8 d = true) (hb : ∀ d ∈ es, kqdOk 8 d = true) (hu : A.units + 64 < cLine)
    (h1 : ds = es → Q (.bool false) s) (h2 : ds ≠ es → Q (.bool true) s) : wpAny (model prog w) A (compareOp .NotEq (.ref a) (.ref b)) Q E s := by
  refine kqd_ne N ma rfl rfl Da (fun _ h => nomatch h) mb rfl rfl Db (fun _ h => nomatch h) ha hb hu ?_
  by_cases h : ds = es
  · rw [decide_eq_true h]; exact h1 h
  · rw [decide_eq_false h]; exact h2 h
end
section
variable {w : World} {E : Value → Shared → Prop} {s : Shared} {Q : Value → Shared → Prop} {g : Heap} {L : Addr} {m : Str → Option Value} {news : List (Addr × Obj)}
  {p : Program} {loose : List Str} {mean : ExcName → Option Value} {mg mb : Str → Option Value} {dp : Nat} {fr : Option (List Env)} {gd : Option (List Code)} {un : Nat}
def figD (how f : Int) : List Dat := [shF how (f / 262144 % 64), shF how (f / 4096 % 64), shF how (f / 64 % 64), shF how (f % 64)]
theorem figD_ok (how f : Int) : ∀ d ∈ figD how f, kqdOk 8 d = true := by
  unfold figD
  exact List.forall_mem_cons.mpr ⟨ok_shF _ _, List.forall_mem_cons.mpr ⟨ok_shF _ _, List.forall_mem_cons.mpr ⟨ok_shF _ _, List.forall_mem_cons.mpr ⟨ok_shF _ _, fun _ h => nomatch h⟩⟩⟩⟩
theorem use_figs {f : Int} {t : Tok} {how : Int} {u : Tok} (hh : 0 ≤ how ∧ how < 4) (F : Fr g L s.heap m) (N : News g L s.heap news) (X : (h0.heap_1 w.params).In g) (T : Top p loose mean mg mb g) (hdp : dp + 1 < recursionLimit) (hun : un + 8 * 1 < cLine)
    (h : ∀ l vs n h' tk', Fr g L h' m → News g L h' ((l, W.listOf (List.toArray vs) n) :: news) → DatAll [] vs (figD how f) → vs.length = 4 → Q (.ref l) { s with heap := h', toks := tk' }) :
    wpAny (model prg w) ⟨none, dp, fr, gd, un⟩ (call (.ref 219) [.int f t, .int how u]) Q E s := by
  refine use_ct (c_figs f t how hh u) F N X T hdp hun trivial fun r h' tk' F' N' st hp => ?_
  obtain ⟨l, v0, v1, v2, v3, n, rfl, hn, hg, f0, f1, f2, f3⟩ := hp
  exact h l [v0, v1, v2, v3] n h' tk' F' (News.add F N st hn hg).1 (.cons (figIs_dat f0 _) (.cons (figIs_dat f1 _) (.cons (figIs_dat f2 _) (.cons (figIs_dat f3 _) .nil)))) rfl
end
theorem figD_get (how f : Int) (k : Nat) (hk : k < 4) : (figD how f)[k]? = some (.str (Str.ofString "slash")) ∨ ∃ i, (figD how f)[k]? = some (.int i) := by
  have key : ∀ g : Int, shF how g = .str (Str.ofString "slash") ∨ ∃ i, shF how g = .int i := fun g => by
    unfold shF
    split
    · exact .inl rfl
    · exact .inr ⟨_, rfl⟩
  match k, hk with
  | 0, _ => rcases key (f / 262144 % 64) with h | ⟨i, h⟩ <;> simp [figD, h]
  | 1, _ => rcases key (f / 4096 % 64) with h | ⟨i, h⟩ <;> simp [figD, h]
  | 2, _ => rcases key (f / 64 % 64) with h | ⟨i, h⟩ <;> simp [figD, h]
  | 3, _ => rcases key (f % 64) with h | ⟨i, h⟩ <;> simp [figD, h]
theorem item_fig {prog : Program} {w : World} {A : Around} {E : Value → Shared → Prop} {s : Shared} {value slice : PySem.Expr} {l : Addr} {vs : List Value} {k how f : Int} {u : Tok} {Q : Value → Shared → Prop} (hl : s.heap.IsList l vs.toArray) (h0 : 0 ≤ k) (h1 : k < 4) (hd : DatAll [] vs (figD how f))
    (a : ∀ t, (figD how f)[k.toNat]? = some (.str (Str.ofString "slash")) → Q (.str (Str.ofString "slash") t) s) (b : ∀ i t, (figD how f)[k.toNat]? ≠ some (.str (Str.ofString "slash")) → Q (.int i t) s)
    (hs : subscripted slice false (.ref l) (.int k u) = operate [.ref l, .int k u] (getItem (.ref l) (.int k u)) := by with_unfolding_all rfl)
    (ht : ∀ r, letTemporaryGo value (.ref l) r = pure () := by intro _; with_unfolding_all rfl) : wpAny (model prog w) A (subscriptTail value slice (.ref l) (.int k u)) Q E s := by
  have hk : k.toNat < 4 := by omega
  obtain ⟨v, hv, hdv⟩ := hd.get (k := k.toNat) hk
  have hdv' : ∀ d, (figD how f)[k.toNat]? = some d → DatIn [] v d := fun d e => by
    obtain ⟨h', e'⟩ := List.getElem?_eq_some_iff.mp e
    rw [← e']; exact hdv
  refine item_list hl h0 (by omega) (x := v) (by simpa using hv) ?_ hs ht
  rcases figD_get how f k.toNat hk with h | ⟨i, h⟩
  · have := hdv' _ h
    cases this; exact a _ h
  · have := hdv' _ h
    cases this; exact b _ _ (by rw [h]; intro e; cases e)
theorem map4 {m₁ : Str → Option Value} {a b c d : Str} {x y v w : Value} (hm : m₁ a = some x) (hp : m₁ b = some y) (hq : m₁ c = some v) (hr : m₁ d = some w) : m₁ = fun z => if z = a then some x else if z = b then some y else if z = c then some v else if z = d then some w else m₁ z := by
  funext z
  repeat' split
  all_goals (first | rfl | (subst_vars; assumption))
theorem map5 {m₁ : Str → Option Value} {a b c d e : Str} {x y v w u : Value} (hm : m₁ a = some x) (hp : m₁ b = some y) (hq : m₁ c = some v) (hr : m₁ d = some w) (hs : m₁ e = some u) : m₁ = fun z => if z = a then some x else if z = b then some y else if z = c then some v else if z = d then some w else if z = e then some u else m₁ z := by
  funext z
  repeat' split
  all_goals (first | rfl | (subst_vars; assumption))
end
section
/-- does a module told agree -/
def modHit (m : Int) (q : Int × Int) : Prop := q.2.fmod 4 = 1 ∧ (lawParts m).take (q.2.fdiv 4 + 1).toNat = (lawParts q.1).take (q.2.fdiv 4 + 1).toNat
def dirHit (how f : Int) (q : Int × Int) : Prop := (figD how f).take q.2.toNat = (figD how q.1).take q.2.toNat ∧ (figD how f)[q.2.toNat]? = some (.str (Str.ofString "slash"))
def RuleHit (m : Int) (file : Option Int) (ms ds : List (Int × Int)) (how : Int) : Prop := match file with
  | none => True
  | some f => (∃ q ∈ ms, modHit m q) ∨ ∃ q ∈ ds, dirHit how f q
def RuleP (m : Int) (file : Option Int) (ms ds : List (Int × Int)) (how : Int) (r : Value) : Prop := ∃ u, (RuleHit m file ms ds how ∧ r = .str (Str.ofString "1") u) ∨ (¬ RuleHit m file ms ds how ∧ r = .str (Str.ofString "0") u)
theorem tup_inj {g : Heap} {T : Addr} {a b c d : Value} (h1 : IsTup g T #[a, b]) (h2 : IsTup g T #[c, d]) : a = c ∧ b = d := by
  obtain ⟨o1, e1, _, n1, d1⟩ := h1
  obtain ⟨o2, e2, _, n2, d2⟩ := h2
  rw [e1] at e2; cases e2
  rw [d1] at d2
  simpa using (Data.seq.inj d2).1
theorem map_str_inj {a b : List Str} (h : a.map Dat.str = b.map Dat.str) : a = b := by
  have : Function.Injective Dat.str := fun x y e => Dat.str.inj e
  exact (List.map_inj_right (fun x y e => Dat.str.inj e)).mp h
theorem take_no {α : Type} {P : α → Prop} {l : List α} {i : Nat} {q : α} (h : ∀ x ∈ l.take i, ¬ P x) (hq : l[i]? = some q) (hn : ¬ P q) : ∀ x ∈ l.take (i + 1), ¬ P x := by
  intro x hx
  rw [List.take_add_one, hq] at hx
  rcases List.mem_append.mp hx with hx | hx
  · exact h x hx
  · simp at hx; subst hx; exact hn
theorem no_hit1 {m : Int} {q : Int × Int} (h : q.2.fmod 4 ≠ 1) : ¬ modHit m q := fun x => h x.1
theorem no_hit2 {m : Int} {q : Int × Int} (h : List.map Dat.str ((lawParts m).take (q.2.fdiv 4 + 1).toNat) ≠ List.map Dat.str ((lawParts q.1).take (q.2.fdiv 4 + 1).toNat)) : ¬ modHit m q := fun x => h (congrArg _ x.2)
theorem no_dir1 {how f : Int} {q : Int × Int} (h : (figD how f).take q.2.toNat ≠ (figD how q.1).take q.2.toNat) : ¬ dirHit how f q := fun x => h x.1
theorem no_dir2 {how f : Int} {q : Int × Int} (h : (figD how f)[q.2.toNat]? ≠ some (.str (Str.ofString "slash"))) : ¬ dirHit how f q := fun x => h x.2
theorem no_rule {m f how : Int} {ms ds : List (Int × Int)} (h1 : ∀ q ∈ ms, ¬ modHit m q) (h2 : ∀ q ∈ ds, ¬ dirHit how f q) : ¬ RuleHit m (some f) ms ds how := by
  rintro (⟨q, hq, h⟩ | ⟨q, hq, h⟩)
  · exact h1 q hq h
  · exact h2 q hq h
theorem ms_at {ms : List (Int × Int)} (h : MsOk ms) {i : Nat} {q : Int × Int} (hq : ms[i]? = some q) : 0 ≤ q.2 ∧ q.2 < 14 := by
  have := (h q (List.mem_of_getElem? hq)).2
  unfold sizes at this
  simp only [List.mem_cons, List.not_mem_nil, or_false] at this
  omega
theorem len4 {vs : List Value} {m : Int} (h : StrsAre vs (lawParts m)) : vs.length ≤ 1000 := by rw [h.length]; exact (show 4 ≤ 1000 by decide)
section
set_option maxRecDepth 100000 in
set_option maxHeartbeats 8000000 in
theorem c_rule {w : World} (m f : Int) (ft : Tok) (how : Int) (u : Tok) (hh : 0 ≤ how ∧ how < 4) (ms ds : List (Int × Int)) (hms : MsOk ms) (hds : DsOk ds) (pv mv dv : Value) :
    Ct w 12 226 [pv, .int f ft, mv, dv, .int how u] (fun h => DatH h pv (strsD (lawParts m)) ∧ DatH h mv (.list (ms.map datM)) ∧ DatH h dv (.list (ds.map datP))) (fun _ _ r => RuleP m (some f) ms ds how r) := by
  w_strict (
    rintro p loose mean mg mb dp fr gd un s Q E X T hdp hun ⟨hpv, hmv, hdv⟩ hret
    obtain ⟨lp, pvs, pn, rfl, hpg, hps⟩ := hpv.strs
    obtain ⟨lm, mvs, mn, rfl, hmg, hml, hmi⟩ := hmv.list
    obtain ⟨ld, dvs, dn, rfl, hdg, hdl, hdi⟩ := hdv.list
    have hpL : s.heap.IsList lp pvs.toArray := ⟨_, hpg, rfl, pn, rfl⟩
    (k_dflt (refine' enter ?X ?T ?ho ?hcd ?hroom ?hbind ?hloc ?_ ?c2 ?c3 ?c4 ?c5; (case X => k_asm); (case T => k_asm); (case ho => k_is); (case hcd => k_is); (case hroom => (first | assumption | exact room2 (by assumption) rfl | exact room1 (by assumption) rfl | exact room0 (by assumption) | omega | ((try dsimp only [Around.deeper, Around.in1]); omega) | ((try simp only [depth_deeper, units_deeper, depth_in1, units_in1] at *); omega))); (case hbind => first | exact BindsTo.of_eq rfl | exact binds_K (by k_in) rfl (by k_is) rfl rfl rfl); (case hloc => exact locs rfl); (case c2 => exact rfl); (case c3 => exact rfl); (case c4 => exact rfl); (case c5 => decide); k_whole; intro _ _ _ _; (try dsimp only); (try k_fold)))
    (repeat' ((fail_if_success (with_reducible show wpAny _ _ (exec (Stmt.For _ _ _ _ _) _) _ _ _)); (first | (k_unfold; (try dsimp only)) | (refine' (?hh : NextQ _ _) _ ?_; (case hh => with_reducible assumption)) | (refine' (?hh : RestQ _ _) _ _ True.intro ?_; (case hh => with_reducible assumption)) | ((with_reducible show wpAny _ _ (call (Value.ref _) _ _) _ _ _); (k_dflt (refine' use_figs ?hh ?F ?N ?X ?T ?d ?u ?_; (case hh => assumption); (case F => k_asm); (case N => k_asm); (case X => k_asm); (case T => k_asm); (case d => (first | assumption | exact room2 (by assumption) rfl | exact room1 (by assumption) rfl | exact room0 (by assumption) | omega | ((try dsimp only [Around.deeper, Around.in1]); omega) | ((try simp only [depth_deeper, units_deeper, depth_in1, units_in1] at *); omega))); (case u => (first | assumption | exact room2 (by assumption) rfl | exact room1 (by assumption) rfl | exact room0 (by assumption) | omega | ((try dsimp only [Around.deeper, Around.in1]); omega) | ((try simp only [depth_deeper, units_deeper, depth_in1, units_in1] at *); omega))); k_whole); intro _ _ _ _ _ _ _ _ _; (try dsimp only); (try k_sweep))) | ((with_reducible show wpAny _ _ (subscriptTail (PySem.Expr.Name _ _) (PySem.Expr.Name _ _) (Value.ref _) (Value.int _ _)) _ _ _); ((with_reducible show wpAny _ _ (subscriptTail _ _ (Value.ref _) (Value.int _ _)) _ _ _); k_dflt (refine' item_fig ?l ?a ?b ?d ?_ ?_; (case l => exact News.isList (by k_asm) (by k_mem)); (case a => omega); (case b => omega); (case d => assumption)); all_goals (first | (intro _ _) | (intro _ _ _)))) | ((with_reducible show wpAny _ _ (compareOp CmpOp.Eq (Value.ref _) (Value.ref _)) _ _ _); ((with_reducible show wpAny _ _ (compareOp _ (Value.ref _) (Value.ref _)) _ _ _); k_dflt (refine' eq_lists ?N ?ma ?mb ?Da ?Db ?oa ?ob ?u ?_ ?_; (case N => k_asm); (case ma => k_mem); (case mb => k_mem); (case Da => first | exact strs_dat [] (strs_take _ (by assumption)) | exact datAll_take _ (by assumption)); (case Db => first | exact strs_dat [] (strs_take _ (by assumption)) | exact datAll_take _ (by assumption)); (case oa => first | exact ok_strs (fun x hx => parts_ok _ x (List.mem_of_mem_take hx)) | exact fun x hx => figD_ok _ _ x (List.mem_of_mem_take hx)); (case ob => first | exact ok_strs (fun x hx => parts_ok _ x (List.mem_of_mem_take hx)) | exact fun x hx => figD_ok _ _ x (List.mem_of_mem_take hx)); (case u => (first | assumption | exact room2 (by assumption) rfl | exact room1 (by assumption) rfl | exact room0 (by assumption) | omega | ((try dsimp only [Around.deeper, Around.in1]); omega) | ((try simp only [depth_deeper, units_deeper, depth_in1, units_in1] at *); omega)))); all_goals intro _)) | ((with_reducible show wpAny _ _ (subscriptTail (PySem.Expr.Call _ _ _ _) _ _ _) _ _ _); ((with_reducible show wpAny _ _ (subscriptTail _ (PySem.Expr.Slice none _ none _) (Value.ref _) (Value.ref _)) _ _ _); k_dflt (refine' slice_toT ?F ?N ?l ?y ?_ ?s ?z; (case F => k_asm); (case N => k_asm); (case l => exact News.isList (by k_asm) (by k_mem)); (case y => first | assumption | omega); (case s => with_unfolding_all rfl); (case z => omega)); intro _ _ _ _ l1Z; (try k_lt l1Z); (try k_sweep))) | (((with_reducible show wpAny _ _ (subscriptTail _ (PySem.Expr.Slice none _ none _) (Value.ref _) (Value.ref _)) _ _ _); k_dflt (refine' slice_to ?F ?N ?l ?y ?_ ?s ?t ?z; (case F => k_asm); (case N => k_asm); (case l => first | exact Fr.lst (by k_asm) (by assumption) | exact News.isList (by k_asm) (by k_mem)); (case y => first | assumption | omega); (case s => with_unfolding_all rfl); (case t => kmk_pure); (case z => first | exact len4 (by assumption) | omega)); intro _ _ _ _ l1Z; (try k_lt l1Z); (try k_sweep))) | walk1 | (dsimp only; walk1) | (leave1; walk_say "STEP leave1"; try dsimp only))))
    refine for_go ?_ (by intro _; rfl)
    repeat ((((fail_if_success (with_reducible show wpAny _ _ (exec (Stmt.For _ _ _ _ _) _) _ _ _)); (fail_if_success (with_reducible show wpAny _ _ (pyIter _) _ _ _)); (first | (k_unfold; (try dsimp only)) | (refine' (?hh : NextQ _ _) _ ?_; (case hh => with_reducible assumption)) | (refine' (?hh : RestQ _ _) _ _ True.intro ?_; (case hh => with_reducible assumption)) | ((with_reducible show wpAny _ _ (call (Value.ref _) _ _) _ _ _); (k_dflt (refine' use_figs ?hh ?F ?N ?X ?T ?d ?u ?_; (case hh => assumption); (case F => k_asm); (case N => k_asm); (case X => k_asm); (case T => k_asm); (case d => (first | assumption | exact room2 (by assumption) rfl | exact room1 (by assumption) rfl | exact room0 (by assumption) | omega | ((try dsimp only [Around.deeper, Around.in1]); omega) | ((try simp only [depth_deeper, units_deeper, depth_in1, units_in1] at *); omega))); (case u => (first | assumption | exact room2 (by assumption) rfl | exact room1 (by assumption) rfl | exact room0 (by assumption) | omega | ((try dsimp only [Around.deeper, Around.in1]); omega) | ((try simp only [depth_deeper, units_deeper, depth_in1, units_in1] at *); omega))); k_whole); intro _ _ _ _ _ _ _ _ _; (try dsimp only); (try k_sweep))) | ((with_reducible show wpAny _ _ (subscriptTail (PySem.Expr.Name _ _) (PySem.Expr.Name _ _) (Value.ref _) (Value.int _ _)) _ _ _); ((with_reducible show wpAny _ _ (subscriptTail _ _ (Value.ref _) (Value.int _ _)) _ _ _); k_dflt (refine' item_fig ?l ?a ?b ?d ?_ ?_; (case l => exact News.isList (by k_asm) (by k_mem)); (case a => omega); (case b => omega); (case d => assumption)); all_goals (first | (intro _ _) | (intro _ _ _)))) | ((with_reducible show wpAny _ _ (compareOp CmpOp.Eq (Value.ref _) (Value.ref _)) _ _ _); ((with_reducible show wpAny _ _ (compareOp _ (Value.ref _) (Value.ref _)) _ _ _); k_dflt (refine' eq_lists ?N ?ma ?mb ?Da ?Db ?oa ?ob ?u ?_ ?_; (case N => k_asm); (case ma => k_mem); (case mb => k_mem); (case Da => first | exact strs_dat [] (strs_take _ (by assumption)) | exact datAll_take _ (by assumption)); (case Db => first | exact strs_dat [] (strs_take _ (by assumption)) | exact datAll_take _ (by assumption)); (case oa => first | exact ok_strs (fun x hx => parts_ok _ x (List.mem_of_mem_take hx)) | exact fun x hx => figD_ok _ _ x (List.mem_of_mem_take hx)); (case ob => first | exact ok_strs (fun x hx => parts_ok _ x (List.mem_of_mem_take hx)) | exact fun x hx => figD_ok _ _ x (List.mem_of_mem_take hx)); (case u => (first | assumption | exact room2 (by assumption) rfl | exact room1 (by assumption) rfl | exact room0 (by assumption) | omega | ((try dsimp only [Around.deeper, Around.in1]); omega) | ((try simp only [depth_deeper, units_deeper, depth_in1, units_in1] at *); omega)))); all_goals intro _)) | ((with_reducible show wpAny _ _ (subscriptTail (PySem.Expr.Call _ _ _ _) _ _ _) _ _ _); ((with_reducible show wpAny _ _ (subscriptTail _ (PySem.Expr.Slice none _ none _) (Value.ref _) (Value.ref _)) _ _ _); k_dflt (refine' slice_toT ?F ?N ?l ?y ?_ ?s ?z; (case F => k_asm); (case N => k_asm); (case l => exact News.isList (by k_asm) (by k_mem)); (case y => first | assumption | omega); (case s => with_unfolding_all rfl); (case z => omega)); intro _ _ _ _ l1Z; (try k_lt l1Z); (try k_sweep))) | (((with_reducible show wpAny _ _ (subscriptTail _ (PySem.Expr.Slice none _ none _) (Value.ref _) (Value.ref _)) _ _ _); k_dflt (refine' slice_to ?F ?N ?l ?y ?_ ?s ?t ?z; (case F => k_asm); (case N => k_asm); (case l => first | exact Fr.lst (by k_asm) (by assumption) | exact News.isList (by k_asm) (by k_mem)); (case y => first | assumption | omega); (case s => with_unfolding_all rfl); (case t => kmk_pure); (case z => first | exact len4 (by assumption) | omega)); intro _ _ _ _ l1Z; (try k_lt l1Z); (try k_sweep))) | walk1 | (dsimp only; walk1) | (leave1; walk_say "STEP leave1"; try dsimp only)))))
    refine loop_lpairs (items := mvs.toArray) (fun i m₁ n₁ => m₁ (Str.ofString "parts") = some (.ref lp) ∧ m₁ (Str.ofString "file") = some (.int f ft) ∧ m₁ (Str.ofString "dirs") = some (.ref ld) ∧ m₁ (Str.ofString "how") = some (.int how u) ∧ n₁ = [] ∧ ∀ q ∈ ms.take i, ¬ modHit m q) rfl (by k_asm) (by k_asm) ⟨_, hmg, rfl, mn, rfl⟩ ?_ rfl rfl rfl ?_ ?_ ?_
    · exact ⟨rfl, rfl, rfl, rfl, rfl, by simp⟩
    · intro i v hv
      obtain ⟨d, hd, hD⟩ := hmi i v (by simpa using hv)
      rw [List.getElem?_map] at hd
      obtain ⟨q, hq, rfl⟩ := Option.map_eq_some_iff.mp hd
      obtain ⟨T', x, y, e, hT', _⟩ := hD.tup2
      exact ⟨T', x, y, e, hT'⟩
    · rintro i T' x y m₁ news₁ h tk oI I hi hT' ⟨e1, e2, e3, e4, rfl, hno⟩ F1 N1 off1
      obtain ⟨d, hd, hD⟩ := hmi i _ (by simpa using hi)
      rw [List.getElem?_map] at hd
      obtain ⟨q, hq, rfl⟩ := Option.map_eq_some_iff.mp hd
      obtain ⟨T'', x', y', e, hT'', hx, hy⟩ := hD.tup2
      cases e
      obtain ⟨rfl, rfl⟩ := tup_inj hT' hT''
      obtain ⟨lo, ovs, on, rfl, hog, hos⟩ := hx.strs
      obtain ⟨ty, rfl⟩ := hy.int
      have hoL : s.heap.IsList lo ovs.toArray := ⟨_, hog, rfl, on, rfl⟩
      obtain ⟨hq1, hq2⟩ := ms_at hms hq
      rw [map4 e1 e2 e3 e4] at F1
      have hmany : 0 ≤ q.2.fdiv 4 + 1 := by rw [fdiv_pos _ (by decide)]; omega
      repeat' ((first | (k_unfold; (try dsimp only)) | (refine' (?hh : NextQ _ _) _ ?_; (case hh => with_reducible assumption)) | (refine' (?hh : RestQ _ _) _ _ True.intro ?_; (case hh => with_reducible assumption)) | ((with_reducible show wpAny _ _ (call (Value.ref _) _ _) _ _ _); (k_dflt (refine' use_figs ?hh ?F ?N ?X ?T ?d ?u ?_; (case hh => assumption); (case F => k_asm); (case N => k_asm); (case X => k_asm); (case T => k_asm); (case d => (first | assumption | exact room2 (by assumption) rfl | exact room1 (by assumption) rfl | exact room0 (by assumption) | omega | ((try dsimp only [Around.deeper, Around.in1]); omega) | ((try simp only [depth_deeper, units_deeper, depth_in1, units_in1] at *); omega))); (case u => (first | assumption | exact room2 (by assumption) rfl | exact room1 (by assumption) rfl | exact room0 (by assumption) | omega | ((try dsimp only [Around.deeper, Around.in1]); omega) | ((try simp only [depth_deeper, units_deeper, depth_in1, units_in1] at *); omega))); k_whole); intro _ _ _ _ _ _ _ _ _; (try dsimp only); (try k_sweep))) | ((with_reducible show wpAny _ _ (subscriptTail (PySem.Expr.Name _ _) (PySem.Expr.Name _ _) (Value.ref _) (Value.int _ _)) _ _ _); ((with_reducible show wpAny _ _ (subscriptTail _ _ (Value.ref _) (Value.int _ _)) _ _ _); k_dflt (refine' item_fig ?l ?a ?b ?d ?_ ?_; (case l => exact News.isList (by k_asm) (by k_mem)); (case a => omega); (case b => omega); (case d => assumption)); all_goals (first | (intro _ _) | (intro _ _ _)))) | ((with_reducible show wpAny _ _ (compareOp CmpOp.Eq (Value.ref _) (Value.ref _)) _ _ _); ((with_reducible show wpAny _ _ (compareOp _ (Value.ref _) (Value.ref _)) _ _ _); k_dflt (refine' eq_lists ?N ?ma ?mb ?Da ?Db ?oa ?ob ?u ?_ ?_; (case N => k_asm); (case ma => k_mem); (case mb => k_mem); (case Da => first | exact strs_dat [] (strs_take _ (by assumption)) | exact datAll_take _ (by assumption)); (case Db => first | exact strs_dat [] (strs_take _ (by assumption)) | exact datAll_take _ (by assumption)); (case oa => first | exact ok_strs (fun x hx => parts_ok _ x (List.mem_of_mem_take hx)) | exact fun x hx => figD_ok _ _ x (List.mem_of_mem_take hx)); (case ob => first | exact ok_strs (fun x hx => parts_ok _ x (List.mem_of_mem_take hx)) | exact fun x hx => figD_ok _ _ x (List.mem_of_mem_take hx)); (case u => (first | assumption | exact room2 (by assumption) rfl | exact room1 (by assumption) rfl | exact room0 (by assumption) | omega | ((try dsimp only [Around.deeper, Around.in1]); omega) | ((try simp only [depth_deeper, units_deeper, depth_in1, units_in1] at *); omega)))); all_goals intro _)) | ((with_reducible show wpAny _ _ (subscriptTail (PySem.Expr.Call _ _ _ _) _ _ _) _ _ _); ((with_reducible show wpAny _ _ (subscriptTail _ (PySem.Expr.Slice none _ none _) (Value.ref _) (Value.ref _)) _ _ _); k_dflt (refine' slice_toT ?F ?N ?l ?y ?_ ?s ?z; (case F => k_asm); (case N => k_asm); (case l => exact News.isList (by k_asm) (by k_mem)); (case y => first | assumption | omega); (case s => with_unfolding_all rfl); (case z => omega)); intro _ _ _ _ l1Z; (try k_lt l1Z); (try k_sweep))) | (((with_reducible show wpAny _ _ (subscriptTail _ (PySem.Expr.Slice none _ none _) (Value.ref _) (Value.ref _)) _ _ _); k_dflt (refine' slice_to ?F ?N ?l ?y ?_ ?s ?t ?z; (case F => k_asm); (case N => k_asm); (case l => first | exact Fr.lst (by k_asm) (by assumption) | exact News.isList (by k_asm) (by k_mem)); (case y => first | assumption | omega); (case s => with_unfolding_all rfl); (case t => kmk_pure); (case z => first | exact len4 (by assumption) | omega)); intro _ _ _ _ l1Z; (try k_lt l1Z); (try k_sweep))) | walk1 | (dsimp only; walk1) | (leave1; walk_say "STEP leave1"; try dsimp only)))
      all_goals try dsimp only
      all_goals first
        | exact ⟨_, _, _, [], rfl, by k_asm, News.sub (by k_asm) (List.forall_mem_cons.mpr ⟨by k_mem, fun _ h => nomatch h⟩), (fun _ h => nomatch h), .inl ⟨_, hmg, rfl, mn, rfl⟩, rfl, rfl, rfl, rfl, rfl, take_no hno hq (no_hit1 (by assumption))⟩
        | exact ⟨_, _, _, [], rfl, by k_asm, News.sub (by k_asm) (List.forall_mem_cons.mpr ⟨by k_mem, fun _ h => nomatch h⟩), (fun _ h => nomatch h), .inl ⟨_, hmg, rfl, mn, rfl⟩, rfl, rfl, rfl, rfl, rfl, take_no hno hq (no_hit2 (by assumption))⟩
        | skip
      (((try dsimp only); (try k_unfold); (try dsimp only)))
      exact hret _ _ _ (Fr.keep (by assumption)) ⟨_, .inl ⟨.inl ⟨q, List.mem_of_getElem? hq, by assumption, map_str_inj (by assumption)⟩, rfl⟩⟩
    · rintro m₁ news₁ h tk ⟨e1, e2, e3, e4, rfl, hno⟩ F1 N1
      rw [map4 e1 e2 e3 e4] at F1
      rw [show mvs.toArray.size = ms.length by rw [List.size_toArray, hml, List.length_map], List.take_length] at hno
      (repeat' ((fail_if_success (with_reducible show wpAny _ _ (exec (Stmt.For _ _ _ _ _) _) _ _ _)); (first | (k_unfold; (try dsimp only)) | (refine' (?hh : NextQ _ _) _ ?_; (case hh => with_reducible assumption)) | (refine' (?hh : RestQ _ _) _ _ True.intro ?_; (case hh => with_reducible assumption)) | ((with_reducible show wpAny _ _ (call (Value.ref _) _ _) _ _ _); (k_dflt (refine' use_figs ?hh ?F ?N ?X ?T ?d ?u ?_; (case hh => assumption); (case F => k_asm); (case N => k_asm); (case X => k_asm); (case T => k_asm); (case d => (first | assumption | exact room2 (by assumption) rfl | exact room1 (by assumption) rfl | exact room0 (by assumption) | omega | ((try dsimp only [Around.deeper, Around.in1]); omega) | ((try simp only [depth_deeper, units_deeper, depth_in1, units_in1] at *); omega))); (case u => (first | assumption | exact room2 (by assumption) rfl | exact room1 (by assumption) rfl | exact room0 (by assumption) | omega | ((try dsimp only [Around.deeper, Around.in1]); omega) | ((try simp only [depth_deeper, units_deeper, depth_in1, units_in1] at *); omega))); k_whole); intro _ _ _ _ _ _ _ _ _; (try dsimp only); (try k_sweep))) | ((with_reducible show wpAny _ _ (subscriptTail (PySem.Expr.Name _ _) (PySem.Expr.Name _ _) (Value.ref _) (Value.int _ _)) _ _ _); ((with_reducible show wpAny _ _ (subscriptTail _ _ (Value.ref _) (Value.int _ _)) _ _ _); k_dflt (refine' item_fig ?l ?a ?b ?d ?_ ?_; (case l => exact News.isList (by k_asm) (by k_mem)); (case a => omega); (case b => omega); (case d => assumption)); all_goals (first | (intro _ _) | (intro _ _ _)))) | ((with_reducible show wpAny _ _ (compareOp CmpOp.Eq (Value.ref _) (Value.ref _)) _ _ _); ((with_reducible show wpAny _ _ (compareOp _ (Value.ref _) (Value.ref _)) _ _ _); k_dflt (refine' eq_lists ?N ?ma ?mb ?Da ?Db ?oa ?ob ?u ?_ ?_; (case N => k_asm); (case ma => k_mem); (case mb => k_mem); (case Da => first | exact strs_dat [] (strs_take _ (by assumption)) | exact datAll_take _ (by assumption)); (case Db => first | exact strs_dat [] (strs_take _ (by assumption)) | exact datAll_take _ (by assumption)); (case oa => first | exact ok_strs (fun x hx => parts_ok _ x (List.mem_of_mem_take hx)) | exact fun x hx => figD_ok _ _ x (List.mem_of_mem_take hx)); (case ob => first | exact ok_strs (fun x hx => parts_ok _ x (List.mem_of_mem_take hx)) | exact fun x hx => figD_ok _ _ x (List.mem_of_mem_take hx)); (case u => (first | assumption | exact room2 (by assumption) rfl | exact room1 (by assumption) rfl | exact room0 (by assumption) | omega | ((try dsimp only [Around.deeper, Around.in1]); omega) | ((try simp only [depth_deeper, units_deeper, depth_in1, units_in1] at *); omega)))); all_goals intro _)) | ((with_reducible show wpAny _ _ (subscriptTail (PySem.Expr.Call _ _ _ _) _ _ _) _ _ _); ((with_reducible show wpAny _ _ (subscriptTail _ (PySem.Expr.Slice none _ none _) (Value.ref _) (Value.ref _)) _ _ _); k_dflt (refine' slice_toT ?F ?N ?l ?y ?_ ?s ?z; (case F => k_asm); (case N => k_asm); (case l => exact News.isList (by k_asm) (by k_mem)); (case y => first | assumption | omega); (case s => with_unfolding_all rfl); (case z => omega)); intro _ _ _ _ l1Z; (try k_lt l1Z); (try k_sweep))) | (((with_reducible show wpAny _ _ (subscriptTail _ (PySem.Expr.Slice none _ none _) (Value.ref _) (Value.ref _)) _ _ _); k_dflt (refine' slice_to ?F ?N ?l ?y ?_ ?s ?t ?z; (case F => k_asm); (case N => k_asm); (case l => first | exact Fr.lst (by k_asm) (by assumption) | exact News.isList (by k_asm) (by k_mem)); (case y => first | assumption | omega); (case s => with_unfolding_all rfl); (case t => kmk_pure); (case z => first | exact len4 (by assumption) | omega)); intro _ _ _ _ l1Z; (try k_lt l1Z); (try k_sweep))) | walk1 | (dsimp only; walk1) | (leave1; walk_say "STEP leave1"; try dsimp only))))
      refine for_go ?_ (by intro _; rfl)
      repeat ((((fail_if_success (with_reducible show wpAny _ _ (exec (Stmt.For _ _ _ _ _) _) _ _ _)); (fail_if_success (with_reducible show wpAny _ _ (pyIter _) _ _ _)); (first | (k_unfold; (try dsimp only)) | (refine' (?hh : NextQ _ _) _ ?_; (case hh => with_reducible assumption)) | (refine' (?hh : RestQ _ _) _ _ True.intro ?_; (case hh => with_reducible assumption)) | ((with_reducible show wpAny _ _ (call (Value.ref _) _ _) _ _ _); (k_dflt (refine' use_figs ?hh ?F ?N ?X ?T ?d ?u ?_; (case hh => assumption); (case F => k_asm); (case N => k_asm); (case X => k_asm); (case T => k_asm); (case d => (first | assumption | exact room2 (by assumption) rfl | exact room1 (by assumption) rfl | exact room0 (by assumption) | omega | ((try dsimp only [Around.deeper, Around.in1]); omega) | ((try simp only [depth_deeper, units_deeper, depth_in1, units_in1] at *); omega))); (case u => (first | assumption | exact room2 (by assumption) rfl | exact room1 (by assumption) rfl | exact room0 (by assumption) | omega | ((try dsimp only [Around.deeper, Around.in1]); omega) | ((try simp only [depth_deeper, units_deeper, depth_in1, units_in1] at *); omega))); k_whole); intro _ _ _ _ _ _ _ _ _; (try dsimp only); (try k_sweep))) | ((with_reducible show wpAny _ _ (subscriptTail (PySem.Expr.Name _ _) (PySem.Expr.Name _ _) (Value.ref _) (Value.int _ _)) _ _ _); ((with_reducible show wpAny _ _ (subscriptTail _ _ (Value.ref _) (Value.int _ _)) _ _ _); k_dflt (refine' item_fig ?l ?a ?b ?d ?_ ?_; (case l => exact News.isList (by k_asm) (by k_mem)); (case a => omega); (case b => omega); (case d => assumption)); all_goals (first | (intro _ _) | (intro _ _ _)))) | ((with_reducible show wpAny _ _ (compareOp CmpOp.Eq (Value.ref _) (Value.ref _)) _ _ _); ((with_reducible show wpAny _ _ (compareOp _ (Value.ref _) (Value.ref _)) _ _ _); k_dflt (refine' eq_lists ?N ?ma ?mb ?Da ?Db ?oa ?ob ?u ?_ ?_; (case N => k_asm); (case ma => k_mem); (case mb => k_mem); (case Da => first | exact strs_dat [] (strs_take _ (by assumption)) | exact datAll_take _ (by assumption)); (case Db => first | exact strs_dat [] (strs_take _ (by assumption)) | exact datAll_take _ (by assumption)); (case oa => first | exact ok_strs (fun x hx => parts_ok _ x (List.mem_of_mem_take hx)) | exact fun x hx => figD_ok _ _ x (List.mem_of_mem_take hx)); (case ob => first | exact ok_strs (fun x hx => parts_ok _ x (List.mem_of_mem_take hx)) | exact fun x hx => figD_ok _ _ x (List.mem_of_mem_take hx)); (case u => (first | assumption | exact room2 (by assumption) rfl | exact room1 (by assumption) rfl | exact room0 (by assumption) | omega | ((try dsimp only [Around.deeper, Around.in1]); omega) | ((try simp only [depth_deeper, units_deeper, depth_in1, units_in1] at *); omega)))); all_goals intro _)) | ((with_reducible show wpAny _ _ (subscriptTail (PySem.Expr.Call _ _ _ _) _ _ _) _ _ _); ((with_reducible show wpAny _ _ (subscriptTail _ (PySem.Expr.Slice none _ none _) (Value.ref _) (Value.ref _)) _ _ _); k_dflt (refine' slice_toT ?F ?N ?l ?y ?_ ?s ?z; (case F => k_asm); (case N => k_asm); (case l => exact News.isList (by k_asm) (by k_mem)); (case y => first | assumption | omega); (case s => with_unfolding_all rfl); (case z => omega)); intro _ _ _ _ l1Z; (try k_lt l1Z); (try k_sweep))) | (((with_reducible show wpAny _ _ (subscriptTail _ (PySem.Expr.Slice none _ none _) (Value.ref _) (Value.ref _)) _ _ _); k_dflt (refine' slice_to ?F ?N ?l ?y ?_ ?s ?t ?z; (case F => k_asm); (case N => k_asm); (case l => first | exact Fr.lst (by k_asm) (by assumption) | exact News.isList (by k_asm) (by k_mem)); (case y => first | assumption | omega); (case s => with_unfolding_all rfl); (case t => kmk_pure); (case z => first | exact len4 (by assumption) | omega)); intro _ _ _ _ l1Z; (try k_lt l1Z); (try k_sweep))) | walk1 | (dsimp only; walk1) | (leave1; walk_say "STEP leave1"; try dsimp only)))))
      rename_i l9 vs9 n9 _ _ F9 N9 hf9 hl9 _ F8 N8 _ _ _
      clear F9 N9
      refine loop_lpairs (items := dvs.toArray) (fun i m₁ n₁ => m₁ (Str.ofString "figures") = some (.ref l9) ∧ m₁ (Str.ofString "how") = some (.int how u) ∧ n₁ = [(l9, W.listOf vs9.toArray n9)] ∧ ∀ q ∈ ds.take i, ¬ dirHit how f q) rfl (by k_asm) (by k_asm) ⟨_, hdg, rfl, dn, rfl⟩ ?_ rfl rfl rfl ?_ ?_ ?_
      · exact ⟨rfl, rfl, rfl, by simp⟩
      · intro i v hv
        obtain ⟨d, hd, hD⟩ := hdi i v (by simpa using hv)
        rw [List.getElem?_map] at hd
        obtain ⟨q, hq, rfl⟩ := Option.map_eq_some_iff.mp hd
        obtain ⟨T', x, y, e, hT', _⟩ := hD.tup2
        exact ⟨T', x, y, e, hT'⟩
      · rintro i T' x y m₁ news₁ h tk oI I hi hT' ⟨e1, e2, rfl, hno2⟩ F1 N1 off1
        obtain ⟨d, hd, hD⟩ := hdi i _ (by simpa using hi)
        rw [List.getElem?_map] at hd
        obtain ⟨q, hq, rfl⟩ := Option.map_eq_some_iff.mp hd
        obtain ⟨T'', x', y', e, hT'', hx, hy⟩ := hD.tup2
        cases e
        obtain ⟨rfl, rfl⟩ := tup_inj hT' hT''
        obtain ⟨tx, rfl⟩ := hx.int
        obtain ⟨ty, rfl⟩ := hy.int
        obtain ⟨hq1, hq2⟩ := (hds q (List.mem_of_getElem? hq)).2
        rw [map2 e1 e2] at F1
        clear F8 N8
        repeat' ((first | (k_unfold; (try dsimp only)) | (refine' (?hh : NextQ _ _) _ ?_; (case hh => with_reducible assumption)) | (refine' (?hh : RestQ _ _) _ _ True.intro ?_; (case hh => with_reducible assumption)) | ((with_reducible show wpAny _ _ (call (Value.ref _) _ _) _ _ _); (k_dflt (refine' use_figs ?hh ?F ?N ?X ?T ?d ?u ?_; (case hh => assumption); (case F => k_asm); (case N => k_asm); (case X => k_asm); (case T => k_asm); (case d => (first | assumption | exact room2 (by assumption) rfl | exact room1 (by assumption) rfl | exact room0 (by assumption) | omega | ((try dsimp only [Around.deeper, Around.in1]); omega) | ((try simp only [depth_deeper, units_deeper, depth_in1, units_in1] at *); omega))); (case u => (first | assumption | exact room2 (by assumption) rfl | exact room1 (by assumption) rfl | exact room0 (by assumption) | omega | ((try dsimp only [Around.deeper, Around.in1]); omega) | ((try simp only [depth_deeper, units_deeper, depth_in1, units_in1] at *); omega))); k_whole); intro _ _ _ _ _ _ _ _ _; (try dsimp only); (try k_sweep))) | ((with_reducible show wpAny _ _ (subscriptTail (PySem.Expr.Name _ _) (PySem.Expr.Name _ _) (Value.ref _) (Value.int _ _)) _ _ _); ((with_reducible show wpAny _ _ (subscriptTail _ _ (Value.ref _) (Value.int _ _)) _ _ _); k_dflt (refine' item_fig ?l ?a ?b ?d ?_ ?_; (case l => exact News.isList (by k_asm) (by k_mem)); (case a => omega); (case b => omega); (case d => assumption)); all_goals (first | (intro _ _) | (intro _ _ _)))) | ((with_reducible show wpAny _ _ (compareOp CmpOp.Eq (Value.ref _) (Value.ref _)) _ _ _); ((with_reducible show wpAny _ _ (compareOp _ (Value.ref _) (Value.ref _)) _ _ _); k_dflt (refine' eq_lists ?N ?ma ?mb ?Da ?Db ?oa ?ob ?u ?_ ?_; (case N => k_asm); (case ma => k_mem); (case mb => k_mem); (case Da => first | exact strs_dat [] (strs_take _ (by assumption)) | exact datAll_take _ (by assumption)); (case Db => first | exact strs_dat [] (strs_take _ (by assumption)) | exact datAll_take _ (by assumption)); (case oa => first | exact ok_strs (fun x hx => parts_ok _ x (List.mem_of_mem_take hx)) | exact fun x hx => figD_ok _ _ x (List.mem_of_mem_take hx)); (case ob => first | exact ok_strs (fun x hx => parts_ok _ x (List.mem_of_mem_take hx)) | exact fun x hx => figD_ok _ _ x (List.mem_of_mem_take hx)); (case u => (first | assumption | exact room2 (by assumption) rfl | exact room1 (by assumption) rfl | exact room0 (by assumption) | omega | ((try dsimp only [Around.deeper, Around.in1]); omega) | ((try simp only [depth_deeper, units_deeper, depth_in1, units_in1] at *); omega)))); all_goals intro _)) | ((with_reducible show wpAny _ _ (subscriptTail (PySem.Expr.Call _ _ _ _) _ _ _) _ _ _); ((with_reducible show wpAny _ _ (subscriptTail _ (PySem.Expr.Slice none _ none _) (Value.ref _) (Value.ref _)) _ _ _); k_dflt (refine' slice_toT ?F ?N ?l ?y ?_ ?s ?z; (case F => k_asm); (case N => k_asm); (case l => exact News.isList (by k_asm) (by k_mem)); (case y => first | assumption | omega); (case s => with_unfolding_all rfl); (case z => omega)); intro _ _ _ _ l1Z; (try k_lt l1Z); (try k_sweep))) | (((with_reducible show wpAny _ _ (subscriptTail _ (PySem.Expr.Slice none _ none _) (Value.ref _) (Value.ref _)) _ _ _); k_dflt (refine' slice_to ?F ?N ?l ?y ?_ ?s ?t ?z; (case F => k_asm); (case N => k_asm); (case l => first | exact Fr.lst (by k_asm) (by assumption) | exact News.isList (by k_asm) (by k_mem)); (case y => first | assumption | omega); (case s => with_unfolding_all rfl); (case t => kmk_pure); (case z => first | exact len4 (by assumption) | omega)); intro _ _ _ _ l1Z; (try k_lt l1Z); (try k_sweep))) | walk1 | (dsimp only; walk1) | (leave1; walk_say "STEP leave1"; try dsimp only)))
        all_goals try dsimp only
        all_goals first
          | exact ⟨_, _, _, [(l9, W.listOf vs9.toArray n9)], rfl, by k_asm, News.sub (by k_asm) (List.forall_mem_cons.mpr ⟨by k_mem, List.forall_mem_cons.mpr ⟨by k_mem, fun _ h => nomatch h⟩⟩), off1, .inl ⟨_, hdg, rfl, dn, rfl⟩, rfl, rfl, rfl, take_no hno2 hq (no_dir1 (by assumption))⟩
          | exact ⟨_, _, _, [(l9, W.listOf vs9.toArray n9)], rfl, by k_asm, News.sub (by k_asm) (List.forall_mem_cons.mpr ⟨by k_mem, List.forall_mem_cons.mpr ⟨by k_mem, fun _ h => nomatch h⟩⟩), off1, .inl ⟨_, hdg, rfl, dn, rfl⟩, rfl, rfl, rfl, take_no hno2 hq (no_dir2 (by assumption))⟩
          | ((((try dsimp only); (try k_unfold); (try dsimp only))); exact hret _ _ _ (Fr.keep (by assumption)) ⟨_, .inl ⟨.inr ⟨q, List.mem_of_getElem? hq, by assumption, by assumption⟩, rfl⟩⟩)
      · rintro m₁ news₁ h tk ⟨e1, e2, rfl, hno2⟩ F1 N1
        rw [map2 e1 e2] at F1
        rw [show dvs.toArray.size = ds.length by rw [List.size_toArray, hdl, List.length_map], List.take_length] at hno2
        repeat' ((first | (k_unfold; (try dsimp only)) | (refine' (?hh : NextQ _ _) _ ?_; (case hh => with_reducible assumption)) | (refine' (?hh : RestQ _ _) _ _ True.intro ?_; (case hh => with_reducible assumption)) | ((with_reducible show wpAny _ _ (call (Value.ref _) _ _) _ _ _); (k_dflt (refine' use_figs ?hh ?F ?N ?X ?T ?d ?u ?_; (case hh => assumption); (case F => k_asm); (case N => k_asm); (case X => k_asm); (case T => k_asm); (case d => (first | assumption | exact room2 (by assumption) rfl | exact room1 (by assumption) rfl | exact room0 (by assumption) | omega | ((try dsimp only [Around.deeper, Around.in1]); omega) | ((try simp only [depth_deeper, units_deeper, depth_in1, units_in1] at *); omega))); (case u => (first | assumption | exact room2 (by assumption) rfl | exact room1 (by assumption) rfl | exact room0 (by assumption) | omega | ((try dsimp only [Around.deeper, Around.in1]); omega) | ((try simp only [depth_deeper, units_deeper, depth_in1, units_in1] at *); omega))); k_whole); intro _ _ _ _ _ _ _ _ _; (try dsimp only); (try k_sweep))) | ((with_reducible show wpAny _ _ (subscriptTail (PySem.Expr.Name _ _) (PySem.Expr.Name _ _) (Value.ref _) (Value.int _ _)) _ _ _); ((with_reducible show wpAny _ _ (subscriptTail _ _ (Value.ref _) (Value.int _ _)) _ _ _); k_dflt (refine' item_fig ?l ?a ?b ?d ?_ ?_; (case l => exact News.isList (by k_asm) (by k_mem)); (case a => omega); (case b => omega); (case d => assumption)); all_goals (first | (intro _ _) | (intro _ _ _)))) | ((with_reducible show wpAny _ _ (compareOp CmpOp.Eq (Value.ref _) (Value.ref _)) _ _ _); ((with_reducible show wpAny _ _ (compareOp _ (Value.ref _) (Value.ref _)) _ _ _); k_dflt (refine' eq_lists ?N ?ma ?mb ?Da ?Db ?oa ?ob ?u ?_ ?_; (case N => k_asm); (case ma => k_mem); (case mb => k_mem); (case Da => first | exact strs_dat [] (strs_take _ (by assumption)) | exact datAll_take _ (by assumption)); (case Db => first | exact strs_dat [] (strs_take _ (by assumption)) | exact datAll_take _ (by assumption)); (case oa => first | exact ok_strs (fun x hx => parts_ok _ x (List.mem_of_mem_take hx)) | exact fun x hx => figD_ok _ _ x (List.mem_of_mem_take hx)); (case ob => first | exact ok_strs (fun x hx => parts_ok _ x (List.mem_of_mem_take hx)) | exact fun x hx => figD_ok _ _ x (List.mem_of_mem_take hx)); (case u => (first | assumption | exact room2 (by assumption) rfl | exact room1 (by assumption) rfl | exact room0 (by assumption) | omega | ((try dsimp only [Around.deeper, Around.in1]); omega) | ((try simp only [depth_deeper, units_deeper, depth_in1, units_in1] at *); omega)))); all_goals intro _)) | ((with_reducible show wpAny _ _ (subscriptTail (PySem.Expr.Call _ _ _ _) _ _ _) _ _ _); ((with_reducible show wpAny _ _ (subscriptTail _ (PySem.Expr.Slice none _ none _) (Value.ref _) (Value.ref _)) _ _ _); k_dflt (refine' slice_toT ?F ?N ?l ?y ?_ ?s ?z; (case F => k_asm); (case N => k_asm); (case l => exact News.isList (by k_asm) (by k_mem)); (case y => first | assumption | omega); (case s => with_unfolding_all rfl); (case z => omega)); intro _ _ _ _ l1Z; (try k_lt l1Z); (try k_sweep))) | (((with_reducible show wpAny _ _ (subscriptTail _ (PySem.Expr.Slice none _ none _) (Value.ref _) (Value.ref _)) _ _ _); k_dflt (refine' slice_to ?F ?N ?l ?y ?_ ?s ?t ?z; (case F => k_asm); (case N => k_asm); (case l => first | exact Fr.lst (by k_asm) (by assumption) | exact News.isList (by k_asm) (by k_mem)); (case y => first | assumption | omega); (case s => with_unfolding_all rfl); (case t => kmk_pure); (case z => first | exact len4 (by assumption) | omega)); intro _ _ _ _ l1Z; (try k_lt l1Z); (try k_sweep))) | walk1 | (dsimp only; walk1) | (leave1; walk_say "STEP leave1"; try dsimp only)))
        (((try dsimp only); (try k_unfold); (try dsimp only)))
        exact hret _ _ _ (Fr.keep (by assumption)) ⟨_, .inr ⟨no_rule hno hno2, rfl⟩⟩)
set_option maxRecDepth 100000 in
set_option maxHeartbeats 8000000 in
theorem c_ruleN {w : World} (m : Int) (how : Int) (u : Tok) (ms ds : List (Int × Int)) (pv mv dv : Value) :
    Ct w 12 226 [pv, .none, mv, dv, .int how u] (fun _ => True) (fun _ _ r => RuleP m none ms ds how r) := by
  w_strict (
    intro p loose mean mg mb dp fr gd un s Q E X T hdp hun _ hret
    (k_dflt (refine' enter ?X ?T ?ho ?hcd ?hroom ?hbind ?hloc ?_ ?c2 ?c3 ?c4 ?c5; (case X => k_asm); (case T => k_asm); (case ho => k_is); (case hcd => k_is); (case hroom => (first | assumption | exact room2 (by assumption) rfl | exact room1 (by assumption) rfl | exact room0 (by assumption) | omega | ((try dsimp only [Around.deeper, Around.in1]); omega) | ((try simp only [depth_deeper, units_deeper, depth_in1, units_in1] at *); omega))); (case hbind => first | exact BindsTo.of_eq rfl | exact binds_K (by k_in) rfl (by k_is) rfl rfl rfl); (case hloc => exact locs rfl); (case c2 => exact rfl); (case c3 => exact rfl); (case c4 => exact rfl); (case c5 => decide); k_whole; intro _ _ _ _; (try dsimp only); (try k_fold)))
    repeat' ((first | (k_unfold; (try dsimp only)) | (refine' (?hh : NextQ _ _) _ ?_; (case hh => with_reducible assumption)) | (refine' (?hh : RestQ _ _) _ _ True.intro ?_; (case hh => with_reducible assumption)) | ((with_reducible show wpAny _ _ (call (Value.ref _) _ _) _ _ _); (k_dflt (refine' use_figs ?hh ?F ?N ?X ?T ?d ?u ?_; (case hh => assumption); (case F => k_asm); (case N => k_asm); (case X => k_asm); (case T => k_asm); (case d => (first | assumption | exact room2 (by assumption) rfl | exact room1 (by assumption) rfl | exact room0 (by assumption) | omega | ((try dsimp only [Around.deeper, Around.in1]); omega) | ((try simp only [depth_deeper, units_deeper, depth_in1, units_in1] at *); omega))); (case u => (first | assumption | exact room2 (by assumption) rfl | exact room1 (by assumption) rfl | exact room0 (by assumption) | omega | ((try dsimp only [Around.deeper, Around.in1]); omega) | ((try simp only [depth_deeper, units_deeper, depth_in1, units_in1] at *); omega))); k_whole); intro _ _ _ _ _ _ _ _ _; (try dsimp only); (try k_sweep))) | ((with_reducible show wpAny _ _ (subscriptTail (PySem.Expr.Name _ _) (PySem.Expr.Name _ _) (Value.ref _) (Value.int _ _)) _ _ _); ((with_reducible show wpAny _ _ (subscriptTail _ _ (Value.ref _) (Value.int _ _)) _ _ _); k_dflt (refine' item_fig ?l ?a ?b ?d ?_ ?_; (case l => exact News.isList (by k_asm) (by k_mem)); (case a => omega); (case b => omega); (case d => assumption)); all_goals (first | (intro _ _) | (intro _ _ _)))) | ((with_reducible show wpAny _ _ (compareOp CmpOp.Eq (Value.ref _) (Value.ref _)) _ _ _); ((with_reducible show wpAny _ _ (compareOp _ (Value.ref _) (Value.ref _)) _ _ _); k_dflt (refine' eq_lists ?N ?ma ?mb ?Da ?Db ?oa ?ob ?u ?_ ?_; (case N => k_asm); (case ma => k_mem); (case mb => k_mem); (case Da => first | exact strs_dat [] (strs_take _ (by assumption)) | exact datAll_take _ (by assumption)); (case Db => first | exact strs_dat [] (strs_take _ (by assumption)) | exact datAll_take _ (by assumption)); (case oa => first | exact ok_strs (fun x hx => parts_ok _ x (List.mem_of_mem_take hx)) | exact fun x hx => figD_ok _ _ x (List.mem_of_mem_take hx)); (case ob => first | exact ok_strs (fun x hx => parts_ok _ x (List.mem_of_mem_take hx)) | exact fun x hx => figD_ok _ _ x (List.mem_of_mem_take hx)); (case u => (first | assumption | exact room2 (by assumption) rfl | exact room1 (by assumption) rfl | exact room0 (by assumption) | omega | ((try dsimp only [Around.deeper, Around.in1]); omega) | ((try simp only [depth_deeper, units_deeper, depth_in1, units_in1] at *); omega)))); all_goals intro _)) | ((with_reducible show wpAny _ _ (subscriptTail (PySem.Expr.Call _ _ _ _) _ _ _) _ _ _); ((with_reducible show wpAny _ _ (subscriptTail _ (PySem.Expr.Slice none _ none _) (Value.ref _) (Value.ref _)) _ _ _); k_dflt (refine' slice_toT ?F ?N ?l ?y ?_ ?s ?z; (case F => k_asm); (case N => k_asm); (case l => exact News.isList (by k_asm) (by k_mem)); (case y => first | assumption | omega); (case s => with_unfolding_all rfl); (case z => omega)); intro _ _ _ _ l1Z; (try k_lt l1Z); (try k_sweep))) | (((with_reducible show wpAny _ _ (subscriptTail _ (PySem.Expr.Slice none _ none _) (Value.ref _) (Value.ref _)) _ _ _); k_dflt (refine' slice_to ?F ?N ?l ?y ?_ ?s ?t ?z; (case F => k_asm); (case N => k_asm); (case l => first | exact Fr.lst (by k_asm) (by assumption) | exact News.isList (by k_asm) (by k_mem)); (case y => first | assumption | omega); (case s => with_unfolding_all rfl); (case t => kmk_pure); (case z => first | exact len4 (by assumption) | omega)); intro _ _ _ _ l1Z; (try k_lt l1Z); (try k_sweep))) | walk1 | (dsimp only; walk1) | (leave1; walk_say "STEP leave1"; try dsimp only)))
    (((try dsimp only); (try k_unfold); (try dsimp only)))
    exact hret _ _ _ (Fr.keep (by assumption)) ⟨_, .inl ⟨trivial, rfl⟩⟩)
end
end
section
open Classical in
/-- the law's word on an ask -/
noncomputable def ruleS (m : Int) (file : Option Int) (ms ds : List (Int × Int)) (how : Int) : Str := if RuleHit m file ms ds how then Str.ofString "1" else Str.ofString "0"
theorem rule_val {m : Int} {file : Option Int} {ms ds : List (Int × Int)} {how : Int} {r : Value} (h : RuleP m file ms ds how r) : ∃ u, r = .str (ruleS m file ms ds how) u := by
  obtain ⟨u, ⟨h1, rfl⟩ | ⟨h1, rfl⟩⟩ := h
  · exact ⟨u, by unfold ruleS; rw [if_pos h1]⟩
  · exact ⟨u, by unfold ruleS; rw [if_neg h1]⟩
theorem c_rule2 {w : World} (m : Int) (file : Option Int) (how : Int) (u : Tok) (hh : 0 ≤ how ∧ how < 4) (ms ds : List (Int × Int)) (hms : MsOk ms) (hds : DsOk ds) (pv fv mv dv : Value) :
    Ct w 12 226 [pv, fv, mv, dv, .int how u] (fun h => DatH h pv (strsD (lawParts m)) ∧ DatH h fv (datO file) ∧ DatH h mv (.list (ms.map datM)) ∧ DatH h dv (.list (ds.map datP))) (fun _ _ r => ∃ u, r = .str (ruleS m file ms ds how) u) := by
  rintro p loose mean mg mb dp fr gd un s Q E X T hdp hun ⟨h1, h2, h3, h4⟩ hret
  rcases h2.opt with ⟨rfl, rfl⟩ | ⟨f, t, rfl, rfl⟩
  · exact c_ruleN m how u ms ds pv mv dv p loose mean mg mb dp fr gd un s Q E X T hdp hun trivial fun r h' tk' st hp => hret r h' tk' st (rule_val hp)
  · exact c_rule m f t how u hh ms ds hms hds pv mv dv p loose mean mg mb dp fr gd un s Q E X T hdp hun ⟨h1, h3, h4⟩ fun r h' tk' st hp => hret r h' tk' st (rule_val hp)
def spaceS (m : Int) : Str := Txt.join (Str.ofString " ") (lawParts m)
noncomputable def dueF (as : List (Int × Option Int)) (ms ds : List (Int × Int)) (how : Int) : List (Str × Str) := as.map fun q => (spaceS q.1, ruleS q.1 q.2 ms ds how)
theorem join4s_fit (m : Int) : ((lawParts m).map (·.length)).sum + (lawParts m).length * (Str.ofString " ").length ≤ 16777216 := by
  have e : (Str.ofString " ").length = 1 := by decide +kernel
  have h := lawParts_len m
  unfold lawParts at h ⊢
  simp only [List.mem_cons, List.not_mem_nil, or_false, forall_eq_or_imp, forall_eq] at h
  simp only [List.map_cons, List.map_nil, List.sum_cons, List.sum_nil, List.length_cons, List.length_nil, e]; omega
theorem join_space {prog : Program} {w : World} {A : Around} {E : Value → Shared → Prop} {s : Shared} {t : Tok} {Q : Value → Shared → Prop} {D : Addr} {vs : List Value} {m : Int} (hl : s.heap.IsList D vs.toArray) (hi : StrsAre vs (lawParts m))
    (h : ∀ t' k, Q (.str (spaceS m) t') { s with toks := k }) : wpAny (model prog w) A (call (.builtin "str.join") [.str (Str.ofString " ") t, .ref D]) Q E s :=
  join_list hl (by simpa using hi) (join4s_fit m) h
abbrev RStr (y : Str) (v : Value) : Prop := ∃ t, v = .str y t
theorem map7 {m₁ : Str → Option Value} {a b c d e f g : Str} {x y v w u k l : Value} (hm : m₁ a = some x) (hp : m₁ b = some y) (hq : m₁ c = some v) (hr : m₁ d = some w) (hs : m₁ e = some u) (ht : m₁ f = some k) (hu : m₁ g = some l) : m₁ = fun z => if z = a then some x else if z = b then some y else if z = c then some v else if z = d then some w else if z = e then some u else if z = f then some k else if z = g then some l else m₁ z := by
  funext z
  repeat' split
  all_goals (first | rfl | (subst_vars; assumption))
theorem rsz (n : Nat) : Builtin.Range.rangeSize 0 (n : Int) 1 = (n : Int) := by
  unfold Builtin.Range.rangeSize
  simp
  omega
theorem append_pre {α : Type} {l : List α} {i : Nat} {q : α} (h : l[i]? = some q) : l.take (i + 1) = l.take i ++ [q] := by rw [List.take_add_one, h]; rfl
theorem due_strs {arr : Array Value} {full : List (Str × Str)} {i : Nat} {k y z : Str} {t : Tok} (hs : StrsAre arr.toList ((ans full).take i)) (hi : full[i]? = some (k, y)) (hz : (full.take i ++ [(k, y)]).lookup k = some z) : StrsAre (arr.push (.str z t)).toList ((ans full).take (i + 1)) := by
  rw [ans_step hi hz]; exact strs_push hs
section
set_option maxRecDepth 100000 in
set_option maxHeartbeats 8000000 in
theorem c_due {w : World} (as : List (Int × Option Int)) (hln : as.length ≤ 100) (how : Int) (u : Tok) (hh : 0 ≤ how ∧ how < 4) (ms ds : List (Int × Int)) (hms : MsOk ms) (hds : DsOk ds) (sv fv mv dv : Value) :
    Ct w 14 233 [sv, fv, mv, dv, .int how u] (fun h => DatH h sv (.list (as.map fun q => strsD (lawParts q.1))) ∧ DatH h fv (.list (as.map fun q => datO q.2)) ∧ DatH h mv (.list (ms.map datM)) ∧ DatH h dv (.list (ds.map datP))) (NewStrs (ans (dueF as ms ds how))) := by
  w_strict (
    rintro p loose mean mg mb dp fr gd un s Q E X T hdp hun ⟨hsv, hfv, hmv, hdv⟩ hret
    obtain ⟨ls, svs, sn, rfl, hsg, hsl, hsi⟩ := hsv.list
    obtain ⟨lf, fvs, fn, rfl, hfg, hfl, hfi⟩ := hfv.list
    have hsL : s.heap.IsList ls svs.toArray := ⟨_, hsg, rfl, sn, rfl⟩
    have hfL : s.heap.IsList lf fvs.toArray := ⟨_, hfg, rfl, fn, rfl⟩
    have hsz : ((svs.toArray.size : Nat) : Int) < 2 ^ 63 := by rw [List.size_toArray, hsl, List.length_map]; omega
    (k_dflt (refine' enter ?X ?T ?ho ?hcd ?hroom ?hbind ?hloc ?_ ?c2 ?c3 ?c4 ?c5; (case X => k_asm); (case T => k_asm); (case ho => k_is); (case hcd => k_is); (case hroom => (first | assumption | exact room2 (by assumption) rfl | exact room1 (by assumption) rfl | exact room0 (by assumption) | omega | ((try dsimp only [Around.deeper, Around.in1]); omega) | ((try simp only [depth_deeper, units_deeper, depth_in1, units_in1] at *); omega))); (case hbind => first | exact BindsTo.of_eq rfl | exact binds_K (by k_in) rfl (by k_is) rfl rfl rfl); (case hloc => exact locs rfl); (case c2 => exact rfl); (case c3 => exact rfl); (case c4 => exact rfl); (case c5 => decide); k_whole; intro _ _ _ _; (try dsimp only); (try k_fold)))
    (repeat' ((fail_if_success (with_reducible show wpAny _ _ (exec (Stmt.For _ _ _ _ _) _) _ _ _)); (first | (k_unfold; (try dsimp only)) | (refine' (?hh : NextQ _ _) _ ?_; (case hh => with_reducible assumption)) | (refine' (?hh : RestQ _ _) _ _ True.intro ?_; (case hh => with_reducible assumption)) | ((with_reducible show wpAny _ _ (call (Value.builtin "len") _ _) _ _ _); (k_dflt (refine' len_list ?l ?z ?_; (case l => exact Fr.lst (by k_asm) (by assumption)); (case z => assumption); k_whole))) | ((with_reducible show wpAny _ _ (call (Value.ref _) _ _) _ _ _); (k_dflt (refine' use_ct (c_rule2 _ _ _ _ (by assumption) _ _ (by assumption) (by assumption) _ _ _ _) ?F ?N ?X ?T ?d ?u ?P ?_; (case F => k_asm); (case N => k_asm); (case X => k_asm); (case T => k_asm); (case d => (first | assumption | exact room2 (by assumption) rfl | exact room1 (by assumption) rfl | exact room0 (by assumption) | omega | ((try dsimp only [Around.deeper, Around.in1]); omega) | ((try simp only [depth_deeper, units_deeper, depth_in1, units_in1] at *); omega))); (case u => (first | assumption | exact room2 (by assumption) rfl | exact room1 (by assumption) rfl | exact room0 (by assumption) | omega | ((try dsimp only [Around.deeper, Around.in1]); omega) | ((try simp only [depth_deeper, units_deeper, depth_in1, units_in1] at *); omega))); (case P => exact ⟨DatH.stays (by assumption) (Fr.keep (by k_asm)), DatH.stays (by assumption) (Fr.keep (by k_asm)), DatH.stays (by assumption) (Fr.keep (by k_asm)), DatH.stays (by assumption) (Fr.keep (by k_asm))⟩); k_whole); intro _ _ _ _ _ _ hp9Z; obtain ⟨u9Z, hp9Z⟩ := hp9Z; subst hp9Z; (try dsimp only); (try k_sweep))) | ((with_reducible show wpAny _ _ (call (Value.builtin "list.append") _ _) _ _ _); (k_dflt (refine' append_K ?k1 ?k2 ?k3 ?_ ?z; (case k1 => k_asm); (case k2 => k_asm); (case k3 => k_upd); (case z => (rw [sizeLine_eq]; omega)); k_whole); intro _ _ _; (try k_sweep))) | (((with_reducible show wpAny _ _ (setItem (Value.ref _) (Value.str _ _) _) _ _ _); k_dflt (refine' kept_put ?F ?N ?U ?d ?K ?l ?z ?_; (case F => k_asm); (case N => k_asm); (case U => k_updF); (case d => assumption); (case K => assumption); (case l => assumption); (case z => assumption); k_whole); intro _ _ _ N'Z _ _; (try dsimp only at N'Z); (try k_sweep))) | ((with_reducible show wpAny _ _ (compareOp CmpOp.NotIn (Value.str _ _) (Value.ref _)) _ _ _); ((with_reducible show wpAny _ _ (compareOp _ (Value.str _ _) (Value.ref _)) _ _ _); k_dflt (refine' kept_notin ?N ?m ?d ?l ?K ?_ ?_; (case N => k_asm); (case m => k_mem); (case d => assumption); (case l => assumption); (case K => assumption)); all_goals (first | (intro _; done) | (intro _ _ _ _ hr9Z; obtain ⟨t9Z, hr9Z⟩ := hr9Z; subst hr9Z) | (intro _)))) | ((with_reducible show wpAny _ _ (call (Value.builtin "str.join") _ _) _ _ _); (k_dflt (refine' join_space ?k1 ?k2 ?_; (case k1 => exact Fr.lst (by k_asm) (by assumption)); (case k2 => assumption)); intro _ _; (try k_sweep))) | (((with_reducible show wpAny _ _ (subscriptTail _ _ (Value.ref _) (Value.str _ _)) _ _ _); k_dflt (refine' kda_item (knd := PySem.strKind _ _) ?N ?m ?d (strKind_is _ _ _ _) ?l ?_; (case N => k_asm); (case m => k_mem); (case d => k_asm); (case l => assumption); k_whole))) | ((with_reducible show wpAny _ _ (subscriptTail (PySem.Expr.Name _ _) (PySem.Expr.Name _ _) (Value.ref _) (Value.int _ _)) _ _ _); ((with_reducible show wpAny _ _ (subscriptTail _ _ (Value.ref _) (Value.int _ _)) _ _ _); k_dflt (refine' item_listL ?l ?a ?b ?x ?_; (case l => exact Fr.lst (by k_asm) (by assumption)); (case a => omega); (case b => omega); (case x => assumption); k_whole))) | walk1 | (dsimp only; walk1) | (leave1; walk_say "STEP leave1"; try dsimp only))))
    refine for_go ?_ (by intro _; rfl)
    (repeat' ((fail_if_success (with_reducible show wpAny _ _ (pyIter _) _ _ _)); (first | (k_unfold; (try dsimp only)) | (refine' (?hh : NextQ _ _) _ ?_; (case hh => with_reducible assumption)) | (refine' (?hh : RestQ _ _) _ _ True.intro ?_; (case hh => with_reducible assumption)) | ((with_reducible show wpAny _ _ (call (Value.builtin "len") _ _) _ _ _); (k_dflt (refine' len_list ?l ?z ?_; (case l => exact Fr.lst (by k_asm) (by assumption)); (case z => assumption); k_whole))) | ((with_reducible show wpAny _ _ (call (Value.ref _) _ _) _ _ _); (k_dflt (refine' use_ct (c_rule2 _ _ _ _ (by assumption) _ _ (by assumption) (by assumption) _ _ _ _) ?F ?N ?X ?T ?d ?u ?P ?_; (case F => k_asm); (case N => k_asm); (case X => k_asm); (case T => k_asm); (case d => (first | assumption | exact room2 (by assumption) rfl | exact room1 (by assumption) rfl | exact room0 (by assumption) | omega | ((try dsimp only [Around.deeper, Around.in1]); omega) | ((try simp only [depth_deeper, units_deeper, depth_in1, units_in1] at *); omega))); (case u => (first | assumption | exact room2 (by assumption) rfl | exact room1 (by assumption) rfl | exact room0 (by assumption) | omega | ((try dsimp only [Around.deeper, Around.in1]); omega) | ((try simp only [depth_deeper, units_deeper, depth_in1, units_in1] at *); omega))); (case P => exact ⟨DatH.stays (by assumption) (Fr.keep (by k_asm)), DatH.stays (by assumption) (Fr.keep (by k_asm)), DatH.stays (by assumption) (Fr.keep (by k_asm)), DatH.stays (by assumption) (Fr.keep (by k_asm))⟩); k_whole); intro _ _ _ _ _ _ hp9Z; obtain ⟨u9Z, hp9Z⟩ := hp9Z; subst hp9Z; (try dsimp only); (try k_sweep))) | ((with_reducible show wpAny _ _ (call (Value.builtin "list.append") _ _) _ _ _); (k_dflt (refine' append_K ?k1 ?k2 ?k3 ?_ ?z; (case k1 => k_asm); (case k2 => k_asm); (case k3 => k_upd); (case z => (rw [sizeLine_eq]; omega)); k_whole); intro _ _ _; (try k_sweep))) | (((with_reducible show wpAny _ _ (setItem (Value.ref _) (Value.str _ _) _) _ _ _); k_dflt (refine' kept_put ?F ?N ?U ?d ?K ?l ?z ?_; (case F => k_asm); (case N => k_asm); (case U => k_updF); (case d => assumption); (case K => assumption); (case l => assumption); (case z => assumption); k_whole); intro _ _ _ N'Z _ _; (try dsimp only at N'Z); (try k_sweep))) | ((with_reducible show wpAny _ _ (compareOp CmpOp.NotIn (Value.str _ _) (Value.ref _)) _ _ _); ((with_reducible show wpAny _ _ (compareOp _ (Value.str _ _) (Value.ref _)) _ _ _); k_dflt (refine' kept_notin ?N ?m ?d ?l ?K ?_ ?_; (case N => k_asm); (case m => k_mem); (case d => assumption); (case l => assumption); (case K => assumption)); all_goals (first | (intro _; done) | (intro _ _ _ _ hr9Z; obtain ⟨t9Z, hr9Z⟩ := hr9Z; subst hr9Z) | (intro _)))) | ((with_reducible show wpAny _ _ (call (Value.builtin "str.join") _ _) _ _ _); (k_dflt (refine' join_space ?k1 ?k2 ?_; (case k1 => exact Fr.lst (by k_asm) (by assumption)); (case k2 => assumption)); intro _ _; (try k_sweep))) | (((with_reducible show wpAny _ _ (subscriptTail _ _ (Value.ref _) (Value.str _ _)) _ _ _); k_dflt (refine' kda_item (knd := PySem.strKind _ _) ?N ?m ?d (strKind_is _ _ _ _) ?l ?_; (case N => k_asm); (case m => k_mem); (case d => k_asm); (case l => assumption); k_whole))) | ((with_reducible show wpAny _ _ (subscriptTail (PySem.Expr.Name _ _) (PySem.Expr.Name _ _) (Value.ref _) (Value.int _ _)) _ _ _); ((with_reducible show wpAny _ _ (subscriptTail _ _ (Value.ref _) (Value.int _ _)) _ _ _); k_dflt (refine' item_listL ?l ?a ?b ?x ?_; (case l => exact Fr.lst (by k_asm) (by assumption)); (case a => omega); (case b => omega); (case x => assumption); k_whole))) | walk1 | (dsimp only; walk1) | (leave1; walk_say "STEP leave1"; try dsimp only))))
    rename_i dk _ ok lo9 hdk _ _ _ _ dl _ lt1 D9 _ _ _ _ _ F8 N8 _ _ _ _ _ _ _ _ hR9 F9 N9 hk9
    clear F8 N8 hk9
    have hne := neN (show dl ≠ dk from neN (by omega))
    have N7 := News.sub N9 (a := [(dl, _), (dk, _)]) (List.forall_mem_cons.mpr ⟨by k_mem, List.forall_mem_cons.mpr ⟨by k_mem, fun _ h => nomatch h⟩⟩)
    clear N9
    have hsn : svs.toArray.size = as.length := by rw [List.size_toArray, hsl, List.length_map]
    have hfl' : (dueF as ms ds how).length = as.length := by unfold dueF; rw [List.length_map]
    refine loop_range (n := as.length) (fun dr => dr = s.drawn) (fun i m₁ n₁ => m₁ (Str.ofString "shown") = some (.ref ls) ∧ m₁ (Str.ofString "files") = some (.ref lf) ∧ m₁ (Str.ofString "mods") = some mv ∧ m₁ (Str.ofString "dirs") = some dv ∧ m₁ (Str.ofString "how") = some (.int how u) ∧ m₁ (Str.ofString "kept") = some (.ref dk) ∧ m₁ (Str.ofString "due") = some (.ref dl) ∧
      ∃ arr n o kvs, n₁ = [(dl, W.listOf arr n), (dk, o)] ∧ o.IsDictOf (PySem.strKind prg w) kvs ∧ Kept RStr kvs ((dueF as ms ds how).take i) ∧ StrsAre arr.toList ((ans (dueF as ms ds how)).take i)) rfl F9 N7 hR9 ?_ ?_ rfl ?_ ?_ ?_
    · rw [hsn]; exact small_one (by decide) (by decide) (by omega) (by omega)
    · rw [hsn]; exact rsz _
    · exact ⟨rfl, rfl, rfl, rfl, rfl, rfl, rfl, _, _, _, [], rfl, hdk, ⟨Nat.zero_le _, fun k => rfl⟩, .nil⟩
    · rintro i tt m₁ news₁ h tk _ oI I hi rfl ⟨e1, e2, e3, e4, e5, e6, e7, arr, n, o, kvs, rfl, hd9, K9, hs9⟩ F1 N1 off1
      obtain ⟨q, hq⟩ : ∃ q, as[i]? = some q := ⟨_, List.getElem?_eq_getElem hi⟩
      obtain ⟨sx, hsx⟩ : ∃ x, svs[i]? = some x := ⟨_, List.getElem?_eq_getElem (by rw [hsl, List.length_map]; exact hi)⟩
      obtain ⟨fx, hfx⟩ : ∃ x, fvs[i]? = some x := ⟨_, List.getElem?_eq_getElem (by rw [hfl, List.length_map]; exact hi)⟩
      obtain ⟨d1, hd1, hD1⟩ := hsi i sx hsx
      obtain ⟨d2, hd2, hD2⟩ := hfi i fx hfx
      rw [List.getElem?_map, hq] at hd1 hd2
      cases hd1
      cases hd2
      obtain ⟨lx, xvs, xn, rfl, hxg, hxs⟩ := hD1.strs
      have hxL : s.heap.IsList lx xvs.toArray := ⟨_, hxg, rfl, xn, rfl⟩
      have hsx' : svs[((0 : Int) + (i : Int)).toNat]? = some (.ref lx) := by simpa using hsx
      have hfx' : fvs[((0 : Int) + (i : Int)).toNat]? = some fx := by simpa using hfx
      have hdi : (dueF as ms ds how)[i]? = some (spaceS q.1, ruleS q.1 q.2 ms ds how) := by unfold dueF; rw [List.getElem?_map, hq]; rfl
      have hpl : ((dueF as ms ds how).take i).length ≤ 1000 := by rw [List.length_take, hfl']; omega
      have haz : arr.size ≤ 1000 := by
        have := hs9.length
        rw [Array.length_toList, List.length_take, ans_length, hfl'] at this
        omega
      rw [map7 e1 e2 e3 e4 e5 e6 e7] at F1
      have oI1 := neN (off1 _ (.head _))
      have oI2 := neN (off1 _ (.tail _ (.head _)))
      dsimp only at oI1 oI2
      clear N7 F9
      repeat' ((first | (k_unfold; (try dsimp only)) | (refine' (?hh : NextQ _ _) _ ?_; (case hh => with_reducible assumption)) | (refine' (?hh : RestQ _ _) _ _ True.intro ?_; (case hh => with_reducible assumption)) | ((with_reducible show wpAny _ _ (call (Value.builtin "len") _ _) _ _ _); (k_dflt (refine' len_list ?l ?z ?_; (case l => exact Fr.lst (by k_asm) (by assumption)); (case z => assumption); k_whole))) | ((with_reducible show wpAny _ _ (call (Value.ref _) _ _) _ _ _); (k_dflt (refine' use_ct (c_rule2 _ _ _ _ (by assumption) _ _ (by assumption) (by assumption) _ _ _ _) ?F ?N ?X ?T ?d ?u ?P ?_; (case F => k_asm); (case N => k_asm); (case X => k_asm); (case T => k_asm); (case d => (first | assumption | exact room2 (by assumption) rfl | exact room1 (by assumption) rfl | exact room0 (by assumption) | omega | ((try dsimp only [Around.deeper, Around.in1]); omega) | ((try simp only [depth_deeper, units_deeper, depth_in1, units_in1] at *); omega))); (case u => (first | assumption | exact room2 (by assumption) rfl | exact room1 (by assumption) rfl | exact room0 (by assumption) | omega | ((try dsimp only [Around.deeper, Around.in1]); omega) | ((try simp only [depth_deeper, units_deeper, depth_in1, units_in1] at *); omega))); (case P => exact ⟨DatH.stays (by assumption) (Fr.keep (by k_asm)), DatH.stays (by assumption) (Fr.keep (by k_asm)), DatH.stays (by assumption) (Fr.keep (by k_asm)), DatH.stays (by assumption) (Fr.keep (by k_asm))⟩); k_whole); intro _ _ _ _ _ _ hp9Z; obtain ⟨u9Z, hp9Z⟩ := hp9Z; subst hp9Z; (try dsimp only); (try k_sweep))) | ((with_reducible show wpAny _ _ (call (Value.builtin "list.append") _ _) _ _ _); (k_dflt (refine' append_K ?k1 ?k2 ?k3 ?_ ?z; (case k1 => k_asm); (case k2 => k_asm); (case k3 => k_upd); (case z => (rw [sizeLine_eq]; omega)); k_whole); intro _ _ _; (try k_sweep))) | (((with_reducible show wpAny _ _ (setItem (Value.ref _) (Value.str _ _) _) _ _ _); k_dflt (refine' kept_put ?F ?N ?U ?d ?K ?l ?z ?_; (case F => k_asm); (case N => k_asm); (case U => k_updF); (case d => assumption); (case K => assumption); (case l => assumption); (case z => assumption); k_whole); intro _ _ _ N'Z _ _; (try dsimp only at N'Z); (try k_sweep))) | ((with_reducible show wpAny _ _ (compareOp CmpOp.NotIn (Value.str _ _) (Value.ref _)) _ _ _); ((with_reducible show wpAny _ _ (compareOp _ (Value.str _ _) (Value.ref _)) _ _ _); k_dflt (refine' kept_notin ?N ?m ?d ?l ?K ?_ ?_; (case N => k_asm); (case m => k_mem); (case d => assumption); (case l => assumption); (case K => assumption)); all_goals (first | (intro _; done) | (intro _ _ _ _ hr9Z; obtain ⟨t9Z, hr9Z⟩ := hr9Z; subst hr9Z) | (intro _)))) | ((with_reducible show wpAny _ _ (call (Value.builtin "str.join") _ _) _ _ _); (k_dflt (refine' join_space ?k1 ?k2 ?_; (case k1 => exact Fr.lst (by k_asm) (by assumption)); (case k2 => assumption)); intro _ _; (try k_sweep))) | (((with_reducible show wpAny _ _ (subscriptTail _ _ (Value.ref _) (Value.str _ _)) _ _ _); k_dflt (refine' kda_item (knd := PySem.strKind _ _) ?N ?m ?d (strKind_is _ _ _ _) ?l ?_; (case N => k_asm); (case m => k_mem); (case d => k_asm); (case l => assumption); k_whole))) | ((with_reducible show wpAny _ _ (subscriptTail (PySem.Expr.Name _ _) (PySem.Expr.Name _ _) (Value.ref _) (Value.int _ _)) _ _ _); ((with_reducible show wpAny _ _ (subscriptTail _ _ (Value.ref _) (Value.int _ _)) _ _ _); k_dflt (refine' item_listL ?l ?a ?b ?x ?_; (case l => exact Fr.lst (by k_asm) (by assumption)); (case a => omega); (case b => omega); (case x => assumption); k_whole))) | walk1 | (dsimp only; walk1) | (leave1; walk_say "STEP leave1"; try dsimp only)))
      all_goals try dsimp only
      · exact ⟨_, _, _, _, [(dl, _), (dk, _)], rfl, rfl, by k_asm, by k_asm, List.forall_mem_cons.mpr ⟨oI1, List.forall_mem_cons.mpr ⟨oI2, (fun _ h => nomatch h)⟩⟩, rfl, rfl, rfl, rfl, rfl, rfl, rfl, _, _, _, _, rfl, by assumption, by rw [append_pre hdi]; exact K9.new (by assumption) ⟨_, rfl⟩, due_strs hs9 hdi (lookup_new (by assumption))⟩
      · exact ⟨_, _, _, _, [(dl, _), (dk, _)], rfl, rfl, by k_asm, by k_asm, List.forall_mem_cons.mpr ⟨oI1, List.forall_mem_cons.mpr ⟨oI2, (fun _ h => nomatch h)⟩⟩, rfl, rfl, rfl, rfl, rfl, rfl, rfl, _, _, _, _, rfl, by assumption, by rw [append_pre hdi]; exact K9.old (by assumption), due_strs hs9 hdi (lookup_old (by assumption))⟩
    · rintro m₁ news₁ h tk _ rfl ⟨e1, e2, e3, e4, e5, e6, e7, arr, n, o, kvs, rfl, hd9, K9, hs9⟩ F1 N1
      rw [map7 e1 e2 e3 e4 e5 e6 e7] at F1
      rw [List.take_of_length_le (by rw [ans_length, hfl']; exact Nat.le_refl _)] at hs9
      clear N7 F9
      repeat' ((first | (k_unfold; (try dsimp only)) | (refine' (?hh : NextQ _ _) _ ?_; (case hh => with_reducible assumption)) | (refine' (?hh : RestQ _ _) _ _ True.intro ?_; (case hh => with_reducible assumption)) | ((with_reducible show wpAny _ _ (call (Value.builtin "len") _ _) _ _ _); (k_dflt (refine' len_list ?l ?z ?_; (case l => exact Fr.lst (by k_asm) (by assumption)); (case z => assumption); k_whole))) | ((with_reducible show wpAny _ _ (call (Value.ref _) _ _) _ _ _); (k_dflt (refine' use_ct (c_rule2 _ _ _ _ (by assumption) _ _ (by assumption) (by assumption) _ _ _ _) ?F ?N ?X ?T ?d ?u ?P ?_; (case F => k_asm); (case N => k_asm); (case X => k_asm); (case T => k_asm); (case d => (first | assumption | exact room2 (by assumption) rfl | exact room1 (by assumption) rfl | exact room0 (by assumption) | omega | ((try dsimp only [Around.deeper, Around.in1]); omega) | ((try simp only [depth_deeper, units_deeper, depth_in1, units_in1] at *); omega))); (case u => (first | assumption | exact room2 (by assumption) rfl | exact room1 (by assumption) rfl | exact room0 (by assumption) | omega | ((try dsimp only [Around.deeper, Around.in1]); omega) | ((try simp only [depth_deeper, units_deeper, depth_in1, units_in1] at *); omega))); (case P => exact ⟨DatH.stays (by assumption) (Fr.keep (by k_asm)), DatH.stays (by assumption) (Fr.keep (by k_asm)), DatH.stays (by assumption) (Fr.keep (by k_asm)), DatH.stays (by assumption) (Fr.keep (by k_asm))⟩); k_whole); intro _ _ _ _ _ _ hp9Z; obtain ⟨u9Z, hp9Z⟩ := hp9Z; subst hp9Z; (try dsimp only); (try k_sweep))) | ((with_reducible show wpAny _ _ (call (Value.builtin "list.append") _ _) _ _ _); (k_dflt (refine' append_K ?k1 ?k2 ?k3 ?_ ?z; (case k1 => k_asm); (case k2 => k_asm); (case k3 => k_upd); (case z => (rw [sizeLine_eq]; omega)); k_whole); intro _ _ _; (try k_sweep))) | (((with_reducible show wpAny _ _ (setItem (Value.ref _) (Value.str _ _) _) _ _ _); k_dflt (refine' kept_put ?F ?N ?U ?d ?K ?l ?z ?_; (case F => k_asm); (case N => k_asm); (case U => k_updF); (case d => assumption); (case K => assumption); (case l => assumption); (case z => assumption); k_whole); intro _ _ _ N'Z _ _; (try dsimp only at N'Z); (try k_sweep))) | ((with_reducible show wpAny _ _ (compareOp CmpOp.NotIn (Value.str _ _) (Value.ref _)) _ _ _); ((with_reducible show wpAny _ _ (compareOp _ (Value.str _ _) (Value.ref _)) _ _ _); k_dflt (refine' kept_notin ?N ?m ?d ?l ?K ?_ ?_; (case N => k_asm); (case m => k_mem); (case d => assumption); (case l => assumption); (case K => assumption)); all_goals (first | (intro _; done) | (intro _ _ _ _ hr9Z; obtain ⟨t9Z, hr9Z⟩ := hr9Z; subst hr9Z) | (intro _)))) | ((with_reducible show wpAny _ _ (call (Value.builtin "str.join") _ _) _ _ _); (k_dflt (refine' join_space ?k1 ?k2 ?_; (case k1 => exact Fr.lst (by k_asm) (by assumption)); (case k2 => assumption)); intro _ _; (try k_sweep))) | (((with_reducible show wpAny _ _ (subscriptTail _ _ (Value.ref _) (Value.str _ _)) _ _ _); k_dflt (refine' kda_item (knd := PySem.strKind _ _) ?N ?m ?d (strKind_is _ _ _ _) ?l ?_; (case N => k_asm); (case m => k_mem); (case d => k_asm); (case l => assumption); k_whole))) | ((with_reducible show wpAny _ _ (subscriptTail (PySem.Expr.Name _ _) (PySem.Expr.Name _ _) (Value.ref _) (Value.int _ _)) _ _ _); ((with_reducible show wpAny _ _ (subscriptTail _ _ (Value.ref _) (Value.int _ _)) _ _ _); k_dflt (refine' item_listL ?l ?a ?b ?x ?_; (case l => exact Fr.lst (by k_asm) (by assumption)); (case a => omega); (case b => omega); (case x => assumption); k_whole))) | walk1 | (dsimp only; walk1) | (leave1; walk_say "STEP leave1"; try dsimp only)))
      (((try dsimp only); (try k_unfold); (try dsimp only)))
      exact hret _ _ _ (Fr.keep (by assumption)) (newStrs_of (by assumption) (.head _) hs9))
end
end
section
def toldS (q : Int × Int) : Str := Txt.slice (nameS q.1) none (some q.2)
def signT (how : Int) (q : Int × Int) : Str := Txt.slice (signS how q.1) none (some q.2)
theorem join_name {prog : Program} {w : World} {A : Around} {E : Value → Shared → Prop} {s : Shared} {t : Tok} {Q : Value → Shared → Prop} {D : Addr} {vs : List Value} {m : Int} (hl : s.heap.IsList D vs.toArray) (hi : StrsAre vs (lawParts m))
    (h : ∀ t' k, Q (.str (nameS m) t') { s with toks := k }) : wpAny (model prog w) A (call (.builtin "str.join") [.str (Str.ofString ".") t, .ref D]) Q E s :=
  join_list hl (by simpa using hi) (join4_fit m) h
theorem told_snoc {ys : List Value} {ms : List (Int × Int)} {i : Nat} {q : Int × Int} {t : Tok} (h : StrsAre ys ((ms.take i).map toldS)) (hq : ms[i]? = some q) : StrsAre (ys ++ [.str (Txt.slice (nameS q.1) none (some q.2)) t]) ((ms.take (i + 1)).map toldS) := by
  rw [List.take_add_one, hq, List.map_append]
  exact kct_snoc h
theorem len4s (how m : Int) : (signS how m).length ≤ sizeLine := by
  rw [sizeLine_eq]
  show 4 ≤ _
  decide
theorem len13 (m : Int) : (nameS m).length ≤ sizeLine := by
  have h := lawParts_len m
  unfold nameS lawParts at *
  rw [join_dot]
  simp only [List.mem_cons, List.not_mem_nil, or_false, forall_eq_or_imp, forall_eq] at h
  show (_ : Array Nat).size ≤ _
  simp only [Array.size_append]
  rw [sizeLine_eq]
  have e : ∀ x : Str, x.length = x.cps.size := fun _ => rfl
  simp only [e] at h
  simp only [List.size_toArray, List.length_cons, List.length_nil]
  omega
theorem set_N {prog : Program} {w : World} {A : Around} {E : Value → Shared → Prop} {s : Shared} {g : Heap} {L l : Addr} {m : Str → Option Value} {news : List (Addr × Obj)} {vs : List Value} {ys : List Str} {Q : Value → Shared → Prop} (F : Fr g L s.heap m) (N : News g L s.heap news) (hh : A.handled = none) (hm : (l, LCg.lst vs) ∈ news) (hy : StrsAre vs ys) (hb : ys.length ≤ 7)
    (h : ∀ S h' tk o, Fr g L h' m → News g L h' ((S, o) :: news) → (∀ p ∈ news, p.1 < S) → RS.SetS prog w o ys → Q (.ref S) { s with heap := h', toks := tk }) : wpAny (model prog w) A (call (.type "set") [.ref l]) Q E s := by
  refine RS.call_set (items := vs.toArray) hh ⟨_, (N _ hm).1, rfl, _, rfl⟩ (by simpa using hy) (by show _ < 4096; omega) fun h' tk o ho hS hk => h _ h' tk o (F.keeps hk) ?_ (fun p hp => Heap.lt_size (N p hp).1) hS
  exact (News.add F N hk (Heap.get?_none_of_le (Nat.le_refl _)) ho).1
theorem truthy_N {prog : Program} {w : World} {A : Around} {E : Value → Shared → Prop} {s : Shared} {g : Heap} {L l : Addr} {news : List (Addr × Obj)} {vs : List Value} {Q : Bool → Shared → Prop} (N : News g L s.heap news) (hm : (l, LCg.lst vs) ∈ news) (h0 : vs.length ≠ 0) (hb : vs.length ≤ 1000) (h : ∀ k, Q true { s with toks := k }) : wpAny (model prog w) A (truthy (.ref l)) Q E s := by
  refine wpAny_truthy_list (items := vs.toArray) ⟨_, (N _ hm).1, rfl, _, rfl⟩ (by rw [List.size_toArray]; omega) ?_
  have : (!vs.toArray.isEmpty) = true := by
    cases vs with
    | nil => exact absurd rfl h0
    | cons a b => rfl
  rw [this]; exact h _
abbrev rdrD (w : World) (S Dl D : Addr) (t1 t2 t3 : Tok) (n : Nat) : Obj := dictOf [⟨PyData.keyHash w.params (Str.ofString "_mods"), .str (Str.ofString "_mods") t1, .ref S⟩, ⟨PyData.keyHash w.params (Str.ofString "_dirs"), .str (Str.ofString "_dirs") t2, .ref Dl⟩, ⟨PyData.keyHash w.params (Str.ofString "_ignore"), .str (Str.ofString "_ignore") t3, .ref D⟩] n
/-- the objects of a reader -/
abbrev rdrX (w : World) (x d S Dl D : Addr) (oS oDl oD : Obj) (t1 t2 t3 : Tok) (n9 : Nat) : List (Addr × Obj) := [(D, oD), (Dl, oDl), (S, oS), (x, instObj 170 d), (d, rdrD w S Dl D t1 t2 t3 n9)]
def MadeIs (w : World) (ms ds : List (Int × Int)) (how : Int) (h h' : Heap) (r : Value) : Prop := ∃ x d S Dl D oS arr n oD t1 t2 t3 n9 tS, r = .ref x ∧ (∀ p ∈ rdrX w x d S Dl D oS (W.listOf arr n) oD t1 t2 t3 n9, h.get? p.1 = none ∧ h'.get? p.1 = some p.2) ∧
  oD.IsDictOf (PySem.strKind prg w) [(Str.ofString "<string>", .int 1 tS)] ∧ (D == sysModules) = false ∧ RS.SetS prg w oS (ms.map toldS) ∧ StrsAre arr.toList (ds.map (signT how)) ∧ @Ne Nat D Dl ∧ @Ne Nat D S ∧ @Ne Nat D x ∧ @Ne Nat D d
theorem sign_snoc {how : Int} {arr : Array Value} {ds : List (Int × Int)} {i : Nat} {q : Int × Int} {t : Tok} (h : StrsAre arr.toList ((ds.take i).map (signT how))) (hq : ds[i]? = some q) : StrsAre (arr.push (.str (Txt.slice (signS how q.1) none (some q.2)) t)).toList ((ds.take (i + 1)).map (signT how)) := by
  rw [List.take_add_one, hq, List.map_append]
  exact strs_push h
section
set_option maxRecDepth 100000 in
set_option maxHeartbeats 8000000 in
theorem c_made {w : World} (how : Int) (u : Tok) (hh : 0 ≤ how ∧ how < 4) (ms ds : List (Int × Int)) (hms : MsOk ms) (hds : DsOk ds) (hm0 : ms ≠ []) (hml7 : ms.length ≤ 7) (hdl7 : ds.length ≤ 7) (mv dv : Value) :
    Ct w 14 238 [mv, dv, .int how u] (fun h => DatH h mv (.list (ms.map datM)) ∧ DatH h dv (.list (ds.map datP))) (MadeIs w ms ds how) := by
  w_strict (
    rintro p loose mean mg mb dp fr gd un s Q E X T hdp hun ⟨hmv, hdv⟩ hret
    obtain ⟨lm, mvs, mn, rfl, hmg, hml, hmi⟩ := hmv.list
    obtain ⟨ld, dvs, dn, rfl, hdg, hdl, hdi⟩ := hdv.list
    (k_dflt (refine' enter ?X ?T ?ho ?hcd ?hroom ?hbind ?hloc ?_ ?c2 ?c3 ?c4 ?c5; (case X => k_asm); (case T => k_asm); (case ho => k_is); (case hcd => k_is); (case hroom => (first | assumption | exact room2 (by assumption) rfl | exact room1 (by assumption) rfl | exact room0 (by assumption) | omega | ((try dsimp only [Around.deeper, Around.in1]); omega) | ((try simp only [depth_deeper, units_deeper, depth_in1, units_in1] at *); omega))); (case hbind => first | exact BindsTo.of_eq rfl | exact binds_K (by k_in) rfl (by k_is) rfl rfl rfl); (case hloc => exact locs rfl); (case c2 => exact rfl); (case c3 => exact rfl); (case c4 => exact rfl); (case c5 => decide); k_whole; intro _ _ _ _; (try dsimp only); (try k_fold)))
    (repeat' ((fail_if_success (with_reducible show wpAny _ _ (exec (Stmt.Assign [_] (PySem.Expr.ListComp _ _ _ _) _) _) _ _ _)); (first | (k_unfold; (try dsimp only)) | (refine' (?hh : NextQ _ _) _ ?_; (case hh => with_reducible assumption)) | (refine' (?hh : RestQ _ _) _ _ True.intro ?_; (case hh => with_reducible assumption)) | ((with_reducible show wpAny _ _ (subscriptTail (PySem.Expr.Call _ _ _ _) _ _ _) _ _ _); (k_dflt (((with_reducible show wpAny _ _ (subscriptTail _ (Expr.Slice none (some _) none _) (Value.str (signS _ _) _) _) _ _ _); refine' slice_strN_ns (s := ⟨_, _, _, _, _⟩) (hsz := len4s _ _) ?F ?N ?_; (case F => k_asm); (case N => k_asm))); intro _ _ _ _ _; (try k_sweep))) | ((with_reducible show wpAny _ _ (call (Value.ref _) _ _) _ _ _); (k_dflt (refine' use_ct (c_signs _ _ _ (by assumption) _) ?F ?N ?X ?T ?d ?u ?P ?_; (case F => k_asm); (case N => k_asm); (case X => k_asm); (case T => k_asm); (case d => (first | assumption | exact room2 (by assumption) rfl | exact room1 (by assumption) rfl | exact room0 (by assumption) | omega | ((try dsimp only [Around.deeper, Around.in1]); omega) | ((try simp only [depth_deeper, units_deeper, depth_in1, units_in1] at *); omega))); (case u => (first | assumption | exact room2 (by assumption) rfl | exact room1 (by assumption) rfl | exact room0 (by assumption) | omega | ((try dsimp only [Around.deeper, Around.in1]); omega) | ((try simp only [depth_deeper, units_deeper, depth_in1, units_in1] at *); omega))); (case P => exact trivial); k_whole); intro _ _ _ _ _ _ hp9Z; obtain ⟨u9Z, hp9Z⟩ := hp9Z; subst hp9Z; (try dsimp only); (try k_sweep))) | ((with_reducible show wpAny _ _ (call (Value.builtin "list.append") _ _) _ _ _); (k_dflt (refine' append_K ?k1 ?k2 ?k3 ?_ ?z; (case k1 => k_asm); (case k2 => k_asm); (case k3 => k_upd); (case z => (rw [sizeLine_eq]; omega)); k_whole); intro _ _ _; (try k_sweep))) | ((with_reducible show wpAny _ _ (call (Value.builtin "list.clear") _ _) _ _ _); (k_dflt (refine' kl_clear ?F ?N ?U ?a ?b ?_; (case F => k_asm); (case N => k_asm); (case U => k_upd); (case a => exact fun h => absurd h (by assumption)); (case b => (rw [sizeLine_eq]; exact Nat.le_trans (by assumption : _ ≤ 1000) (by decide)))); intro _ _ _; (try k_sweep))) | (((with_reducible show wpAny _ _ (truthy (Value.ref _)) _ _ _); k_dflt (refine' truthy_N ?N ?m ?a ?b ?_; (case N => k_asm); (case m => k_mem); (case a => assumption); (case b => assumption)); intro _)) | (((with_reducible show wpAny _ _ (call (Value.type "set") [Value.ref _]) _ _ _); k_dflt (refine' set_N ?F ?N ?h ?m ?y ?b ?_; (case F => k_asm); (case N => k_asm); (case h => first | rfl | simp | skip); (case m => k_mem); (case y => assumption); (case b => assumption)); intro _ _ _ _ _ _ l1Z _; (try k_lt l1Z); (try k_sweep))) | ((with_reducible show wpAny _ _ (subscriptTail (PySem.Expr.Call _ _ _ _) _ _ _) _ _ _); (k_dflt (((with_reducible show wpAny _ _ (subscriptTail _ (Expr.Slice none (some _) none _) (Value.str _ _) _) _ _ _); refine' slice_strN_ns (s := ⟨_, _, _, _, _⟩) (hsz := len13 _) ?F ?N ?_; (case F => k_asm); (case N => k_asm))); intro _ _ _ _ _; (try k_sweep))) | ((with_reducible show wpAny _ _ (call (Value.builtin "str.join") _ _) _ _ _); (k_dflt (refine' join_name ?k1 ?k2 ?_; (case k1 => exact Fr.lst (by k_asm) (by assumption)); (case k2 => assumption)); intro _ _; (try k_sweep))) | walk1 | (dsimp only; walk1) | (leave1; walk_say "STEP leave1"; try dsimp only))))
    refine comp_assign (by with_unfolding_all rfl) (by with_unfolding_all rfl) (by rfl) (by decide) ?_
    repeat ((((fail_if_success (with_reducible show wpAny _ _ (exec (Stmt.For _ _ _ _ _) _) _ _ _)); (fail_if_success (with_reducible show wpAny _ _ (pyIter _) _ _ _)); (first | (k_unfold; (try dsimp only)) | (refine' (?hh : NextQ _ _) _ ?_; (case hh => with_reducible assumption)) | (refine' (?hh : RestQ _ _) _ _ True.intro ?_; (case hh => with_reducible assumption)) | ((with_reducible show wpAny _ _ (subscriptTail (PySem.Expr.Call _ _ _ _) _ _ _) _ _ _); (k_dflt (((with_reducible show wpAny _ _ (subscriptTail _ (Expr.Slice none (some _) none _) (Value.str (signS _ _) _) _) _ _ _); refine' slice_strN_ns (s := ⟨_, _, _, _, _⟩) (hsz := len4s _ _) ?F ?N ?_; (case F => k_asm); (case N => k_asm))); intro _ _ _ _ _; (try k_sweep))) | ((with_reducible show wpAny _ _ (call (Value.ref _) _ _) _ _ _); (k_dflt (refine' use_ct (c_signs _ _ _ (by assumption) _) ?F ?N ?X ?T ?d ?u ?P ?_; (case F => k_asm); (case N => k_asm); (case X => k_asm); (case T => k_asm); (case d => (first | assumption | exact room2 (by assumption) rfl | exact room1 (by assumption) rfl | exact room0 (by assumption) | omega | ((try dsimp only [Around.deeper, Around.in1]); omega) | ((try simp only [depth_deeper, units_deeper, depth_in1, units_in1] at *); omega))); (case u => (first | assumption | exact room2 (by assumption) rfl | exact room1 (by assumption) rfl | exact room0 (by assumption) | omega | ((try dsimp only [Around.deeper, Around.in1]); omega) | ((try simp only [depth_deeper, units_deeper, depth_in1, units_in1] at *); omega))); (case P => exact trivial); k_whole); intro _ _ _ _ _ _ hp9Z; obtain ⟨u9Z, hp9Z⟩ := hp9Z; subst hp9Z; (try dsimp only); (try k_sweep))) | ((with_reducible show wpAny _ _ (call (Value.builtin "list.append") _ _) _ _ _); (k_dflt (refine' append_K ?k1 ?k2 ?k3 ?_ ?z; (case k1 => k_asm); (case k2 => k_asm); (case k3 => k_upd); (case z => (rw [sizeLine_eq]; omega)); k_whole); intro _ _ _; (try k_sweep))) | ((with_reducible show wpAny _ _ (call (Value.builtin "list.clear") _ _) _ _ _); (k_dflt (refine' kl_clear ?F ?N ?U ?a ?b ?_; (case F => k_asm); (case N => k_asm); (case U => k_upd); (case a => exact fun h => absurd h (by assumption)); (case b => (rw [sizeLine_eq]; exact Nat.le_trans (by assumption : _ ≤ 1000) (by decide)))); intro _ _ _; (try k_sweep))) | (((with_reducible show wpAny _ _ (truthy (Value.ref _)) _ _ _); k_dflt (refine' truthy_N ?N ?m ?a ?b ?_; (case N => k_asm); (case m => k_mem); (case a => assumption); (case b => assumption)); intro _)) | (((with_reducible show wpAny _ _ (call (Value.type "set") [Value.ref _]) _ _ _); k_dflt (refine' set_N ?F ?N ?h ?m ?y ?b ?_; (case F => k_asm); (case N => k_asm); (case h => first | rfl | simp | skip); (case m => k_mem); (case y => assumption); (case b => assumption)); intro _ _ _ _ _ _ l1Z _; (try k_lt l1Z); (try k_sweep))) | ((with_reducible show wpAny _ _ (subscriptTail (PySem.Expr.Call _ _ _ _) _ _ _) _ _ _); (k_dflt (((with_reducible show wpAny _ _ (subscriptTail _ (Expr.Slice none (some _) none _) (Value.str _ _) _) _ _ _); refine' slice_strN_ns (s := ⟨_, _, _, _, _⟩) (hsz := len13 _) ?F ?N ?_; (case F => k_asm); (case N => k_asm))); intro _ _ _ _ _; (try k_sweep))) | ((with_reducible show wpAny _ _ (call (Value.builtin "str.join") _ _) _ _ _); (k_dflt (refine' join_name ?k1 ?k2 ?_; (case k1 => exact Fr.lst (by k_asm) (by assumption)); (case k2 => assumption)); intro _ _; (try k_sweep))) | walk1 | (dsimp only; walk1) | (leave1; walk_say "STEP leave1"; try dsimp only)))))
    refine compAt_pairs (fun v a b => ∃ T, v = .ref T ∧ IsTup s.heap T #[a, b]) (fun dr => dr = s.drawn) (fun i ys nw => nw = [] ∧ StrsAre ys ((ms.take i).map toldS)) (by decide) rfl rfl rfl (by decide) rfl (by k_asm) (by k_asm) (.inl ⟨_, hmg, rfl, mn, rfl⟩) ?_ rfl ⟨rfl, .nil⟩ (fun _ => True) trivial ?_ ?_ ?_
    · rw [List.size_toArray, hml, List.length_map, sizeLine_eq]; omega
    · intro i v h nw hv hk _ _
      obtain ⟨d, hd, hD⟩ := hmi i v (by simpa using hv)
      rw [List.getElem?_map] at hd
      obtain ⟨q, hq, rfl⟩ := Option.map_eq_some_iff.mp hd
      obtain ⟨T', x, y, e, hT', _⟩ := hD.tup2
      exact ⟨T', x, y, e, IsTup.keeps hT' hk, T', e, hT'⟩
    · rintro i v I' oI C oC D m₂ ys news₁ h tk _ hi rfl hv ⟨a, b, ⟨T', rfl, hT'⟩, hma, hmb⟩ hns ⟨rfl, hys⟩ hS2 F1 N1 off1 ne1
      obtain ⟨d, hd, hD⟩ := hmi i _ (by simpa using hv)
      rw [List.getElem?_map] at hd
      obtain ⟨q, hq, rfl⟩ := Option.map_eq_some_iff.mp hd
      obtain ⟨T'', x', y', e, hT'', hx, hy⟩ := hD.tup2
      cases e
      obtain ⟨rfl, rfl⟩ := tup_inj hT' hT''
      obtain ⟨lo, ovs, on, rfl, hog, hos⟩ := hx.strs
      obtain ⟨ty, rfl⟩ := hy.int
      have hoL : s.heap.IsList lo ovs.toArray := ⟨_, hog, rfl, on, rfl⟩
      obtain ⟨hq1, hq2⟩ := ms_at hms hq
      repeat' ((first | (k_unfold; (try dsimp only)) | (refine' (?hh : NextQ _ _) _ ?_; (case hh => with_reducible assumption)) | (refine' (?hh : RestQ _ _) _ _ True.intro ?_; (case hh => with_reducible assumption)) | ((with_reducible show wpAny _ _ (subscriptTail (PySem.Expr.Call _ _ _ _) _ _ _) _ _ _); (k_dflt (((with_reducible show wpAny _ _ (subscriptTail _ (Expr.Slice none (some _) none _) (Value.str (signS _ _) _) _) _ _ _); refine' slice_strN_ns (s := ⟨_, _, _, _, _⟩) (hsz := len4s _ _) ?F ?N ?_; (case F => k_asm); (case N => k_asm))); intro _ _ _ _ _; (try k_sweep))) | ((with_reducible show wpAny _ _ (call (Value.ref _) _ _) _ _ _); (k_dflt (refine' use_ct (c_signs _ _ _ (by assumption) _) ?F ?N ?X ?T ?d ?u ?P ?_; (case F => k_asm); (case N => k_asm); (case X => k_asm); (case T => k_asm); (case d => (first | assumption | exact room2 (by assumption) rfl | exact room1 (by assumption) rfl | exact room0 (by assumption) | omega | ((try dsimp only [Around.deeper, Around.in1]); omega) | ((try simp only [depth_deeper, units_deeper, depth_in1, units_in1] at *); omega))); (case u => (first | assumption | exact room2 (by assumption) rfl | exact room1 (by assumption) rfl | exact room0 (by assumption) | omega | ((try dsimp only [Around.deeper, Around.in1]); omega) | ((try simp only [depth_deeper, units_deeper, depth_in1, units_in1] at *); omega))); (case P => exact trivial); k_whole); intro _ _ _ _ _ _ hp9Z; obtain ⟨u9Z, hp9Z⟩ := hp9Z; subst hp9Z; (try dsimp only); (try k_sweep))) | ((with_reducible show wpAny _ _ (call (Value.builtin "list.append") _ _) _ _ _); (k_dflt (refine' append_K ?k1 ?k2 ?k3 ?_ ?z; (case k1 => k_asm); (case k2 => k_asm); (case k3 => k_upd); (case z => (rw [sizeLine_eq]; omega)); k_whole); intro _ _ _; (try k_sweep))) | ((with_reducible show wpAny _ _ (call (Value.builtin "list.clear") _ _) _ _ _); (k_dflt (refine' kl_clear ?F ?N ?U ?a ?b ?_; (case F => k_asm); (case N => k_asm); (case U => k_upd); (case a => exact fun h => absurd h (by assumption)); (case b => (rw [sizeLine_eq]; exact Nat.le_trans (by assumption : _ ≤ 1000) (by decide)))); intro _ _ _; (try k_sweep))) | (((with_reducible show wpAny _ _ (truthy (Value.ref _)) _ _ _); k_dflt (refine' truthy_N ?N ?m ?a ?b ?_; (case N => k_asm); (case m => k_mem); (case a => assumption); (case b => assumption)); intro _)) | (((with_reducible show wpAny _ _ (call (Value.type "set") [Value.ref _]) _ _ _); k_dflt (refine' set_N ?F ?N ?h ?m ?y ?b ?_; (case F => k_asm); (case N => k_asm); (case h => first | rfl | simp | skip); (case m => k_mem); (case y => assumption); (case b => assumption)); intro _ _ _ _ _ _ l1Z _; (try k_lt l1Z); (try k_sweep))) | ((with_reducible show wpAny _ _ (subscriptTail (PySem.Expr.Call _ _ _ _) _ _ _) _ _ _); (k_dflt (((with_reducible show wpAny _ _ (subscriptTail _ (Expr.Slice none (some _) none _) (Value.str _ _) _) _ _ _); refine' slice_strN_ns (s := ⟨_, _, _, _, _⟩) (hsz := len13 _) ?F ?N ?_; (case F => k_asm); (case N => k_asm))); intro _ _ _ _ _; (try k_sweep))) | ((with_reducible show wpAny _ _ (call (Value.builtin "str.join") _ _) _ _ _); (k_dflt (refine' join_name ?k1 ?k2 ?_; (case k1 => exact Fr.lst (by k_asm) (by assumption)); (case k2 => assumption)); intro _ _; (try k_sweep))) | walk1 | (dsimp only; walk1) | (leave1; walk_say "STEP leave1"; try dsimp only)))
      exact ⟨_, _, _, [], rfl, rfl, by k_asm, by k_asm, trivial, ⟨.inl ⟨_, hmg, rfl, mn, rfl⟩, trivial⟩, rfl, told_snoc hys hq⟩
    · rintro D C h tk _ m' ys news' rfl ⟨rfl, hys⟩ F1 N1 off1 hn hC0 hD0 hCL hDL hCD offC
      refine' post_assign ?r0 ?r1 ?r2 ?fin ?F ?N off1 hn hC0 ?L hCD offC
      case F => exact F1
      case r0 => rfl
      case r1 => rfl
      case r2 => rfl
      case N => exact N1
      case L => exact hCL
      intro h2 tk2 F2 N2 off2
      rw [show mvs.toArray.size = ms.length by rw [List.size_toArray, hml, List.length_map], List.take_length] at hys
      clear F1 N1
      have hys0 : ys.length ≠ 0 := by rw [hys.length, List.length_map]; exact fun h => hm0 (List.length_eq_zero_iff.mp h)
      have hys1 : ys.length ≤ 1000 := by rw [hys.length, List.length_map]; omega
      have hys2 : (ms.map toldS).length ≤ 7 := by rw [List.length_map]; exact hml7
      repeat' ((fail_if_success (with_reducible show wpAny _ _ (call (Value.ref _) _ _) _ _ _)); (first | (k_unfold; (try dsimp only)) | (refine' (?hh : NextQ _ _) _ ?_; (case hh => with_reducible assumption)) | (refine' (?hh : RestQ _ _) _ _ True.intro ?_; (case hh => with_reducible assumption)) | ((with_reducible show wpAny _ _ (subscriptTail (PySem.Expr.Call _ _ _ _) _ _ _) _ _ _); (k_dflt (((with_reducible show wpAny _ _ (subscriptTail _ (Expr.Slice none (some _) none _) (Value.str (signS _ _) _) _) _ _ _); refine' slice_strN_ns (s := ⟨_, _, _, _, _⟩) (hsz := len4s _ _) ?F ?N ?_; (case F => k_asm); (case N => k_asm))); intro _ _ _ _ _; (try k_sweep))) | ((with_reducible show wpAny _ _ (call (Value.ref _) _ _) _ _ _); (k_dflt (refine' use_ct (c_signs _ _ _ (by assumption) _) ?F ?N ?X ?T ?d ?u ?P ?_; (case F => k_asm); (case N => k_asm); (case X => k_asm); (case T => k_asm); (case d => (first | assumption | exact room2 (by assumption) rfl | exact room1 (by assumption) rfl | exact room0 (by assumption) | omega | ((try dsimp only [Around.deeper, Around.in1]); omega) | ((try simp only [depth_deeper, units_deeper, depth_in1, units_in1] at *); omega))); (case u => (first | assumption | exact room2 (by assumption) rfl | exact room1 (by assumption) rfl | exact room0 (by assumption) | omega | ((try dsimp only [Around.deeper, Around.in1]); omega) | ((try simp only [depth_deeper, units_deeper, depth_in1, units_in1] at *); omega))); (case P => exact trivial); k_whole); intro _ _ _ _ _ _ hp9Z; obtain ⟨u9Z, hp9Z⟩ := hp9Z; subst hp9Z; (try dsimp only); (try k_sweep))) | ((with_reducible show wpAny _ _ (call (Value.builtin "list.append") _ _) _ _ _); (k_dflt (refine' append_K ?k1 ?k2 ?k3 ?_ ?z; (case k1 => k_asm); (case k2 => k_asm); (case k3 => k_upd); (case z => (rw [sizeLine_eq]; omega)); k_whole); intro _ _ _; (try k_sweep))) | ((with_reducible show wpAny _ _ (call (Value.builtin "list.clear") _ _) _ _ _); (k_dflt (refine' kl_clear ?F ?N ?U ?a ?b ?_; (case F => k_asm); (case N => k_asm); (case U => k_upd); (case a => exact fun h => absurd h (by assumption)); (case b => (rw [sizeLine_eq]; exact Nat.le_trans (by assumption : _ ≤ 1000) (by decide)))); intro _ _ _; (try k_sweep))) | (((with_reducible show wpAny _ _ (truthy (Value.ref _)) _ _ _); k_dflt (refine' truthy_N ?N ?m ?a ?b ?_; (case N => k_asm); (case m => k_mem); (case a => assumption); (case b => assumption)); intro _)) | (((with_reducible show wpAny _ _ (call (Value.type "set") [Value.ref _]) _ _ _); k_dflt (refine' set_N ?F ?N ?h ?m ?y ?b ?_; (case F => k_asm); (case N => k_asm); (case h => first | rfl | simp | skip); (case m => k_mem); (case y => assumption); (case b => assumption)); intro _ _ _ _ _ _ l1Z _; (try k_lt l1Z); (try k_sweep))) | ((with_reducible show wpAny _ _ (subscriptTail (PySem.Expr.Call _ _ _ _) _ _ _) _ _ _); (k_dflt (((with_reducible show wpAny _ _ (subscriptTail _ (Expr.Slice none (some _) none _) (Value.str _ _) _) _ _ _); refine' slice_strN_ns (s := ⟨_, _, _, _, _⟩) (hsz := len13 _) ?F ?N ?_; (case F => k_asm); (case N => k_asm))); intro _ _ _ _ _; (try k_sweep))) | ((with_reducible show wpAny _ _ (call (Value.builtin "str.join") _ _) _ _ _); (k_dflt (refine' join_name ?k1 ?k2 ?_; (case k1 => exact Fr.lst (by k_asm) (by assumption)); (case k2 => assumption)); intro _ _; (try k_sweep))) | walk1 | (dsimp only; walk1) | (leave1; walk_say "STEP leave1"; try dsimp only)))
      (k_dflt (refine' call_cls ?k1 ?k2 ?k3 ?k4 ?k5 ?k6 ?_; (case k1 => k_asm); (case k2 => k_asm); (case k3 => k_asm); (case k4 => k_is); (case k5 => k_is); (case k6 => k_is)))
      intro x9 d9 h9 F9 N9 l1 l2
      k_lt l1
      k_lt2 l2
      (k_dflt (refine' enterL ?F ?N ?X ?T ?ho ?hcd ?hroom ?hbind ?hloc ?_ ?c2 ?c3 ?c4 ?c5; (case F => exact F9); (case N => exact N9); (case X => k_asm); (case T => k_asm); (case ho => k_is); (case hcd => k_is); (case hroom => (rw [depth_under_make]; (first | assumption | exact room2 (by assumption) rfl | exact room1 (by assumption) rfl | exact room0 (by assumption) | omega | ((try dsimp only [Around.deeper, Around.in1]); omega) | ((try simp only [depth_deeper, units_deeper, depth_in1, units_in1] at *); omega)))); (case hbind => first | exact BindsTo.of_eq rfl | exact binds_K (by k_in) rfl (by k_is) rfl rfl rfl); (case hloc => exact locs rfl); (case c2 => exact rfl); (case c3 => exact rfl); (case c4 => exact rfl); (case c5 => decide)))
      intro g8 L8 h8 hg8 back8 F8 N8 X8 T8 kg8
      clear F9 N9
      (try dsimp only)
      (try k_fold)
      repeat' ((first | (k_unfold; (try dsimp only)) | (refine' (?hh : NextQ _ _) _ ?_; (case hh => with_reducible assumption)) | (refine' (?hh : RestQ _ _) _ _ True.intro ?_; (case hh => with_reducible assumption)) | ((with_reducible show wpAny _ _ (subscriptTail (PySem.Expr.Call _ _ _ _) _ _ _) _ _ _); (k_dflt (((with_reducible show wpAny _ _ (subscriptTail _ (Expr.Slice none (some _) none _) (Value.str (signS _ _) _) _) _ _ _); refine' slice_strN_ns (s := ⟨_, _, _, _, _⟩) (hsz := len4s _ _) ?F ?N ?_; (case F => k_asm); (case N => k_asm))); intro _ _ _ _ _; (try k_sweep))) | ((with_reducible show wpAny _ _ (call (Value.ref _) _ _) _ _ _); (k_dflt (refine' use_ct (c_signs _ _ _ (by assumption) _) ?F ?N ?X ?T ?d ?u ?P ?_; (case F => k_asm); (case N => k_asm); (case X => k_asm); (case T => k_asm); (case d => (first | assumption | exact room2 (by assumption) rfl | exact room1 (by assumption) rfl | exact room0 (by assumption) | omega | ((try dsimp only [Around.deeper, Around.in1]); omega) | ((try simp only [depth_deeper, units_deeper, depth_in1, units_in1] at *); omega))); (case u => (first | assumption | exact room2 (by assumption) rfl | exact room1 (by assumption) rfl | exact room0 (by assumption) | omega | ((try dsimp only [Around.deeper, Around.in1]); omega) | ((try simp only [depth_deeper, units_deeper, depth_in1, units_in1] at *); omega))); (case P => exact trivial); k_whole); intro _ _ _ _ _ _ hp9Z; obtain ⟨u9Z, hp9Z⟩ := hp9Z; subst hp9Z; (try dsimp only); (try k_sweep))) | ((with_reducible show wpAny _ _ (call (Value.builtin "list.append") _ _) _ _ _); (k_dflt (refine' append_K ?k1 ?k2 ?k3 ?_ ?z; (case k1 => k_asm); (case k2 => k_asm); (case k3 => k_upd); (case z => (rw [sizeLine_eq]; omega)); k_whole); intro _ _ _; (try k_sweep))) | ((with_reducible show wpAny _ _ (call (Value.builtin "list.clear") _ _) _ _ _); (k_dflt (refine' kl_clear ?F ?N ?U ?a ?b ?_; (case F => k_asm); (case N => k_asm); (case U => k_upd); (case a => exact fun h => absurd h (by assumption)); (case b => (rw [sizeLine_eq]; exact Nat.le_trans (by assumption : _ ≤ 1000) (by decide)))); intro _ _ _; (try k_sweep))) | (((with_reducible show wpAny _ _ (truthy (Value.ref _)) _ _ _); k_dflt (refine' truthy_N ?N ?m ?a ?b ?_; (case N => k_asm); (case m => k_mem); (case a => assumption); (case b => assumption)); intro _)) | (((with_reducible show wpAny _ _ (call (Value.type "set") [Value.ref _]) _ _ _); k_dflt (refine' set_N ?F ?N ?h ?m ?y ?b ?_; (case F => k_asm); (case N => k_asm); (case h => first | rfl | simp | skip); (case m => k_mem); (case y => assumption); (case b => assumption)); intro _ _ _ _ _ _ l1Z _; (try k_lt l1Z); (try k_sweep))) | ((with_reducible show wpAny _ _ (subscriptTail (PySem.Expr.Call _ _ _ _) _ _ _) _ _ _); (k_dflt (((with_reducible show wpAny _ _ (subscriptTail _ (Expr.Slice none (some _) none _) (Value.str _ _) _) _ _ _); refine' slice_strN_ns (s := ⟨_, _, _, _, _⟩) (hsz := len13 _) ?F ?N ?_; (case F => k_asm); (case N => k_asm))); intro _ _ _ _ _; (try k_sweep))) | ((with_reducible show wpAny _ _ (call (Value.builtin "str.join") _ _) _ _ _); (k_dflt (refine' join_name ?k1 ?k2 ?_; (case k1 => exact Fr.lst (by k_asm) (by assumption)); (case k2 => assumption)); intro _ _; (try k_sweep))) | walk1 | (dsimp only; walk1) | (leave1; walk_say "STEP leave1"; try dsimp only)))
      refine ⟨rfl, ?_⟩
      try dsimp only
      obtain ⟨dD, oD, dl, S9, oS, t1, t2, t3, n9, tS, F4, N4, hdD, loD, hS9, ne1, ne2, ne3, ne4, ne5, ne6, ne7, ne8⟩ : ∃ dD oD dl S9 oS t1 t2 t3 n9 tS, _ ∧ News s.heap _ _ [(dD, oD), (dl, W.listOf #[] 0), (S9, oS), (x9, instObj 170 d9), (d9, rdrD w S9 dl dD t1 t2 t3 n9), (D, LCg.lst ys)] ∧ oD.IsDictOf (PySem.strKind prg w) [(Str.ofString "<string>", .int 1 tS)] ∧ (dD == sysModules) = false ∧ RS.SetS prg w oS (ms.map toldS) ∧ @Ne Nat dD dl ∧ @Ne Nat dD S9 ∧ @Ne Nat dD x9 ∧ @Ne Nat dD d9 ∧ @Ne Nat dl S9 ∧ @Ne Nat dl x9 ∧ @Ne Nat dl d9 ∧ (@Ne Nat D dD ∧ @Ne Nat D dl ∧ @Ne Nat D S9 ∧ @Ne Nat D x9 ∧ @Ne Nat D d9) :=
        ⟨_, _, _, _, _, _, _, _, _, _, (leaveL back8 kg8 (by assumption) (by assumption)).1, (leaveL back8 kg8 (by assumption) (by assumption)).2, by assumption, by assumption, by assumption, by omega, by omega, by omega, by omega, by omega, by omega, by omega, by omega, by omega, by omega, by omega, by omega⟩
      obtain ⟨ne8, ne9, ne10, ne11, ne12⟩ := ne8
      try clear hg8
      try clear X8
      try clear T8
      try clear N8
      try clear F8
      try clear N2
      try clear F2
      (repeat' ((fail_if_success (with_reducible show wpAny _ _ (exec (Stmt.For _ _ _ _ _) _) _ _ _)); (first | (k_unfold; (try dsimp only)) | (refine' (?hh : NextQ _ _) _ ?_; (case hh => with_reducible assumption)) | (refine' (?hh : RestQ _ _) _ _ True.intro ?_; (case hh => with_reducible assumption)) | ((with_reducible show wpAny _ _ (subscriptTail (PySem.Expr.Call _ _ _ _) _ _ _) _ _ _); (k_dflt (((with_reducible show wpAny _ _ (subscriptTail _ (Expr.Slice none (some _) none _) (Value.str (signS _ _) _) _) _ _ _); refine' slice_strN_ns (s := ⟨_, _, _, _, _⟩) (hsz := len4s _ _) ?F ?N ?_; (case F => k_asm); (case N => k_asm))); intro _ _ _ _ _; (try k_sweep))) | ((with_reducible show wpAny _ _ (call (Value.ref _) _ _) _ _ _); (k_dflt (refine' use_ct (c_signs _ _ _ (by assumption) _) ?F ?N ?X ?T ?d ?u ?P ?_; (case F => k_asm); (case N => k_asm); (case X => k_asm); (case T => k_asm); (case d => (first | assumption | exact room2 (by assumption) rfl | exact room1 (by assumption) rfl | exact room0 (by assumption) | omega | ((try dsimp only [Around.deeper, Around.in1]); omega) | ((try simp only [depth_deeper, units_deeper, depth_in1, units_in1] at *); omega))); (case u => (first | assumption | exact room2 (by assumption) rfl | exact room1 (by assumption) rfl | exact room0 (by assumption) | omega | ((try dsimp only [Around.deeper, Around.in1]); omega) | ((try simp only [depth_deeper, units_deeper, depth_in1, units_in1] at *); omega))); (case P => exact trivial); k_whole); intro _ _ _ _ _ _ hp9Z; obtain ⟨u9Z, hp9Z⟩ := hp9Z; subst hp9Z; (try dsimp only); (try k_sweep))) | ((with_reducible show wpAny _ _ (call (Value.builtin "list.append") _ _) _ _ _); (k_dflt (refine' append_K ?k1 ?k2 ?k3 ?_ ?z; (case k1 => k_asm); (case k2 => k_asm); (case k3 => k_upd); (case z => (rw [sizeLine_eq]; omega)); k_whole); intro _ _ _; (try k_sweep))) | ((with_reducible show wpAny _ _ (call (Value.builtin "list.clear") _ _) _ _ _); (k_dflt (refine' kl_clear ?F ?N ?U ?a ?b ?_; (case F => k_asm); (case N => k_asm); (case U => k_upd); (case a => exact fun h => absurd h (by assumption)); (case b => (rw [sizeLine_eq]; exact Nat.le_trans (by assumption : _ ≤ 1000) (by decide)))); intro _ _ _; (try k_sweep))) | (((with_reducible show wpAny _ _ (truthy (Value.ref _)) _ _ _); k_dflt (refine' truthy_N ?N ?m ?a ?b ?_; (case N => k_asm); (case m => k_mem); (case a => assumption); (case b => assumption)); intro _)) | (((with_reducible show wpAny _ _ (call (Value.type "set") [Value.ref _]) _ _ _); k_dflt (refine' set_N ?F ?N ?h ?m ?y ?b ?_; (case F => k_asm); (case N => k_asm); (case h => first | rfl | simp | skip); (case m => k_mem); (case y => assumption); (case b => assumption)); intro _ _ _ _ _ _ l1Z _; (try k_lt l1Z); (try k_sweep))) | ((with_reducible show wpAny _ _ (subscriptTail (PySem.Expr.Call _ _ _ _) _ _ _) _ _ _); (k_dflt (((with_reducible show wpAny _ _ (subscriptTail _ (Expr.Slice none (some _) none _) (Value.str _ _) _) _ _ _); refine' slice_strN_ns (s := ⟨_, _, _, _, _⟩) (hsz := len13 _) ?F ?N ?_; (case F => k_asm); (case N => k_asm))); intro _ _ _ _ _; (try k_sweep))) | ((with_reducible show wpAny _ _ (call (Value.builtin "str.join") _ _) _ _ _); (k_dflt (refine' join_name ?k1 ?k2 ?_; (case k1 => exact Fr.lst (by k_asm) (by assumption)); (case k2 => assumption)); intro _ _; (try k_sweep))) | walk1 | (dsimp only; walk1) | (leave1; walk_say "STEP leave1"; try dsimp only))))
      refine for_go ?_ (by intro _; rfl)
      repeat ((((fail_if_success (with_reducible show wpAny _ _ (exec (Stmt.For _ _ _ _ _) _) _ _ _)); (fail_if_success (with_reducible show wpAny _ _ (pyIter _) _ _ _)); (first | (k_unfold; (try dsimp only)) | (refine' (?hh : NextQ _ _) _ ?_; (case hh => with_reducible assumption)) | (refine' (?hh : RestQ _ _) _ _ True.intro ?_; (case hh => with_reducible assumption)) | ((with_reducible show wpAny _ _ (subscriptTail (PySem.Expr.Call _ _ _ _) _ _ _) _ _ _); (k_dflt (((with_reducible show wpAny _ _ (subscriptTail _ (Expr.Slice none (some _) none _) (Value.str (signS _ _) _) _) _ _ _); refine' slice_strN_ns (s := ⟨_, _, _, _, _⟩) (hsz := len4s _ _) ?F ?N ?_; (case F => k_asm); (case N => k_asm))); intro _ _ _ _ _; (try k_sweep))) | ((with_reducible show wpAny _ _ (call (Value.ref _) _ _) _ _ _); (k_dflt (refine' use_ct (c_signs _ _ _ (by assumption) _) ?F ?N ?X ?T ?d ?u ?P ?_; (case F => k_asm); (case N => k_asm); (case X => k_asm); (case T => k_asm); (case d => (first | assumption | exact room2 (by assumption) rfl | exact room1 (by assumption) rfl | exact room0 (by assumption) | omega | ((try dsimp only [Around.deeper, Around.in1]); omega) | ((try simp only [depth_deeper, units_deeper, depth_in1, units_in1] at *); omega))); (case u => (first | assumption | exact room2 (by assumption) rfl | exact room1 (by assumption) rfl | exact room0 (by assumption) | omega | ((try dsimp only [Around.deeper, Around.in1]); omega) | ((try simp only [depth_deeper, units_deeper, depth_in1, units_in1] at *); omega))); (case P => exact trivial); k_whole); intro _ _ _ _ _ _ hp9Z; obtain ⟨u9Z, hp9Z⟩ := hp9Z; subst hp9Z; (try dsimp only); (try k_sweep))) | ((with_reducible show wpAny _ _ (call (Value.builtin "list.append") _ _) _ _ _); (k_dflt (refine' append_K ?k1 ?k2 ?k3 ?_ ?z; (case k1 => k_asm); (case k2 => k_asm); (case k3 => k_upd); (case z => (rw [sizeLine_eq]; omega)); k_whole); intro _ _ _; (try k_sweep))) | ((with_reducible show wpAny _ _ (call (Value.builtin "list.clear") _ _) _ _ _); (k_dflt (refine' kl_clear ?F ?N ?U ?a ?b ?_; (case F => k_asm); (case N => k_asm); (case U => k_upd); (case a => exact fun h => absurd h (by assumption)); (case b => (rw [sizeLine_eq]; exact Nat.le_trans (by assumption : _ ≤ 1000) (by decide)))); intro _ _ _; (try k_sweep))) | (((with_reducible show wpAny _ _ (truthy (Value.ref _)) _ _ _); k_dflt (refine' truthy_N ?N ?m ?a ?b ?_; (case N => k_asm); (case m => k_mem); (case a => assumption); (case b => assumption)); intro _)) | (((with_reducible show wpAny _ _ (call (Value.type "set") [Value.ref _]) _ _ _); k_dflt (refine' set_N ?F ?N ?h ?m ?y ?b ?_; (case F => k_asm); (case N => k_asm); (case h => first | rfl | simp | skip); (case m => k_mem); (case y => assumption); (case b => assumption)); intro _ _ _ _ _ _ l1Z _; (try k_lt l1Z); (try k_sweep))) | ((with_reducible show wpAny _ _ (subscriptTail (PySem.Expr.Call _ _ _ _) _ _ _) _ _ _); (k_dflt (((with_reducible show wpAny _ _ (subscriptTail _ (Expr.Slice none (some _) none _) (Value.str _ _) _) _ _ _); refine' slice_strN_ns (s := ⟨_, _, _, _, _⟩) (hsz := len13 _) ?F ?N ?_; (case F => k_asm); (case N => k_asm))); intro _ _ _ _ _; (try k_sweep))) | ((with_reducible show wpAny _ _ (call (Value.builtin "str.join") _ _) _ _ _); (k_dflt (refine' join_name ?k1 ?k2 ?_; (case k1 => exact Fr.lst (by k_asm) (by assumption)); (case k2 => assumption)); intro _ _; (try k_sweep))) | walk1 | (dsimp only; walk1) | (leave1; walk_say "STEP leave1"; try dsimp only)))))
      rename Fr _ _ _ _ => F7
      rename News _ _ _ _ => N7
      have N6 := News.sub N7 (a := [(dD, oD), (dl, W.listOf #[] 0), (S9, oS), (x9, instObj 170 d9), (d9, rdrD w S9 dl dD t1 t2 t3 n9)]) (List.forall_mem_cons.mpr ⟨by k_mem, List.forall_mem_cons.mpr ⟨by k_mem, List.forall_mem_cons.mpr ⟨by k_mem, List.forall_mem_cons.mpr ⟨by k_mem, List.forall_mem_cons.mpr ⟨by k_mem, fun _ h => nomatch h⟩⟩⟩⟩⟩)
      clear N7
      refine loop_lpairs (items := dvs.toArray) (fun i m₁ n₁ => m₁ (Str.ofString "reader") = some (.ref x9) ∧ m₁ (Str.ofString "how") = some (.int how u) ∧ ∃ arr n, n₁ = [(dD, oD), (dl, W.listOf arr n), (S9, oS), (x9, instObj 170 d9), (d9, rdrD w S9 dl dD t1 t2 t3 n9)] ∧ StrsAre arr.toList ((ds.take i).map (signT how))) rfl F7 N6 ⟨_, hdg, rfl, dn, rfl⟩ ?_ rfl rfl rfl ?_ ?_ ?_
      · exact ⟨rfl, rfl, _, _, rfl, .nil⟩
      · intro i v hv
        obtain ⟨d, hd, hD⟩ := hdi i v (by simpa using hv)
        rw [List.getElem?_map] at hd
        obtain ⟨q, hq, rfl⟩ := Option.map_eq_some_iff.mp hd
        obtain ⟨T', x, y, e, hT', _⟩ := hD.tup2
        exact ⟨T', x, y, e, hT'⟩
      · rintro i T' x y m₁ news₁ h tk oI I hi hT' ⟨e1, e2, arr, n, rfl, hs9⟩ F1 N1 off1
        obtain ⟨d, hd, hD⟩ := hdi i _ (by simpa using hi)
        rw [List.getElem?_map] at hd
        obtain ⟨q, hq, rfl⟩ := Option.map_eq_some_iff.mp hd
        obtain ⟨T'', x', y', e, hT'', hx, hy⟩ := hD.tup2
        cases e
        obtain ⟨rfl, rfl⟩ := tup_inj hT' hT''
        obtain ⟨tx, rfl⟩ := hx.int
        obtain ⟨ty, rfl⟩ := hy.int
        obtain ⟨hq1, hq2⟩ := (hds q (List.mem_of_getElem? hq)).2
        have haz : arr.size ≤ 1000 := by
          have := hs9.length
          rw [Array.length_toList, List.length_map, List.length_take] at this
          omega
        rw [map2 e1 e2] at F1
        have o1 := neN (off1 _ (.head _))
        have o2 := neN (off1 _ (.tail _ (.head _)))
        have o3 := neN (off1 _ (.tail _ (.tail _ (.head _))))
        have o4 := neN (off1 _ (.tail _ (.tail _ (.tail _ (.head _)))))
        have o5 := neN (off1 _ (.tail _ (.tail _ (.tail _ (.tail _ (.head _))))))
        dsimp only at o1 o2 o3 o4 o5
        clear F7 N6
        repeat' ((first | (k_unfold; (try dsimp only)) | (refine' (?hh : NextQ _ _) _ ?_; (case hh => with_reducible assumption)) | (refine' (?hh : RestQ _ _) _ _ True.intro ?_; (case hh => with_reducible assumption)) | ((with_reducible show wpAny _ _ (subscriptTail (PySem.Expr.Call _ _ _ _) _ _ _) _ _ _); (k_dflt (((with_reducible show wpAny _ _ (subscriptTail _ (Expr.Slice none (some _) none _) (Value.str (signS _ _) _) _) _ _ _); refine' slice_strN_ns (s := ⟨_, _, _, _, _⟩) (hsz := len4s _ _) ?F ?N ?_; (case F => k_asm); (case N => k_asm))); intro _ _ _ _ _; (try k_sweep))) | ((with_reducible show wpAny _ _ (call (Value.ref _) _ _) _ _ _); (k_dflt (refine' use_ct (c_signs _ _ _ (by assumption) _) ?F ?N ?X ?T ?d ?u ?P ?_; (case F => k_asm); (case N => k_asm); (case X => k_asm); (case T => k_asm); (case d => (first | assumption | exact room2 (by assumption) rfl | exact room1 (by assumption) rfl | exact room0 (by assumption) | omega | ((try dsimp only [Around.deeper, Around.in1]); omega) | ((try simp only [depth_deeper, units_deeper, depth_in1, units_in1] at *); omega))); (case u => (first | assumption | exact room2 (by assumption) rfl | exact room1 (by assumption) rfl | exact room0 (by assumption) | omega | ((try dsimp only [Around.deeper, Around.in1]); omega) | ((try simp only [depth_deeper, units_deeper, depth_in1, units_in1] at *); omega))); (case P => exact trivial); k_whole); intro _ _ _ _ _ _ hp9Z; obtain ⟨u9Z, hp9Z⟩ := hp9Z; subst hp9Z; (try dsimp only); (try k_sweep))) | ((with_reducible show wpAny _ _ (call (Value.builtin "list.append") _ _) _ _ _); (k_dflt (refine' append_K ?k1 ?k2 ?k3 ?_ ?z; (case k1 => k_asm); (case k2 => k_asm); (case k3 => k_upd); (case z => (rw [sizeLine_eq]; omega)); k_whole); intro _ _ _; (try k_sweep))) | ((with_reducible show wpAny _ _ (call (Value.builtin "list.clear") _ _) _ _ _); (k_dflt (refine' kl_clear ?F ?N ?U ?a ?b ?_; (case F => k_asm); (case N => k_asm); (case U => k_upd); (case a => exact fun h => absurd h (by assumption)); (case b => (rw [sizeLine_eq]; exact Nat.le_trans (by assumption : _ ≤ 1000) (by decide)))); intro _ _ _; (try k_sweep))) | (((with_reducible show wpAny _ _ (truthy (Value.ref _)) _ _ _); k_dflt (refine' truthy_N ?N ?m ?a ?b ?_; (case N => k_asm); (case m => k_mem); (case a => assumption); (case b => assumption)); intro _)) | (((with_reducible show wpAny _ _ (call (Value.type "set") [Value.ref _]) _ _ _); k_dflt (refine' set_N ?F ?N ?h ?m ?y ?b ?_; (case F => k_asm); (case N => k_asm); (case h => first | rfl | simp | skip); (case m => k_mem); (case y => assumption); (case b => assumption)); intro _ _ _ _ _ _ l1Z _; (try k_lt l1Z); (try k_sweep))) | ((with_reducible show wpAny _ _ (subscriptTail (PySem.Expr.Call _ _ _ _) _ _ _) _ _ _); (k_dflt (((with_reducible show wpAny _ _ (subscriptTail _ (Expr.Slice none (some _) none _) (Value.str _ _) _) _ _ _); refine' slice_strN_ns (s := ⟨_, _, _, _, _⟩) (hsz := len13 _) ?F ?N ?_; (case F => k_asm); (case N => k_asm))); intro _ _ _ _ _; (try k_sweep))) | ((with_reducible show wpAny _ _ (call (Value.builtin "str.join") _ _) _ _ _); (k_dflt (refine' join_name ?k1 ?k2 ?_; (case k1 => exact Fr.lst (by k_asm) (by assumption)); (case k2 => assumption)); intro _ _; (try k_sweep))) | walk1 | (dsimp only; walk1) | (leave1; walk_say "STEP leave1"; try dsimp only)))
        all_goals try dsimp only
        exact ⟨_, _, _, [(dD, oD), (dl, W.listOf _ _), (S9, oS), (x9, instObj 170 d9), (d9, rdrD w S9 dl dD t1 t2 t3 n9)], rfl, by k_asm, by k_asm, List.forall_mem_cons.mpr ⟨o1, List.forall_mem_cons.mpr ⟨o2, List.forall_mem_cons.mpr ⟨o3, List.forall_mem_cons.mpr ⟨o4, List.forall_mem_cons.mpr ⟨o5, (fun _ h => nomatch h)⟩⟩⟩⟩⟩, .inl ⟨_, hdg, rfl, dn, rfl⟩, rfl, rfl, _, _, rfl, sign_snoc hs9 hq⟩
      · rintro m₁ news₁ h tk ⟨e1, e2, arr, n, rfl, hs9⟩ F1 N1
        rw [map2 e1 e2] at F1
        rw [show dvs.toArray.size = ds.length by rw [List.size_toArray, hdl, List.length_map], List.take_length] at hs9
        clear F7 N6
        repeat' ((first | (k_unfold; (try dsimp only)) | (refine' (?hh : NextQ _ _) _ ?_; (case hh => with_reducible assumption)) | (refine' (?hh : RestQ _ _) _ _ True.intro ?_; (case hh => with_reducible assumption)) | ((with_reducible show wpAny _ _ (subscriptTail (PySem.Expr.Call _ _ _ _) _ _ _) _ _ _); (k_dflt (((with_reducible show wpAny _ _ (subscriptTail _ (Expr.Slice none (some _) none _) (Value.str (signS _ _) _) _) _ _ _); refine' slice_strN_ns (s := ⟨_, _, _, _, _⟩) (hsz := len4s _ _) ?F ?N ?_; (case F => k_asm); (case N => k_asm))); intro _ _ _ _ _; (try k_sweep))) | ((with_reducible show wpAny _ _ (call (Value.ref _) _ _) _ _ _); (k_dflt (refine' use_ct (c_signs _ _ _ (by assumption) _) ?F ?N ?X ?T ?d ?u ?P ?_; (case F => k_asm); (case N => k_asm); (case X => k_asm); (case T => k_asm); (case d => (first | assumption | exact room2 (by assumption) rfl | exact room1 (by assumption) rfl | exact room0 (by assumption) | omega | ((try dsimp only [Around.deeper, Around.in1]); omega) | ((try simp only [depth_deeper, units_deeper, depth_in1, units_in1] at *); omega))); (case u => (first | assumption | exact room2 (by assumption) rfl | exact room1 (by assumption) rfl | exact room0 (by assumption) | omega | ((try dsimp only [Around.deeper, Around.in1]); omega) | ((try simp only [depth_deeper, units_deeper, depth_in1, units_in1] at *); omega))); (case P => exact trivial); k_whole); intro _ _ _ _ _ _ hp9Z; obtain ⟨u9Z, hp9Z⟩ := hp9Z; subst hp9Z; (try dsimp only); (try k_sweep))) | ((with_reducible show wpAny _ _ (call (Value.builtin "list.append") _ _) _ _ _); (k_dflt (refine' append_K ?k1 ?k2 ?k3 ?_ ?z; (case k1 => k_asm); (case k2 => k_asm); (case k3 => k_upd); (case z => (rw [sizeLine_eq]; omega)); k_whole); intro _ _ _; (try k_sweep))) | ((with_reducible show wpAny _ _ (call (Value.builtin "list.clear") _ _) _ _ _); (k_dflt (refine' kl_clear ?F ?N ?U ?a ?b ?_; (case F => k_asm); (case N => k_asm); (case U => k_upd); (case a => exact fun h => absurd h (by assumption)); (case b => (rw [sizeLine_eq]; exact Nat.le_trans (by assumption : _ ≤ 1000) (by decide)))); intro _ _ _; (try k_sweep))) | (((with_reducible show wpAny _ _ (truthy (Value.ref _)) _ _ _); k_dflt (refine' truthy_N ?N ?m ?a ?b ?_; (case N => k_asm); (case m => k_mem); (case a => assumption); (case b => assumption)); intro _)) | (((with_reducible show wpAny _ _ (call (Value.type "set") [Value.ref _]) _ _ _); k_dflt (refine' set_N ?F ?N ?h ?m ?y ?b ?_; (case F => k_asm); (case N => k_asm); (case h => first | rfl | simp | skip); (case m => k_mem); (case y => assumption); (case b => assumption)); intro _ _ _ _ _ _ l1Z _; (try k_lt l1Z); (try k_sweep))) | ((with_reducible show wpAny _ _ (subscriptTail (PySem.Expr.Call _ _ _ _) _ _ _) _ _ _); (k_dflt (((with_reducible show wpAny _ _ (subscriptTail _ (Expr.Slice none (some _) none _) (Value.str _ _) _) _ _ _); refine' slice_strN_ns (s := ⟨_, _, _, _, _⟩) (hsz := len13 _) ?F ?N ?_; (case F => k_asm); (case N => k_asm))); intro _ _ _ _ _; (try k_sweep))) | ((with_reducible show wpAny _ _ (call (Value.builtin "str.join") _ _) _ _ _); (k_dflt (refine' join_name ?k1 ?k2 ?_; (case k1 => exact Fr.lst (by k_asm) (by assumption)); (case k2 => assumption)); intro _ _; (try k_sweep))) | walk1 | (dsimp only; walk1) | (leave1; walk_say "STEP leave1"; try dsimp only)))
        (((try dsimp only); (try k_unfold); (try dsimp only)))
        exact hret _ _ _ (Fr.keep (by assumption)) ⟨x9, d9, S9, dl, dD, oS, arr, n, oD, t1, t2, t3, n9, tS, rfl, fun p hp => ⟨(N1 p hp).2.2, (N1 p hp).1⟩, hdD, loD, hS9, hs9, ne1, ne2, ne3, ne4⟩)
end
end
section
abbrev RInt (y : Int) (v : Value) : Prop := ∃ t, v = .int y t
theorem in_setN {prog : Program} {w : World} {A : Around} {E : Value → Shared → Prop} {s : Shared} {g : Heap} {L a : Addr} {news : List (Addr × Obj)} {o : Obj} {xs : List Str} {x : Str} {t : Tok} {Q : Value → Shared → Prop} (N : News g L s.heap news) (hm : (a, o) ∈ news) (hS : RS.SetS prog w o xs) (hb : xs.length ≤ 7)
    (h1 : x ∈ xs → Q (.bool true) { s with toks := s.toks + 1 }) (h2 : x ∉ xs → Q (.bool false) { s with toks := s.toks + 1 }) : wpAny (model prog w) A (compareOp .In (.str x t) (.ref a)) Q E s := by
  refine RS.in_set (N _ hm).1 hS (by show _ < 4096; omega) ?_
  by_cases h : x ∈ xs
  · rw [decide_eq_true h]; exact h1 h
  · rw [decide_eq_false h]; exact h2 h
def NamesHit (told dirs : List Str) (file : Option Str) (name : Str) : Prop := name ∈ told ∨ (∃ t ∈ told, Txt.startswith name (t ++ Str.ofString ".") = true) ∨ match file with
  | none => True
  | some f => ∃ d ∈ dirs, Txt.startswith f (d ++ Str.ofString "/") = true
open Classical in
noncomputable def namesV (told dirs : List Str) (file : Option Str) (name : Str) : Int := if NamesHit told dirs file name then 1 else 0
theorem namesV_1 {told dirs : List Str} {file : Option Str} {name : Str} (h : NamesHit told dirs file name) (t : Tok) : RInt (namesV told dirs file name) (.int 1 t) := ⟨t, by unfold namesV; rw [if_pos h]⟩
theorem namesV_0 {told dirs : List Str} {file : Option Str} {name : Str} (h : ¬ NamesHit told dirs file name) (t : Tok) : RInt (namesV told dirs file name) (.int 0 t) := ⟨t, by unfold namesV; rw [if_neg h]⟩
theorem names_new1 {told dirs : List Str} {file : Option Str} {name : Str} {pre : List (Str × Int)} (hk : pre.lookup name = none) (h : NamesHit told dirs file name) : (pre ++ [(name, namesV told dirs file name)]).lookup name = some 1 := by
  rw [lookup_new hk]; unfold namesV; rw [if_pos h]
theorem names_new0 {told dirs : List Str} {file : Option Str} {name : Str} {pre : List (Str × Int)} (hk : pre.lookup name = none) (h : ¬ NamesHit told dirs file name) : (pre ++ [(name, namesV told dirs file name)]).lookup name = some 0 := by
  rw [lookup_new hk]; unfold namesV; rw [if_neg h]
theorem add_short {prog : Program} {w : World} {A : Around} {E : Value → Shared → Prop} {s : Shared} {x y : Str} {t u : Tok} {Q : Value → Shared → Prop} (hx : x.length ≤ 100) (hy : y.length = 1) (h : ∀ t' tk, Q (.str (x ++ y) t') { s with toks := tk }) : wpAny (model prog w) A (binaryOp .Add (.str x t) (.str y u)) Q E s :=
  PyProof.Rows.add_str h (by rw [sizeLine_eq]; omega)
theorem no_snoc {P : Str → Bool} {l : List Str} {k : Str} (h : ∀ t ∈ l, P t = false) (hk : P k = false) : ∀ t ∈ l ++ [k], P t = false := by
  intro t ht
  rcases List.mem_append.mp ht with ht | ht
  · exact h t ht
  · cases List.mem_singleton.mp ht; exact hk
theorem take_f {P : Str → Bool} {l : List Str} {i : Nat} {q : Str} (h : ∀ x ∈ l.take i, P x = false) (hq : l[i]? = some q) (hn : P q = false) : ∀ x ∈ l.take (i + 1), P x = false := by
  rw [append_pre hq]; exact no_snoc h hn
section
local macro_rules | `(tactic| k_all) => `(tactic| with_reducible assumption)
set_option maxRecDepth 100000 in
set_option maxHeartbeats 8000000 in
theorem c_names {w : World} {x d S Dl D : Addr} {oS oD : Obj} {arr : Array Value} {n n9 : Nat} {t1 t2 t3 : Tok} {told dirs : List Str} {kvs : List (Str × Value)} {pre : List (Str × Int)} (fv : Value) (file : Option Str) (hfv : (file = none ∧ fv = .none) ∨ ∃ y t, file = some y ∧ fv = .str y t) (name : Str) (tn : Tok)
    {p : Program} {loose : List Str} {mean : ExcName → Option Value} {mg mb : Str → Option Value} {dp : Nat} {fr : Option (List Env)} {gd : Option (List Code)} {un : Nat} {s : Shared} {g : Heap} {L : Addr} {m : Str → Option Value} {Q E : Value → Shared → Prop}
    (F : Fr g L s.heap m) (N : News g L s.heap (rdrX w x d S Dl D oS (W.listOf arr n) oD t1 t2 t3 n9)) (X : (h0.heap_1 w.params).In g) (T : Top p loose mean mg mb g) (hdp : dp + 4 < recursionLimit) (hun : un + 8 * 12 < cLine)
    (hS9 : RS.SetS prg w oS told) (h0 : told ≠ []) (h7 : told.length ≤ 7) (hs9 : StrsAre arr.toList dirs) (hd7 : dirs.length ≤ 7) (htl : ∀ t ∈ told, t.length ≤ 100) (hdl : ∀ t ∈ dirs, t.length ≤ 100) (hdD : oD.IsDictOf (PySem.strKind prg w) kvs) (loD : (D == sysModules) = false) (K9 : Kept RInt kvs pre) (hp9 : pre.length ≤ 1000)
    (ne1 : @Ne Nat D Dl) (ne2 : @Ne Nat D S) (ne3 : @Ne Nat D x) (ne4 : @Ne Nat D d)
    (hret : ∀ r h' tk' dr' oD' kvs', Fr g L h' m → (∀ b o, b ≠ D → s.heap.get? b = some o → h'.get? b = some o) → h'.get? D = some oD' → oD'.IsDictOf (PySem.strKind prg w) kvs' → Kept RInt kvs' (pre ++ [(name, namesV told dirs file name)]) → (∃ t y, r = .int y t ∧ (pre ++ [(name, namesV told dirs file name)]).lookup name = some y) → Q r { s with heap := h', toks := tk', drawn := dr' }) :
    wpAny (model prg w) ⟨none, dp, fr, gd, un⟩ (call (.ref 167) [.ref x, fv, .str name tn]) Q E s := by
  w_strict (
    refine wpAny_call ?_
    (k_dflt (refine' enterL ?F ?N ?X ?T ?ho ?hcd ?hroom ?hbind ?hloc ?_ ?c2 ?c3 ?c4 ?c5; (case F => exact F); (case N => exact N); (case X => k_asm); (case T => k_asm); (case ho => k_is); (case hcd => k_is); (case hroom => (first | assumption | exact room2 (by assumption) rfl | exact room1 (by assumption) rfl | exact room0 (by assumption) | omega | ((try dsimp only [Around.deeper, Around.in1]); omega) | ((try simp only [depth_deeper, units_deeper, depth_in1, units_in1] at *); omega))); (case hbind => first | exact BindsTo.of_eq rfl | exact binds_K (by k_in) rfl (by k_is) rfl rfl rfl); (case hloc => exact locs rfl); (case c2 => exact rfl); (case c3 => exact rfl); (case c4 => exact rfl); (case c5 => decide)))
    intro g8 L8 h8 hg8 back8 F8 N8 X8 T8 kg8
    (try dsimp only)
    (try k_fold)
    have fin9 : ∀ (h' : Heap) (m' : Str → Option Value) (oD' : Obj), Fr g8 L8 h' m' → News g8 L8 h' (rdrX w x d S Dl D oS (W.listOf arr n) oD' t1 t2 t3 n9) → Fr g L h' m ∧ (∀ b o, b ≠ D → s.heap.get? b = some o → h'.get? b = some o) ∧ h'.get? D = some oD' := by
      intro h' m' oD' F' N'
      refine ⟨back8 h' F'.keep, fun b o hb e => ?_, (N' _ (.head _)).1⟩
      by_cases hm : ∃ q ∈ rdrX w x d S Dl D oS (W.listOf arr n) oD t1 t2 t3 n9, q.1 = b
      · obtain ⟨q, hq, rfl⟩ := hm
        rcases List.mem_cons.mp hq with rfl | hq
        · exact absurd rfl hb
        · have e1 := (N q (.tail _ hq)).1
          rw [e1] at e
          cases e
          exact (N' q (.tail _ hq)).1
      · exact F'.keep b o (by rw [hg8 b fun p hp e' => hm ⟨p, hp, e'⟩]; exact e)
    clear F N X T back8 hg8
    (repeat' ((fail_if_success (with_reducible show wpAny _ _ (exec (Stmt.For _ _ _ _ _) _) _ _ _)); (first | (k_unfold; (try dsimp only)) | (refine' (?hh : NextQ _ _) _ ?_; (case hh => with_reducible assumption)) | (refine' (?hh : RestQ _ _) _ _ True.intro ?_; (case hh => with_reducible assumption)) | (((with_reducible show wpAny _ _ (subscriptTail _ _ (Value.ref _) (Value.str _ _)) _ _ _); k_dflt (first | (refine' kda_item (knd := PySem.strKind _ _) ?N ?m ?d (strKind_is _ _ _ _) ?l ?_; (case N => k_asm); (case m => k_mem); (case d => k_asm); (case l => assumption); k_whole) | (refine kba_turn (value' := PySem.Expr.Name (PySem.Str.ofString "_") ⟨0, 0, 0, 0⟩) (fun _ => rfl) ?_; refine' kda_item (knd := PySem.strKind _ _) ?N ?m ?d (strKind_is _ _ _ _) ?l ?_; (case N => k_asm); (case m => k_mem); (case d => k_asm); (case l => assumption); k_whole)))) | (((with_reducible show wpAny _ _ (setItem (Value.ref _) (Value.str _ _) _) _ _ _); k_dflt (refine' kept_put ?F ?N ?U ?d ?K ?l ?z ?_; (case F => k_asm); (case N => k_asm); (case U => k_updF); (case d => assumption); (case K => assumption); (case l => assumption); (case z => assumption); k_whole); intro _ _ _ N'Z _ _; (try dsimp only at N'Z); (try k_sweep))) | ((with_reducible show wpAny _ _ (compareOp CmpOp.In (Value.str _ _) (Value.ref _)) _ _ _); ((with_reducible show wpAny _ _ (compareOp _ (Value.str _ _) (Value.ref _)) _ _ _); k_dflt (refine' kept_in ?N ?m ?d ?l ?K ?_ ?_; (case N => k_asm); (case m => k_mem); (case d => assumption); (case l => assumption); (case K => assumption)); all_goals (first | (intro _ _ _ _ hr9Z; obtain ⟨t9Z, hr9Z⟩ := hr9Z; subst hr9Z) | (intro _)))) | ((with_reducible show wpAny _ _ (compareOp CmpOp.In (Value.str _ _) (Value.ref _)) _ _ _); ((with_reducible show wpAny _ _ (compareOp _ (Value.str _ _) (Value.ref _)) _ _ _); k_dflt (refine' in_setN ?N ?m ?S ?b ?_ ?_; (case N => k_asm); (case m => k_mem); (case S => assumption); (case b => assumption)); all_goals intro _)) | ((with_reducible show wpAny _ _ (binaryOp Operator.Add (Value.str _ _) (Value.str _ _)) _ _ _); (k_dflt (refine' add_short ?a ?b ?_; (case a => assumption); (case b => decide +kernel)); intro _ _)) | walk1 | (dsimp only; walk1) | (leave1; walk_say "STEP leave1"; try dsimp only))))
    · (((try dsimp only); (try k_unfold); (try dsimp only)))
      obtain ⟨a1, a2, a3⟩ := fin9 _ _ _ (by assumption) (by assumption)
      exact hret _ _ _ _ _ _ a1 a2 a3 (by assumption) (K9.new (by assumption) (namesV_1 (.inl (by assumption)) _)) ⟨_, _, rfl, names_new1 (by assumption) (.inl (by assumption))⟩
    · refine for_go ?_ (by intro _; rfl)
      repeat' ((fail_if_success (with_reducible show wpAny _ _ (pyIter _) _ _ _)); (first | (k_unfold; (try dsimp only)) | (refine' (?hh : NextQ _ _) _ ?_; (case hh => with_reducible assumption)) | (refine' (?hh : RestQ _ _) _ _ True.intro ?_; (case hh => with_reducible assumption)) | (((with_reducible show wpAny _ _ (subscriptTail _ _ (Value.ref _) (Value.str _ _)) _ _ _); k_dflt (first | (refine' kda_item (knd := PySem.strKind _ _) ?N ?m ?d (strKind_is _ _ _ _) ?l ?_; (case N => k_asm); (case m => k_mem); (case d => k_asm); (case l => assumption); k_whole) | (refine kba_turn (value' := PySem.Expr.Name (PySem.Str.ofString "_") ⟨0, 0, 0, 0⟩) (fun _ => rfl) ?_; refine' kda_item (knd := PySem.strKind _ _) ?N ?m ?d (strKind_is _ _ _ _) ?l ?_; (case N => k_asm); (case m => k_mem); (case d => k_asm); (case l => assumption); k_whole)))) | (((with_reducible show wpAny _ _ (setItem (Value.ref _) (Value.str _ _) _) _ _ _); k_dflt (refine' kept_put ?F ?N ?U ?d ?K ?l ?z ?_; (case F => k_asm); (case N => k_asm); (case U => k_updF); (case d => assumption); (case K => assumption); (case l => assumption); (case z => assumption); k_whole); intro _ _ _ N'Z _ _; (try dsimp only at N'Z); (try k_sweep))) | ((with_reducible show wpAny _ _ (compareOp CmpOp.In (Value.str _ _) (Value.ref _)) _ _ _); ((with_reducible show wpAny _ _ (compareOp _ (Value.str _ _) (Value.ref _)) _ _ _); k_dflt (refine' kept_in ?N ?m ?d ?l ?K ?_ ?_; (case N => k_asm); (case m => k_mem); (case d => assumption); (case l => assumption); (case K => assumption)); all_goals (first | (intro _ _ _ _ hr9Z; obtain ⟨t9Z, hr9Z⟩ := hr9Z; subst hr9Z) | (intro _)))) | ((with_reducible show wpAny _ _ (compareOp CmpOp.In (Value.str _ _) (Value.ref _)) _ _ _); ((with_reducible show wpAny _ _ (compareOp _ (Value.str _ _) (Value.ref _)) _ _ _); k_dflt (refine' in_setN ?N ?m ?S ?b ?_ ?_; (case N => k_asm); (case m => k_mem); (case S => assumption); (case b => assumption)); all_goals intro _)) | ((with_reducible show wpAny _ _ (binaryOp Operator.Add (Value.str _ _) (Value.str _ _)) _ _ _); (k_dflt (refine' add_short ?a ?b ?_; (case a => assumption); (case b => decide +kernel)); intro _ _)) | walk1 | (dsimp only; walk1) | (leave1; walk_say "STEP leave1"; try dsimp only)))
      have hK9 : pre.lookup name = none := by assumption
      have hin9 : name ∉ told := by assumption
      refine RS.loop_set (news := rdrX w x d S Dl D oS (W.listOf arr n) oD t1 t2 t3 n9) (fun seen m₁ => m₁ (Str.ofString "self") = some (.ref x) ∧ m₁ (Str.ofString "filename") = some fv ∧ m₁ (Str.ofString "modulename") = some (.str name tn) ∧ ∀ t ∈ seen, Txt.startswith name (t ++ Str.ofString ".") = false) rfl (by k_asm) (by k_asm) (.inr (by k_mem)) hS9 h0 (by omega) ?_ ?_ ?_
      · exact ⟨rfl, rfl, rfl, fun _ h => nomatch h⟩
      · rintro k tk9 seen m₁ h tk dr extra hk ⟨e1, e2, e3, hno⟩ F1 N1 offX
        rw [map3 e1 e2 e3] at F1
        simp only [List.cons_append, List.nil_append] at N1
        have oX : ∀ q ∈ extra, q.1 ≠ D := offX _ (.head _)
        have hkl := htl k hk
        clear F8 N8
        repeat' ((first | (k_unfold; (try dsimp only)) | (refine' (?hh : NextQ _ _) _ ?_; (case hh => with_reducible assumption)) | (refine' (?hh : RestQ _ _) _ _ True.intro ?_; (case hh => with_reducible assumption)) | (((with_reducible show wpAny _ _ (subscriptTail _ _ (Value.ref _) (Value.str _ _)) _ _ _); k_dflt (first | (refine' kda_item (knd := PySem.strKind _ _) ?N ?m ?d (strKind_is _ _ _ _) ?l ?_; (case N => k_asm); (case m => k_mem); (case d => k_asm); (case l => assumption); k_whole) | (refine kba_turn (value' := PySem.Expr.Name (PySem.Str.ofString "_") ⟨0, 0, 0, 0⟩) (fun _ => rfl) ?_; refine' kda_item (knd := PySem.strKind _ _) ?N ?m ?d (strKind_is _ _ _ _) ?l ?_; (case N => k_asm); (case m => k_mem); (case d => k_asm); (case l => assumption); k_whole)))) | (((with_reducible show wpAny _ _ (setItem (Value.ref _) (Value.str _ _) _) _ _ _); k_dflt (refine' kept_put ?F ?N ?U ?d ?K ?l ?z ?_; (case F => k_asm); (case N => k_asm); (case U => k_updF); (case d => assumption); (case K => assumption); (case l => assumption); (case z => assumption); k_whole); intro _ _ _ N'Z _ _; (try dsimp only at N'Z); (try k_sweep))) | ((with_reducible show wpAny _ _ (compareOp CmpOp.In (Value.str _ _) (Value.ref _)) _ _ _); ((with_reducible show wpAny _ _ (compareOp _ (Value.str _ _) (Value.ref _)) _ _ _); k_dflt (refine' kept_in ?N ?m ?d ?l ?K ?_ ?_; (case N => k_asm); (case m => k_mem); (case d => assumption); (case l => assumption); (case K => assumption)); all_goals (first | (intro _ _ _ _ hr9Z; obtain ⟨t9Z, hr9Z⟩ := hr9Z; subst hr9Z) | (intro _)))) | ((with_reducible show wpAny _ _ (compareOp CmpOp.In (Value.str _ _) (Value.ref _)) _ _ _); ((with_reducible show wpAny _ _ (compareOp _ (Value.str _ _) (Value.ref _)) _ _ _); k_dflt (refine' in_setN ?N ?m ?S ?b ?_ ?_; (case N => k_asm); (case m => k_mem); (case S => assumption); (case b => assumption)); all_goals intro _)) | ((with_reducible show wpAny _ _ (binaryOp Operator.Add (Value.str _ _) (Value.str _ _)) _ _ _); (k_dflt (refine' add_short ?a ?b ?_; (case a => assumption); (case b => decide +kernel)); intro _ _)) | walk1 | (dsimp only; walk1) | (leave1; walk_say "STEP leave1"; try dsimp only)))
        · (((try dsimp only); (try k_unfold); (try dsimp only)))
          obtain ⟨a1, a2, a3⟩ := fin9 _ _ _ (by assumption) (News.sub (by assumption) (List.forall_mem_cons.mpr ⟨by k_mem, List.forall_mem_cons.mpr ⟨by k_mem, List.forall_mem_cons.mpr ⟨by k_mem, List.forall_mem_cons.mpr ⟨by k_mem, List.forall_mem_cons.mpr ⟨by k_mem, (fun _ h => nomatch h)⟩⟩⟩⟩⟩))
          exact hret _ _ _ _ _ _ a1 a2 a3 (by assumption) (K9.new hK9 (namesV_1 (.inr (.inl ⟨k, hk, by assumption⟩)) _)) ⟨_, _, rfl, names_new1 hK9 (.inr (.inl ⟨k, hk, by assumption⟩))⟩
        · exact ⟨_, _, _, rfl, by k_asm, by k_asm, rfl, rfl, rfl, no_snoc hno (by assumption)⟩
      · rintro seen m₁ h tk dr hall ⟨e1, e2, e3, hno⟩ F1 N1
        rw [map3 e1 e2 e3] at F1
        have hno' : ∀ t ∈ told, Txt.startswith name (t ++ Str.ofString ".") = false := fun t ht => hno t (hall t ht)
        clear F8 N8
        rcases hfv with ⟨rfl, rfl⟩ | ⟨y, ty, rfl, rfl⟩
        · repeat' ((first | (k_unfold; (try dsimp only)) | (refine' (?hh : NextQ _ _) _ ?_; (case hh => with_reducible assumption)) | (refine' (?hh : RestQ _ _) _ _ True.intro ?_; (case hh => with_reducible assumption)) | (((with_reducible show wpAny _ _ (subscriptTail _ _ (Value.ref _) (Value.str _ _)) _ _ _); k_dflt (first | (refine' kda_item (knd := PySem.strKind _ _) ?N ?m ?d (strKind_is _ _ _ _) ?l ?_; (case N => k_asm); (case m => k_mem); (case d => k_asm); (case l => assumption); k_whole) | (refine kba_turn (value' := PySem.Expr.Name (PySem.Str.ofString "_") ⟨0, 0, 0, 0⟩) (fun _ => rfl) ?_; refine' kda_item (knd := PySem.strKind _ _) ?N ?m ?d (strKind_is _ _ _ _) ?l ?_; (case N => k_asm); (case m => k_mem); (case d => k_asm); (case l => assumption); k_whole)))) | (((with_reducible show wpAny _ _ (setItem (Value.ref _) (Value.str _ _) _) _ _ _); k_dflt (refine' kept_put ?F ?N ?U ?d ?K ?l ?z ?_; (case F => k_asm); (case N => k_asm); (case U => k_updF); (case d => assumption); (case K => assumption); (case l => assumption); (case z => assumption); k_whole); intro _ _ _ N'Z _ _; (try dsimp only at N'Z); (try k_sweep))) | ((with_reducible show wpAny _ _ (compareOp CmpOp.In (Value.str _ _) (Value.ref _)) _ _ _); ((with_reducible show wpAny _ _ (compareOp _ (Value.str _ _) (Value.ref _)) _ _ _); k_dflt (refine' kept_in ?N ?m ?d ?l ?K ?_ ?_; (case N => k_asm); (case m => k_mem); (case d => assumption); (case l => assumption); (case K => assumption)); all_goals (first | (intro _ _ _ _ hr9Z; obtain ⟨t9Z, hr9Z⟩ := hr9Z; subst hr9Z) | (intro _)))) | ((with_reducible show wpAny _ _ (compareOp CmpOp.In (Value.str _ _) (Value.ref _)) _ _ _); ((with_reducible show wpAny _ _ (compareOp _ (Value.str _ _) (Value.ref _)) _ _ _); k_dflt (refine' in_setN ?N ?m ?S ?b ?_ ?_; (case N => k_asm); (case m => k_mem); (case S => assumption); (case b => assumption)); all_goals intro _)) | ((with_reducible show wpAny _ _ (binaryOp Operator.Add (Value.str _ _) (Value.str _ _)) _ _ _); (k_dflt (refine' add_short ?a ?b ?_; (case a => assumption); (case b => decide +kernel)); intro _ _)) | walk1 | (dsimp only; walk1) | (leave1; walk_say "STEP leave1"; try dsimp only)))
          (((try dsimp only); (try k_unfold); (try dsimp only)))
          have hit9 : NamesHit told dirs none name := .inr (.inr trivial)
          obtain ⟨a1, a2, a3⟩ := fin9 _ _ _ (by assumption) (by assumption)
          exact hret _ _ _ _ _ _ a1 a2 a3 (by assumption) (K9.new hK9 (namesV_1 hit9 _)) ⟨_, _, rfl, names_new1 hK9 hit9⟩
        · (repeat' ((fail_if_success (with_reducible show wpAny _ _ (exec (Stmt.For _ _ _ _ _) _) _ _ _)); (first | (k_unfold; (try dsimp only)) | (refine' (?hh : NextQ _ _) _ ?_; (case hh => with_reducible assumption)) | (refine' (?hh : RestQ _ _) _ _ True.intro ?_; (case hh => with_reducible assumption)) | (((with_reducible show wpAny _ _ (subscriptTail _ _ (Value.ref _) (Value.str _ _)) _ _ _); k_dflt (first | (refine' kda_item (knd := PySem.strKind _ _) ?N ?m ?d (strKind_is _ _ _ _) ?l ?_; (case N => k_asm); (case m => k_mem); (case d => k_asm); (case l => assumption); k_whole) | (refine kba_turn (value' := PySem.Expr.Name (PySem.Str.ofString "_") ⟨0, 0, 0, 0⟩) (fun _ => rfl) ?_; refine' kda_item (knd := PySem.strKind _ _) ?N ?m ?d (strKind_is _ _ _ _) ?l ?_; (case N => k_asm); (case m => k_mem); (case d => k_asm); (case l => assumption); k_whole)))) | (((with_reducible show wpAny _ _ (setItem (Value.ref _) (Value.str _ _) _) _ _ _); k_dflt (refine' kept_put ?F ?N ?U ?d ?K ?l ?z ?_; (case F => k_asm); (case N => k_asm); (case U => k_updF); (case d => assumption); (case K => assumption); (case l => assumption); (case z => assumption); k_whole); intro _ _ _ N'Z _ _; (try dsimp only at N'Z); (try k_sweep))) | ((with_reducible show wpAny _ _ (compareOp CmpOp.In (Value.str _ _) (Value.ref _)) _ _ _); ((with_reducible show wpAny _ _ (compareOp _ (Value.str _ _) (Value.ref _)) _ _ _); k_dflt (refine' kept_in ?N ?m ?d ?l ?K ?_ ?_; (case N => k_asm); (case m => k_mem); (case d => assumption); (case l => assumption); (case K => assumption)); all_goals (first | (intro _ _ _ _ hr9Z; obtain ⟨t9Z, hr9Z⟩ := hr9Z; subst hr9Z) | (intro _)))) | ((with_reducible show wpAny _ _ (compareOp CmpOp.In (Value.str _ _) (Value.ref _)) _ _ _); ((with_reducible show wpAny _ _ (compareOp _ (Value.str _ _) (Value.ref _)) _ _ _); k_dflt (refine' in_setN ?N ?m ?S ?b ?_ ?_; (case N => k_asm); (case m => k_mem); (case S => assumption); (case b => assumption)); all_goals intro _)) | ((with_reducible show wpAny _ _ (binaryOp Operator.Add (Value.str _ _) (Value.str _ _)) _ _ _); (k_dflt (refine' add_short ?a ?b ?_; (case a => assumption); (case b => decide +kernel)); intro _ _)) | walk1 | (dsimp only; walk1) | (leave1; walk_say "STEP leave1"; try dsimp only))))
          refine for_go ?_ (by intro _; rfl)
          repeat' ((fail_if_success (with_reducible show wpAny _ _ (pyIter _) _ _ _)); (first | (k_unfold; (try dsimp only)) | (refine' (?hh : NextQ _ _) _ ?_; (case hh => with_reducible assumption)) | (refine' (?hh : RestQ _ _) _ _ True.intro ?_; (case hh => with_reducible assumption)) | (((with_reducible show wpAny _ _ (subscriptTail _ _ (Value.ref _) (Value.str _ _)) _ _ _); k_dflt (first | (refine' kda_item (knd := PySem.strKind _ _) ?N ?m ?d (strKind_is _ _ _ _) ?l ?_; (case N => k_asm); (case m => k_mem); (case d => k_asm); (case l => assumption); k_whole) | (refine kba_turn (value' := PySem.Expr.Name (PySem.Str.ofString "_") ⟨0, 0, 0, 0⟩) (fun _ => rfl) ?_; refine' kda_item (knd := PySem.strKind _ _) ?N ?m ?d (strKind_is _ _ _ _) ?l ?_; (case N => k_asm); (case m => k_mem); (case d => k_asm); (case l => assumption); k_whole)))) | (((with_reducible show wpAny _ _ (setItem (Value.ref _) (Value.str _ _) _) _ _ _); k_dflt (refine' kept_put ?F ?N ?U ?d ?K ?l ?z ?_; (case F => k_asm); (case N => k_asm); (case U => k_updF); (case d => assumption); (case K => assumption); (case l => assumption); (case z => assumption); k_whole); intro _ _ _ N'Z _ _; (try dsimp only at N'Z); (try k_sweep))) | ((with_reducible show wpAny _ _ (compareOp CmpOp.In (Value.str _ _) (Value.ref _)) _ _ _); ((with_reducible show wpAny _ _ (compareOp _ (Value.str _ _) (Value.ref _)) _ _ _); k_dflt (refine' kept_in ?N ?m ?d ?l ?K ?_ ?_; (case N => k_asm); (case m => k_mem); (case d => assumption); (case l => assumption); (case K => assumption)); all_goals (first | (intro _ _ _ _ hr9Z; obtain ⟨t9Z, hr9Z⟩ := hr9Z; subst hr9Z) | (intro _)))) | ((with_reducible show wpAny _ _ (compareOp CmpOp.In (Value.str _ _) (Value.ref _)) _ _ _); ((with_reducible show wpAny _ _ (compareOp _ (Value.str _ _) (Value.ref _)) _ _ _); k_dflt (refine' in_setN ?N ?m ?S ?b ?_ ?_; (case N => k_asm); (case m => k_mem); (case S => assumption); (case b => assumption)); all_goals intro _)) | ((with_reducible show wpAny _ _ (binaryOp Operator.Add (Value.str _ _) (Value.str _ _)) _ _ _); (k_dflt (refine' add_short ?a ?b ?_; (case a => assumption); (case b => decide +kernel)); intro _ _)) | walk1 | (dsimp only; walk1) | (leave1; walk_say "STEP leave1"; try dsimp only)))
          refine loop_list (items := arr) (fun i m₁ n₁ => m₁ (Str.ofString "self") = some (.ref x) ∧ m₁ (Str.ofString "filename") = some (.str y ty) ∧ m₁ (Str.ofString "modulename") = some (.str name tn) ∧ n₁ = rdrX w x d S Dl D oS (W.listOf arr n) oD t1 t2 t3 n9 ∧ ∀ q ∈ dirs.take i, Txt.startswith y (q ++ Str.ofString "/") = false) rfl (by k_asm) (by k_asm) (.inr ⟨_, .tail _ (.head _), rfl, _, rfl⟩) ?_ (.inl ⟨_, _, rfl⟩) ?_ ?_
          · exact ⟨rfl, rfl, rfl, rfl, by simp⟩
          · rintro i v m₂ news₁ h2 tk2 oI I hv ⟨e1, e2, e3, rfl, hno2⟩ hSr F2 N2 offI
            obtain ⟨q, tq, rfl, hq⟩ := RS.strs_get hs9 (by rw [Array.getElem?_toList]; exact hv)
            rw [map3 e1 e2 e3] at F2
            have hql := hdl q (List.mem_of_getElem? hq)
            have o1 := neN (offI _ (.head _))
            dsimp only at o1
            clear F1 N1
            repeat' ((first | (k_unfold; (try dsimp only)) | (refine' (?hh : NextQ _ _) _ ?_; (case hh => with_reducible assumption)) | (refine' (?hh : RestQ _ _) _ _ True.intro ?_; (case hh => with_reducible assumption)) | (((with_reducible show wpAny _ _ (subscriptTail _ _ (Value.ref _) (Value.str _ _)) _ _ _); k_dflt (first | (refine' kda_item (knd := PySem.strKind _ _) ?N ?m ?d (strKind_is _ _ _ _) ?l ?_; (case N => k_asm); (case m => k_mem); (case d => k_asm); (case l => assumption); k_whole) | (refine kba_turn (value' := PySem.Expr.Name (PySem.Str.ofString "_") ⟨0, 0, 0, 0⟩) (fun _ => rfl) ?_; refine' kda_item (knd := PySem.strKind _ _) ?N ?m ?d (strKind_is _ _ _ _) ?l ?_; (case N => k_asm); (case m => k_mem); (case d => k_asm); (case l => assumption); k_whole)))) | (((with_reducible show wpAny _ _ (setItem (Value.ref _) (Value.str _ _) _) _ _ _); k_dflt (refine' kept_put ?F ?N ?U ?d ?K ?l ?z ?_; (case F => k_asm); (case N => k_asm); (case U => k_updF); (case d => assumption); (case K => assumption); (case l => assumption); (case z => assumption); k_whole); intro _ _ _ N'Z _ _; (try dsimp only at N'Z); (try k_sweep))) | ((with_reducible show wpAny _ _ (compareOp CmpOp.In (Value.str _ _) (Value.ref _)) _ _ _); ((with_reducible show wpAny _ _ (compareOp _ (Value.str _ _) (Value.ref _)) _ _ _); k_dflt (refine' kept_in ?N ?m ?d ?l ?K ?_ ?_; (case N => k_asm); (case m => k_mem); (case d => assumption); (case l => assumption); (case K => assumption)); all_goals (first | (intro _ _ _ _ hr9Z; obtain ⟨t9Z, hr9Z⟩ := hr9Z; subst hr9Z) | (intro _)))) | ((with_reducible show wpAny _ _ (compareOp CmpOp.In (Value.str _ _) (Value.ref _)) _ _ _); ((with_reducible show wpAny _ _ (compareOp _ (Value.str _ _) (Value.ref _)) _ _ _); k_dflt (refine' in_setN ?N ?m ?S ?b ?_ ?_; (case N => k_asm); (case m => k_mem); (case S => assumption); (case b => assumption)); all_goals intro _)) | ((with_reducible show wpAny _ _ (binaryOp Operator.Add (Value.str _ _) (Value.str _ _)) _ _ _); (k_dflt (refine' add_short ?a ?b ?_; (case a => assumption); (case b => decide +kernel)); intro _ _)) | walk1 | (dsimp only; walk1) | (leave1; walk_say "STEP leave1"; try dsimp only)))
            · (((try dsimp only); (try k_unfold); (try dsimp only)))
              have hit9 : NamesHit told dirs (some y) name := .inr (.inr ⟨q, List.mem_of_getElem? hq, by assumption⟩)
              obtain ⟨a1, a2, a3⟩ := fin9 _ _ _ (by assumption) (News.sub (by assumption) (List.forall_mem_cons.mpr ⟨by k_mem, List.forall_mem_cons.mpr ⟨by k_mem, List.forall_mem_cons.mpr ⟨by k_mem, List.forall_mem_cons.mpr ⟨by k_mem, List.forall_mem_cons.mpr ⟨by k_mem, (fun _ h => nomatch h)⟩⟩⟩⟩⟩))
              exact hret _ _ _ _ _ _ a1 a2 a3 (by assumption) (K9.new hK9 (namesV_1 hit9 _)) ⟨_, _, rfl, names_new1 hK9 hit9⟩
            · exact ⟨_, _, _, _, rfl, by k_asm, by k_asm, offI, hSr, rfl, rfl, rfl, rfl, take_f hno2 hq (by assumption)⟩
          · rintro m₂ news₁ h2 tk2 ⟨e1, e2, e3, rfl, hno2⟩ F2 N2
            rw [map3 e1 e2 e3] at F2
            rw [show arr.size = dirs.length by rw [← Array.length_toList]; exact hs9.length, List.take_length] at hno2
            have hnh : ¬ NamesHit told dirs (some y) name := by
              rintro (h | ⟨t, ht, h⟩ | ⟨t, ht, h⟩)
              · exact hin9 h
              · rw [hno' t ht] at h; cases h
              · rw [hno2 t ht] at h; cases h
            clear F1 N1
            repeat' ((first | (k_unfold; (try dsimp only)) | (refine' (?hh : NextQ _ _) _ ?_; (case hh => with_reducible assumption)) | (refine' (?hh : RestQ _ _) _ _ True.intro ?_; (case hh => with_reducible assumption)) | (((with_reducible show wpAny _ _ (subscriptTail _ _ (Value.ref _) (Value.str _ _)) _ _ _); k_dflt (first | (refine' kda_item (knd := PySem.strKind _ _) ?N ?m ?d (strKind_is _ _ _ _) ?l ?_; (case N => k_asm); (case m => k_mem); (case d => k_asm); (case l => assumption); k_whole) | (refine kba_turn (value' := PySem.Expr.Name (PySem.Str.ofString "_") ⟨0, 0, 0, 0⟩) (fun _ => rfl) ?_; refine' kda_item (knd := PySem.strKind _ _) ?N ?m ?d (strKind_is _ _ _ _) ?l ?_; (case N => k_asm); (case m => k_mem); (case d => k_asm); (case l => assumption); k_whole)))) | (((with_reducible show wpAny _ _ (setItem (Value.ref _) (Value.str _ _) _) _ _ _); k_dflt (refine' kept_put ?F ?N ?U ?d ?K ?l ?z ?_; (case F => k_asm); (case N => k_asm); (case U => k_updF); (case d => assumption); (case K => assumption); (case l => assumption); (case z => assumption); k_whole); intro _ _ _ N'Z _ _; (try dsimp only at N'Z); (try k_sweep))) | ((with_reducible show wpAny _ _ (compareOp CmpOp.In (Value.str _ _) (Value.ref _)) _ _ _); ((with_reducible show wpAny _ _ (compareOp _ (Value.str _ _) (Value.ref _)) _ _ _); k_dflt (refine' kept_in ?N ?m ?d ?l ?K ?_ ?_; (case N => k_asm); (case m => k_mem); (case d => assumption); (case l => assumption); (case K => assumption)); all_goals (first | (intro _ _ _ _ hr9Z; obtain ⟨t9Z, hr9Z⟩ := hr9Z; subst hr9Z) | (intro _)))) | ((with_reducible show wpAny _ _ (compareOp CmpOp.In (Value.str _ _) (Value.ref _)) _ _ _); ((with_reducible show wpAny _ _ (compareOp _ (Value.str _ _) (Value.ref _)) _ _ _); k_dflt (refine' in_setN ?N ?m ?S ?b ?_ ?_; (case N => k_asm); (case m => k_mem); (case S => assumption); (case b => assumption)); all_goals intro _)) | ((with_reducible show wpAny _ _ (binaryOp Operator.Add (Value.str _ _) (Value.str _ _)) _ _ _); (k_dflt (refine' add_short ?a ?b ?_; (case a => assumption); (case b => decide +kernel)); intro _ _)) | walk1 | (dsimp only; walk1) | (leave1; walk_say "STEP leave1"; try dsimp only)))
            (((try dsimp only); (try k_unfold); (try dsimp only)))
            obtain ⟨a1, a2, a3⟩ := fin9 _ _ _ (by assumption) (by assumption)
            exact hret _ _ _ _ _ _ a1 a2 a3 (by assumption) (K9.new hK9 (namesV_0 hnh _)) ⟨_, _, rfl, names_new0 hK9 hnh⟩
    · (((try dsimp only); (try k_unfold); (try dsimp only)))
      obtain ⟨a1, a2, a3⟩ := fin9 _ _ _ (by assumption) (by assumption)
      exact hret _ _ _ _ _ _ a1 a2 a3 (by assumption) (K9.old (by assumption)) ⟨_, _, rfl, lookup_old (by assumption)⟩)
end
end
section
open PySem PySem.W PySem.Calls PyProof.Rows
set_option maxRecDepth 100000
def After (P : Shared → Prop) (f : Flow) (s : Shared) : Prop := f = .next ∧ P s
theorem cut_stmt {prog : Program} {w : World} {A : Around} {E : Value → Shared → Prop} {s : Shared} {t : Sem Flow} {Q : Flow → Shared → Prop} (P : Shared → Prop) (h1 : wpAny (model prog w) A t (After P) NoE s) (h2 : ∀ s', P s' → Q .next s') : wpAny (model prog w) A t Q E s :=
  wpAny_mono h1 (fun f s' h => by obtain ⟨rfl, hp⟩ := h; exact h2 s' hp) fun _ _ x => x.elim
def OffC (cs Y : List (Addr × Obj)) : Prop := ∀ p ∈ Y, ∀ c ∈ cs, p.1 ≠ c.1
section
variable {g h' : Heap} {L T l I C D : Addr} {oT ol oI oC oD : Obj} {cs Y : List (Addr × Obj)}
theorem off3_add {x : Addr} {o : Obj} (h : LCg.Off3 I C D (cs ++ Y)) (h1 : x ≠ I) (h2 : x ≠ C) (h3 : x ≠ D) : LCg.Off3 I C D (cs ++ ((x, o) :: Y)) := by
  refine LCg.Off3.of fun p hp => ?_
  rcases List.mem_append.mp hp with hp | hp
  · exact h.mem p (List.mem_append_left _ hp)
  · rcases List.mem_cons.mp hp with rfl | hp
    · exact ⟨h1, h2, h3⟩
    · exact h.mem p (List.mem_append_right _ hp)
theorem offC_add {x : Addr} {o : Obj} (h : OffC cs Y) (hx : ∀ c ∈ cs, x ≠ c.1) : OffC cs ((x, o) :: Y) := by
  intro p hp
  rcases List.mem_cons.mp hp with rfl | hp
  · exact hx
  · exact h p hp
theorem one_end (N : News g L h' ((l, ol) :: (I, oI) :: (C, oC) :: (D, oD) :: (cs ++ Y))) (hl : ∀ p ∈ (I, oI) :: (C, oC) :: (D, oD) :: (cs ++ Y), p.1 ≠ l) (o3 : LCg.Off3 I C D (cs ++ Y)) (oc : OffC cs Y) :
    News g L h' ((I, oI) :: (C, oC) :: (D, oD) :: (cs ++ ((l, ol) :: Y))) ∧ LCg.Off3 I C D (cs ++ ((l, ol) :: Y)) ∧ OffC cs ((l, ol) :: Y) := by
  refine ⟨News.sub N fun p hp => ?_, off3_add o3 (Ne.symm (hl _ (.head _))) (Ne.symm (hl _ (.tail _ (.head _)))) (Ne.symm (hl _ (.tail _ (.tail _ (.head _))))), offC_add oc fun c hc => Ne.symm (hl c (.tail _ (.tail _ (.tail _ (List.mem_append_left _ hc)))))⟩
  rcases List.mem_cons.mp hp with rfl | hp
  · exact .tail _ (.head _)
  rcases List.mem_cons.mp hp with rfl | hp
  · exact .tail _ (.tail _ (.head _))
  rcases List.mem_cons.mp hp with rfl | hp
  · exact .tail _ (.tail _ (.tail _ (.head _)))
  rcases List.mem_append.mp hp with hp | hp
  · exact .tail _ (.tail _ (.tail _ (.tail _ (List.mem_append_left _ hp))))
  rcases List.mem_cons.mp hp with rfl | hp
  · exact .head _
  · exact .tail _ (.tail _ (.tail _ (.tail _ (List.mem_append_right _ hp))))
theorem two_end (N : News g L h' ((T, oT) :: (l, ol) :: (I, oI) :: (C, oC) :: (D, oD) :: (cs ++ Y))) (hT : ∀ p ∈ (l, ol) :: (I, oI) :: (C, oC) :: (D, oD) :: (cs ++ Y), p.1 < T) (hl : ∀ p ∈ (I, oI) :: (C, oC) :: (D, oD) :: (cs ++ Y), p.1 ≠ l) (o3 : LCg.Off3 I C D (cs ++ Y)) (oc : OffC cs Y) :
    News g L h' ((I, oI) :: (C, oC) :: (D, oD) :: (cs ++ ((T, oT) :: (l, ol) :: Y))) ∧ LCg.Off3 I C D (cs ++ ((T, oT) :: (l, ol) :: Y)) ∧ OffC cs ((T, oT) :: (l, ol) :: Y) := by
  obtain ⟨a, b, c⟩ := one_end (News.sub N fun p hp => .tail _ hp) hl o3 oc
  refine one_end (News.sub N fun p hp => ?_) (fun p hp => Nat.ne_of_lt ?_) b c
  · rcases List.mem_cons.mp hp with rfl | hp
    · exact .head _
    rcases List.mem_cons.mp hp with rfl | hp
    · exact .tail _ (.tail _ (.head _))
    rcases List.mem_cons.mp hp with rfl | hp
    · exact .tail _ (.tail _ (.tail _ (.head _)))
    rcases List.mem_cons.mp hp with rfl | hp
    · exact .tail _ (.tail _ (.tail _ (.tail _ (.head _))))
    rcases List.mem_append.mp hp with hp | hp
    · exact .tail _ (.tail _ (.tail _ (.tail _ (.tail _ (List.mem_append_left _ hp)))))
    rcases List.mem_cons.mp hp with rfl | hp
    · exact .tail _ (.head _)
    · exact .tail _ (.tail _ (.tail _ (.tail _ (.tail _ (List.mem_append_right _ hp)))))
  · rcases List.mem_cons.mp hp with rfl | hp
    · exact hT _ (.tail _ (.head _))
    rcases List.mem_cons.mp hp with rfl | hp
    · exact hT _ (.tail _ (.tail _ (.head _)))
    rcases List.mem_cons.mp hp with rfl | hp
    · exact hT _ (.tail _ (.tail _ (.tail _ (.head _))))
    rcases List.mem_append.mp hp with hp | hp
    · exact hT p (.tail _ (.tail _ (.tail _ (.tail _ (List.mem_append_left _ hp)))))
    rcases List.mem_cons.mp hp with rfl | hp
    · exact hT _ (.head _)
    · exact hT p (.tail _ (.tail _ (.tail _ (.tail _ (List.mem_append_right _ hp)))))
end
section
variable {prog : Program} {w : World} {A : Around} {E : Value → Shared → Prop} {s : Shared} {g : Heap} {L l : Addr} {m : Str → Option Value} {news : List (Addr × Obj)} {Q : Value → Shared → Prop}
theorem new_tup {vs : List Value} (F : Fr g L s.heap m) (N : News g L s.heap news) (hz : vs.length ≤ 1000)
    (h : ∀ T h', Fr g L h' m → News g L h' ((T, { cls := .type "tuple", data := .seq vs.toArray }) :: news) → (∀ p ∈ news, p.1 < T) → Q (.ref T) { s with heap := h' }) : wpAny (model prog w) A (newTuple vs) Q E s :=
  newTuple_N F N (fun h' F' N' => h _ h' F' N' fun p hp => Heap.lt_size (N p hp).1) (by rw [sizeLine_eq]; omega)
theorem mul2 {ys : List Value} {u : Tok} (F : Fr g L s.heap m) (N : News g L s.heap news) (hm : (l, LCg.lst ys) ∈ news) (hz : ys.length ≤ 1000)
    (h : ∀ D h', Fr g L h' m → News g L h' ((D, W.listOf (ys ++ ys).toArray 0) :: news) → (∀ p ∈ news, p.1 < D) → Q (.ref D) { s with heap := h' }) : wpAny (model prog w) A (binaryOp .Mult (.ref l) (.int 2 u)) Q E s := by
  refine mul_list F N (N _ hm).1 (by decide) (by decide) (by rw [List.size_toArray]; show _ * 2 ≤ _; omega) fun h' F' N' => h _ h' F' ?_ fun p hp => Heap.lt_size (N p hp).1
  have e : List.foldl (fun x1 x2 : Array Value => x1 ++ x2) #[] (List.replicate (if ys.toArray.isEmpty = true then 0 else (2 : Int).toNat) ys.toArray) = (ys ++ ys).toArray := by
    cases ys with
    | nil => rfl
    | cons a b => simp [List.replicate]
  rw [e] at N'
  exact N'
end
section
variable {w : World} {E : Value → Shared → Prop} {s : Shared} {Q : Value → Shared → Prop} {g : Heap} {L : Addr} {m : Str → Option Value} {news : List (Addr × Obj)}
  {p : Program} {loose : List Str} {mean : ExcName → Option Value} {mg mb : Str → Option Value} {dp : Nat} {fr : Option (List Env)} {gd : Option (List Code)} {un : Nat}
theorem use_parts {f : Int} {t : Tok} (F : Fr g L s.heap m) (N : News g L s.heap news) (X : (h0.heap_1 w.params).In g) (T : Top p loose mean mg mb g) (hdp : dp + 1 < recursionLimit) (hun : un + 8 * 1 < cLine)
    (h : ∀ l vs n h' tk', Fr g L h' m → News g L h' ((l, W.listOf (List.toArray vs) n) :: news) → (∀ p ∈ news, p.1 ≠ l) → StrsAre vs (lawParts f) → Q (.ref l) { s with heap := h', toks := tk' }) :
    wpAny (model prg w) ⟨none, dp, fr, gd, un⟩ (call (.ref 209) [.int f t]) Q E s := by
  refine use_ct (c_parts f t) F N X T hdp hun trivial fun r h' tk' F' N' st hp => ?_
  obtain ⟨l, arr, n, rfl, hn, hg, hs⟩ := hp
  have z := News.add F N st hn hg
  exact h l arr.toList n h' tk' F' (by simpa using z.1) z.2 hs
end
section
variable {w : World} {E : Value → Shared → Prop} {s : Shared} {Q : Value → Shared → Prop} {g : Heap} {L : Addr} {m : Str → Option Value} {cs : List (Addr × Obj)}
  {p : Program} {loose : List Str} {mean : ExcName → Option Value} {mg mb : Str → Option Value} {dp : Nat} {fr : Option (List Env)} {gd : Option (List Code)} {un : Nat}
theorem use_drawn {Dn : Addr} {arr : Array Value} {nn : Nat} {ns : List Int} (hI : IntsAre arr.toList ns) (hn : ns.length ≤ 6) (F : Fr g L s.heap m) (N : News g L s.heap ((Dn, W.listOf arr nn) :: cs)) (X : (h0.heap_1 w.params).In g) (T : Top p loose mean mg mb g) (hdp : dp + 2 < recursionLimit) (hun : un + 8 * 2 < cLine)
    (h : ∀ T lt ld la nT X' ms ds as h' tk', MsOk ms → DsOk ds → AsOk as → (1 ≤ ms.length ∧ ms.length ≤ 7) → ds.length ≤ 7 → as.length ≤ 21 → Fr g L h' m → News g L h' ((T, ({ cls := .type "tuple", data := .seq #[.ref lt, .ref ld, .ref la] nT } : Obj)) :: (cs ++ X')) → OffC cs X' →
      DatIn X' (.ref lt) (.list (ms.map datP)) → DatIn X' (.ref ld) (.list (ds.map datP)) → DatIn X' (.ref la) (.list (as.map datA)) → Q (.ref T) { s with heap := h', toks := tk' }) :
    wpAny (model prg w) ⟨none, dp, fr, gd, un⟩ (call (.ref 188) [.ref Dn]) Q E s := by
  refine use_ct (c_drawn Dn arr ns hI hn) F N X T hdp hun ⟨_, (N _ (.head _)).1, rfl, nn, rfl⟩ fun r h' tk' F' N' st hp => ?_
  obtain ⟨ms, ds, as, o1, o2, o3, l1, l2, l3, X', hX, hd⟩ := hp
  obtain ⟨NA, oA⟩ := News.addAll F N st hX
  cases hd with
  | tuple hm ha =>
    rename_i T vs n
    cases ha with
    | cons a1 r1 =>
      cases r1 with
      | cons a2 r2 =>
        cases r2 with
        | cons a3 r3 =>
          cases r3
          cases id a1 with
          | list _ _ =>
            cases id a2 with
            | list _ _ =>
              cases id a3 with
              | list _ _ =>
                refine h T _ _ _ n X' ms ds as h' tk' o1 o2 o3 l1 l2 l3 F' (News.sub NA fun p hp => ?_) (fun p hp c hc => oA c (.tail _ hc) p hp) a1 a2 a3
                rcases List.mem_cons.mp hp with rfl | hp
                · exact List.mem_append_left _ hm
                · rcases List.mem_append.mp hp with hp | hp
                  · exact List.mem_append_right _ (.tail _ hp)
                  · exact List.mem_append_left _ hp
end
/-- a pair of the data -/
def PrX (X : List (Addr × Obj)) (v a b : Value) : Prop := ∃ T n, v = .ref T ∧ (T, ({ cls := .type "tuple", data := .seq #[a, b] n } : Obj)) ∈ X
theorem pr_at {g h : Heap} {L : Addr} {X nw : List (Addr × Obj)} {vs : List Value} {ds : List Dat} {i : Nat} {v a b : Value} {d1 d2 : Dat} (N : News g L h nw) (sub : ∀ p ∈ X, p ∈ nw) (ha : DatAll X vs ds) (hv : vs[i]? = some v) (hd : ds[i]? = some (.tuple [d1, d2])) (hp : PrX X v a b) : DatIn X a d1 ∧ DatIn X b d2 := by
  have hlt : i < ds.length := (List.getElem?_eq_some_iff.mp hd).1
  obtain ⟨v', e, hdv⟩ := ha.get hlt
  rw [hv] at e
  cases e
  have e2 : ds[i] = .tuple [d1, d2] := by obtain ⟨_, e⟩ := List.getElem?_eq_some_iff.mp hd; exact e
  rw [e2] at hdv
  obtain ⟨T, n, rfl, hm⟩ := hp
  cases hdv with
  | tuple hm' ha' =>
    have h1 := (N _ (sub _ hm)).1
    have h2 := (N _ (sub _ hm')).1
    rw [h1] at h2
    have h3 := (Data.seq.inj (congrArg Obj.data (Option.some.inj h2))).1
    cases ha' with
    | cons q1 r =>
      cases r with
      | cons q2 r2 =>
        cases r2
        simp at h3
        obtain ⟨rfl, rfl⟩ := h3
        exact ⟨q1, q2⟩
theorem pr_of {X : List (Addr × Obj)} {vs : List Value} {ds : List Dat} {i : Nat} {v : Value} {d1 d2 : Dat} (ha : DatAll X vs ds) (hv : vs[i]? = some v) (hd : ds[i]? = some (.tuple [d1, d2])) : ∃ T a b, v = .ref T ∧ PrX X v a b ∧ ∃ n, (T, ({ cls := .type "tuple", data := .seq #[a, b] n } : Obj)) ∈ X := by
  have hlt : i < ds.length := (List.getElem?_eq_some_iff.mp hd).1
  obtain ⟨v', e, hdv⟩ := ha.get hlt
  rw [hv] at e
  cases e
  have e2 : ds[i] = .tuple [d1, d2] := by obtain ⟨_, e⟩ := List.getElem?_eq_some_iff.mp hd; exact e
  rw [e2] at hdv
  cases hdv with
  | tuple hm' ha' =>
    cases ha' with
    | cons q1 r =>
      cases r with
      | cons q2 r2 =>
        cases r2
        exact ⟨_, _, _, rfl, ⟨_, _, rfl, hm'⟩, _, hm'⟩
/-- the list that the data says -/
theorem list_of {X : List (Addr × Obj)} {l : Addr} {ds : List Dat} (h : DatIn X (.ref l) (.list ds)) : ∃ vs n, (l, W.listOf (List.toArray vs) n) ∈ X ∧ DatAll X vs ds := by
  cases h with
  | list hm ha => exact ⟨_, _, hm, ha⟩
theorem DatIn.int_ {X : List (Addr × Obj)} {v : Value} {i : Int} (h : DatIn X v (.int i)) : ∃ t, v = .int i t := by cases h; exact ⟨_, rfl⟩
theorem datP_get {ms : List (Int × Int)} {i : Nat} {q : Int × Int} (h : ms[i]? = some q) : (ms.map datP)[i]? = some (.tuple [.int q.1, .int q.2]) := by rw [List.getElem?_map, h]; rfl
theorem datA_get {as : List (Int × Option Int)} {i : Nat} {q : Int × Option Int} (h : as[i]? = some q) : (as.map datA)[i]? = some (.tuple [.int q.1, datO q.2]) := by rw [List.getElem?_map, h]; rfl
/-- the ledger of the law: the cells, then data -/
def JX (cs X : List (Addr × Obj)) (ds : Nat → List Dat) (i : Nat) (ys : List Value) (nw : List (Addr × Obj)) : Prop := ∃ Z, nw = cs ++ Z ∧ OffC cs Z ∧ (∀ p ∈ X, p ∈ Z) ∧ DatAll Z ys (ds i)
theorem off1_mem {D : Addr} : ∀ {l : List (Addr × Obj)}, LCg.Off1 D l → ∀ p ∈ l, p.1 ≠ D
  | [], _, _, h => nomatch h
  | _ :: _, x, p, h => by
    rcases List.mem_cons.mp h with rfl | h
    · exact x.1
    · exact off1_mem x.2 p h
theorem jx_end {g h : Heap} {L D : Addr} {cs X nw : List (Addr × Obj)} {ds : Nat → List Dat} {n : Nat} {ys : List Value} (J : JX cs X ds n ys nw) (N : News g L h ((D, LCg.lst ys) :: nw)) (o : LCg.Off1 D nw) :
    ∃ Y, News g L h (cs ++ Y) ∧ OffC cs Y ∧ (∀ p ∈ X, p ∈ Y) ∧ DatIn Y (.ref D) (.list (ds n)) ∧ (D, LCg.lst ys) ∈ Y ∧ DatAll Y ys (ds n) := by
  obtain ⟨Z, rfl, oZ, hX, ha⟩ := J
  have ha' : DatAll ((D, LCg.lst ys) :: Z) ys (ds n) := ha.mono fun _ hp => .tail _ hp
  refine ⟨(D, LCg.lst ys) :: Z, News.sub N fun p hp => ?_, offC_add oZ fun c hc => Ne.symm (off1_mem o c (List.mem_append_left _ hc)), fun p hp => .tail _ (hX p hp), .list (.head _) ha', .head _, ha'⟩
  rcases List.mem_append.mp hp with hp | hp
  · exact .tail _ (List.mem_append_left _ hp)
  · rcases List.mem_cons.mp hp with rfl | hp
    · exact .head _
    · exact .tail _ (List.mem_append_right _ hp)
/-- a new object joins the data -/
theorem led_add {g h : Heap} {L D : Addr} {o : Obj} {cs Y : List (Addr × Obj)} (N : News g L h ((D, o) :: (cs ++ Y))) (l1 : ∀ p ∈ cs ++ Y, p.1 < D) (oY : OffC cs Y) : News g L h (cs ++ ((D, o) :: Y)) ∧ OffC cs ((D, o) :: Y) := by
  refine ⟨News.sub N fun p hp => ?_, offC_add oY fun c hc => Nat.ne_of_gt (l1 c (List.mem_append_left _ hc))⟩
  rcases List.mem_append.mp hp with hp | hp
  · exact .tail _ (List.mem_append_left _ hp)
  · rcases List.mem_cons.mp hp with rfl | hp
    · exact .head _
    · exact .tail _ (List.mem_append_right _ hp)
section
variable {prog : Program} {w : World} {A : Around} {E : Value → Shared → Prop} {s : Shared} {g : Heap} {L l a b : Addr} {m : Str → Option Value} {news : List (Addr × Obj)} {Q : Value → Shared → Prop} {value slice : PySem.Expr} {vk : Value} {vs ws : List Value} {ops : List Value}
theorem rev_T (F : Fr g L s.heap m) (N : News g L s.heap news) (hm : (l, LCg.lst vs) ∈ news) (pk : IsPart vk (some (-1))) (hz : vs.length ≤ 1000)
    (h : ∀ D h', Fr g L h' m → News g L h' ((D, W.listOf vs.reverse.toArray 0) :: news) → (∀ p ∈ news, p.1 < D) → Q (.ref D) { s with heap := h' })
    (hs : subscripted slice false (.ref l) (.ref s.heap.objs.size) = operate ops (getItem (.ref l) (.ref s.heap.objs.size))) :
    wpAny (model prog w) A (subscriptTail value slice (.ref l) (.ref s.heap.objs.size)) Q E { s with heap := s.heap.push { cls := .type "slice", data := .fields #[.none, .none, vk] } } :=
  kba_turn (value' := .Name (Str.ofString "x") default) (fun _ => rfl) (krv_lit (its := vs.toArray) F N ⟨_, (N _ hm).1, rfl, _, rfl⟩ pk (by simp) h hs (fun _ => rfl) (by rw [List.size_toArray, sizeLine_eq]; omega))
theorem add_T {n1 n2 : Nat} (F : Fr g L s.heap m) (N : News g L s.heap news) (ha : (a, W.listOf vs.toArray n1) ∈ news) (hb : (b, W.listOf ws.toArray n2) ∈ news) (hz1 : vs.length ≤ 1000) (hz2 : ws.length ≤ 1000)
    (h : ∀ D h', Fr g L h' m → News g L h' ((D, W.listOf (vs ++ ws).toArray 0) :: news) → (∀ p ∈ news, p.1 < D) → Q (.ref D) { s with heap := h' }) : wpAny (model prog w) A (binaryOp .Add (.ref a) (.ref b)) Q E s :=
  kmk_add_lit (its := vs.toArray) (its2 := ws.toArray) F N ⟨_, (N _ ha).1, rfl, n1, rfl⟩ ⟨_, (N _ hb).1, rfl, n2, rfl⟩ (by simp) h (by simp; rw [sizeLine_eq]; omega)
end
theorem datAll_reverse {X : List (Addr × Obj)} : ∀ {vs : List Value} {ds : List Dat}, DatAll X vs ds → DatAll X vs.reverse ds.reverse
  | _, _, .nil => .nil
  | _, _, .cons h r => by rw [List.reverse_cons, List.reverse_cons]; exact (datAll_reverse r).append (.one h)
theorem dat_take {α : Type} {f : α → Dat} {ms : List α} {Z Z' : List (Addr × Obj)} {ys : List Value} {i : Nat} {q : α} {v : Value} (ha : DatAll Z ys ((ms.take i).map f)) (sub : ∀ p ∈ Z, p ∈ Z') (hq : ms[i]? = some q) (h : DatIn Z' v (f q)) : DatAll Z' (ys ++ [v]) ((ms.take (i + 1)).map f) := by
  rw [append_pre hq, List.map_append]
  exact (ha.mono sub).append (.one h)
theorem size_of {α : Type} {X : List (Addr × Obj)} {vs : List Value} {f : α → Dat} {ms : List α} (h : DatAll X vs (ms.map f)) : vs.toArray.size = ms.length := by rw [List.size_toArray, h.length, List.length_map]
theorem offC_addr {cs cs' Y : List (Addr × Obj)} (h : OffC cs Y) (e : cs.map (·.1) = cs'.map (·.1)) : OffC cs' Y := fun p hp c hc => by
  have : c.1 ∈ cs.map (·.1) := e ▸ List.mem_map.mpr ⟨c, hc, rfl⟩
  obtain ⟨c', hc', e'⟩ := List.mem_map.mp this
  exact e' ▸ h p hp c' hc'
end
section
open PySem PySem.W PySem.Calls PyProof.Rows
set_option maxRecDepth 100000
/-- the asks, told twice -/
def asks2 (as : List (Int × Option Int)) : List (Int × Option Int) := List.zip (as.map (·.1) ++ as.map (·.1)) (as.map (·.2) ++ (as.map (·.2)).reverse)
theorem asks2_len (as : List (Int × Option Int)) : (asks2 as).length = as.length + as.length := by simp [asks2]
theorem asks2_fst {β : Type} (as : List (Int × Option Int)) (f : Int → β) : (asks2 as).map (fun q => f q.1) = (as.map fun q => f q.1) ++ (as.map fun q => f q.1) := by
  have h : (asks2 as).map (·.1) = as.map (·.1) ++ as.map (·.1) := List.map_fst_zip (by simp)
  have := congrArg (List.map f) h
  simpa [List.map_map, List.map_append, Function.comp_def] using this
theorem asks2_snd {β : Type} (as : List (Int × Option Int)) (f : Option Int → β) : (asks2 as).map (fun q => f q.2) = (as.map fun q => f q.2) ++ (as.map fun q => f q.2).reverse := by
  have h : (asks2 as).map (·.2) = as.map (·.2) ++ (as.map (·.2)).reverse := List.map_snd_zip (by simp)
  have := congrArg (List.map f) h
  simpa [List.map_map, List.map_append, List.map_reverse, Function.comp_def] using this
def Ok2 (q : Int × Option Int) : Prop := ModeOk q.1 ∧ ∀ f, q.2 = some f → ModeOk f
theorem asks2_ok {as : List (Int × Option Int)} (h : AsOk as) : ∀ q ∈ asks2 as, Ok2 q := by
  intro q hq
  obtain ⟨a, b⟩ := q
  have h1 := List.of_mem_zip hq
  refine ⟨?_, fun f hf => ?_⟩
  · have : a ∈ as.map (·.1) := by rcases List.mem_append.mp h1.1 with h | h <;> exact h
    obtain ⟨x, hx, rfl⟩ := List.mem_map.mp this
    exact (h x hx).1
  · have : b ∈ as.map (·.2) := by
      rcases List.mem_append.mp h1.2 with h | h
      · exact h
      · exact List.mem_reverse.mp h
    obtain ⟨x, hx, rfl⟩ := List.mem_map.mp this
    rcases (h x hx).2 with e | e
    · rw [e] at hf; cases hf
    · simp only at hf
      rw [e] at hf; cases hf; exact (h x hx).1
/-- the file of an ask, as it is written -/
def fileS (how : Int) (q : Option Int) : Option Str := q.map (signS how)
def datF (how : Int) (q : Option Int) : Dat := match q with | none => .none | some f => .str (signS how f)
theorem ok_sign (how m : Int) : PyData.strOk (signS how m) = true := by
  have all : ∀ n ∈ alphaL how, n < 0x110000 := by
    unfold alphaL
    rw [List.forall_mem_append]
    refine ⟨by decide, ?_⟩
    split
    · decide
    · split
      · decide
      · split <;> decide
  have key : ∀ f, alpha how f < 0x110000 := fun f => by
    unfold alpha
    rw [List.getD_eq_getElem?_getD]
    cases h : (alphaL how)[f.toNat]? with
    | none => decide
    | some v => exact all v (List.mem_of_getElem? h)
  unfold PyData.strOk signS figs
  simp [key]
theorem ok_datF (how : Int) (q : Option Int) : kqdOk 8 (datF how q) = true := by
  cases q with
  | none => rfl
  | some f => exact ok_sign how f
theorem leaf_F {Z : List (Addr × Obj)} {α : Type} {how : Int} (g : α → Option Int) : ∀ {ys : List Value} {l : List α}, DatAll Z ys (l.map fun q => datF how (g q)) → DatAll [] ys (l.map fun q => datF how (g q))
  | [], [], _ => .nil
  | [], _ :: _, h => nomatch h
  | _ :: _, [], h => nomatch h
  | y :: ys, q :: l, .cons h r => by
    refine .cons ?_ (leaf_F g r)
    revert h
    show DatIn Z y (datF how (g q)) → DatIn [] y (datF how (g q))
    cases g q with
    | none => intro h; cases h; exact .none
    | some f => intro h; cases h; exact .str _ _
theorem datIn_F {X : List (Addr × Obj)} {v : Value} {how : Int} {q : Option Int} (h : DatIn X v (datF how q)) : (q = none ∧ v = .none) ∨ ∃ f t, q = some f ∧ v = .str (signS how f) t := by
  cases q with
  | none => cases h; exact .inl ⟨rfl, rfl⟩
  | some f => cases h; exact .inr ⟨f, _, rfl, rfl⟩
theorem datIn_O {X : List (Addr × Obj)} {v : Value} {q : Option Int} (h : DatIn X v (datO q)) : (q = none ∧ v = .none) ∨ ∃ i t, q = some i ∧ v = .int i t := by
  cases q with
  | none => cases h; exact .inl ⟨rfl, rfl⟩
  | some i => cases h; exact .inr ⟨i, _, rfl, rfl⟩
section
variable {w : World} {E : Value → Shared → Prop} {s : Shared} {Q : Value → Shared → Prop} {g : Heap} {L : Addr} {m : Str → Option Value} {news : List (Addr × Obj)}
  {p : Program} {loose : List Str} {mean : ExcName → Option Value} {mg mb : Str → Option Value} {dp : Nat} {fr : Option (List Env)} {gd : Option (List Code)} {un : Nat}
theorem use_made {how : Int} {u : Tok} {ms ds : List (Int × Int)} {mv dv : Value} (hh : 0 ≤ how ∧ how < 4) (hms : MsOk ms) (hds : DsOk ds) (h1 : 1 ≤ ms.length ∧ ms.length ≤ 7) (h2 : ds.length ≤ 7) (hm : DatIn news mv (.list (ms.map datM))) (hdv : DatIn news dv (.list (ds.map datP))) (F : Fr g L s.heap m) (N : News g L s.heap news) (X : (h0.heap_1 w.params).In g) (T : Top p loose mean mg mb g) (hdp : dp + 14 < recursionLimit) (hun : un + 8 * 14 < cLine)
    (h : ∀ x d S Dl D oS arr n oD t1 t2 t3 n9 tS h' tk', Fr g L h' m → News g L h' (rdrX w x d S Dl D oS (W.listOf arr n) oD t1 t2 t3 n9 ++ news) → (∀ p ∈ news, ∀ q ∈ rdrX w x d S Dl D oS (W.listOf arr n) oD t1 t2 t3 n9, q.1 ≠ p.1) →
      oD.IsDictOf (PySem.strKind prg w) [(Str.ofString "<string>", .int 1 tS)] → (D == sysModules) = false → RS.SetS prg w oS (ms.map toldS) → StrsAre arr.toList (ds.map (signT how)) → @Ne Nat D Dl → @Ne Nat D S → @Ne Nat D x → @Ne Nat D d → Q (.ref x) { s with heap := h', toks := tk' }) :
    wpAny (model prg w) ⟨none, dp, fr, gd, un⟩ (call (.ref 238) [mv, dv, .int how u]) Q E s := by
  refine use_ct (c_made how u hh ms ds hms hds (by intro e; rw [e] at h1; exact absurd h1.1 (by decide)) h1.2 h2 mv dv) F N X T hdp hun ⟨DatH.of N hm fun _ h => h, DatH.of N hdv fun _ h => h⟩ fun r h' tk' F' N' st hp => ?_
  obtain ⟨x, d, S, Dl, D, oS, arr, n, oD, t1, t2, t3, n9, tS, rfl, hX, a1, a2, a3, a4, a5, a6, a7, a8⟩ := hp
  obtain ⟨NA, oA⟩ := News.addAll F N st hX
  exact h x d S Dl D oS arr n oD t1 t2 t3 n9 tS h' tk' F' NA oA a1 a2 a3 a4 a5 a6 a7 a8
end
end
section
open PySem PySem.W PySem.Calls PyProof.Rows
set_option maxRecDepth 100000
noncomputable def nF (as2 : List (Int × Option Int)) (ms ds : List (Int × Int)) (how : Int) : List (Str × Int) := as2.map fun q => (nameS q.1, namesV (ms.map toldS) (ds.map (signT how)) (fileS how q.2) (nameS q.1))
def strI (y : Int) : Str := if y = 1 then Str.ofString "1" else Str.ofString "0"
def pre0 : List (Str × Int) := [(Str.ofString "<string>", 1)]
theorem kept0 (t : Tok) : Kept RInt [(Str.ofString "<string>", .int 1 t)] pre0 := by
  refine ⟨Nat.le_refl _, fun k => ?_⟩
  by_cases h : k = Str.ofString "<string>"
  · subst h
    simp only [pre0, List.lookup, beq_self_eq_true]
    exact ⟨_, by simp [valueAt], t, rfl⟩
  · have h1 : (k == Str.ofString "<string>") = false := by simpa using h
    have h2 : ¬ Str.ofString "<string>" = k := fun e => h e.symm
    simp [pre0, List.lookup, h1, valueAt, h2]
theorem lookup_mem {β : Type} : ∀ {l : List (Str × β)} {k : Str} {y : β}, l.lookup k = some y → (k, y) ∈ l
  | [], _, _, h => by simp [List.lookup] at h
  | (a, b) :: r, k, y, h => by
    cases e : (k == a) with
    | true => simp only [List.lookup_cons, e] at h; cases h; rw [eq_of_beq e]; exact .head _
    | false => simp only [List.lookup_cons, e] at h; exact .tail _ (lookup_mem h)
theorem namesV_01 (told dirs : List Str) (file : Option Str) (name : Str) : namesV told dirs file name = 0 ∨ namesV told dirs file name = 1 := by
  unfold namesV; split
  · exact .inr rfl
  · exact .inl rfl
theorem y_01 {as2 : List (Int × Option Int)} {ms ds : List (Int × Int)} {how : Int} {j : Nat} {k : Str} {y v : Int} (hv : v = 0 ∨ v = 1) (h : (pre0 ++ (nF as2 ms ds how).take j ++ [(k, v)]).lookup k = some y) : y = 0 ∨ y = 1 := by
  have := lookup_mem h
  rcases List.mem_append.mp this with h | h
  · rcases List.mem_append.mp h with h | h
    · unfold pre0 at h
      cases List.mem_singleton.mp h
      exact .inr rfl
    · obtain ⟨q, _, e⟩ := List.mem_map.mp (List.mem_of_mem_take h)
      injection e with _ e2
      rw [← e2]; exact namesV_01 _ _ _ _
  · cases List.mem_singleton.mp h; exact hv
theorem str_01 {prog : Program} {w : World} {A : Around} {E : Value → Shared → Prop} {s : Shared} {y : Int} {t : Tok} {Q : Value → Shared → Prop} (h01 : y = 0 ∨ y = 1) (h : ∀ t' k, Q (.str (strI y) t') { s with toks := k }) : wpAny (model prog w) A (call (.type "str") [.int y t]) Q E s := by
  have e0 : (Str.ofString (toString (0 : Int))) = strI 0 := by decide +kernel
  have e1 : (Str.ofString (toString (1 : Int))) = strI 1 := by decide +kernel
  rcases h01 with rfl | rfl
  · refine P.str_of_int (by decide) ?_
    show Q (.str (Str.ofString (toString (0 : Int))) _) _
    rw [e0]; exact h _ _
  · refine P.str_of_int (by decide) ?_
    show Q (.str (Str.ofString (toString (1 : Int))) _) _
    rw [e1]; exact h _ _
theorem off3_addr {I C D : Addr} {nw nw' : List (Addr × Obj)} (h : LCg.Off3 I C D nw) (e : nw.map (·.1) = nw'.map (·.1)) : LCg.Off3 I C D nw' := by
  refine LCg.Off3.of fun p hp => ?_
  have : p.1 ∈ nw.map (·.1) := e ▸ List.mem_map.mpr ⟨p, hp, rfl⟩
  obtain ⟨q, hq, e'⟩ := List.mem_map.mp this
  exact e' ▸ h.mem q hq
theorem news_put {g h h' : Heap} {L D : Addr} {o o' : Obj} {nw nw' : List (Addr × Obj)} (N : News g L h nw) (hD : (D, o) ∈ nw) (hg : h'.get? D = some o') (keep : ∀ b x, b ≠ D → h.get? b = some x → h'.get? b = some x) (hs : ∀ p ∈ nw', p = (D, o') ∨ (p ∈ nw ∧ p.1 ≠ D)) : News g L h' nw' := by
  intro p hp
  rcases hs p hp with rfl | ⟨h1, h2⟩
  · exact ⟨hg, (N _ hD).2⟩
  · exact ⟨keep _ _ h2 (N p h1).1, (N p h1).2⟩
end
section
open PySem PySem.W PySem.Calls PyProof.Rows PySem.Builtin PySem.Builtin.Str
set_option maxRecDepth 100000
/-- the signs of a name, no dot among them -/
theorem kind_shape (m : Int) : ∃ c : Nat, kindS m = ⟨#[c]⟩ ∧ c ≠ 46 := by
  have key : ∀ k : Fin 16, ∃ c : Nat, Txt.item (Str.ofString "?pc?d?b?-?l?s???") (k.1 : Int) = ⟨#[c]⟩ ∧ c ≠ 46 := by
    intro k
    have l0 : (Str.ofString "?pc?d?b?-?l?s???").length = 16 := by decide +kernel
    refine ⟨(Str.ofString "?pc?d?b?-?l?s???").cps.getD k.1 0, ?_, ?_⟩
    · rw [item_cps _ _ (by omega) (by rw [l0]; omega)]; rfl
    · revert k; decide +kernel
  unfold kindS
  rw [fmod_pos _ (by decide), fdiv_pos _ (by decide)]
  have e : ((⟨(m / 4096 % 16).toNat, by omega⟩ : Fin 16).1 : Int) = m / 4096 % 16 := by show ((m / 4096 % 16).toNat : Int) = _; omega
  have := key ⟨(m / 4096 % 16).toNat, by omega⟩
  rw [e] at this; exact this
theorem item2_shape {x : Str} (hl : x.length = 2) (h0 : x.cps.getD 0 0 ≠ 46) (h1 : x.cps.getD 1 0 ≠ 46) {i : Int} (hi : i = 0 ∨ i = 1) : ∃ c : Nat, Txt.item x i = ⟨#[c]⟩ ∧ c ≠ 46 := by
  rcases hi with rfl | rfl
  · exact ⟨_, item_cps x 0 (by decide) (by rw [hl]; decide), h0⟩
  · exact ⟨_, item_cps x 1 (by decide) (by rw [hl]; decide), h1⟩
theorem rwx_shape {e : Str} (hl : e.length = 2) (h0 : e.cps.getD 0 0 ≠ 46) (h1 : e.cps.getD 1 0 ≠ 46) {f a : Int} (hf : 0 ≤ f ∧ f < 8) (ha : a = 0 ∨ a = 1) : ∃ c d g : Nat, rwxS e f a = ⟨#[c, d, g]⟩ ∧ c ≠ 46 ∧ d ≠ 46 ∧ g ≠ 46 := by
  unfold rwxS
  rw [fdiv_pos f (by decide), fdiv_pos f (by decide), fmod_pos _ (by decide), fmod_pos _ (by decide)]
  obtain ⟨c, hc, hc'⟩ := item2_shape (x := Str.ofString "-r") (by decide +kernel) (by decide +kernel) (by decide +kernel) (i := f / 4) (by omega)
  obtain ⟨d, hd, hd'⟩ := item2_shape (x := Str.ofString "-w") (by decide +kernel) (by decide +kernel) (by decide +kernel) (i := f / 2 % 2) (by omega)
  have : ∃ g : Nat, Txt.item ([Str.ofString "-x", e].getD a.toNat Str.empty) (f % 2) = ⟨#[g]⟩ ∧ g ≠ 46 := by
    rcases ha with rfl | rfl
    · exact item2_shape (x := Str.ofString "-x") (by decide +kernel) (by decide +kernel) (by decide +kernel) (i := f % 2) (by omega)
    · exact item2_shape (x := e) hl h0 h1 (i := f % 2) (by omega)
  obtain ⟨g, hg, hg'⟩ := this
  exact ⟨c, d, g, by rw [hc, hd, hg]; rfl, hc', hd', hg'⟩
theorem parts_shape (m : Int) : ∃ c0 c1 c2 c3 c4 c5 c6 c7 c8 c9 : Nat, lawParts m = [⟨#[c0]⟩, ⟨#[c1, c2, c3]⟩, ⟨#[c4, c5, c6]⟩, ⟨#[c7, c8, c9]⟩] ∧ c0 ≠ 46 ∧ c1 ≠ 46 ∧ c2 ≠ 46 ∧ c3 ≠ 46 ∧ c4 ≠ 46 ∧ c5 ≠ 46 ∧ c6 ≠ 46 ∧ c7 ≠ 46 ∧ c8 ≠ 46 ∧ c9 ≠ 46 := by
  have r8 : ∀ z : Int, 0 ≤ z.fmod 8 ∧ z.fmod 8 < 8 := fun z => by rw [fmod_pos _ (by decide)]; omega
  have r2 : ∀ z : Int, z.fmod 2 = 0 ∨ z.fmod 2 = 1 := fun z => by rw [fmod_pos _ (by decide)]; omega
  obtain ⟨c0, h0, n0⟩ := kind_shape m
  obtain ⟨c1, c2, c3, h1, n1, n2, n3⟩ := rwx_shape (e := Str.ofString "Ss") (by decide +kernel) (by decide +kernel) (by decide +kernel) (r8 (m.fdiv 64)) (r2 (m.fdiv 2048))
  obtain ⟨c4, c5, c6, h2, n4, n5, n6⟩ := rwx_shape (e := Str.ofString "Ss") (by decide +kernel) (by decide +kernel) (by decide +kernel) (r8 (m.fdiv 8)) (r2 (m.fdiv 1024))
  obtain ⟨c7, c8, c9, h3, n7, n8, n9⟩ := rwx_shape (e := Str.ofString "Tt") (by decide +kernel) (by decide +kernel) (by decide +kernel) (r8 (m.fdiv 1)) (r2 (m.fdiv 512))
  exact ⟨c0, c1, c2, c3, c4, c5, c6, c7, c8, c9, by unfold lawParts; rw [h0, h1, h2, h3], n0, n1, n2, n3, n4, n5, n6, n7, n8, n9⟩
theorem join_sp (a b c d : Str) : Txt.join (Str.ofString " ") [a, b, c, d] = ⟨a.cps ++ #[32] ++ b.cps ++ #[32] ++ c.cps ++ #[32] ++ d.cps⟩ := by
  have e : Str.ofString " " = ⟨#[32]⟩ := by decide +kernel
  rw [e]
  simp [Txt.join, Builtin.Str.glued]
theorem name_shape {m : Int} {c0 c1 c2 c3 c4 c5 c6 c7 c8 c9 : Nat} (h : lawParts m = [⟨#[c0]⟩, ⟨#[c1, c2, c3]⟩, ⟨#[c4, c5, c6]⟩, ⟨#[c7, c8, c9]⟩]) : nameS m = ⟨#[c0, 46, c1, c2, c3, 46, c4, c5, c6, 46, c7, c8, c9]⟩ := by
  unfold nameS; rw [h, join_dot]; rfl
theorem space_shape {m : Int} {c0 c1 c2 c3 c4 c5 c6 c7 c8 c9 : Nat} (h : lawParts m = [⟨#[c0]⟩, ⟨#[c1, c2, c3]⟩, ⟨#[c4, c5, c6]⟩, ⟨#[c7, c8, c9]⟩]) : spaceS m = ⟨#[c0, 32, c1, c2, c3, 32, c4, c5, c6, 32, c7, c8, c9]⟩ := by
  unfold spaceS; rw [h, join_sp]; rfl
theorem keys_iff (a b : Int) : nameS a = nameS b ↔ spaceS a = spaceS b := by
  obtain ⟨c0, c1, c2, c3, c4, c5, c6, c7, c8, c9, ha, _⟩ := parts_shape a
  obtain ⟨d0, d1, d2, d3, d4, d5, d6, d7, d8, d9, hb, _⟩ := parts_shape b
  rw [name_shape ha, name_shape hb, space_shape ha, space_shape hb]
  simp
theorem name_ne (m : Int) : nameS m ≠ Str.ofString "<string>" := by
  obtain ⟨c0, c1, c2, c3, c4, c5, c6, c7, c8, c9, ha, _⟩ := parts_shape m
  rw [name_shape ha]
  intro e
  have h1 := congrArg Str.length e
  have h8 : (Str.ofString "<string>").length = 8 := by decide +kernel
  rw [h8] at h1
  have h2 : (13 : Nat) = 8 := h1
  exact absurd h2 (by decide)
theorem name_len (m : Int) : (nameS m).length = 13 := by
  obtain ⟨c0, c1, c2, c3, c4, c5, c6, c7, c8, c9, ha, _⟩ := parts_shape m
  rw [name_shape ha]; rfl
theorem told_len (q : Int × Int) : (toldS q).length ≤ 100 := by
  have := Txt.slice_le (nameS q.1) none (some q.2)
  rw [name_len] at this
  exact Nat.le_trans this (by decide)
theorem sign_len (how : Int) (q : Int × Int) : (signT how q).length ≤ 100 := by
  have := Txt.slice_le (signS how q.1) none (some q.2)
  exact Nat.le_trans this (by show 4 ≤ 100; decide)
end
section
open PySem PySem.W PySem.Calls PyProof.Rows PySem.Builtin PySem.Builtin.Str
set_option maxRecDepth 100000
theorem lookup_map2 {α : Type} {k1 k2 : α → Str} {v1 : α → Int} {v2 : α → Str} (hk : ∀ a b, k1 a = k1 b ↔ k2 a = k2 b) (q : α) : ∀ (l : List α), (∀ x ∈ l, strI (v1 x) = v2 x) → ((l.map fun x => (k1 x, v1 x)).lookup (k1 q)).map strI = (l.map fun x => (k2 x, v2 x)).lookup (k2 q)
  | [], _ => rfl
  | x :: r, h => by
    have ih := lookup_map2 hk q r fun y hy => h y (.tail _ hy)
    have hb : (k1 q == k1 x) = (k2 q == k2 x) := by
      by_cases e : k1 q = k1 x
      · have e2 := (hk q x).mp e
        rw [e, e2]; simp
      · have e2 : ¬ k2 q = k2 x := fun e2 => e ((hk q x).mpr e2)
        rw [beq_eq_false_iff_ne.mpr e, beq_eq_false_iff_ne.mpr e2]
    simp only [List.map_cons, List.lookup_cons, hb]
    cases k2 q == k2 x with
    | true => exact congrArg some (h x (.head _))
    | false => exact ih
theorem ans_map {α : Type} {k1 k2 : α → Str} {v1 : α → Int} {v2 : α → Str} (hk : ∀ a b, k1 a = k1 b ↔ k2 a = k2 b) (l : List α) (hv : ∀ x ∈ l, strI (v1 x) = v2 x) : (ans (l.map fun x => (k1 x, v1 x))).map strI = ans (l.map fun x => (k2 x, v2 x)) := by
  unfold ans
  rw [List.map_map, List.map_map, List.map_map]
  refine List.map_congr_left fun q hq => ?_
  show strI (((l.map fun x => (k1 x, v1 x)).lookup (k1 q)).getD (v1 q)) = ((l.map fun x => (k2 x, v2 x)).lookup (k2 q)).getD (v2 q)
  rw [← lookup_map2 hk q l hv]
  cases (l.map fun x => (k1 x, v1 x)).lookup (k1 q) with
  | none => exact hv q hq
  | some y => rfl
/-- the signs and the figures -/
theorem F1 : ∀ h : Fin 4, ∀ a : Fin 64, (alpha (h.1 : Int) (a.1 : Int) = 47) ↔ (a.1 : Int) ∈ slashL (h.1 : Int) := by decide +kernel
theorem F2 : ∀ h : Fin 4, ∀ a : Fin 64, (a.1 : Int) ∉ slashL (h.1 : Int) → (alphaL (h.1 : Int)).findIdx (· == alpha (h.1 : Int) (a.1 : Int)) = a.1 := by decide +kernel
theorem sh_slash {how a : Int} (hh : 0 ≤ how ∧ how < 4) (ha : 0 ≤ a ∧ a < 64) : shF how a = .str (Str.ofString "slash") ↔ alpha how a = 47 := by
  have := F1 ⟨how.toNat, by omega⟩ ⟨a.toNat, by omega⟩
  have e1 : (((⟨how.toNat, by omega⟩ : Fin 4).1 : Nat) : Int) = how := by show (how.toNat : Int) = how; omega
  have e2 : (((⟨a.toNat, by omega⟩ : Fin 64).1 : Nat) : Int) = a := by show (a.toNat : Int) = a; omega
  rw [e1, e2] at this
  rw [this]
  unfold shF
  by_cases h : a ∈ slashL how
  · simp [h]
  · simp [h]
theorem sh_eq {how a b : Int} (hh : 0 ≤ how ∧ how < 4) (ha : 0 ≤ a ∧ a < 64) (hb : 0 ≤ b ∧ b < 64) : shF how a = shF how b ↔ alpha how a = alpha how b := by
  have sa := sh_slash hh ha
  have sb := sh_slash hh hb
  have ia := F2 ⟨how.toNat, by omega⟩ ⟨a.toNat, by omega⟩
  have ib := F2 ⟨how.toNat, by omega⟩ ⟨b.toNat, by omega⟩
  have e1 : (((⟨how.toNat, by omega⟩ : Fin 4).1 : Nat) : Int) = how := by show (how.toNat : Int) = how; omega
  have e2 : (((⟨a.toNat, by omega⟩ : Fin 64).1 : Nat) : Int) = a := by show (a.toNat : Int) = a; omega
  have e3 : (((⟨b.toNat, by omega⟩ : Fin 64).1 : Nat) : Int) = b := by show (b.toNat : Int) = b; omega
  rw [e1, e2] at ia
  rw [e1, e3] at ib
  constructor
  · intro h
    by_cases hs : shF how a = .str (Str.ofString "slash")
    · rw [sa.mp hs, sb.mp (h ▸ hs)]
    · have ha' : a ∉ slashL how := fun hm => hs (by unfold shF; rw [if_pos hm])
      have hb' : b ∉ slashL how := fun hm => hs (by rw [h]; unfold shF; rw [if_pos hm])
      unfold shF at h
      rw [if_neg ha', if_neg hb'] at h
      rw [Dat.int.inj h]
  · intro h
    by_cases hs : alpha how a = 47
    · rw [sa.mpr hs, sb.mpr (h ▸ hs)]
    · have ha' : a ∉ slashL how := fun hm => hs (sa.mp (by unfold shF; rw [if_pos hm]))
      have hb' : b ∉ slashL how := fun hm => hs (h ▸ sb.mp (by unfold shF; rw [if_pos hm]))
      have := ia ha'
      rw [h, ib hb'] at this
      have : a = b := by
        have h3 : b.toNat = a.toNat := this
        omega
      rw [this]
theorem slice_to_eq {x : Str} {j : Int} (h : 0 ≤ j ∧ j ≤ x.cps.toList.length) : Txt.slice x none (some j) = ⟨(x.cps.toList.take j.toNat).toArray⟩ := by
  have := eq_of_beq (slice_closes_to h)
  simpa using this
end
section
open PySem PySem.W PySem.Calls PyProof.Rows PySem.Builtin PySem.Builtin.Str
set_option maxRecDepth 100000
theorem starts_iff (x y : List Nat) : Txt.startswith ⟨x.toArray⟩ ⟨y.toArray⟩ = true ↔ x.take y.length = y := by
  have hx : (Str.length ⟨x.toArray⟩) = x.length := by show x.toArray.size = _; simp
  have hy : (Str.length ⟨y.toArray⟩) = y.length := by show y.toArray.size = _; simp
  unfold Txt.startswith subAt
  rw [hx, hy, Bool.and_eq_true, decide_eq_true_eq, beq_iff_eq]
  simp only [Nat.zero_add, List.extract_toArray, List.extract_eq_take_drop, List.drop_zero, Nat.sub_zero]
  constructor
  · rintro ⟨_, h⟩
    exact congrArg Array.toList h
  · intro h
    refine ⟨?_, congrArg List.toArray h⟩
    have := congrArg List.length h
    rw [List.length_take] at this
    omega
theorem app_dot (a : List Nat) : (⟨a.toArray⟩ : Str) ++ Str.ofString "." = ⟨(a ++ [46]).toArray⟩ := by
  have e : Str.ofString "." = ⟨#[46]⟩ := by decide +kernel
  rw [e]
  show (⟨a.toArray ++ #[46]⟩ : Str) = _
  simp
theorem app_slash (a : List Nat) : (⟨a.toArray⟩ : Str) ++ Str.ofString "/" = ⟨(a ++ [47]).toArray⟩ := by
  have e : Str.ofString "/" = ⟨#[47]⟩ := by decide +kernel
  rw [e]
  show (⟨a.toArray ++ #[47]⟩ : Str) = _
  simp
theorem told_shape {a : Int} {l : List Nat} (h : nameS a = ⟨l.toArray⟩) {k : Int} (hk : 0 ≤ k ∧ k ≤ l.length) : toldS (a, k) = ⟨(l.take k.toNat).toArray⟩ := by
  unfold toldS
  rw [h, slice_to_eq (by simpa using hk)]
theorem mod_iff (m : Int) (q : Int × Int) (hq : q.2 ∈ sizes) : modHit m q ↔ (nameS m = toldS q ∨ Txt.startswith (nameS m) (toldS q ++ Str.ofString ".") = true) := by
  obtain ⟨a, sz⟩ := q
  obtain ⟨c0, c1, c2, c3, c4, c5, c6, c7, c8, c9, ha, n0, n1, n2, n3, n4, n5, n6, n7, n8, n9⟩ := parts_shape m
  obtain ⟨d0, d1, d2, d3, d4, d5, d6, d7, d8, d9, hb, _⟩ := parts_shape a
  have na : nameS m = ⟨[c0, 46, c1, c2, c3, 46, c4, c5, c6, 46, c7, c8, c9].toArray⟩ := name_shape ha
  have nb : nameS a = ⟨[d0, 46, d1, d2, d3, 46, d4, d5, d6, 46, d7, d8, d9].toArray⟩ := name_shape hb
  unfold sizes at hq
  simp only [List.mem_cons, List.not_mem_nil, or_false] at hq
  unfold modHit
  rw [ha, hb, na]
  rcases hq with rfl | rfl | rfl | rfl | rfl | rfl | rfl | rfl
  · rw [told_shape nb (by simp), app_dot, starts_iff, show (1 : Int).fmod 4 = 1 by decide, show ((1 : Int).fdiv 4 + 1).toNat = 1 by decide, show (1 : Int).toNat = 1 by decide]
    simp
  · rw [told_shape nb (by simp), app_dot, starts_iff, show (5 : Int).fmod 4 = 1 by decide, show ((5 : Int).fdiv 4 + 1).toNat = 2 by decide, show (5 : Int).toNat = 5 by decide]
    simp
  · rw [told_shape nb (by simp), app_dot, starts_iff, show (9 : Int).fmod 4 = 1 by decide, show ((9 : Int).fdiv 4 + 1).toNat = 3 by decide, show (9 : Int).toNat = 9 by decide]
    simp [and_assoc]
  · rw [told_shape nb (by simp), app_dot, starts_iff, show (13 : Int).fmod 4 = 1 by decide, show ((13 : Int).fdiv 4 + 1).toNat = 4 by decide, show (13 : Int).toNat = 13 by decide]
    simp [and_assoc]
  · rw [told_shape nb (by simp), app_dot, starts_iff, show (4 : Int).fmod 4 = 0 by decide, show (4 : Int).toNat = 4 by decide]
    simp [n3]
  · rw [told_shape nb (by simp), app_dot, starts_iff, show (6 : Int).fmod 4 = 2 by decide, show (6 : Int).toNat = 6 by decide]
    simp [n4]
  · rw [told_shape nb (by simp), app_dot, starts_iff, show (2 : Int).fmod 4 = 2 by decide, show (2 : Int).toNat = 2 by decide]
    simp [n1]
  · rw [told_shape nb (by simp), app_dot, starts_iff, show (8 : Int).fmod 4 = 0 by decide, show (8 : Int).toNat = 8 by decide]
    simp [n6]
theorem dir_iff (how f : Int) (hh : 0 ≤ how ∧ how < 4) (q : Int × Int) (hq : 0 ≤ q.2 ∧ q.2 < 4) : dirHit how f q ↔ Txt.startswith (signS how f) (signT how q ++ Str.ofString "/") = true := by
  obtain ⟨a, k⟩ := q
  have rng : ∀ z : Int, 0 ≤ z % 64 ∧ z % 64 < 64 := fun z => by omega
  have sf : signS how f = ⟨[alpha how (f / 262144 % 64), alpha how (f / 4096 % 64), alpha how (f / 64 % 64), alpha how (f % 64)].toArray⟩ := rfl
  have sa : signS how a = ⟨[alpha how (a / 262144 % 64), alpha how (a / 4096 % 64), alpha how (a / 64 % 64), alpha how (a % 64)].toArray⟩ := rfl
  have st : ∀ k : Int, 0 ≤ k ∧ k ≤ 4 → signT how (a, k) = ⟨([alpha how (a / 262144 % 64), alpha how (a / 4096 % 64), alpha how (a / 64 % 64), alpha how (a % 64)].take k.toNat).toArray⟩ := fun k hk => by
    unfold signT
    rw [sa, slice_to_eq (by simpa using hk)]
  have q0 := sh_eq hh (rng (f / 262144)) (rng (a / 262144))
  have q1 := sh_eq hh (rng (f / 4096)) (rng (a / 4096))
  have q2 := sh_eq hh (rng (f / 64)) (rng (a / 64))
  have s0 := sh_slash hh (rng (f / 262144))
  have s1 := sh_slash hh (rng (f / 4096))
  have s2 := sh_slash hh (rng (f / 64))
  have s3 := sh_slash hh (rng f)
  unfold dirHit figD
  rw [sf, st k (by simp at hq ⊢; omega), app_slash, starts_iff]
  simp only at hq
  rcases (show k = 0 ∨ k = 1 ∨ k = 2 ∨ k = 3 by omega) with rfl | rfl | rfl | rfl
  · rw [show (0 : Int).toNat = 0 by decide]; simp [s0]
  · rw [show (1 : Int).toNat = 1 by decide]; simp [q0, s1]
  · rw [show (2 : Int).toNat = 2 by decide]; simp [q0, q1, s2, and_assoc]
  · rw [show (3 : Int).toNat = 3 by decide]; simp [q0, q1, q2, s3, and_assoc]
theorem hit_iff {ms ds : List (Int × Int)} {how : Int} (hh : 0 ≤ how ∧ how < 4) (hms : MsOk ms) (hds : DsOk ds) (m : Int) (file : Option Int) : RuleHit m file ms ds how ↔ NamesHit (ms.map toldS) (ds.map (signT how)) (fileS how file) (nameS m) := by
  cases file with
  | none => exact ⟨fun _ => .inr (.inr trivial), fun _ => trivial⟩
  | some f =>
    constructor
    · rintro (⟨q, hq, h⟩ | ⟨q, hq, h⟩)
      · rcases (mod_iff m q (hms q hq).2).mp h with h | h
        · exact .inl (List.mem_map.mpr ⟨q, hq, h.symm⟩)
        · exact .inr (.inl ⟨_, List.mem_map.mpr ⟨q, hq, rfl⟩, h⟩)
      · exact .inr (.inr ⟨_, List.mem_map.mpr ⟨q, hq, rfl⟩, (dir_iff how f hh q (hds q hq).2).mp h⟩)
    · rintro (h | ⟨t, ht, h⟩ | ⟨t, ht, h⟩)
      · obtain ⟨q, hq, e⟩ := List.mem_map.mp h
        exact .inl ⟨q, hq, (mod_iff m q (hms q hq).2).mpr (.inl e.symm)⟩
      · obtain ⟨q, hq, rfl⟩ := List.mem_map.mp ht
        exact .inl ⟨q, hq, (mod_iff m q (hms q hq).2).mpr (.inr h)⟩
      · obtain ⟨q, hq, rfl⟩ := List.mem_map.mp ht
        exact .inr ⟨q, hq, (dir_iff how f hh q (hds q hq).2).mpr h⟩
theorem plain {as2 : List (Int × Option Int)} {ms ds : List (Int × Int)} {how : Int} (hh : 0 ≤ how ∧ how < 4) (hms : MsOk ms) (hds : DsOk ds) (h2 : ∀ q ∈ as2, Ok2 q) : (ans (nF as2 ms ds how)).map strI = ans (dueF as2 ms ds how) := by
  unfold nF dueF
  refine ans_map (k1 := fun q : Int × Option Int => nameS q.1) (k2 := fun q => spaceS q.1) (fun a b => keys_iff a.1 b.1) as2 fun q _ => ?_
  unfold namesV ruleS
  have := hit_iff hh hms hds q.1 q.2
  by_cases h : RuleHit q.1 q.2 ms ds how
  · rw [if_pos h, if_pos (this.mp h)]; rfl
  · rw [if_neg h, if_neg fun x => h (this.mpr x)]; rfl
end
section
open PySem PySem.W PySem.Calls PyProof.Rows
set_option maxRecDepth 100000
theorem ok_strI (l : List Int) : ∀ x ∈ l.map strI, PyData.strOk x = true := by
  intro x hx
  obtain ⟨y, _, rfl⟩ := List.mem_map.mp hx
  unfold strI
  split <;> decide +kernel
theorem lookup_pre0 {l : List (Str × Int)} {m : Int} : (pre0 ++ l).lookup (nameS m) = l.lookup (nameS m) := by
  rw [lookup_append']
  have h : (nameS m == Str.ofString "<string>") = false := by simpa using name_ne m
  simp [pre0, List.lookup, h]
theorem ans_snoc {nf : List (Str × Int)} {j : Nat} {m v y : Int} {ys : List Value} {t : Tok} (h : StrsAre ys (((ans nf).take j).map strI)) (hi : nf[j]? = some (nameS m, v)) (hy : (pre0 ++ nf.take j ++ [(nameS m, v)]).lookup (nameS m) = some y) : StrsAre (ys ++ [.str (strI y) t]) (((ans nf).take (j + 1)).map strI) := by
  rw [List.append_assoc, lookup_pre0] at hy
  rw [ans_step hi hy, List.map_append]
  exact kct_snoc h
end
section
theorem body_go {K : Frag} {f : Addr} {o : Obj} {G : Prop} {name qual : Str} {params : Arguments} {body : List Stmt} {scope : Scope} {dV kV doc pm cdv ct oc : Value} {an od : Option Addr} {osl : Array (Option Value)}
    (h1 : K.lookup f = some o) (h2 : K.lookup f = some ⟨oc, od, .func (fnOf name qual params body scope dV kV doc pm an cdv ct), osl⟩) (k : o = ⟨oc, od, .func (fnOf name qual params body scope dV kV doc pm an cdv ct), osl⟩ → G) : G := k (Option.some.inj (h1.symm.trans h2))
section
local macro_rules | `(tactic| walk_at "memZ") => `(tactic| first | assumption | (refine List.Mem.tail _ ?_; walk_at "memZ"))
local macro_rules | `(tactic| k_all) => `(tactic| with_reducible assumption)
set_option maxRecDepth 100000 in
set_option maxHeartbeats 8000000 in
theorem law_body {w : World} {p : Program} {loose : List Str} {mean : ExcName → Option Value} {mg mb : Str → Option Value} {dp : Nat} {fr : Option (List Env)} {gd : Option (List Code)} {un : Nat} {s : Shared} {L f9 : Addr} {cd : Value} {ls : Addr} {vs : List Value} {ns : List Int} {c1 c2 c3 c4 : Obj} {Q : Flow → Shared → Prop} {g : Heap}
    {name qual : Str} {params : Arguments} {body : List Stmt} {scope : Scope} {dV kV doc pm cdv ct oc : Value} {an od : Option Addr} {osl : Array (Option Value)}
    (ho : (h0.heap_1 w.params).lookup 243 = some ⟨oc, od, .func (fnOf name qual params body scope dV kV doc pm an cdv ct), osl⟩)
    (X : (h0.heap_1 w.params).In g) (T : Top p loose mean mg mb g) (F : Fr g L s.heap (fun z => if z = Str.ofString "script" then some (.ref ls) else none))
    (N : News g L s.heap [(L + 1 + 1 + 1 + 1, c1), (L + 1 + 1 + 1, c2), (L + 1 + 1, c3), (L + 1, c4)]) (d1 : c1.data = .cell none) (d2 : c2.data = .cell none) (d3 : c3.data = .cell none) (d4 : c4.data = .cell none)
    (hL : g.IsList ls vs.toArray) (hI : IntsAre vs ns) (hlen : ns.length ≤ 63) (hdp : dp + 40 < recursionLimit) (hun : un + 8 * 40 < cLine) (hret : ∀ h' tk' dr' m', Fr g L h' m' → Q (.ret (.bool true)) { s with heap := h', toks := tk', drawn := dr' }) :
    wpAny (model prg w) (Around.deeper ⟨none, dp, fr, gd, un⟩ (envOfC qual scope L f9 cd)) (execs body (envOfC qual scope L f9 cd)) Q NoE s := by
  w_strict (
    (k_dflt (refine' body_go ho ?k ?_; (case k => k_is)))
    intro e9
    cases e9
    clear ho
    have hvz : vs.length ≤ 1000 := by rw [hI.length]; omega
    (try k_fold)
    (first | (k_unfold; (try dsimp only)) | (refine' (?hh : NextQ _ _) _ ?_; (case hh => with_reducible assumption)) | (refine' (?hh : RestQ _ _) _ _ True.intro ?_; (case hh => with_reducible assumption)) | (((with_reducible show wpAny _ _ (subscriptTail _ (PySem.Expr.Slice none (some _) none _) (Value.ref _) (Value.ref _)) _ _ _); k_dflt (refine' slice_toT ?F ?N ?l ?y ?_ ?s ?z; (case F => k_asm); (case N => k_asm); (case l => first | exact Fr.lst (by k_asm) (by assumption) | exact News.isList (by k_asm) (by k_mem)); (case y => omega); (case s => with_unfolding_all rfl); (case z => first | assumption | exact Nat.le_of_ble_eq_true rfl)); intro _ _ _ _ l1Z; (try k_lt l1Z); (try k_sweep))) | ((with_reducible show wpAny _ _ (subscriptTail (PySem.Expr.Name _ _) (PySem.Expr.Name _ _) (Value.ref _) (Value.int _ _)) _ _ _); ((with_reducible show wpAny _ _ (subscriptTail _ _ (Value.ref _) (Value.int _ _)) _ _ _); k_dflt (refine' item_listL ?l ?a ?b ?x ?_; (case l => exact News.isList (by k_asm) (by walk_at "memZ")); (case a => omega); (case b => omega); (case x => assumption); k_whole))) | ((with_reducible show wpAny _ _ (call (Value.builtin "len") _ _) _ _ _); (k_dflt (refine' len_list ?l ?z ?_; (case l => exact News.isList (by k_asm) (by walk_at "memZ")); (case z => assumption); k_whole))) | walk1 | (dsimp only; walk1) | (leave1; walk_say "STEP leave1"; try dsimp only))
    refine cut_stmt (fun s' => ∃ h' tk D arr n ns', s' = { s with heap := h', toks := tk } ∧ Fr g L h' (fun z => if z = Str.ofString "numbers" then some (.ref D) else if z = Str.ofString "script" then some (.ref ls) else none) ∧ News g L h' [(D, W.listOf arr n), (L + 1 + 1 + 1 + 1, c1), (L + 1 + 1 + 1, c2), (L + 1 + 1, c3), (L + 1, c4)] ∧ IntsAre arr.toList ns' ∧ ns'.length ≤ 6 ∧ True) ?_ ?_
    · repeat' ((first | (k_unfold; (try dsimp only)) | (refine' (?hh : NextQ _ _) _ ?_; (case hh => with_reducible assumption)) | (refine' (?hh : RestQ _ _) _ _ True.intro ?_; (case hh => with_reducible assumption)) | (((with_reducible show wpAny _ _ (subscriptTail _ (PySem.Expr.Slice none (some _) none _) (Value.ref _) (Value.ref _)) _ _ _); k_dflt (refine' slice_toT ?F ?N ?l ?y ?_ ?s ?z; (case F => k_asm); (case N => k_asm); (case l => first | exact Fr.lst (by k_asm) (by assumption) | exact News.isList (by k_asm) (by k_mem)); (case y => omega); (case s => with_unfolding_all rfl); (case z => first | assumption | exact Nat.le_of_ble_eq_true rfl)); intro _ _ _ _ l1Z; (try k_lt l1Z); (try k_sweep))) | ((with_reducible show wpAny _ _ (subscriptTail (PySem.Expr.Name _ _) (PySem.Expr.Name _ _) (Value.ref _) (Value.int _ _)) _ _ _); ((with_reducible show wpAny _ _ (subscriptTail _ _ (Value.ref _) (Value.int _ _)) _ _ _); k_dflt (refine' item_listL ?l ?a ?b ?x ?_; (case l => exact News.isList (by k_asm) (by walk_at "memZ")); (case a => omega); (case b => omega); (case x => assumption); k_whole))) | ((with_reducible show wpAny _ _ (call (Value.builtin "len") _ _) _ _ _); (k_dflt (refine' len_list ?l ?z ?_; (case l => exact News.isList (by k_asm) (by walk_at "memZ")); (case z => assumption); k_whole))) | walk1 | (dsimp only; walk1) | (leave1; walk_say "STEP leave1"; try dsimp only)))
      · exact ⟨rfl, _, _, _, _, _, _, rfl, by k_asm, by k_asm, by simpa using hI.take 6, by rw [List.length_take]; omega, trivial⟩
      · exact ⟨rfl, _, _, _, _, _, _, rfl, by k_asm, News.sub (by k_asm) (List.forall_mem_cons.mpr ⟨by k_mem, List.forall_mem_cons.mpr ⟨by k_mem, List.forall_mem_cons.mpr ⟨by k_mem, List.forall_mem_cons.mpr ⟨by k_mem, List.forall_mem_cons.mpr ⟨by k_mem, (fun _ h => nomatch h)⟩⟩⟩⟩⟩), .cons _ _ (.cons _ _ (.cons _ _ .nil)), Nat.le_of_ble_eq_true rfl, trivial⟩
    · rintro _ ⟨h1, tk1, Dn, arr, nn, ns', rfl, F1, N1, hI1, hn6, _⟩
      clear F N hI hL hvz
      try dsimp only
      (repeat' ((fail_if_success (with_reducible show wpAny _ _ (call (Value.ref _) _ _) _ _ _)); (first | (k_unfold; (try dsimp only)) | (refine' (?hh : NextQ _ _) _ ?_; (case hh => with_reducible assumption)) | (refine' (?hh : RestQ _ _) _ _ True.intro ?_; (case hh => with_reducible assumption)) | (((with_reducible show wpAny _ _ (subscriptTail _ (PySem.Expr.Slice none (some _) none _) (Value.ref _) (Value.ref _)) _ _ _); k_dflt (refine' slice_toT ?F ?N ?l ?y ?_ ?s ?z; (case F => k_asm); (case N => k_asm); (case l => first | exact Fr.lst (by k_asm) (by assumption) | exact News.isList (by k_asm) (by k_mem)); (case y => omega); (case s => with_unfolding_all rfl); (case z => first | assumption | exact Nat.le_of_ble_eq_true rfl)); intro _ _ _ _ l1Z; (try k_lt l1Z); (try k_sweep))) | ((with_reducible show wpAny _ _ (subscriptTail (PySem.Expr.Name _ _) (PySem.Expr.Name _ _) (Value.ref _) (Value.int _ _)) _ _ _); ((with_reducible show wpAny _ _ (subscriptTail _ _ (Value.ref _) (Value.int _ _)) _ _ _); k_dflt (refine' item_listL ?l ?a ?b ?x ?_; (case l => exact News.isList (by k_asm) (by walk_at "memZ")); (case a => omega); (case b => omega); (case x => assumption); k_whole))) | ((with_reducible show wpAny _ _ (call (Value.builtin "len") _ _) _ _ _); (k_dflt (refine' len_list ?l ?z ?_; (case l => exact News.isList (by k_asm) (by walk_at "memZ")); (case z => assumption); k_whole))) | walk1 | (dsimp only; walk1) | (leave1; walk_say "STEP leave1"; try dsimp only))))
      (k_dflt (refine' use_drawn hI1 hn6 ?F ?N ?X ?T ?d ?u ?_; (case F => k_asm); (case N => k_asm); (case X => k_asm); (case T => k_asm); (case d => (first | assumption | exact room2 (by assumption) rfl | exact room1 (by assumption) rfl | exact room0 (by assumption) | omega | ((try dsimp only [Around.deeper, Around.in1]); omega) | ((try simp only [depth_deeper, units_deeper, depth_in1, units_in1] at *); omega))); (case u => (first | assumption | exact room2 (by assumption) rfl | exact room1 (by assumption) rfl | exact room0 (by assumption) | omega | ((try dsimp only [Around.deeper, Around.in1]); omega) | ((try simp only [depth_deeper, units_deeper, depth_in1, units_in1] at *); omega)))))
      intro T9 lt ld la nT X9 ms ds as h2 tk2 okm okd oka lm7 ld7 la21 F2 N2 off2 hlt hld hla
      clear F1 N1 hI1
      simp only [List.cons_append, List.nil_append] at N2
      obtain ⟨tvs, tn, tmem, tall⟩ := list_of hlt
      (repeat' ((fail_if_success (with_reducible show wpAny _ _ (exec (Stmt.Assign [_] (PySem.Expr.ListComp _ _ _ _) _) _) _ _ _)); (first | (k_unfold; (try dsimp only)) | (refine' (?hh : NextQ _ _) _ ?_; (case hh => with_reducible assumption)) | (refine' (?hh : RestQ _ _) _ _ True.intro ?_; (case hh => with_reducible assumption)) | (((with_reducible show wpAny _ _ (subscriptTail _ (PySem.Expr.Slice none (some _) none _) (Value.ref _) (Value.ref _)) _ _ _); k_dflt (refine' slice_toT ?F ?N ?l ?y ?_ ?s ?z; (case F => k_asm); (case N => k_asm); (case l => first | exact Fr.lst (by k_asm) (by assumption) | exact News.isList (by k_asm) (by k_mem)); (case y => omega); (case s => with_unfolding_all rfl); (case z => first | assumption | exact Nat.le_of_ble_eq_true rfl)); intro _ _ _ _ l1Z; (try k_lt l1Z); (try k_sweep))) | ((with_reducible show wpAny _ _ (subscriptTail (PySem.Expr.Name _ _) (PySem.Expr.Name _ _) (Value.ref _) (Value.int _ _)) _ _ _); ((with_reducible show wpAny _ _ (subscriptTail _ _ (Value.ref _) (Value.int _ _)) _ _ _); k_dflt (refine' item_listL ?l ?a ?b ?x ?_; (case l => exact News.isList (by k_asm) (by walk_at "memZ")); (case a => omega); (case b => omega); (case x => assumption); k_whole))) | ((with_reducible show wpAny _ _ (call (Value.builtin "len") _ _) _ _ _); (k_dflt (refine' len_list ?l ?z ?_; (case l => exact News.isList (by k_asm) (by walk_at "memZ")); (case z => assumption); k_whole))) | walk1 | (dsimp only; walk1) | (leave1; walk_say "STEP leave1"; try dsimp only))))
      refine comp_assign (by with_unfolding_all rfl) (by with_unfolding_all rfl) (by rfl) (by decide) ?_
      (first | (k_unfold; (try dsimp only)) | (refine' (?hh : NextQ _ _) _ ?_; (case hh => with_reducible assumption)) | (refine' (?hh : RestQ _ _) _ _ True.intro ?_; (case hh => with_reducible assumption)) | (((with_reducible show wpAny _ _ (subscriptTail _ (PySem.Expr.Slice none (some _) none _) (Value.ref _) (Value.ref _)) _ _ _); k_dflt (refine' slice_toT ?F ?N ?l ?y ?_ ?s ?z; (case F => k_asm); (case N => k_asm); (case l => first | exact Fr.lst (by k_asm) (by assumption) | exact News.isList (by k_asm) (by k_mem)); (case y => omega); (case s => with_unfolding_all rfl); (case z => first | assumption | exact Nat.le_of_ble_eq_true rfl)); intro _ _ _ _ l1Z; (try k_lt l1Z); (try k_sweep))) | ((with_reducible show wpAny _ _ (subscriptTail (PySem.Expr.Name _ _) (PySem.Expr.Name _ _) (Value.ref _) (Value.int _ _)) _ _ _); ((with_reducible show wpAny _ _ (subscriptTail _ _ (Value.ref _) (Value.int _ _)) _ _ _); k_dflt (refine' item_listL ?l ?a ?b ?x ?_; (case l => exact News.isList (by k_asm) (by walk_at "memZ")); (case a => omega); (case b => omega); (case x => assumption); k_whole))) | ((with_reducible show wpAny _ _ (call (Value.builtin "len") _ _) _ _ _); (k_dflt (refine' len_list ?l ?z ?_; (case l => exact News.isList (by k_asm) (by walk_at "memZ")); (case z => assumption); k_whole))) | walk1 | (dsimp only; walk1) | (leave1; walk_say "STEP leave1"; try dsimp only))
      rename Fr _ _ _ _ => F3
      rename News _ _ _ _ => N3
      have N4 : News g L _ ([(L + 1 + 1 + 1 + 1, c1), (L + 1 + 1 + 1, c2), (L + 1 + 1, c3), (L + 1, c4)] ++ X9) := News.sub N3 fun p hp => .tail _ hp
      clear N3
      refine compAt_pairs (PrX X9) (fun _ => True) (JX [(L + 1 + 1 + 1 + 1, c1), (L + 1 + 1 + 1, c2), (L + 1 + 1, c3), (L + 1, c4)] X9 (fun i => (ms.take i).map datM)) (by decide) rfl rfl rfl (by decide) rfl F3 N4 (.inr ⟨_, List.mem_append_right _ tmem, rfl, tn, rfl⟩) ?_ trivial ⟨X9, rfl, off2, fun _ h => h, .nil⟩ (fun nw => ∀ p ∈ X9, p ∈ nw) (fun p hp => List.mem_append_right _ hp) ?_ ?_ ?_
      · rw [List.size_toArray, tall.length, List.length_map, sizeLine_eq]; omega
      · intro i v h nw hv hk hN hS
        have hi : i < ms.length := by have := tall.length; rw [List.length_map] at this; rw [← this]; simpa using (Array.getElem?_eq_some_iff.mp hv).1
        obtain ⟨T', a, b, e, hp, n', hm⟩ := pr_of tall (by simpa using hv) (datP_get (List.getElem?_eq_getElem hi))
        exact ⟨T', a, b, e, ⟨_, (hN _ (hS _ hm)).1, rfl, n', rfl⟩, hp⟩
      · rintro i v I' oI C oC D m₂ ys news₁ h tk dr hi _ hv ⟨a, b, hp, hma, hmb⟩ hns ⟨Z, rfl, offZ, hXZ, hys⟩ hS2 F5 N5 off5 ne5
        have hi' : i < ms.length := by have := tall.length; rw [List.length_map] at this; rw [← this]; simpa using hi
        obtain ⟨q, hq⟩ : ∃ q, ms[i]? = some q := ⟨_, List.getElem?_eq_getElem hi'⟩
        obtain ⟨ha1, hb1⟩ := pr_at N5 (fun p hp => .tail _ (.tail _ (.tail _ (List.mem_append_right _ (hXZ p hp))))) tall (by simpa using hv) (datP_get hq) hp
        obtain ⟨ta, rfl⟩ := DatIn.int_ ha1
        obtain ⟨tb, rfl⟩ := DatIn.int_ hb1
        have hxx := off5
        simp only [List.cons_append, List.nil_append] at N5
        (repeat' ((fail_if_success (with_reducible show wpAny _ _ (call (Value.ref _) _ _) _ _ _)); (first | (k_unfold; (try dsimp only)) | (refine' (?hh : NextQ _ _) _ ?_; (case hh => with_reducible assumption)) | (refine' (?hh : RestQ _ _) _ _ True.intro ?_; (case hh => with_reducible assumption)) | (((with_reducible show wpAny _ _ (subscriptTail _ (PySem.Expr.Slice none (some _) none _) (Value.ref _) (Value.ref _)) _ _ _); k_dflt (refine' slice_toT ?F ?N ?l ?y ?_ ?s ?z; (case F => k_asm); (case N => k_asm); (case l => first | exact Fr.lst (by k_asm) (by assumption) | exact News.isList (by k_asm) (by k_mem)); (case y => omega); (case s => with_unfolding_all rfl); (case z => first | assumption | exact Nat.le_of_ble_eq_true rfl)); intro _ _ _ _ l1Z; (try k_lt l1Z); (try k_sweep))) | ((with_reducible show wpAny _ _ (subscriptTail (PySem.Expr.Name _ _) (PySem.Expr.Name _ _) (Value.ref _) (Value.int _ _)) _ _ _); ((with_reducible show wpAny _ _ (subscriptTail _ _ (Value.ref _) (Value.int _ _)) _ _ _); k_dflt (refine' item_listL ?l ?a ?b ?x ?_; (case l => exact News.isList (by k_asm) (by walk_at "memZ")); (case a => omega); (case b => omega); (case x => assumption); k_whole))) | ((with_reducible show wpAny _ _ (call (Value.builtin "len") _ _) _ _ _); (k_dflt (refine' len_list ?l ?z ?_; (case l => exact News.isList (by k_asm) (by walk_at "memZ")); (case z => assumption); k_whole))) | walk1 | (dsimp only; walk1) | (leave1; walk_say "STEP leave1"; try dsimp only))))
        (k_dflt (refine' use_parts ?F ?N ?X ?T ?d ?u ?_; (case F => k_asm); (case N => k_asm); (case X => k_asm); (case T => k_asm); (case d => (first | assumption | exact room2 (by assumption) rfl | exact room1 (by assumption) rfl | exact room0 (by assumption) | omega | ((try dsimp only [Around.deeper, Around.in1]); omega) | ((try simp only [depth_deeper, units_deeper, depth_in1, units_in1] at *); omega))); (case u => (first | assumption | exact room2 (by assumption) rfl | exact room1 (by assumption) rfl | exact room0 (by assumption) | omega | ((try dsimp only [Around.deeper, Around.in1]); omega) | ((try simp only [depth_deeper, units_deeper, depth_in1, units_in1] at *); omega)))))
        intro l9 lvs ln h6 tk6 F6 N6 ol9 hs6
        clear F5 N5
        (try dsimp only)
        repeat' ((fail_if_success (with_reducible show wpAny _ _ (newTuple _) _ _ _)); (first | (k_unfold; (try dsimp only)) | (refine' (?hh : NextQ _ _) _ ?_; (case hh => with_reducible assumption)) | (refine' (?hh : RestQ _ _) _ _ True.intro ?_; (case hh => with_reducible assumption)) | (((with_reducible show wpAny _ _ (subscriptTail _ (PySem.Expr.Slice none (some _) none _) (Value.ref _) (Value.ref _)) _ _ _); k_dflt (refine' slice_toT ?F ?N ?l ?y ?_ ?s ?z; (case F => k_asm); (case N => k_asm); (case l => first | exact Fr.lst (by k_asm) (by assumption) | exact News.isList (by k_asm) (by k_mem)); (case y => omega); (case s => with_unfolding_all rfl); (case z => first | assumption | exact Nat.le_of_ble_eq_true rfl)); intro _ _ _ _ l1Z; (try k_lt l1Z); (try k_sweep))) | ((with_reducible show wpAny _ _ (subscriptTail (PySem.Expr.Name _ _) (PySem.Expr.Name _ _) (Value.ref _) (Value.int _ _)) _ _ _); ((with_reducible show wpAny _ _ (subscriptTail _ _ (Value.ref _) (Value.int _ _)) _ _ _); k_dflt (refine' item_listL ?l ?a ?b ?x ?_; (case l => exact News.isList (by k_asm) (by walk_at "memZ")); (case a => omega); (case b => omega); (case x => assumption); k_whole))) | ((with_reducible show wpAny _ _ (call (Value.builtin "len") _ _) _ _ _); (k_dflt (refine' len_list ?l ?z ?_; (case l => exact News.isList (by k_asm) (by walk_at "memZ")); (case z => assumption); k_whole))) | walk1 | (dsimp only; walk1) | (leave1; walk_say "STEP leave1"; try dsimp only)))
        (k_dflt (refine' new_tup ?F ?N ?z ?_; (case F => k_asm); (case N => k_asm); (case z => exact Nat.le_of_ble_eq_true rfl)))
        intro T6 h7 F7 N7 ol7
        clear F6 N6
        (try dsimp only)
        repeat' ((first | (k_unfold; (try dsimp only)) | (refine' (?hh : NextQ _ _) _ ?_; (case hh => with_reducible assumption)) | (refine' (?hh : RestQ _ _) _ _ True.intro ?_; (case hh => with_reducible assumption)) | (((with_reducible show wpAny _ _ (subscriptTail _ (PySem.Expr.Slice none (some _) none _) (Value.ref _) (Value.ref _)) _ _ _); k_dflt (refine' slice_toT ?F ?N ?l ?y ?_ ?s ?z; (case F => k_asm); (case N => k_asm); (case l => first | exact Fr.lst (by k_asm) (by assumption) | exact News.isList (by k_asm) (by k_mem)); (case y => omega); (case s => with_unfolding_all rfl); (case z => first | assumption | exact Nat.le_of_ble_eq_true rfl)); intro _ _ _ _ l1Z; (try k_lt l1Z); (try k_sweep))) | ((with_reducible show wpAny _ _ (subscriptTail (PySem.Expr.Name _ _) (PySem.Expr.Name _ _) (Value.ref _) (Value.int _ _)) _ _ _); ((with_reducible show wpAny _ _ (subscriptTail _ _ (Value.ref _) (Value.int _ _)) _ _ _); k_dflt (refine' item_listL ?l ?a ?b ?x ?_; (case l => exact News.isList (by k_asm) (by walk_at "memZ")); (case a => omega); (case b => omega); (case x => assumption); k_whole))) | ((with_reducible show wpAny _ _ (call (Value.builtin "len") _ _) _ _ _); (k_dflt (refine' len_list ?l ?z ?_; (case l => exact News.isList (by k_asm) (by walk_at "memZ")); (case z => assumption); k_whole))) | walk1 | (dsimp only; walk1) | (leave1; walk_say "STEP leave1"; try dsimp only)))
        obtain ⟨NN, o3, oc⟩ := two_end (cs := [(L + 1 + 1 + 1 + 1, c1), (L + 1 + 1 + 1, c2), (L + 1 + 1, c3), (L + 1, c4)]) (Y := Z) N7 ol7 ol9 off5 offZ
        exact ⟨_, _, _, _, rfl, trivial, F7, NN, o3, ⟨.inr ⟨_, List.mem_append_right _ (.tail _ (.tail _ (hXZ _ tmem))), rfl, tn, rfl⟩, fun p hp => List.mem_append_right _ (.tail _ (.tail _ (hXZ p hp)))⟩, _, rfl, oc, fun p hp => .tail _ (.tail _ (hXZ p hp)), dat_take hys (fun _ hp => .tail _ (.tail _ hp)) hq (.tuple (.head _) (.cons (.list (.tail _ (.head _)) (strs_dat _ hs6)) (.cons (.int _ _) .nil)))⟩
      · rintro D C h tk dr m' ys news' _ hJ F5 N5 off5 hn hC0 hD0 hCL hDL hCD offC
        refine' post_assign ?r0 ?r1 ?r2 ?fin ?F ?N off5 hn hC0 ?L hCD offC
        case F => exact F5
        case r0 => rfl
        case r1 => rfl
        case r2 => rfl
        case N => exact N5
        case L => exact hCL
        intro h6 tk6 F6 N6 off6
        obtain ⟨Y1, NY1, oY1, hXY1, hmods, _, _⟩ := jx_end hJ N6 off6
        rw [show tvs.toArray.size = ms.length by rw [List.size_toArray, tall.length, List.length_map], List.take_length] at hmods
        clear F5 N5 N6 N4 F3
        simp only [List.cons_append, List.nil_append] at NY1
        obtain ⟨avs, an, amem, aall⟩ := list_of (hla.mono hXY1)
        have amz := size_of aall
        (repeat' ((fail_if_success (with_reducible show wpAny _ _ (eval (PySem.Expr.ListComp _ _ _ _) _) _ _ _)); (first | (k_unfold; (try dsimp only)) | (refine' (?hh : NextQ _ _) _ ?_; (case hh => with_reducible assumption)) | (refine' (?hh : RestQ _ _) _ _ True.intro ?_; (case hh => with_reducible assumption)) | (((with_reducible show wpAny _ _ (subscriptTail _ (PySem.Expr.Slice none (some _) none _) (Value.ref _) (Value.ref _)) _ _ _); k_dflt (refine' slice_toT ?F ?N ?l ?y ?_ ?s ?z; (case F => k_asm); (case N => k_asm); (case l => first | exact Fr.lst (by k_asm) (by assumption) | exact News.isList (by k_asm) (by k_mem)); (case y => omega); (case s => with_unfolding_all rfl); (case z => first | assumption | exact Nat.le_of_ble_eq_true rfl)); intro _ _ _ _ l1Z; (try k_lt l1Z); (try k_sweep))) | ((with_reducible show wpAny _ _ (subscriptTail (PySem.Expr.Name _ _) (PySem.Expr.Name _ _) (Value.ref _) (Value.int _ _)) _ _ _); ((with_reducible show wpAny _ _ (subscriptTail _ _ (Value.ref _) (Value.int _ _)) _ _ _); k_dflt (refine' item_listL ?l ?a ?b ?x ?_; (case l => exact News.isList (by k_asm) (by walk_at "memZ")); (case a => omega); (case b => omega); (case x => assumption); k_whole))) | ((with_reducible show wpAny _ _ (call (Value.builtin "len") _ _) _ _ _); (k_dflt (refine' len_list ?l ?z ?_; (case l => exact News.isList (by k_asm) (by walk_at "memZ")); (case z => assumption); k_whole))) | walk1 | (dsimp only; walk1) | (leave1; walk_say "STEP leave1"; try dsimp only))))
        refine comp_eval (by with_unfolding_all rfl) (by rfl) (by decide) ?_
        (first | (k_unfold; (try dsimp only)) | (refine' (?hh : NextQ _ _) _ ?_; (case hh => with_reducible assumption)) | (refine' (?hh : RestQ _ _) _ _ True.intro ?_; (case hh => with_reducible assumption)) | (((with_reducible show wpAny _ _ (subscriptTail _ (PySem.Expr.Slice none (some _) none _) (Value.ref _) (Value.ref _)) _ _ _); k_dflt (refine' slice_toT ?F ?N ?l ?y ?_ ?s ?z; (case F => k_asm); (case N => k_asm); (case l => first | exact Fr.lst (by k_asm) (by assumption) | exact News.isList (by k_asm) (by k_mem)); (case y => omega); (case s => with_unfolding_all rfl); (case z => first | assumption | exact Nat.le_of_ble_eq_true rfl)); intro _ _ _ _ l1Z; (try k_lt l1Z); (try k_sweep))) | ((with_reducible show wpAny _ _ (subscriptTail (PySem.Expr.Name _ _) (PySem.Expr.Name _ _) (Value.ref _) (Value.int _ _)) _ _ _); ((with_reducible show wpAny _ _ (subscriptTail _ _ (Value.ref _) (Value.int _ _)) _ _ _); k_dflt (refine' item_listL ?l ?a ?b ?x ?_; (case l => exact News.isList (by k_asm) (by walk_at "memZ")); (case a => omega); (case b => omega); (case x => assumption); k_whole))) | ((with_reducible show wpAny _ _ (call (Value.builtin "len") _ _) _ _ _); (k_dflt (refine' len_list ?l ?z ?_; (case l => exact News.isList (by k_asm) (by walk_at "memZ")); (case z => assumption); k_whole))) | walk1 | (dsimp only; walk1) | (leave1; walk_say "STEP leave1"; try dsimp only))
        refine compAt_pairs (PrX Y1) (fun _ => True) (JX [(L + 1 + 1 + 1 + 1, c1), (L + 1 + 1 + 1, c2), (L + 1 + 1, c3), (L + 1, c4)] Y1 (fun i => (as.take i).map fun q => .str (nameS q.1))) (by decide) rfl rfl rfl (by decide) rfl F6 (news := [(L + 1 + 1 + 1 + 1, c1), (L + 1 + 1 + 1, c2), (L + 1 + 1, c3), (L + 1, c4)] ++ Y1) NY1 (.inr ⟨_, List.mem_append_right _ amem, rfl, an, rfl⟩) ?_ trivial ⟨Y1, rfl, oY1, fun _ h => h, .nil⟩ (fun nw => ∀ p ∈ Y1, p ∈ nw) (fun p hp => List.mem_append_right _ hp) ?_ ?_ ?_
        · rw [amz, sizeLine_eq]; omega
        · intro i v h nw hv hk hN hS
          have hi : i < as.length := amz ▸ (Array.getElem?_eq_some_iff.mp hv).1
          obtain ⟨T', a, b, e, hp, n', hm⟩ := pr_of aall (by simpa using hv) (datA_get (List.getElem?_eq_getElem hi))
          exact ⟨T', a, b, e, ⟨_, (hN _ (hS _ hm)).1, rfl, n', rfl⟩, hp⟩
        · rintro i v I' oI C' oC D' m₂ ys' news₁ h tk dr hi _ hv ⟨a, b, hp, hma, hmb⟩ hns ⟨Z, rfl, offZ, hXZ, hys⟩ hS2 F7 N7 off7 ne7
          obtain ⟨q, hq⟩ : ∃ q, as[i]? = some q := ⟨_, List.getElem?_eq_getElem (amz ▸ hi)⟩
          obtain ⟨ha1, hb1⟩ := pr_at N7 (fun p hp => .tail _ (.tail _ (.tail _ (List.mem_append_right _ (hXZ p hp))))) aall (by simpa using hv) (datA_get hq) hp
          obtain ⟨ta, rfl⟩ := DatIn.int_ ha1
          simp only [List.cons_append, List.nil_append] at N7
          (repeat' ((fail_if_success (with_reducible show wpAny _ _ (call (Value.ref _) _ _) _ _ _)); (first | (k_unfold; (try dsimp only)) | (refine' (?hh : NextQ _ _) _ ?_; (case hh => with_reducible assumption)) | (refine' (?hh : RestQ _ _) _ _ True.intro ?_; (case hh => with_reducible assumption)) | (((with_reducible show wpAny _ _ (subscriptTail _ (PySem.Expr.Slice none (some _) none _) (Value.ref _) (Value.ref _)) _ _ _); k_dflt (refine' slice_toT ?F ?N ?l ?y ?_ ?s ?z; (case F => k_asm); (case N => k_asm); (case l => first | exact Fr.lst (by k_asm) (by assumption) | exact News.isList (by k_asm) (by k_mem)); (case y => omega); (case s => with_unfolding_all rfl); (case z => first | assumption | exact Nat.le_of_ble_eq_true rfl)); intro _ _ _ _ l1Z; (try k_lt l1Z); (try k_sweep))) | ((with_reducible show wpAny _ _ (subscriptTail (PySem.Expr.Name _ _) (PySem.Expr.Name _ _) (Value.ref _) (Value.int _ _)) _ _ _); ((with_reducible show wpAny _ _ (subscriptTail _ _ (Value.ref _) (Value.int _ _)) _ _ _); k_dflt (refine' item_listL ?l ?a ?b ?x ?_; (case l => exact News.isList (by k_asm) (by walk_at "memZ")); (case a => omega); (case b => omega); (case x => assumption); k_whole))) | ((with_reducible show wpAny _ _ (call (Value.builtin "len") _ _) _ _ _); (k_dflt (refine' len_list ?l ?z ?_; (case l => exact News.isList (by k_asm) (by walk_at "memZ")); (case z => assumption); k_whole))) | walk1 | (dsimp only; walk1) | (leave1; walk_say "STEP leave1"; try dsimp only))))
          (k_dflt (refine' use_ct (c_name _ _) ?F ?N ?X ?T ?d ?u ?P ?_; (case F => k_asm); (case N => k_asm); (case X => k_asm); (case T => k_asm); (case d => (first | assumption | exact room2 (by assumption) rfl | exact room1 (by assumption) rfl | exact room0 (by assumption) | omega | ((try dsimp only [Around.deeper, Around.in1]); omega) | ((try simp only [depth_deeper, units_deeper, depth_in1, units_in1] at *); omega))); (case u => (first | assumption | exact room2 (by assumption) rfl | exact room1 (by assumption) rfl | exact room0 (by assumption) | omega | ((try dsimp only [Around.deeper, Around.in1]); omega) | ((try simp only [depth_deeper, units_deeper, depth_in1, units_in1] at *); omega))); (case P => exact trivial)))
          rintro _ h8 tk8 F8 N8 st8 ⟨u8, rfl⟩
          (try dsimp only)
          repeat' ((first | (k_unfold; (try dsimp only)) | (refine' (?hh : NextQ _ _) _ ?_; (case hh => with_reducible assumption)) | (refine' (?hh : RestQ _ _) _ _ True.intro ?_; (case hh => with_reducible assumption)) | (((with_reducible show wpAny _ _ (subscriptTail _ (PySem.Expr.Slice none (some _) none _) (Value.ref _) (Value.ref _)) _ _ _); k_dflt (refine' slice_toT ?F ?N ?l ?y ?_ ?s ?z; (case F => k_asm); (case N => k_asm); (case l => first | exact Fr.lst (by k_asm) (by assumption) | exact News.isList (by k_asm) (by k_mem)); (case y => omega); (case s => with_unfolding_all rfl); (case z => first | assumption | exact Nat.le_of_ble_eq_true rfl)); intro _ _ _ _ l1Z; (try k_lt l1Z); (try k_sweep))) | ((with_reducible show wpAny _ _ (subscriptTail (PySem.Expr.Name _ _) (PySem.Expr.Name _ _) (Value.ref _) (Value.int _ _)) _ _ _); ((with_reducible show wpAny _ _ (subscriptTail _ _ (Value.ref _) (Value.int _ _)) _ _ _); k_dflt (refine' item_listL ?l ?a ?b ?x ?_; (case l => exact News.isList (by k_asm) (by walk_at "memZ")); (case a => omega); (case b => omega); (case x => assumption); k_whole))) | ((with_reducible show wpAny _ _ (call (Value.builtin "len") _ _) _ _ _); (k_dflt (refine' len_list ?l ?z ?_; (case l => exact News.isList (by k_asm) (by walk_at "memZ")); (case z => assumption); k_whole))) | walk1 | (dsimp only; walk1) | (leave1; walk_say "STEP leave1"; try dsimp only)))
          exact ⟨_, _, _, [(L + 1 + 1 + 1 + 1, c1), (L + 1 + 1 + 1, c2), (L + 1 + 1, c3), (L + 1, c4)] ++ Z, rfl, trivial, F8, N8, off7, ⟨.inr ⟨_, List.mem_append_right _ (hXZ _ amem), rfl, an, rfl⟩, fun p hp => List.mem_append_right _ (hXZ p hp)⟩, Z, rfl, offZ, hXZ, dat_take hys (fun _ hp => hp) hq (.str _ _)⟩
        · rintro D2 C' h tk dr m'' ys2 news2 _ hJ2 F7 N7 off7 hn' hC0' hD0' hCL' hDL' hCD' offC'
          refine post_eval ?_ F7 N7 off7 hn' hC0' hCL' hCD' offC'
          intro h8 tk8 F8 N8 off8
          clear F7 N7
          obtain ⟨Y2, NY2, oY2, hXY2, _, mem2, all2⟩ := jx_end hJ2 N8 off8
          rw [amz, List.take_length] at all2
          clear N8 F6 NY1
          have ysl2 : ys2.length ≤ 1000 := by rw [all2.length, List.length_map]; omega
          (repeat' ((fail_if_success (with_reducible show wpAny _ _ (binaryOp _ (Value.ref _) _) _ _ _)); (first | (k_unfold; (try dsimp only)) | (refine' (?hh : NextQ _ _) _ ?_; (case hh => with_reducible assumption)) | (refine' (?hh : RestQ _ _) _ _ True.intro ?_; (case hh => with_reducible assumption)) | (((with_reducible show wpAny _ _ (subscriptTail _ (PySem.Expr.Slice none (some _) none _) (Value.ref _) (Value.ref _)) _ _ _); k_dflt (refine' slice_toT ?F ?N ?l ?y ?_ ?s ?z; (case F => k_asm); (case N => k_asm); (case l => first | exact Fr.lst (by k_asm) (by assumption) | exact News.isList (by k_asm) (by k_mem)); (case y => omega); (case s => with_unfolding_all rfl); (case z => first | assumption | exact Nat.le_of_ble_eq_true rfl)); intro _ _ _ _ l1Z; (try k_lt l1Z); (try k_sweep))) | ((with_reducible show wpAny _ _ (subscriptTail (PySem.Expr.Name _ _) (PySem.Expr.Name _ _) (Value.ref _) (Value.int _ _)) _ _ _); ((with_reducible show wpAny _ _ (subscriptTail _ _ (Value.ref _) (Value.int _ _)) _ _ _); k_dflt (refine' item_listL ?l ?a ?b ?x ?_; (case l => exact News.isList (by k_asm) (by walk_at "memZ")); (case a => omega); (case b => omega); (case x => assumption); k_whole))) | ((with_reducible show wpAny _ _ (call (Value.builtin "len") _ _) _ _ _); (k_dflt (refine' len_list ?l ?z ?_; (case l => exact News.isList (by k_asm) (by walk_at "memZ")); (case z => assumption); k_whole))) | walk1 | (dsimp only; walk1) | (leave1; walk_say "STEP leave1"; try dsimp only))))
          (k_dflt (refine' mul2 ?F ?N ?m ?z ?_; (case F => k_asm); (case N => exact NY2); (case m => exact List.mem_append_right _ mem2); (case z => assumption)))
          intro Da h9 F9 N9 l9
          obtain ⟨NY3, oY3⟩ := led_add N9 l9 oY2
          have hask : DatIn ((Da, W.listOf (ys2 ++ ys2).toArray 0) :: Y2) (.ref Da) (.list ((as.map fun q => .str (nameS q.1)) ++ (as.map fun q => .str (nameS q.1)))) := .list (.head _) ((all2.append all2).mono fun _ hp => .tail _ hp)
          have hXY3 : ∀ p ∈ Y1, p ∈ (Da, W.listOf (ys2 ++ ys2).toArray 0) :: Y2 := fun p hp => .tail _ (hXY2 p hp)
          clear N9 l9 NY2 F8
          generalize ((Da, W.listOf (ys2 ++ ys2).toArray 0) :: Y2) = Y3 at NY3 oY3 hask hXY3
          have oA : ∀ p ∈ Y3, p.1 ≠ L + 1 := fun p hp => oY3 p hp _ (.tail _ (.tail _ (.tail _ (.head _))))
          simp only [List.cons_append, List.nil_append] at NY3
          (try dsimp only)
          (repeat' ((fail_if_success (with_reducible show wpAny _ _ (eval (PySem.Expr.ListComp _ _ _ _) _) _ _ _)); (first | (k_unfold; (try dsimp only)) | (refine' (?hh : NextQ _ _) _ ?_; (case hh => with_reducible assumption)) | (refine' (?hh : RestQ _ _) _ _ True.intro ?_; (case hh => with_reducible assumption)) | (((with_reducible show wpAny _ _ (subscriptTail _ (PySem.Expr.Slice none (some _) none _) (Value.ref _) (Value.ref _)) _ _ _); k_dflt (refine' slice_toT ?F ?N ?l ?y ?_ ?s ?z; (case F => k_asm); (case N => k_asm); (case l => first | exact Fr.lst (by k_asm) (by assumption) | exact News.isList (by k_asm) (by k_mem)); (case y => omega); (case s => with_unfolding_all rfl); (case z => first | assumption | exact Nat.le_of_ble_eq_true rfl)); intro _ _ _ _ l1Z; (try k_lt l1Z); (try k_sweep))) | ((with_reducible show wpAny _ _ (subscriptTail (PySem.Expr.Name _ _) (PySem.Expr.Name _ _) (Value.ref _) (Value.int _ _)) _ _ _); ((with_reducible show wpAny _ _ (subscriptTail _ _ (Value.ref _) (Value.int _ _)) _ _ _); k_dflt (refine' item_listL ?l ?a ?b ?x ?_; (case l => exact News.isList (by k_asm) (by walk_at "memZ")); (case a => omega); (case b => omega); (case x => assumption); k_whole))) | ((with_reducible show wpAny _ _ (call (Value.builtin "len") _ _) _ _ _); (k_dflt (refine' len_list ?l ?z ?_; (case l => exact News.isList (by k_asm) (by walk_at "memZ")); (case z => assumption); k_whole))) | walk1 | (dsimp only; walk1) | (leave1; walk_say "STEP leave1"; try dsimp only))))
          rename_i h10 c5 F10 NY4 d5 _ _ _
          try clear NY3
          try clear F9
          try clear d4
          replace oY3 := offC_addr (cs' := [(L + 1 + 1 + 1 + 1, c1), (L + 1 + 1 + 1, c2), (L + 1 + 1, c3), (L + 1, c5)]) oY3 rfl
          have a2all := aall.mono hXY3
          have a2mem := hXY3 _ amem
          refine comp_eval (by with_unfolding_all rfl) (by rfl) (by decide) ?_
          (first | (k_unfold; (try dsimp only)) | (refine' (?hh : NextQ _ _) _ ?_; (case hh => with_reducible assumption)) | (refine' (?hh : RestQ _ _) _ _ True.intro ?_; (case hh => with_reducible assumption)) | (((with_reducible show wpAny _ _ (subscriptTail _ (PySem.Expr.Slice none (some _) none _) (Value.ref _) (Value.ref _)) _ _ _); k_dflt (refine' slice_toT ?F ?N ?l ?y ?_ ?s ?z; (case F => k_asm); (case N => k_asm); (case l => first | exact Fr.lst (by k_asm) (by assumption) | exact News.isList (by k_asm) (by k_mem)); (case y => omega); (case s => with_unfolding_all rfl); (case z => first | assumption | exact Nat.le_of_ble_eq_true rfl)); intro _ _ _ _ l1Z; (try k_lt l1Z); (try k_sweep))) | ((with_reducible show wpAny _ _ (subscriptTail (PySem.Expr.Name _ _) (PySem.Expr.Name _ _) (Value.ref _) (Value.int _ _)) _ _ _); ((with_reducible show wpAny _ _ (subscriptTail _ _ (Value.ref _) (Value.int _ _)) _ _ _); k_dflt (refine' item_listL ?l ?a ?b ?x ?_; (case l => exact News.isList (by k_asm) (by walk_at "memZ")); (case a => omega); (case b => omega); (case x => assumption); k_whole))) | ((with_reducible show wpAny _ _ (call (Value.builtin "len") _ _) _ _ _); (k_dflt (refine' len_list ?l ?z ?_; (case l => exact News.isList (by k_asm) (by walk_at "memZ")); (case z => assumption); k_whole))) | walk1 | (dsimp only; walk1) | (leave1; walk_say "STEP leave1"; try dsimp only))
          refine compAt_pairs (PrX Y3) (fun _ => True) (JX [(L + 1 + 1 + 1 + 1, c1), (L + 1 + 1 + 1, c2), (L + 1 + 1, c3), (L + 1, c5)] Y3 (fun i => (as.take i).map fun q => strsD (lawParts q.1))) (by decide) rfl rfl rfl (by decide) rfl F10 (news := [(L + 1 + 1 + 1 + 1, c1), (L + 1 + 1 + 1, c2), (L + 1 + 1, c3), (L + 1, c5)] ++ Y3) NY4 (.inr ⟨_, List.mem_append_right _ a2mem, rfl, an, rfl⟩) ?_ trivial ⟨Y3, rfl, oY3, fun _ h => h, .nil⟩ (fun nw => ∀ p ∈ Y3, p ∈ nw) (fun p hp => List.mem_append_right _ hp) ?_ ?_ ?_
          · rw [amz, sizeLine_eq]; omega
          · intro i v h nw hv hk hN hS
            have hi : i < as.length := amz ▸ (Array.getElem?_eq_some_iff.mp hv).1
            obtain ⟨T', a, b, e, hp, n', hm⟩ := pr_of a2all (by simpa using hv) (datA_get (List.getElem?_eq_getElem hi))
            exact ⟨T', a, b, e, ⟨_, (hN _ (hS _ hm)).1, rfl, n', rfl⟩, hp⟩
          · rintro i v I' oI C' oC D' m₂ ys' news₁ h tk dr hi _ hv ⟨a, b, hp, hma, hmb⟩ hns ⟨Z, rfl, offZ, hXZ, hys⟩ hS2 F7 N7 off7 ne7
            obtain ⟨q, hq⟩ : ∃ q, as[i]? = some q := ⟨_, List.getElem?_eq_getElem (amz ▸ hi)⟩
            obtain ⟨ha1, hb1⟩ := pr_at N7 (fun p hp => .tail _ (.tail _ (.tail _ (List.mem_append_right _ (hXZ p hp))))) a2all (by simpa using hv) (datA_get hq) hp
            obtain ⟨ta, rfl⟩ := DatIn.int_ ha1
            simp only [List.cons_append, List.nil_append] at N7
            (repeat' ((fail_if_success (with_reducible show wpAny _ _ (call (Value.ref _) _ _) _ _ _)); (first | (k_unfold; (try dsimp only)) | (refine' (?hh : NextQ _ _) _ ?_; (case hh => with_reducible assumption)) | (refine' (?hh : RestQ _ _) _ _ True.intro ?_; (case hh => with_reducible assumption)) | (((with_reducible show wpAny _ _ (subscriptTail _ (PySem.Expr.Slice none (some _) none _) (Value.ref _) (Value.ref _)) _ _ _); k_dflt (refine' slice_toT ?F ?N ?l ?y ?_ ?s ?z; (case F => k_asm); (case N => k_asm); (case l => first | exact Fr.lst (by k_asm) (by assumption) | exact News.isList (by k_asm) (by k_mem)); (case y => omega); (case s => with_unfolding_all rfl); (case z => first | assumption | exact Nat.le_of_ble_eq_true rfl)); intro _ _ _ _ l1Z; (try k_lt l1Z); (try k_sweep))) | ((with_reducible show wpAny _ _ (subscriptTail (PySem.Expr.Name _ _) (PySem.Expr.Name _ _) (Value.ref _) (Value.int _ _)) _ _ _); ((with_reducible show wpAny _ _ (subscriptTail _ _ (Value.ref _) (Value.int _ _)) _ _ _); k_dflt (refine' item_listL ?l ?a ?b ?x ?_; (case l => exact News.isList (by k_asm) (by walk_at "memZ")); (case a => omega); (case b => omega); (case x => assumption); k_whole))) | ((with_reducible show wpAny _ _ (call (Value.builtin "len") _ _) _ _ _); (k_dflt (refine' len_list ?l ?z ?_; (case l => exact News.isList (by k_asm) (by walk_at "memZ")); (case z => assumption); k_whole))) | walk1 | (dsimp only; walk1) | (leave1; walk_say "STEP leave1"; try dsimp only))))
            (k_dflt (refine' use_parts ?F ?N ?X ?T ?d ?u ?_; (case F => k_asm); (case N => k_asm); (case X => k_asm); (case T => k_asm); (case d => (first | assumption | exact room2 (by assumption) rfl | exact room1 (by assumption) rfl | exact room0 (by assumption) | omega | ((try dsimp only [Around.deeper, Around.in1]); omega) | ((try simp only [depth_deeper, units_deeper, depth_in1, units_in1] at *); omega))); (case u => (first | assumption | exact room2 (by assumption) rfl | exact room1 (by assumption) rfl | exact room0 (by assumption) | omega | ((try dsimp only [Around.deeper, Around.in1]); omega) | ((try simp only [depth_deeper, units_deeper, depth_in1, units_in1] at *); omega)))))
            intro l9 lvs ln h6 tk6 F6 N6 ol9 hs6
            clear F7 N7
            (try dsimp only)
            repeat' ((first | (k_unfold; (try dsimp only)) | (refine' (?hh : NextQ _ _) _ ?_; (case hh => with_reducible assumption)) | (refine' (?hh : RestQ _ _) _ _ True.intro ?_; (case hh => with_reducible assumption)) | (((with_reducible show wpAny _ _ (subscriptTail _ (PySem.Expr.Slice none (some _) none _) (Value.ref _) (Value.ref _)) _ _ _); k_dflt (refine' slice_toT ?F ?N ?l ?y ?_ ?s ?z; (case F => k_asm); (case N => k_asm); (case l => first | exact Fr.lst (by k_asm) (by assumption) | exact News.isList (by k_asm) (by k_mem)); (case y => omega); (case s => with_unfolding_all rfl); (case z => first | assumption | exact Nat.le_of_ble_eq_true rfl)); intro _ _ _ _ l1Z; (try k_lt l1Z); (try k_sweep))) | ((with_reducible show wpAny _ _ (subscriptTail (PySem.Expr.Name _ _) (PySem.Expr.Name _ _) (Value.ref _) (Value.int _ _)) _ _ _); ((with_reducible show wpAny _ _ (subscriptTail _ _ (Value.ref _) (Value.int _ _)) _ _ _); k_dflt (refine' item_listL ?l ?a ?b ?x ?_; (case l => exact News.isList (by k_asm) (by walk_at "memZ")); (case a => omega); (case b => omega); (case x => assumption); k_whole))) | ((with_reducible show wpAny _ _ (call (Value.builtin "len") _ _) _ _ _); (k_dflt (refine' len_list ?l ?z ?_; (case l => exact News.isList (by k_asm) (by walk_at "memZ")); (case z => assumption); k_whole))) | walk1 | (dsimp only; walk1) | (leave1; walk_say "STEP leave1"; try dsimp only)))
            obtain ⟨NN, o3, oc⟩ := one_end (cs := [(L + 1 + 1 + 1 + 1, c1), (L + 1 + 1 + 1, c2), (L + 1 + 1, c3), (L + 1, c5)]) (Y := Z) N6 ol9 off7 offZ
            exact ⟨_, _, _, _, rfl, trivial, F6, NN, o3, ⟨.inr ⟨_, List.mem_append_right _ (.tail _ (hXZ _ a2mem)), rfl, an, rfl⟩, fun p hp => List.mem_append_right _ (.tail _ (hXZ p hp))⟩, _, rfl, oc, fun p hp => .tail _ (hXZ p hp), dat_take hys (fun _ hp => .tail _ hp) hq (.list (.head _) (strs_dat _ hs6))⟩
          · rintro D3 C' h tk dr m'' ys3 news3 _ hJ3 F7 N7 off7 hn' hC0' hD0' hCL' hDL' hCD' offC'
            refine post_eval ?_ F7 N7 off7 hn' hC0' hCL' hCD' offC'
            intro h8 tk8 F8 N8 off8
            clear F7 N7
            obtain ⟨Y4, NY5, oY4, hXY4, _, mem3, all3⟩ := jx_end hJ3 N8 off8
            rw [amz, List.take_length] at all3
            clear N8 F10 NY4
            have ysl3 : ys3.length ≤ 1000 := by rw [all3.length, List.length_map]; omega
            (repeat' ((fail_if_success (with_reducible show wpAny _ _ (binaryOp _ (Value.ref _) _) _ _ _)); (first | (k_unfold; (try dsimp only)) | (refine' (?hh : NextQ _ _) _ ?_; (case hh => with_reducible assumption)) | (refine' (?hh : RestQ _ _) _ _ True.intro ?_; (case hh => with_reducible assumption)) | (((with_reducible show wpAny _ _ (subscriptTail _ (PySem.Expr.Slice none (some _) none _) (Value.ref _) (Value.ref _)) _ _ _); k_dflt (refine' slice_toT ?F ?N ?l ?y ?_ ?s ?z; (case F => k_asm); (case N => k_asm); (case l => first | exact Fr.lst (by k_asm) (by assumption) | exact News.isList (by k_asm) (by k_mem)); (case y => omega); (case s => with_unfolding_all rfl); (case z => first | assumption | exact Nat.le_of_ble_eq_true rfl)); intro _ _ _ _ l1Z; (try k_lt l1Z); (try k_sweep))) | ((with_reducible show wpAny _ _ (subscriptTail (PySem.Expr.Name _ _) (PySem.Expr.Name _ _) (Value.ref _) (Value.int _ _)) _ _ _); ((with_reducible show wpAny _ _ (subscriptTail _ _ (Value.ref _) (Value.int _ _)) _ _ _); k_dflt (refine' item_listL ?l ?a ?b ?x ?_; (case l => exact News.isList (by k_asm) (by walk_at "memZ")); (case a => omega); (case b => omega); (case x => assumption); k_whole))) | ((with_reducible show wpAny _ _ (call (Value.builtin "len") _ _) _ _ _); (k_dflt (refine' len_list ?l ?z ?_; (case l => exact News.isList (by k_asm) (by walk_at "memZ")); (case z => assumption); k_whole))) | walk1 | (dsimp only; walk1) | (leave1; walk_say "STEP leave1"; try dsimp only))))
            (k_dflt (refine' mul2 ?F ?N ?m ?z ?_; (case F => k_asm); (case N => exact NY5); (case m => exact List.mem_append_right _ mem3); (case z => assumption)))
            intro Ds h9 F9 N9 l9
            obtain ⟨NY6, oY5⟩ := led_add N9 l9 oY4
            have hshown : DatIn ((Ds, W.listOf (ys3 ++ ys3).toArray 0) :: Y4) (.ref Ds) (.list ((as.map fun q => strsD (lawParts q.1)) ++ (as.map fun q => strsD (lawParts q.1)))) := .list (.head _) ((all3.append all3).mono fun _ hp => .tail _ hp)
            have hXY5 : ∀ p ∈ Y3, p ∈ (Ds, W.listOf (ys3 ++ ys3).toArray 0) :: Y4 := fun p hp => .tail _ (hXY4 p hp)
            clear N9 l9 NY5 F8
            generalize ((Ds, W.listOf (ys3 ++ ys3).toArray 0) :: Y4) = Y5 at NY6 oY5 hshown hXY5
            simp only [List.cons_append, List.nil_append] at NY6
            (try dsimp only)
            (repeat' ((fail_if_success (with_reducible show wpAny _ _ (eval (PySem.Expr.ListComp _ _ _ _) _) _ _ _)); (first | (k_unfold; (try dsimp only)) | (refine' (?hh : NextQ _ _) _ ?_; (case hh => with_reducible assumption)) | (refine' (?hh : RestQ _ _) _ _ True.intro ?_; (case hh => with_reducible assumption)) | (((with_reducible show wpAny _ _ (subscriptTail _ (PySem.Expr.Slice none (some _) none _) (Value.ref _) (Value.ref _)) _ _ _); k_dflt (refine' slice_toT ?F ?N ?l ?y ?_ ?s ?z; (case F => k_asm); (case N => k_asm); (case l => first | exact Fr.lst (by k_asm) (by assumption) | exact News.isList (by k_asm) (by k_mem)); (case y => omega); (case s => with_unfolding_all rfl); (case z => first | assumption | exact Nat.le_of_ble_eq_true rfl)); intro _ _ _ _ l1Z; (try k_lt l1Z); (try k_sweep))) | ((with_reducible show wpAny _ _ (subscriptTail (PySem.Expr.Name _ _) (PySem.Expr.Name _ _) (Value.ref _) (Value.int _ _)) _ _ _); ((with_reducible show wpAny _ _ (subscriptTail _ _ (Value.ref _) (Value.int _ _)) _ _ _); k_dflt (refine' item_listL ?l ?a ?b ?x ?_; (case l => exact News.isList (by k_asm) (by walk_at "memZ")); (case a => omega); (case b => omega); (case x => assumption); k_whole))) | ((with_reducible show wpAny _ _ (call (Value.builtin "len") _ _) _ _ _); (k_dflt (refine' len_list ?l ?z ?_; (case l => exact News.isList (by k_asm) (by walk_at "memZ")); (case z => assumption); k_whole))) | walk1 | (dsimp only; walk1) | (leave1; walk_say "STEP leave1"; try dsimp only))))
            rename_i h11 F11 NY6 _ _ _
            have a3all := a2all.mono hXY5
            have a3mem := hXY5 _ a2mem
            refine comp_eval (by with_unfolding_all rfl) (by rfl) (by decide) ?_
            (first | (k_unfold; (try dsimp only)) | (refine' (?hh : NextQ _ _) _ ?_; (case hh => with_reducible assumption)) | (refine' (?hh : RestQ _ _) _ _ True.intro ?_; (case hh => with_reducible assumption)) | (((with_reducible show wpAny _ _ (subscriptTail _ (PySem.Expr.Slice none (some _) none _) (Value.ref _) (Value.ref _)) _ _ _); k_dflt (refine' slice_toT ?F ?N ?l ?y ?_ ?s ?z; (case F => k_asm); (case N => k_asm); (case l => first | exact Fr.lst (by k_asm) (by assumption) | exact News.isList (by k_asm) (by k_mem)); (case y => omega); (case s => with_unfolding_all rfl); (case z => first | assumption | exact Nat.le_of_ble_eq_true rfl)); intro _ _ _ _ l1Z; (try k_lt l1Z); (try k_sweep))) | ((with_reducible show wpAny _ _ (subscriptTail (PySem.Expr.Name _ _) (PySem.Expr.Name _ _) (Value.ref _) (Value.int _ _)) _ _ _); ((with_reducible show wpAny _ _ (subscriptTail _ _ (Value.ref _) (Value.int _ _)) _ _ _); k_dflt (refine' item_listL ?l ?a ?b ?x ?_; (case l => exact News.isList (by k_asm) (by walk_at "memZ")); (case a => omega); (case b => omega); (case x => assumption); k_whole))) | ((with_reducible show wpAny _ _ (call (Value.builtin "len") _ _) _ _ _); (k_dflt (refine' len_list ?l ?z ?_; (case l => exact News.isList (by k_asm) (by walk_at "memZ")); (case z => assumption); k_whole))) | walk1 | (dsimp only; walk1) | (leave1; walk_say "STEP leave1"; try dsimp only))
            refine compAt_pairs (PrX Y5) (fun _ => True) (JX [(L + 1 + 1 + 1 + 1, c1), (L + 1 + 1 + 1, c2), (L + 1 + 1, c3), (L + 1, c5)] Y5 (fun i => (as.take i).map fun q => datO q.2)) (by decide) rfl rfl rfl (by decide) rfl F11 (news := [(L + 1 + 1 + 1 + 1, c1), (L + 1 + 1 + 1, c2), (L + 1 + 1, c3), (L + 1, c5)] ++ Y5) NY6 (.inr ⟨_, List.mem_append_right _ a3mem, rfl, an, rfl⟩) ?_ trivial ⟨Y5, rfl, oY5, fun _ h => h, .nil⟩ (fun nw => ∀ p ∈ Y5, p ∈ nw) (fun p hp => List.mem_append_right _ hp) ?_ ?_ ?_
            · rw [amz, sizeLine_eq]; omega
            · intro i v h nw hv hk hN hS
              have hi : i < as.length := amz ▸ (Array.getElem?_eq_some_iff.mp hv).1
              obtain ⟨T', a, b, e, hp, n', hm⟩ := pr_of a3all (by simpa using hv) (datA_get (List.getElem?_eq_getElem hi))
              exact ⟨T', a, b, e, ⟨_, (hN _ (hS _ hm)).1, rfl, n', rfl⟩, hp⟩
            · rintro i v I' oI C' oC D' m₂ ys' news₁ h tk dr hi _ hv ⟨a, b, hp, hma, hmb⟩ hns ⟨Z, rfl, offZ, hXZ, hys⟩ hS2 F7 N7 off7 ne7
              obtain ⟨q, hq⟩ : ∃ q, as[i]? = some q := ⟨_, List.getElem?_eq_getElem (amz ▸ hi)⟩
              obtain ⟨ha1, hb1⟩ := pr_at N7 (fun p hp => .tail _ (.tail _ (.tail _ (List.mem_append_right _ (hXZ p hp))))) a3all (by simpa using hv) (datA_get hq) hp
              simp only [List.cons_append, List.nil_append] at N7
              repeat' ((first | (k_unfold; (try dsimp only)) | (refine' (?hh : NextQ _ _) _ ?_; (case hh => with_reducible assumption)) | (refine' (?hh : RestQ _ _) _ _ True.intro ?_; (case hh => with_reducible assumption)) | (((with_reducible show wpAny _ _ (subscriptTail _ (PySem.Expr.Slice none (some _) none _) (Value.ref _) (Value.ref _)) _ _ _); k_dflt (refine' slice_toT ?F ?N ?l ?y ?_ ?s ?z; (case F => k_asm); (case N => k_asm); (case l => first | exact Fr.lst (by k_asm) (by assumption) | exact News.isList (by k_asm) (by k_mem)); (case y => omega); (case s => with_unfolding_all rfl); (case z => first | assumption | exact Nat.le_of_ble_eq_true rfl)); intro _ _ _ _ l1Z; (try k_lt l1Z); (try k_sweep))) | ((with_reducible show wpAny _ _ (subscriptTail (PySem.Expr.Name _ _) (PySem.Expr.Name _ _) (Value.ref _) (Value.int _ _)) _ _ _); ((with_reducible show wpAny _ _ (subscriptTail _ _ (Value.ref _) (Value.int _ _)) _ _ _); k_dflt (refine' item_listL ?l ?a ?b ?x ?_; (case l => exact News.isList (by k_asm) (by walk_at "memZ")); (case a => omega); (case b => omega); (case x => assumption); k_whole))) | ((with_reducible show wpAny _ _ (call (Value.builtin "len") _ _) _ _ _); (k_dflt (refine' len_list ?l ?z ?_; (case l => exact News.isList (by k_asm) (by walk_at "memZ")); (case z => assumption); k_whole))) | walk1 | (dsimp only; walk1) | (leave1; walk_say "STEP leave1"; try dsimp only)))
              exact ⟨_, _, _, [(L + 1 + 1 + 1 + 1, c1), (L + 1 + 1 + 1, c2), (L + 1 + 1, c3), (L + 1, c5)] ++ Z, rfl, trivial, F7, N7, off7, ⟨.inr ⟨_, List.mem_append_right _ (hXZ _ a3mem), rfl, an, rfl⟩, fun p hp => List.mem_append_right _ (hXZ p hp)⟩, Z, rfl, offZ, hXZ, dat_take hys (fun _ hp => hp) hq (hb1.mono hXZ)⟩
            · rintro D4 C' h tk dr m'' ys4 news4 _ hJ4 F7 N7 off7 hn' hC0' hD0' hCL' hDL' hCD' offC'
              refine post_eval ?_ F7 N7 off7 hn' hC0' hCL' hCD' offC'
              intro h8 tk8 F8 N8 off8
              clear F7 N7
              obtain ⟨Y6, NY7, oY6, hXY6, _, mem4, all4⟩ := jx_end hJ4 N8 off8
              rw [amz, List.take_length] at all4
              clear N8 F11 NY6
              (try dsimp only)
              (repeat' ((fail_if_success (with_reducible show wpAny _ _ (eval (PySem.Expr.ListComp _ _ _ _) _) _ _ _)); (first | (k_unfold; (try dsimp only)) | (refine' (?hh : NextQ _ _) _ ?_; (case hh => with_reducible assumption)) | (refine' (?hh : RestQ _ _) _ _ True.intro ?_; (case hh => with_reducible assumption)) | (((with_reducible show wpAny _ _ (subscriptTail _ (PySem.Expr.Slice none (some _) none _) (Value.ref _) (Value.ref _)) _ _ _); k_dflt (refine' slice_toT ?F ?N ?l ?y ?_ ?s ?z; (case F => k_asm); (case N => k_asm); (case l => first | exact Fr.lst (by k_asm) (by assumption) | exact News.isList (by k_asm) (by k_mem)); (case y => omega); (case s => with_unfolding_all rfl); (case z => first | assumption | exact Nat.le_of_ble_eq_true rfl)); intro _ _ _ _ l1Z; (try k_lt l1Z); (try k_sweep))) | ((with_reducible show wpAny _ _ (subscriptTail (PySem.Expr.Name _ _) (PySem.Expr.Name _ _) (Value.ref _) (Value.int _ _)) _ _ _); ((with_reducible show wpAny _ _ (subscriptTail _ _ (Value.ref _) (Value.int _ _)) _ _ _); k_dflt (refine' item_listL ?l ?a ?b ?x ?_; (case l => exact News.isList (by k_asm) (by walk_at "memZ")); (case a => omega); (case b => omega); (case x => assumption); k_whole))) | ((with_reducible show wpAny _ _ (call (Value.builtin "len") _ _) _ _ _); (k_dflt (refine' len_list ?l ?z ?_; (case l => exact News.isList (by k_asm) (by walk_at "memZ")); (case z => assumption); k_whole))) | walk1 | (dsimp only; walk1) | (leave1; walk_say "STEP leave1"; try dsimp only))))
              have a4all := a3all.mono hXY6
              have a4mem := hXY6 _ a3mem
              refine comp_eval (by with_unfolding_all rfl) (by rfl) (by decide) ?_
              (first | (k_unfold; (try dsimp only)) | (refine' (?hh : NextQ _ _) _ ?_; (case hh => with_reducible assumption)) | (refine' (?hh : RestQ _ _) _ _ True.intro ?_; (case hh => with_reducible assumption)) | (((with_reducible show wpAny _ _ (subscriptTail _ (PySem.Expr.Slice none (some _) none _) (Value.ref _) (Value.ref _)) _ _ _); k_dflt (refine' slice_toT ?F ?N ?l ?y ?_ ?s ?z; (case F => k_asm); (case N => k_asm); (case l => first | exact Fr.lst (by k_asm) (by assumption) | exact News.isList (by k_asm) (by k_mem)); (case y => omega); (case s => with_unfolding_all rfl); (case z => first | assumption | exact Nat.le_of_ble_eq_true rfl)); intro _ _ _ _ l1Z; (try k_lt l1Z); (try k_sweep))) | ((with_reducible show wpAny _ _ (subscriptTail (PySem.Expr.Name _ _) (PySem.Expr.Name _ _) (Value.ref _) (Value.int _ _)) _ _ _); ((with_reducible show wpAny _ _ (subscriptTail _ _ (Value.ref _) (Value.int _ _)) _ _ _); k_dflt (refine' item_listL ?l ?a ?b ?x ?_; (case l => exact News.isList (by k_asm) (by walk_at "memZ")); (case a => omega); (case b => omega); (case x => assumption); k_whole))) | ((with_reducible show wpAny _ _ (call (Value.builtin "len") _ _) _ _ _); (k_dflt (refine' len_list ?l ?z ?_; (case l => exact News.isList (by k_asm) (by walk_at "memZ")); (case z => assumption); k_whole))) | walk1 | (dsimp only; walk1) | (leave1; walk_say "STEP leave1"; try dsimp only))
              refine compAt_pairs (PrX Y6) (fun _ => True) (JX [(L + 1 + 1 + 1 + 1, c1), (L + 1 + 1 + 1, c2), (L + 1 + 1, c3), (L + 1, c5)] Y6 (fun i => (as.take i).map fun q => datO q.2)) (by decide) rfl rfl rfl (by decide) rfl F8 (news := [(L + 1 + 1 + 1 + 1, c1), (L + 1 + 1 + 1, c2), (L + 1 + 1, c3), (L + 1, c5)] ++ Y6) NY7 (.inr ⟨_, List.mem_append_right _ a4mem, rfl, an, rfl⟩) ?_ trivial ⟨Y6, rfl, oY6, fun _ h => h, .nil⟩ (fun nw => ∀ p ∈ Y6, p ∈ nw) (fun p hp => List.mem_append_right _ hp) ?_ ?_ ?_
              · rw [amz, sizeLine_eq]; omega
              · intro i v h nw hv hk hN hS
                have hi : i < as.length := amz ▸ (Array.getElem?_eq_some_iff.mp hv).1
                obtain ⟨T', a, b, e, hp, n', hm⟩ := pr_of a4all (by simpa using hv) (datA_get (List.getElem?_eq_getElem hi))
                exact ⟨T', a, b, e, ⟨_, (hN _ (hS _ hm)).1, rfl, n', rfl⟩, hp⟩
              · rintro i v I' oI C' oC D' m₂ ys' news₁ h tk dr hi _ hv ⟨a, b, hp, hma, hmb⟩ hns ⟨Z, rfl, offZ, hXZ, hys⟩ hS2 F7 N7 off7 ne7
                obtain ⟨q, hq⟩ : ∃ q, as[i]? = some q := ⟨_, List.getElem?_eq_getElem (amz ▸ hi)⟩
                obtain ⟨ha1, hb1⟩ := pr_at N7 (fun p hp => .tail _ (.tail _ (.tail _ (List.mem_append_right _ (hXZ p hp))))) a4all (by simpa using hv) (datA_get hq) hp
                simp only [List.cons_append, List.nil_append] at N7
                repeat' ((first | (k_unfold; (try dsimp only)) | (refine' (?hh : NextQ _ _) _ ?_; (case hh => with_reducible assumption)) | (refine' (?hh : RestQ _ _) _ _ True.intro ?_; (case hh => with_reducible assumption)) | (((with_reducible show wpAny _ _ (subscriptTail _ (PySem.Expr.Slice none (some _) none _) (Value.ref _) (Value.ref _)) _ _ _); k_dflt (refine' slice_toT ?F ?N ?l ?y ?_ ?s ?z; (case F => k_asm); (case N => k_asm); (case l => first | exact Fr.lst (by k_asm) (by assumption) | exact News.isList (by k_asm) (by k_mem)); (case y => omega); (case s => with_unfolding_all rfl); (case z => first | assumption | exact Nat.le_of_ble_eq_true rfl)); intro _ _ _ _ l1Z; (try k_lt l1Z); (try k_sweep))) | ((with_reducible show wpAny _ _ (subscriptTail (PySem.Expr.Name _ _) (PySem.Expr.Name _ _) (Value.ref _) (Value.int _ _)) _ _ _); ((with_reducible show wpAny _ _ (subscriptTail _ _ (Value.ref _) (Value.int _ _)) _ _ _); k_dflt (refine' item_listL ?l ?a ?b ?x ?_; (case l => exact News.isList (by k_asm) (by walk_at "memZ")); (case a => omega); (case b => omega); (case x => assumption); k_whole))) | ((with_reducible show wpAny _ _ (call (Value.builtin "len") _ _) _ _ _); (k_dflt (refine' len_list ?l ?z ?_; (case l => exact News.isList (by k_asm) (by walk_at "memZ")); (case z => assumption); k_whole))) | walk1 | (dsimp only; walk1) | (leave1; walk_say "STEP leave1"; try dsimp only)))
                exact ⟨_, _, _, [(L + 1 + 1 + 1 + 1, c1), (L + 1 + 1 + 1, c2), (L + 1 + 1, c3), (L + 1, c5)] ++ Z, rfl, trivial, F7, N7, off7, ⟨.inr ⟨_, List.mem_append_right _ (hXZ _ a4mem), rfl, an, rfl⟩, fun p hp => List.mem_append_right _ (hXZ p hp)⟩, Z, rfl, offZ, hXZ, dat_take hys (fun _ hp => hp) hq (hb1.mono hXZ)⟩
              · rintro D5 C' h tk dr m'' ys5 news5 _ hJ5 F7 N7 off7 hn' hC0' hD0' hCL' hDL' hCD' offC'
                refine post_eval ?_ F7 N7 off7 hn' hC0' hCL' hCD' offC'
                intro h8 tk8 F8 N8 off8
                clear F7 N7
                obtain ⟨Y7, NY8, oY7, hXY7, _, mem5, all5⟩ := jx_end hJ5 N8 off8
                rw [amz, List.take_length] at all5
                clear N8 NY7
                have ysl4 : ys4.length ≤ 1000 := by rw [all4.length, List.length_map]; omega
                have ysl5 : ys5.length ≤ 1000 := by rw [all5.length, List.length_map]; omega
                simp only [List.cons_append, List.nil_append] at NY8
                (try dsimp only)
                repeat' ((fail_if_success (with_reducible show wpAny _ _ (subscriptTail _ _ (Value.ref _) (Value.ref _)) _ _ _)); (first | (k_unfold; (try dsimp only)) | (refine' (?hh : NextQ _ _) _ ?_; (case hh => with_reducible assumption)) | (refine' (?hh : RestQ _ _) _ _ True.intro ?_; (case hh => with_reducible assumption)) | (((with_reducible show wpAny _ _ (subscriptTail _ (PySem.Expr.Slice none (some _) none _) (Value.ref _) (Value.ref _)) _ _ _); k_dflt (refine' slice_toT ?F ?N ?l ?y ?_ ?s ?z; (case F => k_asm); (case N => k_asm); (case l => first | exact Fr.lst (by k_asm) (by assumption) | exact News.isList (by k_asm) (by k_mem)); (case y => omega); (case s => with_unfolding_all rfl); (case z => first | assumption | exact Nat.le_of_ble_eq_true rfl)); intro _ _ _ _ l1Z; (try k_lt l1Z); (try k_sweep))) | ((with_reducible show wpAny _ _ (subscriptTail (PySem.Expr.Name _ _) (PySem.Expr.Name _ _) (Value.ref _) (Value.int _ _)) _ _ _); ((with_reducible show wpAny _ _ (subscriptTail _ _ (Value.ref _) (Value.int _ _)) _ _ _); k_dflt (refine' item_listL ?l ?a ?b ?x ?_; (case l => exact News.isList (by k_asm) (by walk_at "memZ")); (case a => omega); (case b => omega); (case x => assumption); k_whole))) | ((with_reducible show wpAny _ _ (call (Value.builtin "len") _ _) _ _ _); (k_dflt (refine' len_list ?l ?z ?_; (case l => exact News.isList (by k_asm) (by walk_at "memZ")); (case z => assumption); k_whole))) | walk1 | (dsimp only; walk1) | (leave1; walk_say "STEP leave1"; try dsimp only)))
                (k_dflt (refine' rev_T ?F ?N ?m ?pk9 ?z9 ?_ ?s9; (case F => k_asm); (case N => k_asm); (case m => exact .tail _ (.tail _ (.tail _ (.tail _ mem5)))); (case pk9 => exact IsPart.int _ _); (case z9 => assumption); (case s9 => with_unfolding_all rfl)))
                intro Dr h9 F9 N9 l9
                (try dsimp only)
                (repeat' ((fail_if_success (with_reducible show wpAny _ _ (binaryOp _ (Value.ref _) _) _ _ _)); (first | (k_unfold; (try dsimp only)) | (refine' (?hh : NextQ _ _) _ ?_; (case hh => with_reducible assumption)) | (refine' (?hh : RestQ _ _) _ _ True.intro ?_; (case hh => with_reducible assumption)) | (((with_reducible show wpAny _ _ (subscriptTail _ (PySem.Expr.Slice none (some _) none _) (Value.ref _) (Value.ref _)) _ _ _); k_dflt (refine' slice_toT ?F ?N ?l ?y ?_ ?s ?z; (case F => k_asm); (case N => k_asm); (case l => first | exact Fr.lst (by k_asm) (by assumption) | exact News.isList (by k_asm) (by k_mem)); (case y => omega); (case s => with_unfolding_all rfl); (case z => first | assumption | exact Nat.le_of_ble_eq_true rfl)); intro _ _ _ _ l1Z; (try k_lt l1Z); (try k_sweep))) | ((with_reducible show wpAny _ _ (subscriptTail (PySem.Expr.Name _ _) (PySem.Expr.Name _ _) (Value.ref _) (Value.int _ _)) _ _ _); ((with_reducible show wpAny _ _ (subscriptTail _ _ (Value.ref _) (Value.int _ _)) _ _ _); k_dflt (refine' item_listL ?l ?a ?b ?x ?_; (case l => exact News.isList (by k_asm) (by walk_at "memZ")); (case a => omega); (case b => omega); (case x => assumption); k_whole))) | ((with_reducible show wpAny _ _ (call (Value.builtin "len") _ _) _ _ _); (k_dflt (refine' len_list ?l ?z ?_; (case l => exact News.isList (by k_asm) (by walk_at "memZ")); (case z => assumption); k_whole))) | walk1 | (dsimp only; walk1) | (leave1; walk_say "STEP leave1"; try dsimp only))))
                (k_dflt (refine' add_T (vs := ys4) (ws := ys5.reverse) ?F ?N ?a ?b ?z1 ?z2 ?_; (case F => k_asm); (case N => k_asm); (case a => exact .tail _ (.tail _ (.tail _ (.tail _ (.tail _ (hXY7 _ mem4)))))); (case b => exact .head _); (case z1 => assumption); (case z2 => rw [List.length_reverse]; assumption)))
                intro Df h10 F10 N10 l10
                have N11 := News.sub N10 (a := (Df, W.listOf (ys4 ++ ys5.reverse).toArray 0) :: ([(L + 1 + 1 + 1 + 1, c1), (L + 1 + 1 + 1, c2), (L + 1 + 1, c3), (L + 1, c5)] ++ Y7)) (List.forall_mem_cons.mpr ⟨.head _, fun p hp => .tail _ (.tail _ hp)⟩)
                obtain ⟨NY9, oY8⟩ := led_add N11 (fun p hp => l10 p (.tail _ hp)) oY7
                have hfiles : DatIn ((Df, W.listOf (ys4 ++ ys5.reverse).toArray 0) :: Y7) (.ref Df) (.list ((as.map fun q => datO q.2) ++ (as.map fun q => datO q.2).reverse)) := .list (.head _) (((all4.mono hXY7).append (datAll_reverse all5)).mono fun _ hp => .tail _ hp)
                have hXY8 : ∀ p ∈ Y5, p ∈ (Df, W.listOf (ys4 ++ ys5.reverse).toArray 0) :: Y7 := fun p hp => .tail _ (hXY7 p (hXY6 p hp))
                clear N9 l9 N10 l10 N11 F9 NY8 F8
                generalize ((Df, W.listOf (ys4 ++ ys5.reverse).toArray 0) :: Y7) = Y8 at NY9 oY8 hfiles hXY8
                simp only [List.cons_append, List.nil_append] at NY9
                (try dsimp only)
                (repeat' ((fail_if_success (with_reducible show wpAny _ _ (exec (Stmt.For _ _ _ _ _) _) _ _ _)); (first | (k_unfold; (try dsimp only)) | (refine' (?hh : NextQ _ _) _ ?_; (case hh => with_reducible assumption)) | (refine' (?hh : RestQ _ _) _ _ True.intro ?_; (case hh => with_reducible assumption)) | (((with_reducible show wpAny _ _ (subscriptTail _ (PySem.Expr.Slice none (some _) none _) (Value.ref _) (Value.ref _)) _ _ _); k_dflt (refine' slice_toT ?F ?N ?l ?y ?_ ?s ?z; (case F => k_asm); (case N => k_asm); (case l => first | exact Fr.lst (by k_asm) (by assumption) | exact News.isList (by k_asm) (by k_mem)); (case y => omega); (case s => with_unfolding_all rfl); (case z => first | assumption | exact Nat.le_of_ble_eq_true rfl)); intro _ _ _ _ l1Z; (try k_lt l1Z); (try k_sweep))) | ((with_reducible show wpAny _ _ (subscriptTail (PySem.Expr.Name _ _) (PySem.Expr.Name _ _) (Value.ref _) (Value.int _ _)) _ _ _); ((with_reducible show wpAny _ _ (subscriptTail _ _ (Value.ref _) (Value.int _ _)) _ _ _); k_dflt (refine' item_listL ?l ?a ?b ?x ?_; (case l => exact News.isList (by k_asm) (by walk_at "memZ")); (case a => omega); (case b => omega); (case x => assumption); k_whole))) | ((with_reducible show wpAny _ _ (call (Value.builtin "len") _ _) _ _ _); (k_dflt (refine' len_list ?l ?z ?_; (case l => exact News.isList (by k_asm) (by walk_at "memZ")); (case z => assumption); k_whole))) | walk1 | (dsimp only; walk1) | (leave1; walk_say "STEP leave1"; try dsimp only))))
                rename_i h12 F12 NY10 _ _ _
                have hmods8 : DatIn Y8 (.ref D) (.list (ms.map datM)) := (hmods.mono fun p hp => hXY8 _ (hXY5 _ (hXY3 _ hp)))
                have hdirs8 : DatIn Y8 (.ref ld) (.list (ds.map datP)) := (hld.mono fun p hp => hXY8 _ (hXY5 _ (hXY3 _ (hXY1 _ hp))))
                have hask8 : DatIn Y8 (.ref Da) (.list ((asks2 as).map fun q => .str (nameS q.1))) := by rw [asks2_fst as (fun k => Dat.str (nameS k))]; exact hask.mono fun p hp => hXY8 _ (hXY5 _ hp)
                have hshown8 : DatIn Y8 (.ref Ds) (.list ((asks2 as).map fun q => strsD (lawParts q.1))) := by rw [asks2_fst as (fun k => strsD (lawParts k))]; exact hshown.mono hXY8
                have hfiles8 : DatIn Y8 (.ref Df) (.list ((asks2 as).map fun q => datO q.2)) := by rw [asks2_snd as datO]; exact hfiles
                have ok2 := asks2_ok oka
                have len2 : (asks2 as).length ≤ 42 := by rw [asks2_len]; omega
                clear hmods hld hask hshown hfiles hXY1 hXY3 hXY5 hXY8 hXY6 hXY7 hXY4 hXY2 hlt hla aall a2all a3all a4all amem a2mem a3mem a4mem all2 all3 all4 all5 mem2 mem3 mem4 mem5 tall tmem
                generalize asks2 as = as2 at hask8 hshown8 hfiles8 ok2 len2
                refine for_go ?_ (by intro _; rfl)
                (repeat' ((fail_if_success (with_reducible show wpAny _ _ (pyIter _) _ _ _)); (first | (k_unfold; (try dsimp only)) | (refine' (?hh : NextQ _ _) _ ?_; (case hh => with_reducible assumption)) | (refine' (?hh : RestQ _ _) _ _ True.intro ?_; (case hh => with_reducible assumption)) | (((with_reducible show wpAny _ _ (subscriptTail _ (PySem.Expr.Slice none (some _) none _) (Value.ref _) (Value.ref _)) _ _ _); k_dflt (refine' slice_toT ?F ?N ?l ?y ?_ ?s ?z; (case F => k_asm); (case N => k_asm); (case l => first | exact Fr.lst (by k_asm) (by assumption) | exact News.isList (by k_asm) (by k_mem)); (case y => omega); (case s => with_unfolding_all rfl); (case z => first | assumption | exact Nat.le_of_ble_eq_true rfl)); intro _ _ _ _ l1Z; (try k_lt l1Z); (try k_sweep))) | ((with_reducible show wpAny _ _ (subscriptTail (PySem.Expr.Name _ _) (PySem.Expr.Name _ _) (Value.ref _) (Value.int _ _)) _ _ _); ((with_reducible show wpAny _ _ (subscriptTail _ _ (Value.ref _) (Value.int _ _)) _ _ _); k_dflt (refine' item_listL ?l ?a ?b ?x ?_; (case l => exact News.isList (by k_asm) (by walk_at "memZ")); (case a => omega); (case b => omega); (case x => assumption); k_whole))) | ((with_reducible show wpAny _ _ (call (Value.builtin "len") _ _) _ _ _); (k_dflt (refine' len_list ?l ?z ?_; (case l => exact News.isList (by k_asm) (by walk_at "memZ")); (case z => assumption); k_whole))) | walk1 | (dsimp only; walk1) | (leave1; walk_say "STEP leave1"; try dsimp only))))
                rename_i _ _ _ _ _ hR9 F13 N13 hk13
                clear hk13
                refine loop_range (n := 4) (fun _ => True) (fun i m₁ n₁ => m₁ (Str.ofString "mods") = some (.ref D) ∧ m₁ (Str.ofString "dirs") = some (.ref ld) ∧ m₁ (Str.ofString "shown") = some (.ref Ds) ∧ m₁ (Str.ofString "files") = some (.ref Df) ∧ ∃ k1 k2 k3 v1 v2 v3 Z, n₁ = [(L + 1 + 1 + 1 + 1, k1), (L + 1 + 1 + 1, k2), (L + 1 + 1, k3), (L + 1, c5)] ++ Z ∧ OffC [(L + 1 + 1 + 1 + 1, k1), (L + 1 + 1 + 1, k2), (L + 1 + 1, k3), (L + 1, c5)] Z ∧ (∀ p ∈ Y8, p ∈ Z) ∧ k1.data = .cell v1 ∧ k2.data = .cell v2 ∧ k3.data = .cell v3) rfl F13 N13 hR9 (by decide) (by decide) trivial ?_ ?_ ?_
                · exact ⟨rfl, rfl, rfl, rfl, c1, c2, c3, _, _, _, Y8, rfl, oY8, fun _ h => h, d1, d2, d3⟩
                · rintro i tt m₁ news₁ h tk dr oI I hi _ ⟨e1, e2, e3, e4, k1, k2, k3, v1, v2, v3, Z, rfl, offZ, hYZ, dk1, dk2, dk3⟩ F1 N1 off1
                  rw [map4 e1 e2 e3 e4] at F1
                  simp only [List.cons_append, List.nil_append] at N1
                  have hh : (0 : Int) ≤ 0 + (i : Int) ∧ 0 + (i : Int) < 4 := by omega
                  have oI1 := neN (off1 _ (.head _))
                  have oI2 := neN (off1 _ (.tail _ (.head _)))
                  have oI3 := neN (off1 _ (.tail _ (.tail _ (.head _))))
                  have oI4 := neN (off1 _ (.tail _ (.tail _ (.tail _ (.head _)))))
                  dsimp only at oI1 oI2 oI3 oI4
                  have oIZ : ∀ p ∈ Z, p.1 ≠ I := fun p hp => off1 p (List.mem_append_right _ hp)
                  have oZ1 : ∀ p ∈ Z, p.1 ≠ L + 1 + 1 + 1 + 1 := fun p hp => offZ p hp _ (.head _)
                  have oZ2 : ∀ p ∈ Z, p.1 ≠ L + 1 + 1 + 1 := fun p hp => offZ p hp _ (.tail _ (.head _))
                  have oZ3 : ∀ p ∈ Z, p.1 ≠ L + 1 + 1 := fun p hp => offZ p hp _ (.tail _ (.tail _ (.head _)))
                  clear F13 N13
                  (repeat' ((fail_if_success (with_reducible show wpAny _ _ (call (Value.ref _) _ _) _ _ _)); (first | (k_unfold; (try dsimp only)) | (refine' (?hh : NextQ _ _) _ ?_; (case hh => with_reducible assumption)) | (refine' (?hh : RestQ _ _) _ _ True.intro ?_; (case hh => with_reducible assumption)) | (((with_reducible show wpAny _ _ (subscriptTail _ (PySem.Expr.Slice none (some _) none _) (Value.ref _) (Value.ref _)) _ _ _); k_dflt (refine' slice_toT ?F ?N ?l ?y ?_ ?s ?z; (case F => k_asm); (case N => k_asm); (case l => first | exact Fr.lst (by k_asm) (by assumption) | exact News.isList (by k_asm) (by k_mem)); (case y => omega); (case s => with_unfolding_all rfl); (case z => first | assumption | exact Nat.le_of_ble_eq_true rfl)); intro _ _ _ _ l1Z; (try k_lt l1Z); (try k_sweep))) | ((with_reducible show wpAny _ _ (subscriptTail (PySem.Expr.Name _ _) (PySem.Expr.Name _ _) (Value.ref _) (Value.int _ _)) _ _ _); ((with_reducible show wpAny _ _ (subscriptTail _ _ (Value.ref _) (Value.int _ _)) _ _ _); k_dflt (refine' item_listL ?l ?a ?b ?x ?_; (case l => exact News.isList (by k_asm) (by walk_at "memZ")); (case a => omega); (case b => omega); (case x => assumption); k_whole))) | ((with_reducible show wpAny _ _ (call (Value.builtin "len") _ _) _ _ _); (k_dflt (refine' len_list ?l ?z ?_; (case l => exact News.isList (by k_asm) (by walk_at "memZ")); (case z => assumption); k_whole))) | walk1 | (dsimp only; walk1) | (leave1; walk_say "STEP leave1"; try dsimp only))))
                  rename_i h3 k4 F3 N3 dk4 _ _ _
                  clear dk3
                  (k_dflt (refine' use_made (ms := ms) (ds := ds) hh okm okd lm7 ld7 ?hm ?hd F3 N3 ?X ?T ?d ?u ?_; (case X => k_asm); (case T => k_asm); (case d => (first | assumption | exact room2 (by assumption) rfl | exact room1 (by assumption) rfl | exact room0 (by assumption) | omega | ((try dsimp only [Around.deeper, Around.in1]); omega) | ((try simp only [depth_deeper, units_deeper, depth_in1, units_in1] at *); omega))); (case u => (first | assumption | exact room2 (by assumption) rfl | exact room1 (by assumption) rfl | exact room0 (by assumption) | omega | ((try dsimp only [Around.deeper, Around.in1]); omega) | ((try simp only [depth_deeper, units_deeper, depth_in1, units_in1] at *); omega))); (case hm => exact hmods8.mono fun p hp => .tail _ (.tail _ (.tail _ (.tail _ (.tail _ (hYZ p hp)))))); (case hd => exact hdirs8.mono fun p hp => .tail _ (.tail _ (.tail _ (.tail _ (.tail _ (hYZ p hp))))))))
                  intro x d S Dl Dd oS arr n oD t1 t2 t3 n9 tS h4 tk4 F4 N4 oR hdD loD hS9 hs9 ne1 ne2 ne3 ne4
                  clear F3 N3
                  have offCB : OffC (rdrX w x d S Dl Dd oS (W.listOf arr n) oD t1 t2 t3 n9 ++ [(I, oI), (L + 1 + 1 + 1 + 1, k1), (L + 1 + 1 + 1, k2), (L + 1 + 1, k4), (L + 1, c5)]) Z := by
                    intro p hp c hc
                    rcases List.mem_append.mp hc with hc | hc
                    · exact Ne.symm (oR p (.tail _ (.tail _ (.tail _ (.tail _ (.tail _ hp))))) c hc)
                    · rcases List.mem_cons.mp hc with rfl | hc
                      · exact oIZ p hp
                      · exact offC_addr (cs' := [(L + 1 + 1 + 1 + 1, k1), (L + 1 + 1 + 1, k2), (L + 1 + 1, k4), (L + 1, c5)]) offZ rfl p hp c hc
                  have N5 : News g L h4 ((rdrX w x d S Dl Dd oS (W.listOf arr n) oD t1 t2 t3 n9 ++ [(I, oI), (L + 1 + 1 + 1 + 1, k1), (L + 1 + 1 + 1, k2), (L + 1 + 1, k4), (L + 1, c5)]) ++ Z) := News.sub N4 fun p hp => by rw [List.append_assoc] at hp; exact hp
                  clear N4
                  simp only [List.cons_append, List.nil_append] at N5
                  obtain ⟨fvs, fn, fmem, fall⟩ := list_of hfiles8
                  have fmz := size_of fall
                  (try dsimp only)
                  (repeat' ((fail_if_success (with_reducible show wpAny _ _ (eval (PySem.Expr.ListComp _ _ _ _) _) _ _ _)); (first | (k_unfold; (try dsimp only)) | (refine' (?hh : NextQ _ _) _ ?_; (case hh => with_reducible assumption)) | (refine' (?hh : RestQ _ _) _ _ True.intro ?_; (case hh => with_reducible assumption)) | (((with_reducible show wpAny _ _ (subscriptTail _ (PySem.Expr.Slice none (some _) none _) (Value.ref _) (Value.ref _)) _ _ _); k_dflt (refine' slice_toT ?F ?N ?l ?y ?_ ?s ?z; (case F => k_asm); (case N => k_asm); (case l => first | exact Fr.lst (by k_asm) (by assumption) | exact News.isList (by k_asm) (by k_mem)); (case y => omega); (case s => with_unfolding_all rfl); (case z => first | assumption | exact Nat.le_of_ble_eq_true rfl)); intro _ _ _ _ l1Z; (try k_lt l1Z); (try k_sweep))) | ((with_reducible show wpAny _ _ (subscriptTail (PySem.Expr.Name _ _) (PySem.Expr.Name _ _) (Value.ref _) (Value.int _ _)) _ _ _); ((with_reducible show wpAny _ _ (subscriptTail _ _ (Value.ref _) (Value.int _ _)) _ _ _); k_dflt (refine' item_listL ?l ?a ?b ?x ?_; (case l => exact News.isList (by k_asm) (by walk_at "memZ")); (case a => omega); (case b => omega); (case x => assumption); k_whole))) | ((with_reducible show wpAny _ _ (call (Value.builtin "len") _ _) _ _ _); (k_dflt (refine' len_list ?l ?z ?_; (case l => exact News.isList (by k_asm) (by walk_at "memZ")); (case z => assumption); k_whole))) | walk1 | (dsimp only; walk1) | (leave1; walk_say "STEP leave1"; try dsimp only))))
                  refine comp_eval (by with_unfolding_all rfl) (by rfl) (by decide) ?_
                  (first | (k_unfold; (try dsimp only)) | (refine' (?hh : NextQ _ _) _ ?_; (case hh => with_reducible assumption)) | (refine' (?hh : RestQ _ _) _ _ True.intro ?_; (case hh => with_reducible assumption)) | (((with_reducible show wpAny _ _ (subscriptTail _ (PySem.Expr.Slice none (some _) none _) (Value.ref _) (Value.ref _)) _ _ _); k_dflt (refine' slice_toT ?F ?N ?l ?y ?_ ?s ?z; (case F => k_asm); (case N => k_asm); (case l => first | exact Fr.lst (by k_asm) (by assumption) | exact News.isList (by k_asm) (by k_mem)); (case y => omega); (case s => with_unfolding_all rfl); (case z => first | assumption | exact Nat.le_of_ble_eq_true rfl)); intro _ _ _ _ l1Z; (try k_lt l1Z); (try k_sweep))) | ((with_reducible show wpAny _ _ (subscriptTail (PySem.Expr.Name _ _) (PySem.Expr.Name _ _) (Value.ref _) (Value.int _ _)) _ _ _); ((with_reducible show wpAny _ _ (subscriptTail _ _ (Value.ref _) (Value.int _ _)) _ _ _); k_dflt (refine' item_listL ?l ?a ?b ?x ?_; (case l => exact News.isList (by k_asm) (by walk_at "memZ")); (case a => omega); (case b => omega); (case x => assumption); k_whole))) | ((with_reducible show wpAny _ _ (call (Value.builtin "len") _ _) _ _ _); (k_dflt (refine' len_list ?l ?z ?_; (case l => exact News.isList (by k_asm) (by walk_at "memZ")); (case z => assumption); k_whole))) | walk1 | (dsimp only; walk1) | (leave1; walk_say "STEP leave1"; try dsimp only))
                  refine compAt_name (fun _ => True) (JX (rdrX w x d S Dl Dd oS (W.listOf arr n) oD t1 t2 t3 n9 ++ [(I, oI), (L + 1 + 1 + 1 + 1, k1), (L + 1 + 1 + 1, k2), (L + 1 + 1, k4), (L + 1, c5)]) Z (fun i' => (as2.take i').map fun q => datF (0 + (i : Int)) q.2)) (by decide) rfl rfl rfl F4 (news := (rdrX w x d S Dl Dd oS (W.listOf arr n) oD t1 t2 t3 n9 ++ [(I, oI), (L + 1 + 1 + 1 + 1, k1), (L + 1 + 1 + 1, k2), (L + 1 + 1, k4), (L + 1, c5)]) ++ Z) N5 (.inr ⟨_, List.mem_append_right _ (hYZ _ fmem), rfl, fn, rfl⟩) ?_ trivial ⟨Z, rfl, offCB, fun _ h => h, .nil⟩ ?_ ?_
                  · rw [fmz, sizeLine_eq]; omega
                  · rintro j v I' oI' C' oC D' m₂ ys' news₁ h tk dr hi _ hv hb hns ⟨Z', rfl, offZ', hZZ, hys⟩ hSr F7 N7 off7 ne7
                    have hb' : m₂ (Str.ofString "mode") = some v := hb
                    obtain ⟨q, hq⟩ : ∃ q, as2[j]? = some q := ⟨_, List.getElem?_eq_getElem (fmz ▸ hi)⟩
                    obtain ⟨v', e, hdv⟩ := fall.get (k := j) (by rw [List.length_map]; exact fmz ▸ hi)
                    have e' : some v = some v' := by rw [← e]; simpa using hv.symm
                    cases e'
                    have hdq : DatIn Y8 v (datO q.2) := by
                      have : (as2.map fun q => datO q.2)[j]? = some (datO q.2) := by rw [List.getElem?_map, hq]; rfl
                      obtain ⟨_, e2⟩ := List.getElem?_eq_some_iff.mp this
                      rw [← e2]; exact hdv
                    have okq := ok2 q (List.mem_of_getElem? hq)
                    simp only [List.cons_append, List.nil_append] at N7
                    rcases datIn_O hdq with ⟨hq2, rfl⟩ | ⟨fm, ft, hq2, rfl⟩
                    · (repeat' ((fail_if_success (with_reducible show wpAny _ _ (call (Value.ref _) _ _) _ _ _)); (first | (k_unfold; (try dsimp only)) | (refine' (?hh : NextQ _ _) _ ?_; (case hh => with_reducible assumption)) | (refine' (?hh : RestQ _ _) _ _ True.intro ?_; (case hh => with_reducible assumption)) | (((with_reducible show wpAny _ _ (subscriptTail _ (PySem.Expr.Slice none (some _) none _) (Value.ref _) (Value.ref _)) _ _ _); k_dflt (refine' slice_toT ?F ?N ?l ?y ?_ ?s ?z; (case F => k_asm); (case N => k_asm); (case l => first | exact Fr.lst (by k_asm) (by assumption) | exact News.isList (by k_asm) (by k_mem)); (case y => omega); (case s => with_unfolding_all rfl); (case z => first | assumption | exact Nat.le_of_ble_eq_true rfl)); intro _ _ _ _ l1Z; (try k_lt l1Z); (try k_sweep))) | ((with_reducible show wpAny _ _ (subscriptTail (PySem.Expr.Name _ _) (PySem.Expr.Name _ _) (Value.ref _) (Value.int _ _)) _ _ _); ((with_reducible show wpAny _ _ (subscriptTail _ _ (Value.ref _) (Value.int _ _)) _ _ _); k_dflt (refine' item_listL ?l ?a ?b ?x ?_; (case l => exact News.isList (by k_asm) (by walk_at "memZ")); (case a => omega); (case b => omega); (case x => assumption); k_whole))) | ((with_reducible show wpAny _ _ (call (Value.builtin "len") _ _) _ _ _); (k_dflt (refine' len_list ?l ?z ?_; (case l => exact News.isList (by k_asm) (by walk_at "memZ")); (case z => assumption); k_whole))) | walk1 | (dsimp only; walk1) | (leave1; walk_say "STEP leave1"; try dsimp only))))
                      (k_dflt (refine' use_ct (c_fileN _ _) ?F ?N ?X ?T ?d ?u ?P ?_; (case F => k_asm); (case N => k_asm); (case X => k_asm); (case T => k_asm); (case d => (first | assumption | exact room2 (by assumption) rfl | exact room1 (by assumption) rfl | exact room0 (by assumption) | omega | ((try dsimp only [Around.deeper, Around.in1]); omega) | ((try simp only [depth_deeper, units_deeper, depth_in1, units_in1] at *); omega))); (case u => (first | assumption | exact room2 (by assumption) rfl | exact room1 (by assumption) rfl | exact room0 (by assumption) | omega | ((try dsimp only [Around.deeper, Around.in1]); omega) | ((try simp only [depth_deeper, units_deeper, depth_in1, units_in1] at *); omega))); (case P => exact trivial)))
                      rintro _ h8 tk8 F8 N8 st8 rfl
                      (try dsimp only)
                      repeat' ((first | (k_unfold; (try dsimp only)) | (refine' (?hh : NextQ _ _) _ ?_; (case hh => with_reducible assumption)) | (refine' (?hh : RestQ _ _) _ _ True.intro ?_; (case hh => with_reducible assumption)) | (((with_reducible show wpAny _ _ (subscriptTail _ (PySem.Expr.Slice none (some _) none _) (Value.ref _) (Value.ref _)) _ _ _); k_dflt (refine' slice_toT ?F ?N ?l ?y ?_ ?s ?z; (case F => k_asm); (case N => k_asm); (case l => first | exact Fr.lst (by k_asm) (by assumption) | exact News.isList (by k_asm) (by k_mem)); (case y => omega); (case s => with_unfolding_all rfl); (case z => first | assumption | exact Nat.le_of_ble_eq_true rfl)); intro _ _ _ _ l1Z; (try k_lt l1Z); (try k_sweep))) | ((with_reducible show wpAny _ _ (subscriptTail (PySem.Expr.Name _ _) (PySem.Expr.Name _ _) (Value.ref _) (Value.int _ _)) _ _ _); ((with_reducible show wpAny _ _ (subscriptTail _ _ (Value.ref _) (Value.int _ _)) _ _ _); k_dflt (refine' item_listL ?l ?a ?b ?x ?_; (case l => exact News.isList (by k_asm) (by walk_at "memZ")); (case a => omega); (case b => omega); (case x => assumption); k_whole))) | ((with_reducible show wpAny _ _ (call (Value.builtin "len") _ _) _ _ _); (k_dflt (refine' len_list ?l ?z ?_; (case l => exact News.isList (by k_asm) (by walk_at "memZ")); (case z => assumption); k_whole))) | walk1 | (dsimp only; walk1) | (leave1; walk_say "STEP leave1"; try dsimp only)))
                      exact ⟨_, _, _, (rdrX w x d S Dl Dd oS (W.listOf arr n) oD t1 t2 t3 n9 ++ [(I, oI), (L + 1 + 1 + 1 + 1, k1), (L + 1 + 1 + 1, k2), (L + 1 + 1, k4), (L + 1, c5)]) ++ Z', rfl, trivial, F8, N8, off7, .inr ⟨_, List.mem_append_right _ (hZZ _ (hYZ _ fmem)), rfl, fn, rfl⟩, Z', rfl, offZ', hZZ, dat_take hys (fun _ hp => hp) hq (by rw [hq2]; exact .none)⟩
                    · have hmo : 0 ≤ fm ∧ fm < 16777216 := okq.2 fm hq2
                      (repeat' ((fail_if_success (with_reducible show wpAny _ _ (call (Value.ref _) _ _) _ _ _)); (first | (k_unfold; (try dsimp only)) | (refine' (?hh : NextQ _ _) _ ?_; (case hh => with_reducible assumption)) | (refine' (?hh : RestQ _ _) _ _ True.intro ?_; (case hh => with_reducible assumption)) | (((with_reducible show wpAny _ _ (subscriptTail _ (PySem.Expr.Slice none (some _) none _) (Value.ref _) (Value.ref _)) _ _ _); k_dflt (refine' slice_toT ?F ?N ?l ?y ?_ ?s ?z; (case F => k_asm); (case N => k_asm); (case l => first | exact Fr.lst (by k_asm) (by assumption) | exact News.isList (by k_asm) (by k_mem)); (case y => omega); (case s => with_unfolding_all rfl); (case z => first | assumption | exact Nat.le_of_ble_eq_true rfl)); intro _ _ _ _ l1Z; (try k_lt l1Z); (try k_sweep))) | ((with_reducible show wpAny _ _ (subscriptTail (PySem.Expr.Name _ _) (PySem.Expr.Name _ _) (Value.ref _) (Value.int _ _)) _ _ _); ((with_reducible show wpAny _ _ (subscriptTail _ _ (Value.ref _) (Value.int _ _)) _ _ _); k_dflt (refine' item_listL ?l ?a ?b ?x ?_; (case l => exact News.isList (by k_asm) (by walk_at "memZ")); (case a => omega); (case b => omega); (case x => assumption); k_whole))) | ((with_reducible show wpAny _ _ (call (Value.builtin "len") _ _) _ _ _); (k_dflt (refine' len_list ?l ?z ?_; (case l => exact News.isList (by k_asm) (by walk_at "memZ")); (case z => assumption); k_whole))) | walk1 | (dsimp only; walk1) | (leave1; walk_say "STEP leave1"; try dsimp only))))
                      (k_dflt (refine' use_ct (c_file _ hmo _ _ hh _) ?F ?N ?X ?T ?d ?u ?P ?_; (case F => k_asm); (case N => k_asm); (case X => k_asm); (case T => k_asm); (case d => (first | assumption | exact room2 (by assumption) rfl | exact room1 (by assumption) rfl | exact room0 (by assumption) | omega | ((try dsimp only [Around.deeper, Around.in1]); omega) | ((try simp only [depth_deeper, units_deeper, depth_in1, units_in1] at *); omega))); (case u => (first | assumption | exact room2 (by assumption) rfl | exact room1 (by assumption) rfl | exact room0 (by assumption) | omega | ((try dsimp only [Around.deeper, Around.in1]); omega) | ((try simp only [depth_deeper, units_deeper, depth_in1, units_in1] at *); omega))); (case P => exact trivial)))
                      rintro _ h8 tk8 F8 N8 st8 ⟨u8, rfl⟩
                      (try dsimp only)
                      repeat' ((first | (k_unfold; (try dsimp only)) | (refine' (?hh : NextQ _ _) _ ?_; (case hh => with_reducible assumption)) | (refine' (?hh : RestQ _ _) _ _ True.intro ?_; (case hh => with_reducible assumption)) | (((with_reducible show wpAny _ _ (subscriptTail _ (PySem.Expr.Slice none (some _) none _) (Value.ref _) (Value.ref _)) _ _ _); k_dflt (refine' slice_toT ?F ?N ?l ?y ?_ ?s ?z; (case F => k_asm); (case N => k_asm); (case l => first | exact Fr.lst (by k_asm) (by assumption) | exact News.isList (by k_asm) (by k_mem)); (case y => omega); (case s => with_unfolding_all rfl); (case z => first | assumption | exact Nat.le_of_ble_eq_true rfl)); intro _ _ _ _ l1Z; (try k_lt l1Z); (try k_sweep))) | ((with_reducible show wpAny _ _ (subscriptTail (PySem.Expr.Name _ _) (PySem.Expr.Name _ _) (Value.ref _) (Value.int _ _)) _ _ _); ((with_reducible show wpAny _ _ (subscriptTail _ _ (Value.ref _) (Value.int _ _)) _ _ _); k_dflt (refine' item_listL ?l ?a ?b ?x ?_; (case l => exact News.isList (by k_asm) (by walk_at "memZ")); (case a => omega); (case b => omega); (case x => assumption); k_whole))) | ((with_reducible show wpAny _ _ (call (Value.builtin "len") _ _) _ _ _); (k_dflt (refine' len_list ?l ?z ?_; (case l => exact News.isList (by k_asm) (by walk_at "memZ")); (case z => assumption); k_whole))) | walk1 | (dsimp only; walk1) | (leave1; walk_say "STEP leave1"; try dsimp only)))
                      exact ⟨_, _, _, (rdrX w x d S Dl Dd oS (W.listOf arr n) oD t1 t2 t3 n9 ++ [(I, oI), (L + 1 + 1 + 1 + 1, k1), (L + 1 + 1 + 1, k2), (L + 1 + 1, k4), (L + 1, c5)]) ++ Z', rfl, trivial, F8, N8, off7, .inr ⟨_, List.mem_append_right _ (hZZ _ (hYZ _ fmem)), rfl, fn, rfl⟩, Z', rfl, offZ', hZZ, dat_take hys (fun _ hp => hp) hq (by rw [hq2]; exact .str _ _)⟩
                  · rintro D6 C' h tk dr m'' ys6 news6 _ hJ6 F7 N7 off7 hn' hC0' hD0' hCL' hDL' hCD' offC'
                    refine post_eval ?_ F7 N7 off7 hn' hC0' hCL' hCD' offC'
                    intro h8 tk8 F8 N8 off8
                    clear F7 N7
                    obtain ⟨Z2, NZ2, oZc, hZ2, hwr, mem6, all6⟩ := jx_end hJ6 N8 off8
                    rw [fmz, List.take_length] at all6 hwr
                    clear N8 F4 N5
                    simp only [List.cons_append, List.nil_append] at NZ2
                    have oZ1 : ∀ p ∈ Z2, p.1 ≠ L + 1 + 1 + 1 + 1 := fun p hp => oZc p hp (L + 1 + 1 + 1 + 1, k1) (by repeat (first | exact .head _ | refine .tail _ ?_))
                    have oZ2 : ∀ p ∈ Z2, p.1 ≠ L + 1 + 1 + 1 := fun p hp => oZc p hp (L + 1 + 1 + 1, k2) (by repeat (first | exact .head _ | refine .tail _ ?_))
                    have q1 := fun q hq => neN (oR (L + 1 + 1 + 1 + 1, k1) (.tail _ (.head _)) q hq)
                    have q2 := fun q hq => neN (oR (L + 1 + 1 + 1, k2) (.tail _ (.tail _ (.head _))) q hq)
                    have q11 := q1 _ (.head _)
                    have q12 := q1 _ (.tail _ (.head _))
                    have q13 := q1 _ (.tail _ (.tail _ (.head _)))
                    have q14 := q1 _ (.tail _ (.tail _ (.tail _ (.head _))))
                    have q15 := q1 _ (.tail _ (.tail _ (.tail _ (.tail _ (.head _)))))
                    have q21 := q2 _ (.head _)
                    have q22 := q2 _ (.tail _ (.head _))
                    have q23 := q2 _ (.tail _ (.tail _ (.head _)))
                    have q24 := q2 _ (.tail _ (.tail _ (.tail _ (.head _))))
                    have q25 := q2 _ (.tail _ (.tail _ (.tail _ (.tail _ (.head _)))))
                    dsimp only at q11 q12 q13 q14 q15 q21 q22 q23 q24 q25
                    clear q1 q2
                    (try dsimp only)
                    (repeat' ((fail_if_success (with_reducible show wpAny _ _ (eval (PySem.Expr.ListComp _ _ _ _) _) _ _ _)); (first | (k_unfold; (try dsimp only)) | (refine' (?hh : NextQ _ _) _ ?_; (case hh => with_reducible assumption)) | (refine' (?hh : RestQ _ _) _ _ True.intro ?_; (case hh => with_reducible assumption)) | (((with_reducible show wpAny _ _ (subscriptTail _ (PySem.Expr.Slice none (some _) none _) (Value.ref _) (Value.ref _)) _ _ _); k_dflt (refine' slice_toT ?F ?N ?l ?y ?_ ?s ?z; (case F => k_asm); (case N => k_asm); (case l => first | exact Fr.lst (by k_asm) (by assumption) | exact News.isList (by k_asm) (by k_mem)); (case y => omega); (case s => with_unfolding_all rfl); (case z => first | assumption | exact Nat.le_of_ble_eq_true rfl)); intro _ _ _ _ l1Z; (try k_lt l1Z); (try k_sweep))) | ((with_reducible show wpAny _ _ (subscriptTail (PySem.Expr.Name _ _) (PySem.Expr.Name _ _) (Value.ref _) (Value.int _ _)) _ _ _); ((with_reducible show wpAny _ _ (subscriptTail _ _ (Value.ref _) (Value.int _ _)) _ _ _); k_dflt (refine' item_listL ?l ?a ?b ?x ?_; (case l => exact News.isList (by k_asm) (by walk_at "memZ")); (case a => omega); (case b => omega); (case x => assumption); k_whole))) | ((with_reducible show wpAny _ _ (call (Value.builtin "len") _ _) _ _ _); (k_dflt (refine' len_list ?l ?z ?_; (case l => exact News.isList (by k_asm) (by walk_at "memZ")); (case z => assumption); k_whole))) | walk1 | (dsimp only; walk1) | (leave1; walk_say "STEP leave1"; try dsimp only))))
                    rename_i T6 _ _ _ _ k5 dk5 _ k6 F9 N9 dk6 _ _ _
                    have N10 : News g L _ ((rdrX w x d S Dl Dd oS (W.listOf arr n) oD t1 t2 t3 n9 ++ [(I, oI), (L + 1 + 1 + 1 + 1, k6), (L + 1 + 1 + 1, k5), (L + 1 + 1, k4), (L + 1, c5)]) ++ Z2) := News.sub N9 fun p hp => .tail _ hp
                    replace oZc := offC_addr (cs' := (rdrX w x d S Dl Dd oS (W.listOf arr n) oD t1 t2 t3 n9 ++ [(I, oI), (L + 1 + 1 + 1 + 1, k6), (L + 1 + 1 + 1, k5), (L + 1 + 1, k4), (L + 1, c5)])) oZc rfl
                    clear N9 dk1 dk2
                    try clear NZ2
                    try clear F8
                    simp only [List.cons_append, List.nil_append] at N10
                    refine comp_eval (by with_unfolding_all rfl) (by rfl) (by decide) ?_
                    (first | (k_unfold; (try dsimp only)) | (refine' (?hh : NextQ _ _) _ ?_; (case hh => with_reducible assumption)) | (refine' (?hh : RestQ _ _) _ _ True.intro ?_; (case hh => with_reducible assumption)) | (((with_reducible show wpAny _ _ (subscriptTail _ (PySem.Expr.Slice none (some _) none _) (Value.ref _) (Value.ref _)) _ _ _); k_dflt (refine' slice_toT ?F ?N ?l ?y ?_ ?s ?z; (case F => k_asm); (case N => k_asm); (case l => first | exact Fr.lst (by k_asm) (by assumption) | exact News.isList (by k_asm) (by k_mem)); (case y => omega); (case s => with_unfolding_all rfl); (case z => first | assumption | exact Nat.le_of_ble_eq_true rfl)); intro _ _ _ _ l1Z; (try k_lt l1Z); (try k_sweep))) | ((with_reducible show wpAny _ _ (subscriptTail (PySem.Expr.Name _ _) (PySem.Expr.Name _ _) (Value.ref _) (Value.int _ _)) _ _ _); ((with_reducible show wpAny _ _ (subscriptTail _ _ (Value.ref _) (Value.int _ _)) _ _ _); k_dflt (refine' item_listL ?l ?a ?b ?x ?_; (case l => exact News.isList (by k_asm) (by walk_at "memZ")); (case a => omega); (case b => omega); (case x => assumption); k_whole))) | ((with_reducible show wpAny _ _ (call (Value.builtin "len") _ _) _ _ _); (k_dflt (refine' len_list ?l ?z ?_; (case l => exact News.isList (by k_asm) (by walk_at "memZ")); (case z => assumption); k_whole))) | walk1 | (dsimp only; walk1) | (leave1; walk_say "STEP leave1"; try dsimp only))
                    refine compAt_name (fun _ => True) (JX (rdrX w x d S Dl Dd oS (W.listOf arr n) oD t1 t2 t3 n9 ++ [(I, oI), (L + 1 + 1 + 1 + 1, k6), (L + 1 + 1 + 1, k5), (L + 1 + 1, k4), (L + 1, c5)]) Z2 (fun i' => (as2.take i').map fun q => datF (0 + (i : Int)) q.2)) (by decide) rfl rfl rfl F9 (news := (rdrX w x d S Dl Dd oS (W.listOf arr n) oD t1 t2 t3 n9 ++ [(I, oI), (L + 1 + 1 + 1 + 1, k6), (L + 1 + 1 + 1, k5), (L + 1 + 1, k4), (L + 1, c5)]) ++ Z2) N10 (.inr ⟨_, List.mem_append_right _ (hZ2 _ (hYZ _ fmem)), rfl, fn, rfl⟩) ?_ trivial ⟨Z2, rfl, oZc, fun _ h => h, .nil⟩ ?_ ?_
                    · rw [fmz, sizeLine_eq]; omega
                    · rintro j v I' oI' C' oC D' m₂ ys' news₁ h tk dr hi _ hv hb hns ⟨Z', rfl, offZ', hZZ, hys⟩ hSr F7 N7 off7 ne7
                      have hb' : m₂ (Str.ofString "mode") = some v := hb
                      obtain ⟨q, hq⟩ : ∃ q, as2[j]? = some q := ⟨_, List.getElem?_eq_getElem (fmz ▸ hi)⟩
                      obtain ⟨v', e, hdv⟩ := fall.get (k := j) (by rw [List.length_map]; exact fmz ▸ hi)
                      have e' : some v = some v' := by rw [← e]; simpa using hv.symm
                      cases e'
                      have hdq : DatIn Y8 v (datO q.2) := by
                        have : (as2.map fun q => datO q.2)[j]? = some (datO q.2) := by rw [List.getElem?_map, hq]; rfl
                        obtain ⟨_, e2⟩ := List.getElem?_eq_some_iff.mp this
                        rw [← e2]; exact hdv
                      simp only [List.cons_append, List.nil_append] at N7
                      rcases datIn_O hdq with ⟨hq2, rfl⟩ | ⟨fm, ft, hq2, rfl⟩
                      · repeat' ((first | (k_unfold; (try dsimp only)) | (refine' (?hh : NextQ _ _) _ ?_; (case hh => with_reducible assumption)) | (refine' (?hh : RestQ _ _) _ _ True.intro ?_; (case hh => with_reducible assumption)) | (((with_reducible show wpAny _ _ (subscriptTail _ (PySem.Expr.Slice none (some _) none _) (Value.ref _) (Value.ref _)) _ _ _); k_dflt (refine' slice_toT ?F ?N ?l ?y ?_ ?s ?z; (case F => k_asm); (case N => k_asm); (case l => first | exact Fr.lst (by k_asm) (by assumption) | exact News.isList (by k_asm) (by k_mem)); (case y => omega); (case s => with_unfolding_all rfl); (case z => first | assumption | exact Nat.le_of_ble_eq_true rfl)); intro _ _ _ _ l1Z; (try k_lt l1Z); (try k_sweep))) | ((with_reducible show wpAny _ _ (subscriptTail (PySem.Expr.Name _ _) (PySem.Expr.Name _ _) (Value.ref _) (Value.int _ _)) _ _ _); ((with_reducible show wpAny _ _ (subscriptTail _ _ (Value.ref _) (Value.int _ _)) _ _ _); k_dflt (refine' item_listL ?l ?a ?b ?x ?_; (case l => exact News.isList (by k_asm) (by walk_at "memZ")); (case a => omega); (case b => omega); (case x => assumption); k_whole))) | ((with_reducible show wpAny _ _ (call (Value.builtin "len") _ _) _ _ _); (k_dflt (refine' len_list ?l ?z ?_; (case l => exact News.isList (by k_asm) (by walk_at "memZ")); (case z => assumption); k_whole))) | walk1 | (dsimp only; walk1) | (leave1; walk_say "STEP leave1"; try dsimp only)))
                        exact ⟨_, _, _, (rdrX w x d S Dl Dd oS (W.listOf arr n) oD t1 t2 t3 n9 ++ [(I, oI), (L + 1 + 1 + 1 + 1, k6), (L + 1 + 1 + 1, k5), (L + 1 + 1, k4), (L + 1, c5)]) ++ Z', rfl, trivial, F7, N7, off7, .inr ⟨_, List.mem_append_right _ (hZZ _ (hZ2 _ (hYZ _ fmem))), rfl, fn, rfl⟩, Z', rfl, offZ', hZZ, dat_take hys (fun _ hp => hp) hq (by rw [hq2]; exact .none)⟩
                      · (repeat' ((fail_if_success (with_reducible show wpAny _ _ (call (Value.ref _) _ _) _ _ _)); (first | (k_unfold; (try dsimp only)) | (refine' (?hh : NextQ _ _) _ ?_; (case hh => with_reducible assumption)) | (refine' (?hh : RestQ _ _) _ _ True.intro ?_; (case hh => with_reducible assumption)) | (((with_reducible show wpAny _ _ (subscriptTail _ (PySem.Expr.Slice none (some _) none _) (Value.ref _) (Value.ref _)) _ _ _); k_dflt (refine' slice_toT ?F ?N ?l ?y ?_ ?s ?z; (case F => k_asm); (case N => k_asm); (case l => first | exact Fr.lst (by k_asm) (by assumption) | exact News.isList (by k_asm) (by k_mem)); (case y => omega); (case s => with_unfolding_all rfl); (case z => first | assumption | exact Nat.le_of_ble_eq_true rfl)); intro _ _ _ _ l1Z; (try k_lt l1Z); (try k_sweep))) | ((with_reducible show wpAny _ _ (subscriptTail (PySem.Expr.Name _ _) (PySem.Expr.Name _ _) (Value.ref _) (Value.int _ _)) _ _ _); ((with_reducible show wpAny _ _ (subscriptTail _ _ (Value.ref _) (Value.int _ _)) _ _ _); k_dflt (refine' item_listL ?l ?a ?b ?x ?_; (case l => exact News.isList (by k_asm) (by walk_at "memZ")); (case a => omega); (case b => omega); (case x => assumption); k_whole))) | ((with_reducible show wpAny _ _ (call (Value.builtin "len") _ _) _ _ _); (k_dflt (refine' len_list ?l ?z ?_; (case l => exact News.isList (by k_asm) (by walk_at "memZ")); (case z => assumption); k_whole))) | walk1 | (dsimp only; walk1) | (leave1; walk_say "STEP leave1"; try dsimp only))))
                        (k_dflt (refine' use_ct (c_signs _ _ _ hh _) ?F ?N ?X ?T ?d ?u ?P ?_; (case F => k_asm); (case N => k_asm); (case X => k_asm); (case T => k_asm); (case d => (first | assumption | exact room2 (by assumption) rfl | exact room1 (by assumption) rfl | exact room0 (by assumption) | omega | ((try dsimp only [Around.deeper, Around.in1]); omega) | ((try simp only [depth_deeper, units_deeper, depth_in1, units_in1] at *); omega))); (case u => (first | assumption | exact room2 (by assumption) rfl | exact room1 (by assumption) rfl | exact room0 (by assumption) | omega | ((try dsimp only [Around.deeper, Around.in1]); omega) | ((try simp only [depth_deeper, units_deeper, depth_in1, units_in1] at *); omega))); (case P => exact trivial)))
                        rintro _ h8 tk8 F8 N8 st8 ⟨u8, rfl⟩
                        (try dsimp only)
                        repeat' ((first | (k_unfold; (try dsimp only)) | (refine' (?hh : NextQ _ _) _ ?_; (case hh => with_reducible assumption)) | (refine' (?hh : RestQ _ _) _ _ True.intro ?_; (case hh => with_reducible assumption)) | (((with_reducible show wpAny _ _ (subscriptTail _ (PySem.Expr.Slice none (some _) none _) (Value.ref _) (Value.ref _)) _ _ _); k_dflt (refine' slice_toT ?F ?N ?l ?y ?_ ?s ?z; (case F => k_asm); (case N => k_asm); (case l => first | exact Fr.lst (by k_asm) (by assumption) | exact News.isList (by k_asm) (by k_mem)); (case y => omega); (case s => with_unfolding_all rfl); (case z => first | assumption | exact Nat.le_of_ble_eq_true rfl)); intro _ _ _ _ l1Z; (try k_lt l1Z); (try k_sweep))) | ((with_reducible show wpAny _ _ (subscriptTail (PySem.Expr.Name _ _) (PySem.Expr.Name _ _) (Value.ref _) (Value.int _ _)) _ _ _); ((with_reducible show wpAny _ _ (subscriptTail _ _ (Value.ref _) (Value.int _ _)) _ _ _); k_dflt (refine' item_listL ?l ?a ?b ?x ?_; (case l => exact News.isList (by k_asm) (by walk_at "memZ")); (case a => omega); (case b => omega); (case x => assumption); k_whole))) | ((with_reducible show wpAny _ _ (call (Value.builtin "len") _ _) _ _ _); (k_dflt (refine' len_list ?l ?z ?_; (case l => exact News.isList (by k_asm) (by walk_at "memZ")); (case z => assumption); k_whole))) | walk1 | (dsimp only; walk1) | (leave1; walk_say "STEP leave1"; try dsimp only)))
                        exact ⟨_, _, _, (rdrX w x d S Dl Dd oS (W.listOf arr n) oD t1 t2 t3 n9 ++ [(I, oI), (L + 1 + 1 + 1 + 1, k6), (L + 1 + 1 + 1, k5), (L + 1 + 1, k4), (L + 1, c5)]) ++ Z', rfl, trivial, F8, N8, off7, .inr ⟨_, List.mem_append_right _ (hZZ _ (hZ2 _ (hYZ _ fmem))), rfl, fn, rfl⟩, Z', rfl, offZ', hZZ, dat_take hys (fun _ hp => hp) hq (by rw [hq2]; exact .str _ _)⟩
                    · rintro D7 C' h tk dr m'' ys7 news7 _ hJ7 F7 N7 off7 hn' hC0' hD0' hCL' hDL' hCD' offC'
                      refine post_eval ?_ F7 N7 off7 hn' hC0' hCL' hCD' offC'
                      intro h8 tk8 F8 N8 off8
                      clear F7 N7
                      obtain ⟨Z3, NZ3, oZd, hZ3, _, mem7, all7⟩ := jx_end hJ7 N8 off8
                      rw [fmz, List.take_length] at all7
                      clear N8 F9 N10
                      (try dsimp only)
                      (repeat' ((fail_if_success (with_reducible show wpAny _ _ (compareOp _ (Value.ref _) (Value.ref _)) _ _ _)); (first | (k_unfold; (try dsimp only)) | (refine' (?hh : NextQ _ _) _ ?_; (case hh => with_reducible assumption)) | (refine' (?hh : RestQ _ _) _ _ True.intro ?_; (case hh => with_reducible assumption)) | (((with_reducible show wpAny _ _ (subscriptTail _ (PySem.Expr.Slice none (some _) none _) (Value.ref _) (Value.ref _)) _ _ _); k_dflt (refine' slice_toT ?F ?N ?l ?y ?_ ?s ?z; (case F => k_asm); (case N => k_asm); (case l => first | exact Fr.lst (by k_asm) (by assumption) | exact News.isList (by k_asm) (by k_mem)); (case y => omega); (case s => with_unfolding_all rfl); (case z => first | assumption | exact Nat.le_of_ble_eq_true rfl)); intro _ _ _ _ l1Z; (try k_lt l1Z); (try k_sweep))) | ((with_reducible show wpAny _ _ (subscriptTail (PySem.Expr.Name _ _) (PySem.Expr.Name _ _) (Value.ref _) (Value.int _ _)) _ _ _); ((with_reducible show wpAny _ _ (subscriptTail _ _ (Value.ref _) (Value.int _ _)) _ _ _); k_dflt (refine' item_listL ?l ?a ?b ?x ?_; (case l => exact News.isList (by k_asm) (by walk_at "memZ")); (case a => omega); (case b => omega); (case x => assumption); k_whole))) | ((with_reducible show wpAny _ _ (call (Value.builtin "len") _ _) _ _ _); (k_dflt (refine' len_list ?l ?z ?_; (case l => exact News.isList (by k_asm) (by walk_at "memZ")); (case z => assumption); k_whole))) | walk1 | (dsimp only; walk1) | (leave1; walk_say "STEP leave1"; try dsimp only))))
                      refine ne_lists (ds := as2.map fun q => datF (0 + (i : Int)) q.2) (es := as2.map fun q => datF (0 + (i : Int)) q.2) NZ3 (List.mem_append_right _ (hZ3 _ mem6)) (List.mem_append_right _ mem7) (leaf_F (fun q : Int × Option Int => q.2) all6) (leaf_F (fun q : Int × Option Int => q.2) all7) (fun d hd => by obtain ⟨q, _, rfl⟩ := List.mem_map.mp hd; exact ok_datF _ _) (fun d hd => by obtain ⟨q, _, rfl⟩ := List.mem_map.mp hd; exact ok_datF _ _) (by (first | assumption | exact room2 (by assumption) rfl | exact room1 (by assumption) rfl | exact room0 (by assumption) | omega | ((try dsimp only [Around.deeper, Around.in1]); omega) | ((try simp only [depth_deeper, units_deeper, depth_in1, units_in1] at *); omega))) (fun _ => ?_) (fun h => absurd rfl h)
                      simp only [List.cons_append, List.nil_append] at NZ3
                      (try dsimp only)
                      (repeat' ((fail_if_success (with_reducible show wpAny _ _ (exec (Stmt.Assign [_] (PySem.Expr.ListComp _ _ _ _) _) _) _ _ _)); (first | (k_unfold; (try dsimp only)) | (refine' (?hh : NextQ _ _) _ ?_; (case hh => with_reducible assumption)) | (refine' (?hh : RestQ _ _) _ _ True.intro ?_; (case hh => with_reducible assumption)) | (((with_reducible show wpAny _ _ (subscriptTail _ (PySem.Expr.Slice none (some _) none _) (Value.ref _) (Value.ref _)) _ _ _); k_dflt (refine' slice_toT ?F ?N ?l ?y ?_ ?s ?z; (case F => k_asm); (case N => k_asm); (case l => first | exact Fr.lst (by k_asm) (by assumption) | exact News.isList (by k_asm) (by k_mem)); (case y => omega); (case s => with_unfolding_all rfl); (case z => first | assumption | exact Nat.le_of_ble_eq_true rfl)); intro _ _ _ _ l1Z; (try k_lt l1Z); (try k_sweep))) | ((with_reducible show wpAny _ _ (subscriptTail (PySem.Expr.Name _ _) (PySem.Expr.Name _ _) (Value.ref _) (Value.int _ _)) _ _ _); ((with_reducible show wpAny _ _ (subscriptTail _ _ (Value.ref _) (Value.int _ _)) _ _ _); k_dflt (refine' item_listL ?l ?a ?b ?x ?_; (case l => exact News.isList (by k_asm) (by walk_at "memZ")); (case a => omega); (case b => omega); (case x => assumption); k_whole))) | ((with_reducible show wpAny _ _ (call (Value.builtin "len") _ _) _ _ _); (k_dflt (refine' len_list ?l ?z ?_; (case l => exact News.isList (by k_asm) (by walk_at "memZ")); (case z => assumption); k_whole))) | walk1 | (dsimp only; walk1) | (leave1; walk_say "STEP leave1"; try dsimp only))))
                      obtain ⟨avs9, an9, amem9, aall9⟩ := list_of hask8
                      have fmem3 : (Df, W.listOf fvs.toArray fn) ∈ Z3 := hZ3 _ (hZ2 _ (hYZ _ fmem))
                      have amem3 : (Da, W.listOf avs9.toArray an9) ∈ Z3 := hZ3 _ (hZ2 _ (hYZ _ amem9))
                      have wmem3 : (D6, LCg.lst ys6) ∈ Z3 := hZ3 _ mem6
                      have fz63 : ((fvs.toArray.size : Nat) : Int) < 2 ^ 63 := by rw [fmz]; omega
                      have oD1 : ∀ p ∈ Z3, p.1 ≠ Dd := fun p hp => oZd p hp _ (.head _)
                      refine comp_assign (by with_unfolding_all rfl) (by with_unfolding_all rfl) (by rfl) (by decide) ?_
                      repeat' ((first | (k_unfold; (try dsimp only)) | (refine' (?hh : NextQ _ _) _ ?_; (case hh => with_reducible assumption)) | (refine' (?hh : RestQ _ _) _ _ True.intro ?_; (case hh => with_reducible assumption)) | (((with_reducible show wpAny _ _ (subscriptTail _ (PySem.Expr.Slice none (some _) none _) (Value.ref _) (Value.ref _)) _ _ _); k_dflt (refine' slice_toT ?F ?N ?l ?y ?_ ?s ?z; (case F => k_asm); (case N => k_asm); (case l => first | exact Fr.lst (by k_asm) (by assumption) | exact News.isList (by k_asm) (by k_mem)); (case y => omega); (case s => with_unfolding_all rfl); (case z => first | assumption | exact Nat.le_of_ble_eq_true rfl)); intro _ _ _ _ l1Z; (try k_lt l1Z); (try k_sweep))) | ((with_reducible show wpAny _ _ (subscriptTail (PySem.Expr.Name _ _) (PySem.Expr.Name _ _) (Value.ref _) (Value.int _ _)) _ _ _); ((with_reducible show wpAny _ _ (subscriptTail _ _ (Value.ref _) (Value.int _ _)) _ _ _); k_dflt (refine' item_listL ?l ?a ?b ?x ?_; (case l => exact News.isList (by k_asm) (by walk_at "memZ")); (case a => omega); (case b => omega); (case x => assumption); k_whole))) | ((with_reducible show wpAny _ _ (call (Value.builtin "len") _ _) _ _ _); (k_dflt (refine' len_list ?l ?z ?_; (case l => exact News.isList (by k_asm) (by walk_at "memZ")); (case z => assumption); k_whole))) | walk1 | (dsimp only; walk1) | (leave1; walk_say "STEP leave1"; try dsimp only)))
                      rename_i _ _ _ _ _ hR8 F13 N13 hk13
                      clear hk13
                      have nfl : (nF as2 ms ds (0 + (i : Int))).length = as2.length := by unfold nF; rw [List.length_map]
                      refine compAt_range (n := as2.length) (fun _ => True) (fun j ys nw => ∃ oDq kvs, nw = (rdrX w x d S Dl Dd oS (W.listOf arr n) oDq t1 t2 t3 n9 ++ [(I, oI), (L + 1 + 1 + 1 + 1, k6), (L + 1 + 1 + 1, k5), (L + 1 + 1, k4), (L + 1, c5)]) ++ Z3 ∧ oDq.IsDictOf (PySem.strKind prg w) kvs ∧ Kept RInt kvs (pre0 ++ (nF as2 ms ds (0 + (i : Int))).take j) ∧ StrsAre ys (((ans (nF as2 ms ds (0 + (i : Int)))).take j).map strI)) (by decide) rfl rfl rfl F13 (news := (rdrX w x d S Dl Dd oS (W.listOf arr n) oD t1 t2 t3 n9 ++ [(I, oI), (L + 1 + 1 + 1 + 1, k6), (L + 1 + 1 + 1, k5), (L + 1 + 1, k4), (L + 1, c5)]) ++ Z3) N13 hR8 ?_ ?_ ?_ trivial ?_ ?_ ?_
                      · rw [fmz]; exact small_one (by decide) (by decide) (by omega) (by omega)
                      · rw [fmz]; exact rsz _
                      · rw [sizeLine_eq]; omega
                      · exact ⟨oD, _, rfl, hdD, kept0 tS, .nil⟩
                      · rintro j v I' oI' C' oC D' m₂ ys' news₁ h tk dr hj _ ⟨tv, rfl⟩ hb hns ⟨oDq, kvs, rfl, hdk, K9, hys⟩ F7 N7 off7 ne7
                        have hb' : m₂ (Str.ofString "i") = some (.int (0 + (j : Int)) tv) := hb
                        obtain ⟨q, hq⟩ : ∃ q, as2[j]? = some q := ⟨_, List.getElem?_eq_getElem hj⟩
                        obtain ⟨wv, hwv, hwd⟩ := all6.get (k := j) (by rw [List.length_map]; exact hj)
                        obtain ⟨av, hav, had⟩ := aall9.get (k := j) (by rw [List.length_map]; exact hj)
                        have e6 : (as2.map fun q => datF (0 + (i : Int)) q.2)[j]? = some (datF (0 + (i : Int)) q.2) := by rw [List.getElem?_map, hq]; rfl
                        have e7 : (as2.map fun q => Dat.str (nameS q.1))[j]? = some (.str (nameS q.1)) := by rw [List.getElem?_map, hq]; rfl
                        rw [(List.getElem?_eq_some_iff.mp e6).2] at hwd
                        rw [(List.getElem?_eq_some_iff.mp e7).2] at had
                        obtain ⟨tn, rfl⟩ : ∃ tn, av = .str (nameS q.1) tn := by cases had; exact ⟨_, rfl⟩
                        have hwv' : ys6[((0 : Int) + (j : Int)).toNat]? = some wv := by simpa using hwv
                        have hav' : avs9[((0 : Int) + (j : Int)).toNat]? = some (.str (nameS q.1) tn) := by simpa using hav
                        have hfv : (fileS (0 + (i : Int)) q.2 = none ∧ wv = .none) ∨ ∃ y t, fileS (0 + (i : Int)) q.2 = some y ∧ wv = .str y t := by
                          rcases datIn_F hwd with ⟨e1, e2⟩ | ⟨fm, ft, e1, e2⟩
                          · exact .inl ⟨by rw [e1]; rfl, e2⟩
                          · exact .inr ⟨_, ft, by rw [e1]; rfl, e2⟩
                        have hni : (nF as2 ms ds (0 + (i : Int)))[j]? = some (nameS q.1, namesV (ms.map toldS) (ds.map (signT (0 + (i : Int)))) (fileS (0 + (i : Int)) q.2) (nameS q.1)) := by unfold nF; rw [List.getElem?_map, hq]; rfl
                        have hpl : (pre0 ++ (nF as2 ms ds (0 + (i : Int))).take j).length ≤ 1000 := by rw [List.length_append, List.length_take, nfl]; show 1 + _ ≤ _; omega
                        simp only [List.cons_append, List.nil_append] at N7
                        (repeat' ((fail_if_success (with_reducible show wpAny _ _ (call (Value.ref _) _ _) _ _ _)); (first | (k_unfold; (try dsimp only)) | (refine' (?hh : NextQ _ _) _ ?_; (case hh => with_reducible assumption)) | (refine' (?hh : RestQ _ _) _ _ True.intro ?_; (case hh => with_reducible assumption)) | (((with_reducible show wpAny _ _ (subscriptTail _ (PySem.Expr.Slice none (some _) none _) (Value.ref _) (Value.ref _)) _ _ _); k_dflt (refine' slice_toT ?F ?N ?l ?y ?_ ?s ?z; (case F => k_asm); (case N => k_asm); (case l => first | exact Fr.lst (by k_asm) (by assumption) | exact News.isList (by k_asm) (by k_mem)); (case y => omega); (case s => with_unfolding_all rfl); (case z => first | assumption | exact Nat.le_of_ble_eq_true rfl)); intro _ _ _ _ l1Z; (try k_lt l1Z); (try k_sweep))) | ((with_reducible show wpAny _ _ (subscriptTail (PySem.Expr.Name _ _) (PySem.Expr.Name _ _) (Value.ref _) (Value.int _ _)) _ _ _); ((with_reducible show wpAny _ _ (subscriptTail _ _ (Value.ref _) (Value.int _ _)) _ _ _); k_dflt (refine' item_listL ?l ?a ?b ?x ?_; (case l => exact News.isList (by k_asm) (by walk_at "memZ")); (case a => omega); (case b => omega); (case x => assumption); k_whole))) | ((with_reducible show wpAny _ _ (call (Value.builtin "len") _ _) _ _ _); (k_dflt (refine' len_list ?l ?z ?_; (case l => exact News.isList (by k_asm) (by walk_at "memZ")); (case z => assumption); k_whole))) | walk1 | (dsimp only; walk1) | (leave1; walk_say "STEP leave1"; try dsimp only))))
                        have o7 := off7.mem (Dd, oDq) (.head _)
                        obtain ⟨o71, o72, o73⟩ := o7
                        have m1 := oR (I, oI) (.head _) _ (.head _)
                        have m4 := oR (L + 1 + 1, k4) (.tail _ (.tail _ (.tail _ (.head _)))) _ (.head _)
                        have m5 := oR (L + 1, c5) (.tail _ (.tail _ (.tail _ (.tail _ (.head _))))) _ (.head _)
                        (k_dflt (refine' c_names (told := (ms.map toldS)) (dirs := (ds.map (signT (0 + (i : Int))))) (kvs := kvs) (pre := pre0 ++ (nF as2 ms ds (0 + (i : Int))).take j) wv (fileS (0 + (i : Int)) q.2) hfv _ _ F7 ?N ?X ?T ?d ?u hS9 ?h0 ?h7 hs9 ?hd7 ?htl ?hdl hdk loD K9 hpl ne1 ne2 ne3 ne4 ?_; (case X => k_asm); (case T => k_asm); (case d => (first | assumption | exact room2 (by assumption) rfl | exact room1 (by assumption) rfl | exact room0 (by assumption) | omega | ((try dsimp only [Around.deeper, Around.in1]); omega) | ((try simp only [depth_deeper, units_deeper, depth_in1, units_in1] at *); omega))); (case u => (first | assumption | exact room2 (by assumption) rfl | exact room1 (by assumption) rfl | exact room0 (by assumption) | omega | ((try dsimp only [Around.deeper, Around.in1]); omega) | ((try simp only [depth_deeper, units_deeper, depth_in1, units_in1] at *); omega))); (case N => exact News.sub N7 (List.forall_mem_cons.mpr ⟨by k_mem, List.forall_mem_cons.mpr ⟨by k_mem, List.forall_mem_cons.mpr ⟨by k_mem, List.forall_mem_cons.mpr ⟨by k_mem, List.forall_mem_cons.mpr ⟨by k_mem, (fun _ h => nomatch h)⟩⟩⟩⟩⟩)); (case h0 => exact fun e => absurd (congrArg List.length e) (by rw [List.length_map]; exact fun e' => absurd lm7.1 (by rw [e']; decide))); (case h7 => rw [List.length_map]; exact lm7.2); (case hd7 => rw [List.length_map]; exact ld7); (case htl => intro t ht; obtain ⟨z, _, rfl⟩ := List.mem_map.mp ht; exact told_len z); (case hdl => intro t ht; obtain ⟨z, _, rfl⟩ := List.mem_map.mp ht; exact sign_len _ z)))
                        intro r8 h8' tk8' dr8 oDr kvs2 F8 keep8 get8 hdk2 K2 hr
                        obtain ⟨tr, y, rfl, hy⟩ := hr
                        have N8 : News g L h8' ((I', oI') :: (C', oC) :: (D', LCg.lst ys') :: ((rdrX w x d S Dl Dd oS (W.listOf arr n) oDr t1 t2 t3 n9 ++ [(I, oI), (L + 1 + 1 + 1 + 1, k6), (L + 1 + 1 + 1, k5), (L + 1 + 1, k4), (L + 1, c5)]) ++ Z3)) := by
                          refine news_put N7 (D := Dd) (o := oDq) (by k_mem) get8 keep8 ?_
                          refine List.forall_mem_cons.mpr ⟨.inr ⟨by k_mem, Ne.symm o71⟩, List.forall_mem_cons.mpr ⟨.inr ⟨by k_mem, Ne.symm o72⟩, List.forall_mem_cons.mpr ⟨.inr ⟨by k_mem, Ne.symm o73⟩, List.forall_mem_cons.mpr ⟨.inl rfl, List.forall_mem_cons.mpr ⟨.inr ⟨by k_mem, Ne.symm ne1⟩, List.forall_mem_cons.mpr ⟨.inr ⟨by k_mem, Ne.symm ne2⟩, List.forall_mem_cons.mpr ⟨.inr ⟨by k_mem, Ne.symm ne3⟩, List.forall_mem_cons.mpr ⟨.inr ⟨by k_mem, Ne.symm ne4⟩, List.forall_mem_cons.mpr ⟨.inr ⟨by k_mem, Ne.symm m1⟩, List.forall_mem_cons.mpr ⟨.inr ⟨by k_mem, Ne.symm q11⟩, List.forall_mem_cons.mpr ⟨.inr ⟨by k_mem, Ne.symm q21⟩, List.forall_mem_cons.mpr ⟨.inr ⟨by k_mem, Ne.symm m4⟩, List.forall_mem_cons.mpr ⟨.inr ⟨by k_mem, Ne.symm m5⟩, fun p hp => .inr ⟨by repeat (first | exact hp | refine .tail _ ?_), oD1 p hp⟩⟩⟩⟩⟩⟩⟩⟩⟩⟩⟩⟩⟩⟩
                        clear N7 F7
                        (try dsimp only)
                        repeat' ((fail_if_success (with_reducible show wpAny _ _ (call (Value.type "str") _ _) _ _ _)); (first | (k_unfold; (try dsimp only)) | (refine' (?hh : NextQ _ _) _ ?_; (case hh => with_reducible assumption)) | (refine' (?hh : RestQ _ _) _ _ True.intro ?_; (case hh => with_reducible assumption)) | (((with_reducible show wpAny _ _ (subscriptTail _ (PySem.Expr.Slice none (some _) none _) (Value.ref _) (Value.ref _)) _ _ _); k_dflt (refine' slice_toT ?F ?N ?l ?y ?_ ?s ?z; (case F => k_asm); (case N => k_asm); (case l => first | exact Fr.lst (by k_asm) (by assumption) | exact News.isList (by k_asm) (by k_mem)); (case y => omega); (case s => with_unfolding_all rfl); (case z => first | assumption | exact Nat.le_of_ble_eq_true rfl)); intro _ _ _ _ l1Z; (try k_lt l1Z); (try k_sweep))) | ((with_reducible show wpAny _ _ (subscriptTail (PySem.Expr.Name _ _) (PySem.Expr.Name _ _) (Value.ref _) (Value.int _ _)) _ _ _); ((with_reducible show wpAny _ _ (subscriptTail _ _ (Value.ref _) (Value.int _ _)) _ _ _); k_dflt (refine' item_listL ?l ?a ?b ?x ?_; (case l => exact News.isList (by k_asm) (by walk_at "memZ")); (case a => omega); (case b => omega); (case x => assumption); k_whole))) | ((with_reducible show wpAny _ _ (call (Value.builtin "len") _ _) _ _ _); (k_dflt (refine' len_list ?l ?z ?_; (case l => exact News.isList (by k_asm) (by walk_at "memZ")); (case z => assumption); k_whole))) | walk1 | (dsimp only; walk1) | (leave1; walk_say "STEP leave1"; try dsimp only)))
                        (k_dflt (refine str_01 (y_01 (namesV_01 _ _ _ _) hy) ?_))
                        intro t9 tk9
                        (try dsimp only)
                        repeat' ((first | (k_unfold; (try dsimp only)) | (refine' (?hh : NextQ _ _) _ ?_; (case hh => with_reducible assumption)) | (refine' (?hh : RestQ _ _) _ _ True.intro ?_; (case hh => with_reducible assumption)) | (((with_reducible show wpAny _ _ (subscriptTail _ (PySem.Expr.Slice none (some _) none _) (Value.ref _) (Value.ref _)) _ _ _); k_dflt (refine' slice_toT ?F ?N ?l ?y ?_ ?s ?z; (case F => k_asm); (case N => k_asm); (case l => first | exact Fr.lst (by k_asm) (by assumption) | exact News.isList (by k_asm) (by k_mem)); (case y => omega); (case s => with_unfolding_all rfl); (case z => first | assumption | exact Nat.le_of_ble_eq_true rfl)); intro _ _ _ _ l1Z; (try k_lt l1Z); (try k_sweep))) | ((with_reducible show wpAny _ _ (subscriptTail (PySem.Expr.Name _ _) (PySem.Expr.Name _ _) (Value.ref _) (Value.int _ _)) _ _ _); ((with_reducible show wpAny _ _ (subscriptTail _ _ (Value.ref _) (Value.int _ _)) _ _ _); k_dflt (refine' item_listL ?l ?a ?b ?x ?_; (case l => exact News.isList (by k_asm) (by walk_at "memZ")); (case a => omega); (case b => omega); (case x => assumption); k_whole))) | ((with_reducible show wpAny _ _ (call (Value.builtin "len") _ _) _ _ _); (k_dflt (refine' len_list ?l ?z ?_; (case l => exact News.isList (by k_asm) (by walk_at "memZ")); (case z => assumption); k_whole))) | walk1 | (dsimp only; walk1) | (leave1; walk_say "STEP leave1"; try dsimp only)))
                        refine ⟨_, _, _, (rdrX w x d S Dl Dd oS (W.listOf arr n) oDr t1 t2 t3 n9 ++ [(I, oI), (L + 1 + 1 + 1 + 1, k6), (L + 1 + 1 + 1, k5), (L + 1 + 1, k4), (L + 1, c5)]) ++ Z3, rfl, trivial, F8, N8, off3_addr off7 rfl, trivial, oDr, kvs2, rfl, hdk2, ?_, ans_snoc hys hni hy⟩
                        rw [append_pre hni, ← List.append_assoc]; exact K2
                      · rintro D8 C' h tk dr m'' ys8 news8 _ ⟨oDq, kvs, rfl, hdk, K9, hys⟩ F7 N7 off7 hn' hC0' hD0' hCL' hDL' hCD' offC'
                        refine' post_assign ?r0q ?r1q ?r2q ?finq ?Fq ?Nq off7 hn' hC0' ?Lq hCD' offC'
                        case Fq => exact F7
                        case r0q => rfl
                        case r1q => rfl
                        case r2q => rfl
                        case Nq => exact N7
                        case Lq => exact hCL'
                        intro h8' tk8' F8 N8 off8'
                        clear F7 N7
                        rw [List.take_of_length_le (by rw [ans_length, nfl]; exact Nat.le_refl _)] at hys
                        simp only [List.cons_append, List.nil_append] at N8
                        (try dsimp only)
                        (repeat' ((fail_if_success (with_reducible show wpAny _ _ (call (Value.ref _) _ _) _ _ _)); (first | (k_unfold; (try dsimp only)) | (refine' (?hh : NextQ _ _) _ ?_; (case hh => with_reducible assumption)) | (refine' (?hh : RestQ _ _) _ _ True.intro ?_; (case hh => with_reducible assumption)) | (((with_reducible show wpAny _ _ (subscriptTail _ (PySem.Expr.Slice none (some _) none _) (Value.ref _) (Value.ref _)) _ _ _); k_dflt (refine' slice_toT ?F ?N ?l ?y ?_ ?s ?z; (case F => k_asm); (case N => k_asm); (case l => first | exact Fr.lst (by k_asm) (by assumption) | exact News.isList (by k_asm) (by k_mem)); (case y => omega); (case s => with_unfolding_all rfl); (case z => first | assumption | exact Nat.le_of_ble_eq_true rfl)); intro _ _ _ _ l1Z; (try k_lt l1Z); (try k_sweep))) | ((with_reducible show wpAny _ _ (subscriptTail (PySem.Expr.Name _ _) (PySem.Expr.Name _ _) (Value.ref _) (Value.int _ _)) _ _ _); ((with_reducible show wpAny _ _ (subscriptTail _ _ (Value.ref _) (Value.int _ _)) _ _ _); k_dflt (refine' item_listL ?l ?a ?b ?x ?_; (case l => exact News.isList (by k_asm) (by walk_at "memZ")); (case a => omega); (case b => omega); (case x => assumption); k_whole))) | ((with_reducible show wpAny _ _ (call (Value.builtin "len") _ _) _ _ _); (k_dflt (refine' len_list ?l ?z ?_; (case l => exact News.isList (by k_asm) (by walk_at "memZ")); (case z => assumption); k_whole))) | walk1 | (dsimp only; walk1) | (leave1; walk_say "STEP leave1"; try dsimp only))))
                        have hY3 : ∀ p ∈ Y8, p ∈ Z3 := fun p hp => hZ3 _ (hZ2 _ (hYZ _ hp))
                        have hY9 : ∀ p ∈ Y8, p ∈ (D8, LCg.lst ys8) :: ((rdrX w x d S Dl Dd oS (W.listOf arr n) oDq t1 t2 t3 n9 ++ [(I, oI), (L + 1 + 1 + 1 + 1, k6), (L + 1 + 1 + 1, k5), (L + 1 + 1, k4), (L + 1, c5)]) ++ Z3) := fun p hp => .tail _ (List.mem_append_right _ (hY3 p hp))
                        (k_dflt (refine' use_ct (c_due as2 (Nat.le_trans len2 (by decide)) _ _ hh ms ds okm okd _ _ _ _) F8 N8 ?Xq ?Tq ?dq ?uq ?Pq ?_; (case Xq => k_asm); (case Tq => k_asm); (case dq => (first | assumption | exact room2 (by assumption) rfl | exact room1 (by assumption) rfl | exact room0 (by assumption) | omega | ((try dsimp only [Around.deeper, Around.in1]); omega) | ((try simp only [depth_deeper, units_deeper, depth_in1, units_in1] at *); omega))); (case uq => (first | assumption | exact room2 (by assumption) rfl | exact room1 (by assumption) rfl | exact room0 (by assumption) | omega | ((try dsimp only [Around.deeper, Around.in1]); omega) | ((try simp only [depth_deeper, units_deeper, depth_in1, units_in1] at *); omega))); (case Pq => exact ⟨DatH.of N8 hshown8 hY9, DatH.of N8 hfiles8 hY9, DatH.of N8 hmods8 hY9, DatH.of N8 hdirs8 hY9⟩)))
                        rintro _ h9 tk9 F9 N9 st9 ⟨l9, arr9, n9', rfl, hn9, hg9, hs9'⟩
                        have N10 := (News.add F8 N8 st9 hn9 hg9).1
                        rw [← plain hh okm okd ok2] at hs9'
                        clear N8 F8 N9
                        (try dsimp only)
                        (repeat' ((fail_if_success (with_reducible show wpAny _ _ (compareOp _ (Value.ref _) (Value.ref _)) _ _ _)); (first | (k_unfold; (try dsimp only)) | (refine' (?hh : NextQ _ _) _ ?_; (case hh => with_reducible assumption)) | (refine' (?hh : RestQ _ _) _ _ True.intro ?_; (case hh => with_reducible assumption)) | (((with_reducible show wpAny _ _ (subscriptTail _ (PySem.Expr.Slice none (some _) none _) (Value.ref _) (Value.ref _)) _ _ _); k_dflt (refine' slice_toT ?F ?N ?l ?y ?_ ?s ?z; (case F => k_asm); (case N => k_asm); (case l => first | exact Fr.lst (by k_asm) (by assumption) | exact News.isList (by k_asm) (by k_mem)); (case y => omega); (case s => with_unfolding_all rfl); (case z => first | assumption | exact Nat.le_of_ble_eq_true rfl)); intro _ _ _ _ l1Z; (try k_lt l1Z); (try k_sweep))) | ((with_reducible show wpAny _ _ (subscriptTail (PySem.Expr.Name _ _) (PySem.Expr.Name _ _) (Value.ref _) (Value.int _ _)) _ _ _); ((with_reducible show wpAny _ _ (subscriptTail _ _ (Value.ref _) (Value.int _ _)) _ _ _); k_dflt (refine' item_listL ?l ?a ?b ?x ?_; (case l => exact News.isList (by k_asm) (by walk_at "memZ")); (case a => omega); (case b => omega); (case x => assumption); k_whole))) | ((with_reducible show wpAny _ _ (call (Value.builtin "len") _ _) _ _ _); (k_dflt (refine' len_list ?l ?z ?_; (case l => exact News.isList (by k_asm) (by walk_at "memZ")); (case z => assumption); k_whole))) | walk1 | (dsimp only; walk1) | (leave1; walk_say "STEP leave1"; try dsimp only))))
                        refine ne_lists (xs := ys8) (ys := arr9.toList) (ds := ((ans (nF as2 ms ds (0 + (i : Int)))).map strI).map Dat.str) (es := ((ans (nF as2 ms ds (0 + (i : Int)))).map strI).map Dat.str) N10 (.tail _ (.head _)) (by rw [Array.toArray_toList]; exact .head _) (strs_dat [] hys) (strs_dat [] hs9') (ok_strs (ok_strI _)) (ok_strs (ok_strI _)) (by (first | assumption | exact room2 (by assumption) rfl | exact room1 (by assumption) rfl | exact room0 (by assumption) | omega | ((try dsimp only [Around.deeper, Around.in1]); omega) | ((try simp only [depth_deeper, units_deeper, depth_in1, units_in1] at *); omega))) (fun _ => ?_) (fun h => absurd rfl h)
                        (try dsimp only)
                        repeat' ((first | (k_unfold; (try dsimp only)) | (refine' (?hh : NextQ _ _) _ ?_; (case hh => with_reducible assumption)) | (refine' (?hh : RestQ _ _) _ _ True.intro ?_; (case hh => with_reducible assumption)) | (((with_reducible show wpAny _ _ (subscriptTail _ (PySem.Expr.Slice none (some _) none _) (Value.ref _) (Value.ref _)) _ _ _); k_dflt (refine' slice_toT ?F ?N ?l ?y ?_ ?s ?z; (case F => k_asm); (case N => k_asm); (case l => first | exact Fr.lst (by k_asm) (by assumption) | exact News.isList (by k_asm) (by k_mem)); (case y => omega); (case s => with_unfolding_all rfl); (case z => first | assumption | exact Nat.le_of_ble_eq_true rfl)); intro _ _ _ _ l1Z; (try k_lt l1Z); (try k_sweep))) | ((with_reducible show wpAny _ _ (subscriptTail (PySem.Expr.Name _ _) (PySem.Expr.Name _ _) (Value.ref _) (Value.int _ _)) _ _ _); ((with_reducible show wpAny _ _ (subscriptTail _ _ (Value.ref _) (Value.int _ _)) _ _ _); k_dflt (refine' item_listL ?l ?a ?b ?x ?_; (case l => exact News.isList (by k_asm) (by walk_at "memZ")); (case a => omega); (case b => omega); (case x => assumption); k_whole))) | ((with_reducible show wpAny _ _ (call (Value.builtin "len") _ _) _ _ _); (k_dflt (refine' len_list ?l ?z ?_; (case l => exact News.isList (by k_asm) (by walk_at "memZ")); (case z => assumption); k_whole))) | walk1 | (dsimp only; walk1) | (leave1; walk_say "STEP leave1"; try dsimp only)))
                        try dsimp only
                        refine ⟨_, _, _, _, [(L + 1 + 1 + 1 + 1, k6), (L + 1 + 1 + 1, k5), (L + 1 + 1, k4), (L + 1, c5)] ++ Z3, rfl, trivial, F9, News.sub N10 fun p hp => .tail _ (.tail _ (.tail _ (.tail _ (.tail _ (.tail _ (.tail _ hp)))))), ?_, rfl, rfl, rfl, rfl, k6, k5, k4, _, _, _, Z3, rfl, ?_, hY3, dk6, dk5, dk4⟩
                        · exact List.forall_mem_cons.mpr ⟨oI1, List.forall_mem_cons.mpr ⟨oI2, List.forall_mem_cons.mpr ⟨oI3, List.forall_mem_cons.mpr ⟨oI4, fun p hp => oZd p hp (I, oI) (by repeat (first | exact .head _ | refine .tail _ ?_))⟩⟩⟩⟩
                        · exact fun p hp c hc => oZd p hp c (List.mem_append_right _ (.tail _ hc))
                · rintro m₁ news₁ h tk dr _ ⟨e1, e2, e3, e4, k1, k2, k3, v1, v2, v3, Z, rfl, offZ, hYZ, dk1, dk2, dk3⟩ F1 N1
                  rw [map4 e1 e2 e3 e4] at F1
                  clear F13 N13
                  repeat' ((first | (k_unfold; (try dsimp only)) | (refine' (?hh : NextQ _ _) _ ?_; (case hh => with_reducible assumption)) | (refine' (?hh : RestQ _ _) _ _ True.intro ?_; (case hh => with_reducible assumption)) | (((with_reducible show wpAny _ _ (subscriptTail _ (PySem.Expr.Slice none (some _) none _) (Value.ref _) (Value.ref _)) _ _ _); k_dflt (refine' slice_toT ?F ?N ?l ?y ?_ ?s ?z; (case F => k_asm); (case N => k_asm); (case l => first | exact Fr.lst (by k_asm) (by assumption) | exact News.isList (by k_asm) (by k_mem)); (case y => omega); (case s => with_unfolding_all rfl); (case z => first | assumption | exact Nat.le_of_ble_eq_true rfl)); intro _ _ _ _ l1Z; (try k_lt l1Z); (try k_sweep))) | ((with_reducible show wpAny _ _ (subscriptTail (PySem.Expr.Name _ _) (PySem.Expr.Name _ _) (Value.ref _) (Value.int _ _)) _ _ _); ((with_reducible show wpAny _ _ (subscriptTail _ _ (Value.ref _) (Value.int _ _)) _ _ _); k_dflt (refine' item_listL ?l ?a ?b ?x ?_; (case l => exact News.isList (by k_asm) (by walk_at "memZ")); (case a => omega); (case b => omega); (case x => assumption); k_whole))) | ((with_reducible show wpAny _ _ (call (Value.builtin "len") _ _) _ _ _); (k_dflt (refine' len_list ?l ?z ?_; (case l => exact News.isList (by k_asm) (by walk_at "memZ")); (case z => assumption); k_whole))) | walk1 | (dsimp only; walk1) | (leave1; walk_say "STEP leave1"; try dsimp only)))
                  exact hret _ _ _ _ (by k_asm))
end
end
section
theorem holds_try.tw4275359752975004317 : True := trivial
theorem holds_try.tw5860907640926256418 : True := trivial
theorem holds_try.tw4189676429249424516 : True := trivial
theorem holds_try.tw1501050206487024809 : True := trivial
theorem holds_try.tw17581708266210353814 : True := trivial
theorem holds_try.tw2075044554464297878 : True := trivial
theorem holds_try.tw2187549589818873713 : True := trivial
theorem holds_try.tw14923024794832001195 : True := trivial
theorem holds_try.tw793453204221003863 : True := trivial
theorem holds_try.tw16702380254916490176 : True := trivial
theorem holds_try.tw13218426424202258212 : True := trivial
theorem holds_try.tw4736018008595903259 : True := trivial
theorem holds_try.tw12980797598408319525 : True := trivial
theorem holds_try.tw7829732109838323235 : True := trivial
theorem holds_try.tw16462346555283455696 : True := trivial
theorem holds_try.tw13339377695135362667 : True := trivial
theorem holds_try.tw17965050059273693794 : True := trivial
theorem holds_try.tw8859242172585117148 : True := trivial
theorem holds_try.tw8917717530633222710 : True := trivial
theorem holds_try.tw16244548197376568766 : True := trivial
theorem holds_try.tw1670475833445543076 : True := trivial
theorem holds_try.tw17036568345809330798 : True := trivial
theorem holds_try.tw2330148369159802240 : True := trivial
theorem holds_try.tw17410892099915824677 : True := trivial
theorem holds_try.tw6984487285301712436 : True := trivial
theorem holds_try.tw17307734657740224692 : True := trivial
theorem holds_try.tw3557657855038876984 : True := trivial
theorem holds_try.tw10775868621155851177 : True := trivial
theorem holds_try.tw12845054120310107262 : True := trivial
theorem holds_try.tw16709791220674987866 : True := trivial
theorem holds_try.tw16875248055154775439 : True := trivial
theorem holds_try.tw859038763238598617 : True := trivial
theorem holds_try.tw2135524231917346031 : True := trivial
theorem holds_try.tw12212605443248631893 : True := trivial
theorem holds_try.tw121380465116002578 : True := trivial
theorem holds_try.tw12445524400986264868 : True := trivial
theorem holds_try.tw7840386195569583913 : True := trivial
theorem holds_try.tw5411549923775166995 : True := trivial
theorem holds_try.tw11360897746537332447 : True := trivial
theorem holds_try.tw7252985090676916092 : True := trivial
theorem holds_try.tw3657131808891830968 : True := trivial
theorem holds_try.tw17825909895509517098 : True := trivial
theorem holds_try.tw8731915756859064421 : True := trivial
theorem holds_try.tw248521366974955021 : True := trivial
theorem holds_try.tw795841551170516363 : True := trivial
theorem holds_try.tw15668739663976101589 : True := trivial
theorem holds_try.tw11623854524054075535 : True := trivial
theorem holds_try.tw4288242388164413472 : True := trivial
theorem holds_try.tw944682445754361021 : True := trivial
theorem holds_try.tw5372049396612159477 : True := trivial
theorem holds_try.tw13537228495193222651 : True := trivial
theorem holds_try.tw15968333436410318785 : True := trivial
theorem holds_try.tw3879099537119441700 : True := trivial
theorem holds_try.tw16924667417331796977 : True := trivial
theorem holds_try.tw12613466762877582600 : True := trivial
theorem holds_try.tw14773514979735616636 : True := trivial
theorem holds_try.tw17115660484878841898 : True := trivial
theorem holds_try.tw6156989028048770826 : True := trivial
theorem holds_try.tw6570475803576941492 : True := trivial
theorem holds_try.tw9477377231015453756 : True := trivial
theorem holds_try.tw1662628373637448548 : True := trivial
theorem holds_try.tw2956737114567881590 : True := trivial
theorem holds_try.tw12072556280995051171 : True := trivial
theorem holds_try.tw7849366709230041115 : True := trivial
theorem holds_try.tw11335701660299768939 : True := trivial
theorem holds_try.tw12132983119506998531 : True := trivial
theorem holds_try.tw5773770180141382962 : True := trivial
theorem holds_try.tw1452352343517401661 : True := trivial
theorem holds_try.tw9267566248229729502 : True := trivial
theorem holds_try.tw1908480385164056723 : True := trivial
theorem holds_try.tw11074169519570427998 : True := trivial
theorem holds_try.tw6266213188716298583 : True := trivial
theorem holds_try.tw254093046289900307 : True := trivial
theorem holds_try.tw4049535445675195306 : True := trivial
theorem holds_try.tw3675483127734660093 : True := trivial
theorem holds_try.tw5719889461042961924 : True := trivial
theorem holds_try.tw9344480100948442586 : True := trivial
theorem holds_try.tw3041349033544319342 : True := trivial
theorem holds_try.tw12729962458609668669 : True := trivial
theorem holds_try.tw1592092356565444124 : True := trivial
theorem holds_try.tw8905202119039988190 : True := trivial
theorem holds_try.tw7321354932013461352 : True := trivial
theorem holds_try.tw9688806405965776668 : True := trivial
theorem holds_try.tw10660293956626905344 : True := trivial
theorem holds_try.tw9035980653187834901 : True := trivial
theorem holds_try.tw9236547896512875024 : True := trivial
theorem holds_try.tw1079801246903775832 : True := trivial
theorem holds_try.tw17578531640905061012 : True := trivial
theorem holds_try.tw2542935582210246100 : True := trivial
theorem holds_try.tw3392967233896144196 : True := trivial
theorem holds_try.tw3106443276511180880 : True := trivial
theorem holds_try.tw13724300918269151071 : True := trivial
theorem holds_try.tw7122178249191891604 : True := trivial
theorem holds_try.tw17131051532131863135 : True := trivial
theorem holds_try.tw866345497761706935 : True := trivial
theorem holds_try.tw2679685311121411762 : True := trivial
theorem holds_try.tw4761941465268037430 : True := trivial
theorem holds_try.tw1555716344616433805 : True := trivial
theorem holds_try.tw5250295066731336780 : True := trivial
theorem holds_try.tw2872397061021444640 : True := trivial
theorem holds_try.tw18378400344357163520 : True := trivial
theorem holds_try.tw4074213580565125186 : True := trivial
theorem holds_try.tw1318675394668114682 : True := trivial
theorem holds_try.tw2776132891451779318 : True := trivial
theorem holds_try.tw721311526914718780 : True := trivial
theorem holds_try.tw9304986948790844892 : True := trivial
theorem holds_try.tw1768792461533480611 : True := trivial
theorem holds_try.tw14862172047555844136 : True := trivial
theorem holds_try.tw13516297594960708406 : True := trivial
theorem holds_try.tw2939209161238172255 : True := trivial
theorem holds_try.tw3573009252733749145 : True := trivial
theorem holds_try.tw2890917705434231548 : True := trivial
theorem holds_try.tw11134115167353742758 : True := trivial
theorem holds_try.tw5385753807660922415 : True := trivial
theorem holds_try.tw4221182908506100268 : True := trivial
theorem holds_try.tw6189487746824877612 : True := trivial
theorem holds_try.tw17249893825740934349 : True := trivial
theorem holds_try.tw2863546203183391205 : True := trivial
theorem holds_try.tw6749107942835449858 : True := trivial
theorem holds_try.tw8842044270861067148 : True := trivial
theorem holds_try.tw3354692545265563189 : True := trivial
theorem holds_try.tw987893807085439334 : True := trivial
theorem holds_try.tw13843718120600653767 : True := trivial
set_option Elab.async true in
set_option maxRecDepth 100000 in
set_option maxHeartbeats 8000000 in
theorem holds_try : PySem.Challenge.rw_om0047_01.Holds := by
  w_on
  o_law
  o_head (kHook h0.heap_1 [2, 3, 15, 17, 18, 20, 21, 22, 24, 25, 27, 28, 29, 31, 32, 34, 35, 36, 37, 39, 40, 42, 43, 44, 45, 47, 48, 50, 51, 52, 54, 55, 57, 58, 59, 61, 62, 64, 65, 66, 68, 69, 71, 72, 73, 74, 75, 76, 77, 78, 79, 80, 81, 82, 83, 84, 85, 86, 87, 88, 89, 90, 91, 92, 93, 94, 95, 96, 97, 98, 99, 100, 101, 102, 103, 104, 105, 106, 108, 109, 111, 112, 113, 115, 116, 118, 119, 120, 122, 123, 125, 126, 127, 129, 130, 132, 133, 134, 136, 137, 139, 140, 141, 143, 144, 146, 147, 155, 156, 159, 160, 161, 163, 164, 166, 167, 168, 169, 170, 171, 172, 175, 177, 178, 180, 181, 182, 184, 185, 187, 188, 189, 191, 192, 194, 195, 196, 198, 199, 201, 202, 203, 205, 206, 208, 209, 210, 213, 214, 215, 218, 219, 220, 222, 223, 225, 226, 227, 229, 230, 232, 233, 234, 237, 238, 239, 242, 243] (fun _ => by kernel_rfl))
  (case hw => w_witness2)
  w_strict (
    k_go0
    (all_goals try k_fold)
    rename_i ns _ _ _ _ _ _ _ ls vs _ hL9 _ _ _ hI9 _ hcond _ K0 hD9 h9 tk9 F9 c1 c2 c3 c4 d1 d2 d3 d4 N9 X9
    rename World => w9
    refine wpAny_mono ?_ (fun _ _ x => x) (E := NoE) (fun _ _ x => x.elim)
    (k_dflt (refine' law_body (ls := ls) (vs := vs) (ns := ns) (c1 := c1) (c2 := c2) (c3 := c3) (c4 := c4) ?zzho ?zzX ?zzT ?zzF ?zzN ?zzd1 ?zzd2 ?zzd3 ?zzd4 hL9 hI9 ?zzl ?zzdp ?zzun ?_))
    case zzho => k_is
    case zzX => k_asm
    case zzT => k_asm
    case zzF => exact F9
    case zzN => exact N9
    case zzd1 => exact d1
    case zzd2 => exact d2
    case zzd3 => exact d3
    case zzd4 => exact d4
    case zzl => omega
    case zzdp => decide
    case zzun => decide
    intro h' tk' dr' m' F'
    clear F9 N9 hD9 K0 X9
    try k_unfold
    (try dsimp only)
    wrow_close)
end
end Mine
end
theorem PySem.Challenge.cw_om0047_01_holds : PySem.Challenge.rw_om0047_01.Holds := by
  exact Mine.holds_try
