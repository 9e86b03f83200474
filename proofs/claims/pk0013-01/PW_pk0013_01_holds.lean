import PyProof.Rows.All
import Wide.All
import OpenK.AllK
import Wide.FinOn
import PySem.Challenge.RW_pk0013_01
set_option Elab.async false
namespace Mine

section
open PySem PySem.W PyProof.Rows
set_option maxRecDepth 100000 in
set_option maxHeartbeats 8000000 in
open_top hd for PySem.Challenge.rw_pk0013_01
end

section
open PySem PySem.W PyProof.Rows PySem.Calls
set_option maxRecDepth 100000

section
variable {prog : Program} {w : World} {A A₀ : Around} {s : Shared} {K : Frag} {L : Addr} {h₀ base : Heap} {m mg mb : Str → Option Value} {p : Program} {loose : List Str} {mean : ExcName → Option Value}
  {env : Env} {outer : List Env} {R R₀ : Result → Shared → Prop} {name qual : Str} {params : Arguments} {body : List Stmt} {scope : Scope} {dV kV doc pm cdv ct oc : Value} {an od : Option Addr} {osl : Array (Option Value)} {f : Addr} {args : Args} {binds : List (Str × Value)}

theorem leaveK_pure (B : Below A₀ base outer h₀) (F : Fr h₀ L s.heap m) (hA : A.frames = some (env :: outer)) (hf : env.frame = some L) (hke : env.scope.kind = .function)
    (hR : ∀ v s', s.heap.StaysIn s'.heap → R₀ (.ok (.ret v)) s' → R (.ok (.ret v)) s') (v : Value) (s' : Shared) (h : LeaveK h₀ L m s.heap R₀ v s') : R (.ok (.ret v)) s' := by
  have lv := (groundX (R := R₀) B F (News.nil) hA hf hke).2.2.2 v s' h
  obtain ⟨L', m', news', F', _, _⟩ := h
  exact hR v s' F'.keep lv

/-- a def entered with an empty ledger: all that stood stands behind it -/
theorem code_pure (B : Below A₀ base outer h₀) (F : Fr h₀ L s.heap m) (X₀ : K.In h₀) (T : Top p loose mean mg mb h₀) (hA : A.frames = some (env :: outer)) (hf : env.frame = some L) (hke : env.scope.kind = .function)
    (ho : K.lookup f = some ⟨oc, od, .func (fnOf name qual params body scope dV kV doc pm an cdv ct), osl⟩) (hcd : codeIn K cdv qual = true) (hroom : A.depth < recursionLimit)
    (hbind : BindsTo s (fnOf name qual params body scope dV kV doc pm an cdv ct) args binds) (hloc : ∀ y ∈ binds, scope.names.lookup y.1 = some .local)
    (hR : ∀ v s', s.heap.StaysIn s'.heap → R₀ (.ok (.ret v)) s' → R (.ok (.ret v)) s')
    (h : ∀ g L' h₁, g = s.heap → Fr h₀ L g m → Fr g L' h₁ (fun y => binds.reverse.lookup y) → News g L' h₁ [] → Below A base (env :: outer) g → K.In g → Top p loose mean mg mb g →
      wpAny (model prog w) (A.deeper (envOf qual scope L' f cdv)) (execs body (envOf qual scope L' f cdv))
        (fun fl s' => LeaveK h₀ L m g R₀ (match fl with | .ret v => v | _ => .none) s')
        (fun e s' => wpAny (model prog w) (A.deeper (envOf qual scope L' f cdv)) (leaving (envOf qual scope L' f cdv) e) (fun _ s'' => R (.error e) s'') (fun e' s'' => R (.error e') s'') s')
        { s with heap := h₁, toks := s.toks + binds.length })
    (hco : scope.isCoroutine = false) (hgen : scope.isGenerator = false) (hk : scope.kind = .function)
    (hcell : ∀ x ∈ scope.names, x.2 ≠ .cell) : codeAny (model prog w) A (.call (.ref f) args) R s := by
  have X := X₀.keeps F.keep
  obtain ⟨FG, BG, st, _⟩ := groundX (R := R₀) B F (News.nil) hA hf hke
  refine codeAny_call_def (fd := fnOf name qual params body scope dV kV doc pm an cdv ct) (body := body) (binds := binds) hroom (X _ _ ho) rfl (T.nolimit.keeps F.keep) (codeRec_of X hcd) rfl hbind hcell hloc (fun h₁ hns hk₁ => ?_) hco hgen hk
  exact wpAny_mono (h s.heap s.heap.objs.size h₁ rfl FG ⟨hns, hk₁, Nat.le_refl _⟩ News.nil BG X (T.keeps st)) (fun fl s' hl => leaveK_pure B F hA hf hke hR _ _ hl) fun _ _ y => y

theorem code_pureC (B : Below A₀ base outer h₀) (F : Fr h₀ L s.heap m) (X₀ : K.In h₀) (T : Top p loose mean mg mb h₀) (hA : A.frames = some (env :: outer)) (hf : env.frame = some L) (hke : env.scope.kind = .function)
    (ho : K.lookup f = some ⟨oc, od, .func (fnOf name qual params body scope dV kV doc pm an cdv ct), osl⟩) (hcd : codeIn K cdv qual = true) (hroom : A.depth < recursionLimit)
    (hbind : BindsTo s (fnOf name qual params body scope dV kV doc pm an cdv ct) args binds) (hkind : (binds.all fun y => scope.names.lookup y.1 == some .local || scope.names.lookup y.1 == some .cell) = true)
    (hnd : ((cellsFrom 0 scope.names []).map (·.1)).Nodup)
    (hR : ∀ v s', s.heap.StaysIn s'.heap → R₀ (.ok (.ret v)) s' → R (.ok (.ret v)) s')
    (h : ∀ g L' h₁ tk cells, g = s.heap → Fr h₀ L g m → Fr g L' h₁ (bindL (envOfC qual scope L' f cdv).kindOf binds fun _ => none) → News g L' h₁ (cells ++ []) →
      CellsAre (bindC (envOfC qual scope L' f cdv).kindOf binds fun _ => none) (cellsFrom (L' + 1) scope.names []) cells → Below A base (env :: outer) g → K.In g → Top p loose mean mg mb g →
      wpAny (model prog w) (A.deeper (envOfC qual scope L' f cdv)) (execs body (envOfC qual scope L' f cdv))
        (fun fl s' => LeaveK h₀ L m g R₀ (match fl with | .ret v => v | _ => .none) s')
        (fun e s' => wpAny (model prog w) (A.deeper (envOfC qual scope L' f cdv)) (leaving (envOfC qual scope L' f cdv) e) (fun _ s'' => R (.error e) s'') (fun e' s'' => R (.error e') s'') s')
        { s with heap := h₁, toks := tk })
    (hco : scope.isCoroutine = false) (hgen : scope.isGenerator = false) (hk : scope.kind = .function) : codeAny (model prog w) A (.call (.ref f) args) R s := by
  have X := X₀.keeps F.keep
  obtain ⟨FG, BG, st, _⟩ := groundX (R := R₀) B F (News.nil) hA hf hke
  refine codeAny_call_function (fd := fnOf name qual params body scope dV kV doc pm an cdv ct) hroom (X _ _ ho) rfl hco hgen rfl (codeRec_of X hcd) (hbind _ _ _ _ ?_)
  refine wpAny_newFunctionEnv_cells hk (kindsX hkind _) fun env' he s' x => ?_
  subst he
  refine ⟨(T.nolimit.keeps F.keep).keeps x.toInCall.keep, codeAny_func ?_⟩
  obtain ⟨h₁, tk, rfl, _⟩ := x.done
  have hk₁ := x.toInCall.keep
  obtain ⟨cells, NC, Y⟩ := Cl.news (h₀ := s.heap) (Nat.le_refl _) fun n c hm => ⟨x.cell n c (lookup_of_mem_nodup (cellsFrom_names scope.names 0 (s.heap.objs.size + 1) [] [] rfl ▸ hnd) hm), x.above n c hm⟩
  refine wpAny_mono (h s.heap s.heap.objs.size h₁ tk cells rfl FG ⟨x.toInCall.ns, hk₁, Nat.le_refl _⟩ (fun p hp => ?_) Y BG X (T.keeps st)) (fun fl s' hl => leaveK_pure B F hA hf hke hR _ _ hl) fun _ _ y => y
  rw [List.append_nil] at hp
  exact NC p hp
end

structure PureEnd (s : Shared) (P : Heap → Heap → Value → Prop) (v : Value) (s' : Shared) : Prop where
  st : ∃ h' tk', s' = { s with heap := h', toks := tk' }
  p : P s.heap s'.heap v
@[reducible] def PureR (s : Shared) (P : Heap → Heap → Value → Prop) : Result → Shared → Prop := fun r s' => match r with | .ok (.ret v) => PureEnd s P v s' | _ => True
@[reducible] def PureQ (s : Shared) (P : Heap → Heap → Value → Prop) (E : Value → Shared → Prop) : Result → Shared → Prop := fun r s' => match r with | .ok (.ret v) => s.heap.StaysIn s'.heap ∧ (∃ h' tk', s' = { s with heap := h', toks := tk' }) ∧ P s.heap s'.heap v | .ok _ => False | .error e => E e s'
def PureV (s : Shared) (P : Heap → Heap → Value → Prop) : Value → Shared → Prop := fun v s' => s.heap.StaysIn s'.heap ∧ (∃ h' tk', s' = { s with heap := h', toks := tk' }) ∧ P s.heap s'.heap v
theorem pure_call {M : Model} {A : Around} {s : Shared} {f : Addr} {args : List Value} {P : Heap → Heap → Value → Prop} {E : Value → Shared → Prop} (h : codeAny M A (.call (.ref f) ⟨args, []⟩) (PureQ s P E) s) :
    wpAny M A (call (.ref f) args) (PureV s P) E s := wpAny_call h
theorem pure_R {s : Shared} {P : Heap → Heap → Value → Prop} {E : Value → Shared → Prop} : ∀ v s', s.heap.StaysIn s'.heap → PureR s P (.ok (.ret v)) s' → PureQ s P E (.ok (.ret v)) s' := fun _ _ hs hr => ⟨hs, hr.st, hr.p⟩

/-- what a call of the def at f with these arguments gives, from any frame of the text -/
def Pure (w : World) (r : Nat) (f : Addr) (args : List Value) (pre : Heap → Prop) (P : Heap → Heap → Value → Prop) : Prop :=
  ∀ (mean : ExcName → Option Value) (mg mb : Str → Option Value) (dp un : Nat) (gd : Option (List Code)) (cn : Str) (cs : Scope) (a : Addr) (ccd : Value) (cl : List (Str × Addr)) (outer : List Env) (A₀ : Around) (base h₀ : Heap) (L : Addr) (m : Str → Option Value) (s : Shared) (E : Value → Shared → Prop),
    Below A₀ base outer h₀ → Fr h₀ L s.heap m → (hd.heap_39 w.params).In h₀ → Top hd.view_39 (looseW hd.view_39 []) mean mg mb h₀ → cs.kind = .function → pre s.heap → dp + r < recursionLimit → un + 16 * r < cLine →
    wpAny (model Challenge.rw_pk0013_01.row.prog w) (ktrTop dp un gd cn cs L a ccd cl outer) (call (.ref f) args) (PureV s P) E s


section
variable {w : World} {r : Nat} {f : Addr} {args : List Value} {pre : Heap → Prop} {P : Heap → Heap → Value → Prop} {mean : ExcName → Option Value} {mg mb : Str → Option Value} {dp un : Nat} {gd : Option (List Code)} {cn : Str} {cs : Scope} {a : Addr} {ccd : Value} {cl : List (Str × Addr)} {outer : List Env} {A₀ : Around} {base h₀ : Heap} {L : Addr} {m : Str → Option Value} {s : Shared} {news : List (Addr × Obj)} {Q E : Value → Shared → Prop}
theorem use_pure (C : Pure w r f args pre P) (B : Below A₀ base outer h₀) (F : Fr h₀ L s.heap m) (X : (hd.heap_39 w.params).In h₀) (N : News h₀ L s.heap news) (T : Top hd.view_39 (looseW hd.view_39 []) mean mg mb h₀) (hk : cs.kind = .function) (hpre : pre s.heap) (hdp : dp + r < recursionLimit) (hu : un + 16 * r < cLine)
    (ret : ∀ v h' tk', Fr h₀ L h' m → News h₀ L h' news → P s.heap h' v → Q v { s with heap := h', toks := tk' }) :
    wpAny (model Challenge.rw_pk0013_01.row.prog w) (ktrTop dp un gd cn cs L a ccd cl outer) (call (.ref f) args) Q E s := by
  refine wpAny_mono (C mean mg mb dp un gd cn cs a ccd cl outer A₀ base h₀ L m s E B F X T hk hpre hdp hu) (fun v s' h => ?_) fun _ _ e => e
  obtain ⟨st, ⟨h', tk', rfl⟩, p⟩ := h
  exact ret v h' tk' (F.keeps st) (N.grown st) p
end

/-- a fresh object behind a call, on the ledger -/
theorem news_fresh {h₀ h h' : Heap} {L D : Addr} {m : Str → Option Value} {o : Obj} {news : List (Addr × Obj)} (F : Fr h₀ L h m) (N' : News h₀ L h' news) (hD : h.get? D = none) (ho : h'.get? D = some o) : News h₀ L h' ((D, o) :: news) := by
  intro p hp
  rcases List.mem_cons.mp hp with rfl | hp
  · refine ⟨ho, fun e => ?_, ?_⟩
    · obtain ⟨oL, _, _, hL, _⟩ := F.ns
      rw [show D = L from e, hL] at hD; cases hD
    · cases q : h₀.get? D with
      | none => rfl
      | some o' => rw [F.keep _ _ q] at hD; cases hD
  · exact N' p hp
theorem off_fresh {h₀ h : Heap} {L D : Addr} {news : List (Addr × Obj)} (N : News h₀ L h news) (hD : h.get? D = none) : LCg.Off1 D news := by
  induction news with
  | nil => trivial
  | cons p r ih =>
    refine ⟨fun e => ?_, ih fun q hq => N q (.tail _ hq)⟩
    have := (N p (.head _)).1
    rw [show p.1 = D from e, hD] at this; cases this
end

section
open PySem PySem.W PyProof.Rows PySem.Calls
set_option maxRecDepth 100000
open LCg

section
variable {prog : Program} {w : World} {A : Around} {E : Value → Shared → Prop} {s s₁ : Shared} {h₀ : Heap} {L : Addr} {m : Str → Option Value} {env : Env} {news : List (Addr × Obj)}

/-- the iterable xv hands n items, the i-th with P i -/
def ItSrc (prog : Program) (w : World) (A : Around) (h₀ : Heap) (L : Addr) (xv : Value) (s₁ : Shared) (news : List (Addr × Obj)) (n : Nat) (P : Nat → Value → Prop) : Prop :=
  ∀ (Q' : Value → Shared → Prop) (E' : Value → Shared → Prop), (∀ (o : Obj) (St : Nat → Heap → Prop) (fp : List Addr), Walks prog w A s₁.heap.objs.size fp [s₁.heap.objs.size] n P St → St 0 (s₁.heap.push o) →
    (∀ b ∈ fp, b < (s₁.heap.push o).objs.size) → (∀ i h, St i h → ∃ o, h.get? s₁.heap.objs.size = some o) →
    (∀ i h h' o, St i h → h.get? s₁.heap.objs.size = some o → h'.get? s₁.heap.objs.size = some o → (∀ b o, h₀.get? b = some o → h'.get? b = some o) → News h₀ L h' news → St i h') →
    Q' (.ref s₁.heap.objs.size) { s₁ with heap := s₁.heap.push o }) → wpAny (model prog w) A (pyIter xv) Q' E' s₁

theorem ItSrc.list {ax : Addr} {its : Array Value} (hh : A.handled = none) (F : Fr h₀ L s₁.heap m) (N : News h₀ L s₁.heap news) (S : SrcAt h₀ ax its news) :
    ItSrc prog w A h₀ L (.ref ax) s₁ news its.size (fun i v => its[i]? = some v) := fun Q' E' h => by
  have hl := S.list F.keep N
  have hlt : ax < s₁.heap.objs.size := by obtain ⟨_, e, _⟩ := hl; exact Heap.lt_size e
  refine wpAny_pyIter_list hl (h _ _ _ (Walks.list hh s₁.heap.objs.size ax (Nat.ne_of_lt hlt) its) ⟨⟨_, Heap.get?_push_size _ rfl, rfl, rfl⟩, hl.push _⟩ (fun b hb => ?_) (fun i h st => by obtain ⟨o, e, _⟩ := st.1; exact ⟨o, e⟩) fun i h h' o st e e' k N => list_st i h h' o news st e e' k N S)
  rw [Heap.size_push]
  rcases List.mem_cons.mp hb with rfl | hb
  · exact Nat.lt_succ_self _
  · rw [List.mem_singleton.mp hb]; exact Nat.lt_succ_of_lt hlt

theorem ItSrc.tuple {ax : Addr} {its : Array Value} {k : Nat} (hh : A.handled = none) (N : News h₀ L s₁.heap news) (hm : (ax, ({ cls := .type "tuple", data := .seq its k } : Obj)) ∈ news) :
    ItSrc prog w A h₀ L (.ref ax) s₁ news its.size (fun i v => its[i]? = some v) := fun Q' E' h => by
  have hl : s₁.heap.IsTuple ax its := ⟨_, (N _ hm).1, rfl, _, rfl⟩
  have hlt : ax < s₁.heap.objs.size := Heap.lt_size (N _ hm).1
  refine wpAny_pyIter_tuple hl (h _ _ _ (Walks.tuple hh s₁.heap.objs.size ax (Nat.ne_of_lt hlt) its) ⟨⟨_, Heap.get?_push_size _ rfl, rfl, rfl⟩, ⟨_, Heap.get?_push_of_some _ (N _ hm).1, rfl, _, rfl⟩⟩ (fun b hb => ?_) (fun i h st => by obtain ⟨o, e, _⟩ := st.1; exact ⟨o, e⟩) fun i h h' o st e e' k N' => ?_)
  · rw [Heap.size_push]
    rcases List.mem_cons.mp hb with rfl | hb
    · exact Nat.lt_succ_self _
    · rw [List.mem_singleton.mp hb]; exact Nat.lt_succ_of_lt hlt
  · refine ⟨?_, ⟨_, (N' _ hm).1, rfl, _, rfl⟩⟩
    obtain ⟨o', q, r⟩ := st.1
    rw [e] at q; cases q
    exact ⟨o, e', r⟩

theorem ItSrc.range {r : Addr} {a b : Int} {t u v : Tok} {n : Nat} (hh : A.handled = none) (hr : IsRange s₁.heap r a b 1 t u v) (hsm : Builtin.Range.small a b 1 = true) (hn : Builtin.Range.rangeSize a b 1 = ((n : Nat) : Int)) :
    ItSrc prog w A h₀ L (.ref r) s₁ news n (fun i v => ∃ t, v = .int (a + (i : Int)) t) := fun Q' E' h => by
  refine wpAny_pyIter_range hr hsm (h _ _ _ (range_walks hh a n) (by show IsRangeIter _ _ _ _ _; rw [hn]; simpa using Heap.get?_push_size _ rfl) (fun b hb => ?_) (fun i h st => ⟨_, st⟩) fun i h h' o st e e' k N => range_st (L := L) i h h' o news st e e' k N trivial)
  rw [List.mem_singleton.mp hb, Heap.size_push]
  exact Nat.lt_succ_self _

theorem ItSrc.ascii {x : Str} {t : Tok} (hh : A.handled = none) (ha : x.cps.all (· < 128) = true) :
    ItSrc prog w A h₀ L (.str x t) s₁ news x.cps.size (SignAt x) := fun Q' E' h => by
  refine wpAny_pyIter_ascii ha (h _ _ _ (Walks.strAscii hh _ x t) ⟨_, Heap.get?_push_size _ rfl, rfl, rfl⟩ (fun b hb => ?_) (fun i h st => by obtain ⟨o, e, _⟩ := st; exact ⟨o, e⟩) fun i h h' o st e e' k N => ?_)
  · rw [List.mem_singleton.mp hb, Heap.size_push]
    exact Nat.lt_succ_self _
  · obtain ⟨o', q, r⟩ := st
    rw [e] at q; cases q
    exact ⟨o, e', r⟩

theorem ItSrc.bytes {b : Array UInt8} {t : Tok} (hh : A.handled = none) :
    ItSrc prog w A h₀ L (.bytes b t) s₁ news b.size (fun i v => ∃ c u, b[i]? = some c ∧ v = .int (c.toNat : Int) u) := fun Q' E' h => by
  refine KBw.pyIter_bytes (h _ _ _ (KBw.walks hh _ b t) ⟨_, Heap.get?_push_size _ rfl, rfl, rfl⟩ (fun b hb => ?_) (fun i h st => by obtain ⟨o, e, _⟩ := st; exact ⟨o, e⟩) fun i h h' o st e e' k N => ?_)
  · rw [List.mem_singleton.mp hb, Heap.size_push]
    exact Nat.lt_succ_self _
  · obtain ⟨o', q, r⟩ := st
    rw [e] at q; cases q
    exact ⟨o, e', r⟩

/-- an element's end: the ledger stands, the value has G -/
structure ElEnd {α : Type} (h₀ : Heap) (L : Addr) (m : Str → Option Value) (s : Shared) (news : List (Addr × Obj)) (G : α → Prop) (y : α) (s' : Shared) : Prop where
  st : ∃ h' tk, s' = { s with heap := h', toks := tk }
  fr : Fr h₀ L s'.heap m
  nw : News h₀ L s'.heap news
  g : G y

/-- the choice of the items by p, each with G -/
inductive Sel (p : Nat → Bool) (G : Nat → Value → Prop) : Nat → Nat → List Value → Prop
  | nil {i : Nat} : Sel p G i 0 []
  | yes {i k : Nat} {y : Value} {zs : List Value} : p i = true → G i y → Sel p G (i + 1) k zs → Sel p G i (k + 1) (y :: zs)
  | no {i k : Nat} {zs : List Value} : p i = false → Sel p G (i + 1) k zs → Sel p G i (k + 1) zs

theorem Sel.le {p : Nat → Bool} {G : Nat → Value → Prop} {i k : Nat} {zs : List Value} (h : Sel p G i k zs) : zs.length ≤ k := by
  induction h with
  | nil => exact Nat.le_refl _
  | yes _ _ _ ih => exact Nat.succ_le_succ ih
  | no _ _ ih => exact Nat.le_succ_of_le ih

def Turns (prog : Program) (w : World) (A : Around) (h₀ : Heap) (L : Addr) (m : Str → Option Value) (env : Env) (elt : Expr) (x : Str) (scope : Scope) (cl : List (Str × Addr)) (news : List (Addr × Obj)) (P : Nat → Value → Prop) (G : Nat → Value → Prop) : Prop :=
  ∀ i v I oI C oC D ys m₂ (s : Shared) (E' : Value → Shared → Prop), P i v → NsObj oC m₂ → m₂ x = some v → Fr h₀ L s.heap m → News h₀ L s.heap ((I, oI) :: (C, oC) :: (D, lst ys) :: news) → Off3 I C D news → ((@Ne Nat I C) ∧ (@Ne Nat I D) ∧ (@Ne Nat C D)) →
    wpAny (model prog w) A (eval elt (compEnvC scope cl C env)) (ElEnd h₀ L m s ((I, oI) :: (C, oC) :: (D, lst ys) :: news) (G i)) E' s

def Tests (prog : Program) (w : World) (A : Around) (h₀ : Heap) (L : Addr) (m : Str → Option Value) (env : Env) (ct : Expr) (x : Str) (scope : Scope) (cl : List (Str × Addr)) (news : List (Addr × Obj)) (P : Nat → Value → Prop) (p : Nat → Bool) : Prop :=
  ∀ i v I oI C oC D ys m₂ (s : Shared) (E' : Value → Shared → Prop), P i v → NsObj oC m₂ → m₂ x = some v → Fr h₀ L s.heap m → News h₀ L s.heap ((I, oI) :: (C, oC) :: (D, lst ys) :: news) → Off3 I C D news → ((@Ne Nat I C) ∧ (@Ne Nat I D) ∧ (@Ne Nat C D)) →
    wpAny (model prog w) A (isTrue ct (compEnvC scope cl C env) (eval ct (compEnvC scope cl C env))) (ElEnd h₀ L m s ((I, oI) :: (C, oC) :: (D, lst ys) :: news) (fun b => b = p i)) E' s

theorem rest_of {elt : Expr} {x : Str} {scope : Scope} {cl : List (Str × Addr)} {P : Nat → Value → Prop} {G : Nat → Value → Prop} {Fin : List Value → List (Addr × Obj) → Prop} (turn : Turns prog w A h₀ L m env elt x scope cl news P G) :
    ∀ k i ys, (∀ zs, Sel (fun _ => true) G i k zs → Fin (ys ++ zs) news) → CompRest prog w A h₀ L m env elt x scope cl s (fun nw => nw = news) P Fin k i ys news := by
  intro k
  induction k with
  | zero => intro i ys h; exact CompRest.zero (by simpa using h [] .nil)
  | succ k ih =>
    intro i ys h
    refine CompRest.succ fun v I oI C oC D m₂ hh tk E' hv hC hx F N off ne => ?_
    refine wpAny_mono (turn i v I oI C oC D ys m₂ { s with heap := hh, toks := tk } E' hv hC hx F N off ne) (fun y s' e => ?_) fun _ _ e => e
    obtain ⟨⟨h', tk', rfl⟩, F', N', g⟩ := e
    refine ⟨h', tk', news, rfl, F', N', off, rfl, ?_⟩
    refine ih (i + 1) (ys ++ [y]) fun zs hz => ?_
    rw [List.append_assoc]
    exact h (y :: zs) (.yes rfl g hz)

theorem restT_of {ct elt : Expr} {x : Str} {scope : Scope} {cl : List (Str × Addr)} {P : Nat → Value → Prop} {G : Nat → Value → Prop} {p : Nat → Bool} {Fin : List Value → List (Addr × Obj) → Prop}
    (test : Tests prog w A h₀ L m env ct x scope cl news P p) (turn : Turns prog w A h₀ L m env elt x scope cl news (fun i v => P i v ∧ p i = true) G) :
    ∀ k i ys, (∀ zs, Sel p G i k zs → Fin (ys ++ zs) news) → LCt.CompRestT prog w A h₀ L m env ct elt x scope cl s (fun nw => nw = news) P Fin k i ys news := by
  intro k
  induction k with
  | zero => intro i ys h; exact LCt.CompRestT.zero (by simpa using h [] .nil)
  | succ k ih =>
    intro i ys h
    refine LCt.CompRestT.succ fun v I oI C oC D m₂ hh tk E' hv hC hx F N off ne => ?_
    refine wpAny_mono (test i v I oI C oC D ys m₂ { s with heap := hh, toks := tk } E' hv hC hx F N off ne) (fun b s' e => ?_) fun _ _ e => e
    obtain ⟨⟨h', tk', rfl⟩, F', N', g⟩ := e
    cases hb : p i with
    | true =>
      rw [g, hb, if_pos rfl]
      refine wpAny_mono (turn i v I oI C oC D ys m₂ { s with heap := h', toks := tk' } E' ⟨hv, hb⟩ hC hx F' N' off ne) (fun y s' e => ?_) fun _ _ e => e
      obtain ⟨⟨h'', tk'', rfl⟩, F'', N'', g''⟩ := e
      refine ⟨h'', tk'', news, rfl, F'', N'', off, rfl, ?_⟩
      refine ih (i + 1) (ys ++ [y]) fun zs hz => ?_
      rw [List.append_assoc]
      exact h (y :: zs) (.yes hb g'' hz)
    | false =>
      rw [g, hb, if_neg Bool.false_ne_true]
      exact ⟨h', tk', news, rfl, F', N', off, rfl, ih (i + 1) ys fun zs hz => h zs (.no hb hz)⟩

def ch (c : Nat) : Str := ⟨#[c]⟩
def selL {α : Type} (p : Nat → Bool) (f : Nat → α) : Nat → Nat → List α
  | _, 0 => []
  | i, k + 1 => if p i then f i :: selL p f (i + 1) k else selL p f (i + 1) k
theorem Sel.chars {p : Nat → Bool} {f : Nat → Nat} {i k : Nat} {zs : List Value} (h : Sel p (fun i y => ∃ t, y = .str (ch (f i)) t) i k zs) : StrsAre zs ((selL p f i k).map ch) := by
  induction h with
  | nil => exact .nil
  | yes hp g _ ih =>
    obtain ⟨t, rfl⟩ := g
    rw [selL, if_pos hp, List.map_cons]
    exact .cons _ _ ih
  | no hp _ ih => rw [selL, if_neg (by rw [hp]; exact Bool.false_ne_true)]; exact ih
theorem Sel.ints {p : Nat → Bool} {f : Nat → Int} {i k : Nat} {zs : List Value} (h : Sel p (fun i y => ∃ t, y = .int (f i) t) i k zs) : IntsAre zs (selL p f i k) := by
  induction h with
  | nil => exact .nil
  | yes hp g _ ih =>
    obtain ⟨t, rfl⟩ := g
    rw [selL, if_pos hp]
    exact .cons _ _ ih
  | no hp _ ih => rw [selL, if_neg (by rw [hp]; exact Bool.false_ne_true)]; exact ih
theorem selL_length {α : Type} {p : Nat → Bool} {f : Nat → α} : ∀ {k i : Nat}, (selL p f i k).length ≤ k
  | 0, _ => Nat.le_refl _
  | k + 1, i => by
    unfold selL
    split
    · exact Nat.succ_le_succ selL_length
    · exact Nat.le_succ_of_le selL_length

theorem join_ch : ∀ cs : List Nat, Txt.join (Str.ofString "") (cs.map ch) = ⟨cs.toArray⟩ := by
  have e : ∀ l, Txt.join (Str.ofString "") l = Str.join (Str.ofString "") l := fun l => eq_of_beq (join_plain_closes _ l)
  intro cs
  rw [e]
  have h0 : Str.ofString "" = ⟨#[]⟩ := by decide +kernel
  rw [h0]
  have app : ∀ a b : Array Nat, (Str.mk a ++ Str.mk b : Str) = ⟨a ++ b⟩ := fun _ _ => rfl
  induction cs with
  | nil => rfl
  | cons c r ih =>
    cases r with
    | nil => rfl
    | cons d r =>
      show ch c ++ ⟨#[]⟩ ++ Str.join ⟨#[]⟩ ((d :: r).map ch) = _
      rw [ih, ch, app, app]
      simp
theorem sum_ch (cs : List Nat) : ((cs.map ch).map (·.length)).sum = cs.length := by
  induction cs with
  | nil => rfl
  | cons c r ih => simp only [List.map_cons, List.sum_cons, List.length_cons, ih]; show 1 + _ = _; omega

/-- what a comprehension's source must show -/
def CSrc (prog : Program) (w : World) (A : Around) (h₀ : Heap) (L : Addr) (m : Str → Option Value) (env : Env) (elt : Expr) (x : Str) (scope : Scope) (cl : List (Str × Addr)) (Q : Value → Shared → Prop) (xv : Value) (s₁ : Shared) : Prop :=
  ∃ news n P G, A.handled = none ∧ Fr h₀ L s₁.heap m ∧ News h₀ L s₁.heap news ∧ n ≤ sizeLine ∧ ItSrc prog w A h₀ L xv s₁ news n P ∧ Turns prog w A h₀ L m env elt x scope cl news (fun i v => i < n ∧ P i v) G ∧
    ∀ zs h, Sel (fun _ => true) G 0 n zs → FinE h₀ L m { s₁ with heap := h } Q zs news
def CSrcT (prog : Program) (w : World) (A : Around) (h₀ : Heap) (L : Addr) (m : Str → Option Value) (env : Env) (ct elt : Expr) (x : Str) (scope : Scope) (cl : List (Str × Addr)) (Q : Value → Shared → Prop) (xv : Value) (s₁ : Shared) : Prop :=
  ∃ news n P G p, A.handled = none ∧ Fr h₀ L s₁.heap m ∧ News h₀ L s₁.heap news ∧ n ≤ sizeLine ∧ ItSrc prog w A h₀ L xv s₁ news n P ∧ Tests prog w A h₀ L m env ct x scope cl news (fun i v => i < n ∧ P i v) p ∧ Turns prog w A h₀ L m env elt x scope cl news (fun i v => (i < n ∧ P i v) ∧ p i = true) G ∧
    ∀ zs h, Sel p G 0 n zs → FinE h₀ L m { s₁ with heap := h } Q zs news

theorem comp_src {elt iter : Expr} {x : Str} {px : Pos} {scope : Scope} {cl : List (Str × Addr)} {pos : Pos} {Q : Value → Shared → Prop} (_ : Fr h₀ L s.heap m)
    (hclos : closureFor scope env = pure cl) (hcell : ∀ y ∈ scope.names, y.2 ≠ .cell) (hkind : scope.kind = .function)
    (hnames : ∀ y ∈ scope.names, y.2 = .local → scope.names.lookup y.1 = some .local) (hx : scope.names.lookup x = some .local)
    (h : wpAny (model prog w) A (eval iter env) (CSrc prog w A h₀ L m env elt x scope cl Q) E s)
    (hs : ∀ x, foldedSetIterable iter env x = pure x := by intro _; rfl) :
    wpAny (model prog w) A (eval (.ListComp elt [⟨.Name x px, iter, [], 0⟩] scope pos) env) Q E s := by
  rw [eval_ListComp]
  refine wpAny_comprehension_free (use := none) rfl hs hclos hkind hnames (wpAny_mono h (fun xv s₁ h₁ => ?_) fun _ _ e => e)
  obtain ⟨news, n, P, G, hh, F, N, hsz, It, turn, fin⟩ := h₁
  refine It _ _ fun o St fp W st0 hfp hIo hSt => ?_
  refine block_U (S := fun nw => nw = news) W.bound hsz hIo (fun i h h' o nw st e e' k N' hS => hSt i h h' o st e e' k (hS ▸ N')) hcell hkind hx st0 hfp
    (F.keeps fun _ _ e => Heap.get?_push_of_some _ e) (N.grown fun _ _ e => Heap.get?_push_of_some _ e) (Nat.ne_of_lt F.ns.lt) (next_is_new F) (fun p hp => Nat.ne_of_lt (Heap.lt_size (N p hp).1)) rfl
    (rest_of (Fin := FinE h₀ L m { s₁ with heap := s₁.heap.push o } Q) turn n 0 [] fun zs hz => fin zs _ hz) ?_
  intro D C h tk m' ys news' F' N' o1 hn hC₀ hD₀ hCL hDL hCD offC fin
  refine ⟨m', hn, fun h'' hs'' => fin D h'' tk (F'.change hs'' hCL hC₀) (fun p hp => ?_) o1⟩
  refine ⟨hs''.extBut _ _ ?_ (N' p hp).1, (N' p hp).2⟩
  rcases List.mem_cons.mp hp with rfl | hp
  · exact Ne.symm hCD
  · exact offC p hp

theorem comp_srcT {ct elt iter : Expr} {x : Str} {px : Pos} {scope : Scope} {cl : List (Str × Addr)} {pos : Pos} {Q : Value → Shared → Prop} (_ : Fr h₀ L s.heap m)
    (hclos : closureFor scope env = pure cl) (hcell : ∀ y ∈ scope.names, y.2 ≠ .cell) (hkind : scope.kind = .function)
    (hnames : ∀ y ∈ scope.names, y.2 = .local → scope.names.lookup y.1 = some .local) (hx : scope.names.lookup x = some .local)
    (h : wpAny (model prog w) A (eval iter env) (CSrcT prog w A h₀ L m env ct elt x scope cl Q) E s)
    (hs : ∀ x, foldedSetIterable iter env x = pure x := by intro _; rfl) :
    wpAny (model prog w) A (eval (.ListComp elt [⟨.Name x px, iter, [ct], 0⟩] scope pos) env) Q E s := by
  rw [eval_ListComp]
  refine wpAny_comprehension_free (use := none) rfl hs hclos hkind hnames (wpAny_mono h (fun xv s₁ h₁ => ?_) fun _ _ e => e)
  obtain ⟨news, n, P, G, p, hh, F, N, hsz, It, test, turn, fin⟩ := h₁
  refine It _ _ fun o St fp W st0 hfp hIo hSt => ?_
  refine LCt.block_T (S := fun nw => nw = news) W.bound hsz hIo (fun i h h' o nw st e e' k N' hS => hSt i h h' o st e e' k (hS ▸ N')) hcell hkind hx st0 hfp
    (F.keeps fun _ _ e => Heap.get?_push_of_some _ e) (N.grown fun _ _ e => Heap.get?_push_of_some _ e) (Nat.ne_of_lt F.ns.lt) (next_is_new F) (fun p hp => Nat.ne_of_lt (Heap.lt_size (N p hp).1)) rfl
    (restT_of (Fin := FinE h₀ L m { s₁ with heap := s₁.heap.push o } Q) test turn n 0 [] fun zs hz => fin zs _ hz) ?_
  intro D C h tk m' ys news' F' N' o1 hn hC₀ hD₀ hCL hDL hCD offC fin
  refine ⟨m', hn, fun h'' hs'' => fin D h'' tk (F'.change hs'' hCL hC₀) (fun p hp => ?_) o1⟩
  refine ⟨hs''.extBut _ _ ?_ (N' p hp).1, (N' p hp).2⟩
  rcases List.mem_cons.mp hp with rfl | hp
  · exact Ne.symm hCD
  · exact offC p hp
end
end

section
open PySem PySem.W PyProof.Rows PySem.Calls
set_option maxRecDepth 100000
theorem pow_gen {prog : Program} {w : World} {A : Around} {E : Value → Shared → Prop} {s : Shared} {Q : Value → Shared → Prop} {b n : Int} {t u : Tok} (hb0 : 1 ≤ b) (hb1 : b ≤ 16) (hn : 0 ≤ n) (hn2 : n ≤ 7)
    (h : ∀ q : Int, q = b ^ n.toNat → 1 ≤ q → q ≤ 268435456 → Q (.int q s.toks) { s with toks := s.toks + 1 }) : wpAny (model prog w) A (binaryOp .Pow (.int b t) (.int n u)) Q E s := by
  refine pow_int_small hn (by omega) (by omega) (h _ rfl ?_ ?_)
  · have : 0 < b ^ n.toNat := Int.pow_pos (by omega)
    omega
  · obtain ⟨c, rfl⟩ : ∃ c : Nat, b = c := ⟨b.toNat, by omega⟩
    have h1 : c ^ n.toNat ≤ 16 ^ n.toNat := Nat.pow_le_pow_left (by omega) _
    have h2 : 16 ^ n.toNat ≤ 16 ^ 7 := Nat.pow_le_pow_right (by decide) (by omega)
    have h3 : c ^ n.toNat ≤ 268435456 := Nat.le_trans h1 (Nat.le_trans h2 (by decide))
    rw [← Int.natCast_pow]
    exact Int.ofNat_le.mpr h3
section
variable {prog : Program} {w : World} {A : Around} {E : Value → Shared → Prop} {s : Shared} {Q : Value → Shared → Prop} {a b : Int} {t u : Tok}
theorem floordiv_pos (hb : 0 < b) (hb1 : b < 1073741824) (h : Q (.int (a / b) s.toks) { s with toks := s.toks + 1 }) : wpAny (model prog w) A (binaryOp .FloorDiv (.int a t) (.int b u)) Q E s :=
  floordiv_int (by omega) (by rw [Int.fdiv_eq_ediv_of_nonneg _ (by omega)]; exact h) (.inl (PyProof.noPylong_small (by omega)))
theorem mod_pos (hb : 0 < b) (h : Q (.int (a % b) s.toks) { s with toks := s.toks + 1 }) : wpAny (model prog w) A (binaryOp .Mod (.int a t) (.int b u)) Q E s :=
  mod_int' (by omega) (by rw [Int.fmod_eq_emod_of_nonneg _ (by omega)]; exact h)
theorem join_lst {D : Addr} {x : Str} {zs : List Value} {ys : List Str} {h₀ : Heap} {L : Addr} {news : List (Addr × Obj)} (N : News h₀ L s.heap ((D, LCg.lst zs) :: news)) (hi : StrsAre zs ys) (hsep : x.length ≤ 64) (hok : (ys.map (·.length)).sum + ys.length * 64 ≤ 16777216)
    (h : ∀ t' k, Q (.str (Txt.join x ys) t') { s with toks := k }) : wpAny (model prog w) A (call (.builtin "str.join") [.str x t, .ref D]) Q E s :=
  join_listC ⟨_, (N _ (.head _)).1, rfl, _, rfl⟩ hi hsep hok h
end
/-- a place where the walk stands still -/
def Halt (P : Prop) : Prop := P
theorem Halt.out {P : Prop} (h : Halt P) : P := h
theorem Halt.on {P : Prop} (h : P) : Halt P := h
section
variable {x y : Int} {c P Q : Prop} [Decidable c] {b : Bool}
theorem ite_eqT (h : x = y) (p : P) : if (x == y) = true then P else Q := by rw [if_pos (by simpa using h)]; exact p
theorem ite_eqF (h : x ≠ y) (q : Q) : if (x == y) = true then P else Q := by rw [if_neg (by simpa using h)]; exact q
theorem ite_neT (h : x ≠ y) (p : P) : if (x != y) = true then P else Q := by rw [if_pos (by simpa using h)]; exact p
theorem ite_neF (h : x = y) (q : Q) : if (x != y) = true then P else Q := by rw [if_neg (by simpa using h)]; exact q
theorem ite_decT (h : c) (p : P) : if decide c = true then P else Q := by rw [if_pos (by simpa using h)]; exact p
theorem ite_decF (h : ¬ c) (q : Q) : if decide c = true then P else Q := by rw [if_neg (by simpa using h)]; exact q
end
end

open PySem PySem.W PyProof.Rows PySem.Calls
set_option maxRecDepth 100000
local macro_rules | `(tactic| walk_at "mine t") => `(tactic| repeat' (first | (k_unfold; (try dsimp only)) | (k_end; wrow_close) | walk1 | (dsimp only; walk1) | (leave1; walk_say "STEP leave1"; try dsimp only) | fail "no step"))
local macro_rules | `(tactic| walk_at "mine d") => `(tactic| repeat' (first | (k_unfold; (try dsimp only)) | (k_end; wrow_close) | (walk1; try dsimp only) | (dsimp only; walk1) | (leave1; walk_say "STEP leave1"; try dsimp only) | fail "no step"))
local macro_rules | `(tactic| walk_at "mine enter") => `(tactic| first
  | (refine' code_pure ?k1 ?k2 ?k3 ?k5 ?kA ?kF ?kK ?k6 ?k7 ?k8 ?k9 ?kB ?kR ?_ ?c2 ?c3 ?c4 ?c5; (case kA => exact rfl); (case kF => exact rfl); (case kK => assumption); (case k1 => k_asm); (case k2 => k_asm); (case k3 => k_asm); (case k5 => k_asm); (case k6 => k_is); (case k7 => k_is); (case k8 => ktr_room); (case k9 => exact BindsTo.of_eq rfl); (case c5 => decide); (case kB => exact locs rfl); (case c2 => exact rfl); (case c3 => exact rfl); (case c4 => exact rfl); (case kR => exact pure_R); k_whole; intro g' L' h' hg' FG' F' N' B' X' T'; (try dsimp only); (try k_lift B'); (try k_fold))
  | (refine' code_pureC ?k1 ?k2 ?k3 ?k5 ?kA ?kF ?kK ?k6 ?k7 ?k8 ?k9 ?kB ?kD ?kR ?_ ?c2 ?c3 ?c4; (case kA => exact rfl); (case kF => exact rfl); (case kK => assumption); (case k1 => k_asm); (case k2 => k_asm); (case k3 => k_asm); (case k5 => k_asm); (case k6 => k_is); (case k7 => k_is); (case k8 => ktr_room); (case k9 => exact BindsTo.of_eq rfl); (case kB => exact rfl); (case kD => decide +kernel); (case c2 => exact rfl); (case c3 => exact rfl); (case c4 => exact rfl); (case kR => exact pure_R); k_whole; intro g' L' h' tk' cells' hg' FG' F' N' Y' B' X' T'; k_cells Y'; (try simp only [List.cons_append, List.nil_append] at N'); (try dsimp only); (try k_lift B'); (try k_fold)))
local macro_rules | `(tactic| walk_at "mine go") => `(tactic| (k_with_none; unfold Pure; k_fill; intro mean mg mb dp un gd cn cs a ccd cl outer A₀ base h₀ L m s E B F X T hk hpre hdp hu; w_on))

section
/-! plain functions of the law and their laws: no program in sight -/
open PySem

/-- the letters of a number, sixteen by sixteen -/
def ap (n : Nat) : List Nat := if h : n = 0 then [] else ap (n / 16) ++ [65 + n % 16]
termination_by n
decreasing_by omega
theorem ap_zero : ap 0 = [] := by rw [ap]; rfl
theorem ap_pos {n : Nat} (h : 0 < n) : ap n = ap (n / 16) ++ [65 + n % 16] := by rw [ap, dif_neg (by omega)]
def apB (n : Nat) : Array UInt8 := ((ap n).map UInt8.ofNat).toArray
def apS (n : Nat) : Str := ⟨(ap n).toArray⟩
theorem apB_zero : apB 0 = #[] := by rw [apB, ap_zero]; rfl
theorem apB_pos {n : Nat} (h : 0 < n) : apB n = apB (n / 16) ++ #[UInt8.ofNat (65 + n % 16)] := by
  simp only [apB, ap_pos h, List.map_append, List.map_cons, List.map_nil]
  simp

/-- the letters from the highest place on -/
def hexes (n : Nat) : Nat → List Nat
  | 0 => []
  | k + 1 => if 16 ^ k ≤ n then (65 + n / 16 ^ k % 16) :: hexes n k else hexes n k
theorem hexes_last (n : Nat) : ∀ k, hexes n (k + 1) = hexes (n / 16) k ++ (if 1 ≤ n then [65 + n % 16] else [])
  | 0 => by
    simp only [hexes, Nat.pow_zero, Nat.div_one, List.nil_append]
  | k + 1 => by
    rw [hexes, hexes_last n k, hexes]
    have e1 : (16 ^ (k + 1) ≤ n) ↔ (16 ^ k ≤ n / 16) := by
      rw [Nat.pow_succ, Nat.le_div_iff_mul_le (by decide)]
    have e2 : n / 16 ^ (k + 1) = n / 16 / 16 ^ k := by
      rw [Nat.pow_succ, Nat.mul_comm, Nat.div_div_eq_div_mul]
    by_cases h : 16 ^ k ≤ n / 16
    · rw [if_pos (e1.mpr h), if_pos h, e2, List.cons_append]
    · rw [if_neg (fun q => h (e1.mp q)), if_neg h]
theorem hexes_ap : ∀ (k n : Nat), n < 16 ^ k → hexes n k = ap n
  | 0, n, h => by
    have : n = 0 := by simpa using h
    rw [this, ap_zero]; rfl
  | k + 1, n, h => by
    rw [hexes_last, hexes_ap k (n / 16) (by rw [Nat.div_lt_iff_lt_mul (by decide), ← Nat.pow_succ]; exact h)]
    by_cases h1 : 1 ≤ n
    · rw [if_pos h1, ap_pos h1]
    · have : n = 0 := by omega
      rw [if_neg h1, this, Nat.zero_div, ap_zero]; rfl

def isLeap (y : Int) : Bool := decide (y % 4 = 0 ∧ (y % 100 ≠ 0 ∨ y % 400 = 0))
def mlen (leap : Bool) : List Int := [31, if leap then 29 else 28, 31, 30, 31, 30, 31, 31, 30, 31, 30, 31]
/-- the days ahead of a month's first -/
def ahead (y k : Int) : Int := 365 * (y - 1) + (y - 1) / 4 - (y - 1) / 100 + (y - 1) / 400 + ((mlen (isLeap y)).take (k - 1).toNat).sum
theorem leap_n {y : Int} (h : y % 4 ≠ 0 ∨ (y % 4 = 0 ∧ y % 100 = 0 ∧ y % 400 ≠ 0)) : isLeap y = false := by
  simp only [isLeap, decide_eq_false_iff_not]; omega
theorem leap_l {y : Int} (h : (y % 4 = 0 ∧ y % 100 ≠ 0) ∨ (y % 4 = 0 ∧ y % 100 = 0 ∧ y % 400 = 0)) : isLeap y = true := by
  simp only [isLeap, decide_eq_true_eq]; omega
theorem ahead_n {y k : Int} (h : isLeap y = false) :
    365 * (y - 1) + (y - 1) / 4 - (y - 1) / 100 + (y - 1) / 400 + (List.take (k - 1).toNat [31, 28, 31, 30, 31, 30, 31, 31, 30, 31, 30, 31]).sum = ahead y k := by
  rw [ahead, h]; rfl
theorem ahead_l {y k : Int} (h : isLeap y = true) :
    365 * (y - 1) + (y - 1) / 4 - (y - 1) / 100 + (y - 1) / 400 + (List.take (k - 1).toNat ([31, 29] ++ List.drop (Int.toNat 2) [31, 28, 31, 30, 31, 30, 31, 31, 30, 31, 30, 31])).sum = ahead y k := by
  rw [ahead, h]; rfl

/-- the year behind i steps of the search -/
def yearAt (n : Int) : Nat → Int
  | 0 => n / 366 + 1
  | i + 1 => if ahead (yearAt n i + 1) 1 ≤ n then yearAt n i + 1 else yearAt n i
theorem ahead_one (y : Int) : ahead y 1 = 365 * (y - 1) + (y - 1) / 4 - (y - 1) / 100 + (y - 1) / 400 := by
  rw [ahead, show ((1 : Int) - 1).toNat = 0 from rfl, List.take_zero, List.sum_nil, Int.add_zero]
theorem yearAt_le {n : Int} (h : 0 ≤ n) : ∀ i, ahead (yearAt n i) 1 ≤ n
  | 0 => by rw [ahead_one, yearAt]; omega
  | i + 1 => by
    rw [yearAt]
    split
    · assumption
    · exact yearAt_le h i

/-- the closed form of the date -/
def cfD (n : Int) : Int := (n + 306) % 146097
def cfY (d : Int) : Int := (d - d / 1460 + d / 36524 - d / 146096) / 365
def cfR (d : Int) : Int := d - (365 * cfY d + cfY d / 4 - cfY d / 100)
def cfM (r : Int) : Int := (5 * r + 2) / 153
def cfMonth (m : Int) : Int := if m < 10 then m + 3 else m - 9
def dateY (n : Int) : Int := cfY (cfD n) + 400 * ((n + 306) / 146097) + (if cfMonth (cfM (cfR (cfD n))) < 3 then 1 else 0)
def dateM (n : Int) : Int := cfMonth (cfM (cfR (cfD n)))
def dateD (n : Int) : Int := cfR (cfD n) - (153 * cfM (cfR (cfD n)) + 2) / 5 + 1
theorem ap_mem : ∀ (n : Nat), ∀ c ∈ ap n, 65 ≤ c ∧ c < 81 := by
  intro n
  induction n using Nat.strongRecOn with
  | _ n ih =>
    rcases Nat.eq_zero_or_pos n with rfl | h
    · rw [ap_zero]; intro c hc; cases hc
    · rw [ap_pos h]
      intro c hc
      rcases List.mem_append.mp hc with hc | hc
      · exact ih (n / 16) (by omega) c hc
      · rw [List.mem_singleton.mp hc]; omega
theorem ap_lt (n : Nat) : (apS n).cps.all (· < 128) = true := by
  rw [apS, Array.all_eq_true]
  intro i hi
  have := ap_mem n _ (List.getElem_mem (by simpa using hi) : (ap n)[i] ∈ ap n)
  simpa using (by omega : (ap n)[i]'(by simpa using hi) < 128)
theorem ap_length : ∀ (k n : Nat), n < 16 ^ k → (ap n).length ≤ k
  | 0, n, h => by
    have : n = 0 := by simpa using h
    rw [this, ap_zero]; exact Nat.le_refl _
  | k + 1, n, h => by
    rcases Nat.eq_zero_or_pos n with rfl | hp
    · rw [ap_zero]; exact Nat.zero_le _
    · rw [ap_pos hp, List.length_append]
      have := ap_length k (n / 16) (by rw [Nat.div_lt_iff_lt_mul (by decide), ← Nat.pow_succ]; exact h)
      show _ + 1 ≤ _
      omega
end

section
open PySem PySem.W PyProof.Rows
/-- a number's figures, so many places -/
def figL (n k : Nat) : List Nat := selL (fun _ => true) (fun i => 48 + n / 10 ^ (k - 1 - i) % 10) 0 k
def figS (n k : Nat) : Str := ⟨(figL n k).toArray⟩
theorem selL_shift {α : Type} {p q : Nat → Bool} {f g : Nat → α} : ∀ {k i j : Nat}, (∀ r, r < k → p (i + r) = q (j + r) ∧ f (i + r) = g (j + r)) → selL p f i k = selL q g j k
  | 0, _, _, _ => rfl
  | k + 1, i, j, h => by
    have h0 := h 0 (Nat.succ_pos _)
    unfold selL
    rw [Nat.add_zero, Nat.add_zero] at h0
    rw [h0.1, h0.2, selL_shift (i := i + 1) (j := j + 1) (q := q) (g := g) fun r hr => by
      have := h (r + 1) (by omega)
      rw [show i + 1 + r = i + (r + 1) by omega, show j + 1 + r = j + (r + 1) by omega]
      exact this]
theorem selL_snoc {α : Type} {f : Nat → α} : ∀ {k i : Nat}, selL (fun _ => true) f i (k + 1) = selL (fun _ => true) f i k ++ [f (i + k)]
  | 0, _ => rfl
  | k + 1, i => by
    rw [selL, if_pos rfl, selL_snoc, selL, if_pos rfl, List.cons_append, show i + 1 + k = i + (k + 1) by omega]
theorem figL_succ (n k : Nat) : figL n (k + 1) = figL (n / 10) k ++ [48 + n % 10] := by
  unfold figL
  rw [selL_snoc]
  congr 1
  · refine selL_shift fun r hr => ⟨rfl, ?_⟩
    rw [Nat.zero_add, show k + 1 - 1 - r = (k - 1 - r) + 1 by omega, Nat.pow_succ, Nat.mul_comm, ← Nat.div_div_eq_div_mul]
  · simp
def decL (m : Nat) : List Nat := (Nat.toDigits 10 m).map Char.toNat
theorem digitChar_nat : ∀ d : Nat, d < 10 → (Nat.digitChar d).toNat = 48 + d := by decide
theorem decL_small {m : Nat} (h : m < 10) : decL m = [48 + m] := by
  rw [decL, Nat.toDigits_of_lt_base h, List.map_cons, List.map_nil, digitChar_nat m h]
theorem decL_big {m : Nat} (h : 10 ≤ m) : decL m = decL (m / 10) ++ [48 + m % 10] := by
  rw [decL, Nat.toDigits_of_base_le (by decide) h, List.map_append, List.map_cons, List.map_nil, digitChar_nat _ (Nat.mod_lt _ (by decide))]; rfl
theorem figL_zero : ∀ k, figL 0 k = List.replicate k 48
  | 0 => rfl
  | k + 1 => by rw [figL_succ, Nat.zero_div, figL_zero k, ← List.replicate_succ']
theorem decL_fig : ∀ (k m : Nat), m < 10 ^ (k + 1) → List.replicate (k + 1 - (decL m).length) 48 ++ decL m = figL m (k + 1) ∧ (decL m).length ≤ k + 1
  | 0, m, h => by
    have h : m < 10 := by simpa using h
    rw [decL_small h, figL_succ]
    refine ⟨?_, Nat.le_refl _⟩
    rw [Nat.mod_eq_of_lt h]; rfl
  | k + 1, m, h => by
    by_cases hm : m < 10
    · rw [decL_small hm, figL_succ, Nat.div_eq_of_lt hm, figL_zero, Nat.mod_eq_of_lt hm]
      exact ⟨rfl, by show 1 ≤ _; omega⟩
    · obtain ⟨h1, h2⟩ := decL_fig k (m / 10) (by rw [Nat.div_lt_iff_lt_mul (by decide), ← Nat.pow_succ]; exact h)
      rw [decL_big (by omega), figL_succ, ← h1, List.length_append, List.append_assoc]
      refine ⟨?_, by show _ + 1 ≤ _; omega⟩
      rw [show k + 1 + 1 - ((decL (m / 10)).length + [48 + m % 10].length) = k + 1 - (decL (m / 10)).length by show k + 1 + 1 - (_ + 1) = _; omega]
theorem decL_head (m : Nat) : ∃ c r, decL m = c :: r ∧ 48 ≤ c ∧ c ≤ 57 := by
  induction m using Nat.strongRecOn with
  | _ m ih =>
    by_cases hm : m < 10
    · exact ⟨48 + m, [], decL_small hm, by omega, by omega⟩
    · obtain ⟨c, r, e, h⟩ := ih (m / 10) (by omega)
      exact ⟨c, r ++ [48 + m % 10], by rw [decL_big (by omega), e]; rfl, h⟩
end

section
open PySem PySem.W PyProof.Rows PySem.Calls
set_option maxRecDepth 100000
open LCg

/-- a loop's turn at its end: the ledger has J -/
structure LpEnd (h₀ : Heap) (L : Addr) (I : Addr) (oI : Obj) (J : List (Addr × Obj) → Prop) (s₁ : Shared) (f : Flow) (s₂ : Shared) : Prop where
  nx : f = .next
  st : ∃ h' tk, s₂ = { s₁ with heap := h', toks := tk }
  fr : ∃ m₂, Fr h₀ L s₂.heap m₂
  nw : ∃ news₂, News h₀ L s₂.heap ((I, oI) :: news₂) ∧ (∀ p ∈ news₂, p.1 ≠ I) ∧ J news₂

section
variable {prog : Program} {w : World} {A : Around} {E : Value → Shared → Prop} {s : Shared} {h₀ : Heap} {env : Env} {m₀ : Str → Option Value} {news : List (Addr × Obj)} {x : Str} {body : List Stmt} {Q : Flow → Shared → Prop}
theorem range_loop {r : Addr} {a b : Int} {t u v : Tok} {n : Nat} (J : Nat → List (Addr × Obj) → Prop) (hh : A.handled = none) (hr : IsRange s.heap r a b 1 t u v) (hsm : Builtin.Range.small a b 1 = true) (hn : Builtin.Range.rangeSize a b 1 = ((n : Nat) : Int))
    (F : Fr h₀ env.locals s.heap m₀) (N : News h₀ env.locals s.heap news) (hj : J 0 news)
    (turn : ∀ (i : Nat) (t : Tok) (m₁ : Str → Option Value) (news₁ : List (Addr × Obj)) (I : Addr) (oI : Obj) (s₁ : Shared), i < n → J i news₁ → (∀ p ∈ news₁, p.1 ≠ I) → Fr h₀ env.locals s₁.heap (fun y => if y = x then some (.int (a + (i : Int)) t) else m₁ y) → News h₀ env.locals s₁.heap ((I, oI) :: news₁) →
      wpAny (model prog w) A (execs body env) (LpEnd h₀ env.locals I oI (J (i + 1)) s₁) E s₁)
    (done : ∀ h tk m₁ news₁, Fr h₀ env.locals h m₁ → News h₀ env.locals h news₁ → J n news₁ → Q .next { s with heap := h, toks := tk }) :
    wpAny (model prog w) A (pyIter (.ref r)) (fun it s₂ => LoopAtV prog w A h₀ env x body Q E it s₂) E s := by
  refine wpAny_pyIter_range hr hsm ?_
  refine ⟨s.heap.objs.size, _, _, n, _, _, m₀, news, fun i _ nw => J i nw, rfl, range_walks hh a n, ?_, ?_, ?_, ?_, F.push _, N.grown fun _ _ e => Heap.get?_push_of_some _ e, hj, ?_, ?_⟩
  · intro hm
    rw [List.mem_singleton] at hm
    exact absurd F.ns.lt (hm ▸ Nat.lt_irrefl _)
  · intro b hb
    rw [List.mem_singleton.mp hb]
    exact next_is_new F
  · intro p hp hI
    exact absurd (Heap.lt_size (N p hp).1) ((List.mem_singleton.mp hI) ▸ Nat.lt_irrefl _)
  · show IsRangeIter _ _ _ _ _; rw [hn]; simpa using Heap.get?_push_size _ rfl
  · rintro i v m₁ news₁ s₁ own - hin ⟨t, rfl⟩ hJ hoff hfp hown hall hst F₁ N₁
    obtain ⟨oI, heI⟩ : ∃ oI, s₁.heap.get? s.heap.objs.size = some oI := ⟨_, hst⟩
    have hmem := hall _ (.head _) (next_is_new F) _ heI
    have hnI : ∀ p ∈ news₁, p.1 ≠ s.heap.objs.size := fun p hp e => hoff p hp (by rw [e]; exact .head _)
    refine wpAny_mono (turn i t m₁ news₁ s.heap.objs.size oI s₁ hin hJ hnI F₁ fun p hp => ?_) (fun f s₂ e => ?_) fun _ _ e => e
    · rcases List.mem_cons.mp hp with rfl | hp
      · exact N₁ _ (List.mem_append.mpr (.inl hmem))
      · exact N₁ _ (List.mem_append.mpr (.inr hp))
    · obtain ⟨rfl, ⟨h', tk, rfl⟩, ⟨m₂, F₂⟩, news₂, N₂, ho₂, hJ₂⟩ := e
      refine ⟨rfl, h', tk, m₂, news₂, rfl, F₂, fun p hp => ?_, fun p hp hI => ho₂ p hp (List.mem_singleton.mp hI), hJ₂⟩
      rcases List.mem_append.mp hp with hp | hp
      · have e1 : p.1 = s.heap.objs.size := List.mem_singleton.mp (hfp p hp)
        have e2 := hown p hp
        rw [e1, heI] at e2
        have e3 : p = (s.heap.objs.size, p.2) := by rw [← e1]
        rw [e3, ← Option.some.inj e2]
        exact N₂ _ (.head _)
      · exact N₂ _ (.tail _ hp)
  · intro h' tk m' news' F' N' _ hJ'
    exact done h' tk m' news' F' N' hJ'
end
end

section
open PySem PySem.W PyProof.Rows PySem.Calls
open PySem.Builtin
set_option maxRecDepth 100000
theorem percentInt_dec (W : Nat) (n : Int) (hn : 0 ≤ n) (d : List Nat) : Str.percentInt { zero := true, width := some W, type := 100 } (decide (n < 0)) d = d :=
  KPc.int_text _ rfl (.inl rfl) rfl hn d
theorem percentField_dec (W m : Nat) : Str.percentField { zero := true, width := some W, type := 100 } true (decL m) = if W ≤ (decL m).length then none else some (List.replicate (W - (decL m).length) 48 ++ decL m) := by
  obtain ⟨c, r, e, h1, h2⟩ := decL_head m
  rw [e]
  unfold Str.percentField
  have n45 : c ≠ 45 := by omega
  have n43 : c ≠ 43 := by omega
  by_cases hW : W ≤ (c :: r).length
  · rw [if_pos hW, if_pos (by simpa using hW)]
  · rw [if_neg hW, if_neg (by simpa using hW)]
    simp [n45, n43]

section
variable {M : Model} {A : Around} {E : Value → Shared → Prop} {s : Shared} {p : List Value} {r : List Nat}
  {P : ForInStep (List Value × Str.Writer × List Nat) → Shared → Prop}
  {w : Str.Writer} {T : PySem.Str} {N : Nat} {o : Option Value} {n : Int} {dg : List Nat} {c : Str.Percent}
theorem pad_step (k : Nat) (g : KPc.Good w T N) (hc : c = { zero := true, width := some (k + 1), type := 100 }) (hn : 0 ≤ n) (hm : n < 10 ^ (k + 1)) (hk : k ≤ 9)
    (hd : dg = (PySem.Str.ofString (toString ((n.natAbs : Nat) : Int))).cps.toList) (ho : o = none)
    (h : ∀ w', KPc.Good w' (T ++ figS n.toNat (k + 1)) (N + 10) → P (.yield (p, w', r)) s) :
    wpAny M A (match Str.percentField c true (Str.percentInt c (decide (n < 0)) dg) with
      | none => pure (ForInStep.yield (p, w.add ⟨(Str.percentInt c (decide (n < 0)) dg).toArray⟩ o, r))
      | some laid => pure (ForInStep.yield (p, w.add ⟨laid.toArray⟩, r)))
      P E s := by
  subst hc ho
  obtain ⟨m, rfl⟩ : ∃ m : Nat, n = m := ⟨n.toNat, by omega⟩
  have hd' : dg = decL m := by rw [hd]; exact KIN.signs_num m
  have hm' : m < 10 ^ (k + 1) := by exact_mod_cast hm
  obtain ⟨e1, e2⟩ := decL_fig k m hm'
  have hlen : (figS m (k + 1)).length ≤ 10 := by
    show (figL m (k + 1)).toArray.size ≤ 10
    rw [List.size_toArray]
    exact Nat.le_trans selL_length (by omega)
  rw [Int.toNat_natCast] at h
  rw [percentInt_dec (k + 1) (m : Int) hn, hd', percentField_dec]
  by_cases hW : k + 1 ≤ (decL m).length
  · rw [if_pos hW]
    refine wpAny_pure ?_
    have e0 : decL m = figL m (k + 1) := by rw [← e1, show k + 1 - (decL m).length = 0 by omega]; rfl
    rw [e0]
    exact h _ (KPc.good_mono (KPc.good_add g (KPc.obj_none rfl)) (Nat.add_le_add_left hlen _))
  · rw [if_neg hW]
    refine wpAny_pure ?_
    rw [e1]
    exact h _ (KPc.good_mono (KPc.good_add g (KPc.obj_none rfl)) (Nat.add_le_add_left hlen _))
end
end

section
open PySem PySem.W PyProof.Rows PySem.Builtin PySem.Builtin.Str
/-- the places of a sign -/
def posL (c : Nat) : List Nat → Nat → List Nat
  | [], _ => []
  | d :: r, i => if d = c then i :: posL c r (i + 1) else posL c r (i + 1)
theorem posL_app (c : Nat) : ∀ (l m : List Nat) (i : Nat), posL c (l ++ m) i = posL c l i ++ posL c m (i + l.length)
  | [], m, i => by simp [posL]
  | d :: l, m, i => by
    rw [List.cons_append, posL, posL, posL_app c l m (i + 1), List.length_cons, show i + 1 + l.length = i + (l.length + 1) by omega]
    split <;> rfl
theorem posL_free (c : Nat) : ∀ (l : List Nat) (i : Nat), c ∉ l → posL c l i = []
  | [], _, _ => rfl
  | d :: l, i, h => by
    rw [posL, if_neg (fun e => h (by rw [e]; exact .head _)), posL_free c l _ fun m => h (.tail _ m)]
theorem occ_pos (x : Str) (c limit : Nat) : ∀ (t : List Nat) (i free : Nat) (found : Array Nat), x.cps.toList.drop i = t → i + t.length = x.length → free ≤ i →
    (forIn (List.range' i (t.length + 1)) (found, free) (StrLaws.occBody x ⟨#[c]⟩ x.length limit)).run.fst.toList = found.toList ++ (posL c t i).take (limit - found.size)
  | [], i, free, found, ht, hl, hf => by
    rw [show ([] : List Nat).length + 1 = 1 from rfl, List.range'_succ, List.forIn_cons]
    unfold StrLaws.occBody
    rw [if_neg (by
      rintro ⟨⟨_, h⟩, _⟩
      have : (⟨#[c]⟩ : Str).length = 1 := rfl
      rw [this] at h
      simp at hl
      omega)]
    simp [posL]
  | d :: t, i, free, found, ht, hl, hf => by
    have hx : x.cps.toList[i]? = some d := by
      have := congrArg List.head? ht
      rw [List.head?_drop] at this
      simpa using this
    have hdrop : x.cps.toList.drop (i + 1) = t := by
      have := congrArg (List.drop 1) ht
      rw [List.drop_drop] at this
      simpa using this
    have hl' : i + 1 + t.length = x.length := by rw [← hl, List.length_cons]; omega
    rw [List.length_cons, List.range'_succ, List.forIn_cons]
    have hat := StrLaws.subAt_one x c i
    rw [hx] at hat
    have h1 : (⟨#[c]⟩ : Str).length = 1 := rfl
    rw [h1] at hat
    by_cases hd : d = c
    · have hs := hat.mpr (by rw [hd])
      by_cases hlim : found.size < limit
      · have e : StrLaws.occBody x ⟨#[c]⟩ x.length limit i (found, free) = pure (ForInStep.yield (found.push i, i + 1)) := by
          unfold StrLaws.occBody
          rw [if_pos ⟨⟨⟨hlim, hf⟩, by rw [h1]; exact hs.1⟩, hs.2⟩]; rfl
        rw [e]
        have ih := occ_pos x c limit t (i + 1) (i + 1) (found.push i) hdrop hl' (Nat.le_refl _)
        show (forIn (List.range' (i + 1) (t.length + 1)) (found.push i, i + 1) (StrLaws.occBody x ⟨#[c]⟩ x.length limit)).run.fst.toList = _
        rw [ih, posL, if_pos hd, Array.size_push, Array.toList_push, show limit - found.size = (limit - (found.size + 1)) + 1 by omega, List.take_succ_cons, List.append_assoc]
        rfl
      · have e : StrLaws.occBody x ⟨#[c]⟩ x.length limit i (found, free) = pure (ForInStep.yield (found, free)) := by
          unfold StrLaws.occBody
          rw [if_neg (fun h => hlim h.1.1.1)]
        rw [e]
        have ih := occ_pos x c limit t (i + 1) free found hdrop hl' (by omega)
        show (forIn (List.range' (i + 1) (t.length + 1)) (found, free) (StrLaws.occBody x ⟨#[c]⟩ x.length limit)).run.fst.toList = _
        rw [ih, show limit - found.size = 0 by omega, List.take_zero, List.take_zero]
    · have e : StrLaws.occBody x ⟨#[c]⟩ x.length limit i (found, free) = pure (ForInStep.yield (found, free)) := by
        unfold StrLaws.occBody
        rw [if_neg (fun h => hd (Option.some.inj (hat.mp ⟨by have := h.1.2; rw [h1] at this; exact this, h.2⟩)))]
      rw [e]
      have ih := occ_pos x c limit t (i + 1) free found hdrop hl' (by omega)
      show (forIn (List.range' (i + 1) (t.length + 1)) (found, free) (StrLaws.occBody x ⟨#[c]⟩ x.length limit)).run.fst.toList = _
      rw [ih, posL, if_neg hd]
theorem occ_one (x : Str) (c limit : Nat) : occurrences x ⟨#[c]⟩ 0 x.length limit = (posL c x.cps.toList 0).take limit := by
  rw [StrLaws.occ_eq]
  have h := occ_pos x c limit x.cps.toList 0 0 #[] rfl (by simp [Str.length]) (Nat.le_refl _)
  have e : x.cps.toList.length + 1 = x.length + 1 - 0 := by simp [Str.length]
  rw [e] at h
  simpa using h
theorem kind_tick (x : Str) : (decide (Str.strKind x < Str.strKind ⟨#[39]⟩)) = false := by
  have h1 : Str.strKind ⟨#[39]⟩ = 1 := by decide +kernel
  rw [h1, decide_eq_false_iff_not]
  unfold Str.strKind
  split
  · decide
  · split <;> decide
theorem parts_few {x : Str} (h : (posL 39 x.cps.toList 0).length ≤ 1) : (Txt.splitMax x ⟨#[39]⟩ 2).length ≤ 2 := by
  unfold Txt.splitMax
  split
  · exact Nat.le_succ _
  · split
    · exact Nat.le_succ _
    · rw [occ_one]
      unfold partsBetween
      simp only [List.length_map, List.length_zip, List.length_cons, List.length_append, List.length_nil, List.length_take]
      omega
theorem parts_three {a b e : Str} (ha : 39 ∉ a.cps.toList) (hb : 39 ∉ b.cps.toList) : Txt.splitMax (a ++ ⟨#[39]⟩ ++ b ++ ⟨#[39]⟩ ++ e) ⟨#[39]⟩ 2 = [a, b, e] := by
  obtain ⟨⟨a⟩⟩ := a
  obtain ⟨⟨b⟩⟩ := b
  obtain ⟨⟨e⟩⟩ := e
  have hx : (Str.mk ⟨a⟩ ++ ⟨#[39]⟩ ++ Str.mk ⟨b⟩ ++ ⟨#[39]⟩ ++ Str.mk ⟨e⟩ : Str) = Str.mk ⟨a ++ 39 :: (b ++ 39 :: e)⟩ := by
    have app : ∀ a b : Array Nat, (Str.mk a ++ Str.mk b : Str) = ⟨a ++ b⟩ := fun _ _ => rfl
    rw [app, app, app, app]
    apply congrArg Str.mk
    apply Array.toList_inj.mp
    simp
  rw [hx]
  have hlen : (Str.mk ⟨a ++ 39 :: (b ++ 39 :: e)⟩).length = a.length + 1 + (b.length + 1 + e.length) := by
    show (a ++ 39 :: (b ++ 39 :: e)).length = _
    simp; omega
  have hpos : (posL 39 (a ++ 39 :: (b ++ 39 :: e)) 0).take 2 = [a.length, a.length + 1 + b.length] := by
    rw [posL_app, posL_free 39 a 0 ha, List.nil_append, posL, if_pos rfl, posL_app, posL_free 39 b _ hb, List.nil_append, posL, if_pos rfl]
    simp
  unfold Txt.splitMax
  have hocc : occurrences (Str.mk ⟨a ++ 39 :: (b ++ 39 :: e)⟩) ⟨#[39]⟩ 0 (Str.mk ⟨a ++ 39 :: (b ++ 39 :: e)⟩).length (limitOf (Str.mk ⟨a ++ 39 :: (b ++ 39 :: e)⟩) 2) = [a.length, a.length + 1 + b.length] := by
    rw [occ_one]; exact hpos
  rw [hocc, kind_tick]
  rw [if_neg (by rw [hlen]; simp [show (⟨#[39]⟩ : Str).length = 1 from rfl]), if_neg (by simp)]
  unfold partsBetween
  rw [hlen]
  simp only [show (⟨#[39]⟩ : Str).length = 1 from rfl, List.map_cons, List.map_nil, List.cons_append, List.nil_append, List.zip_cons_cons, List.zip_nil_right]
  have sub : ∀ i j : Nat, strSub (Str.mk ⟨a ++ 39 :: (b ++ 39 :: e)⟩) i j = Str.mk ⟨((a ++ 39 :: (b ++ 39 :: e)).drop i).take (j - i)⟩ := by
    intro i j
    apply congrArg Str.mk
    apply Array.toList_inj.mp
    simp
  rw [sub, sub, sub]
  have e1 : ((a ++ 39 :: (b ++ 39 :: e)).drop 0).take (a.length - 0) = a := by simp
  have e2 : ((a ++ 39 :: (b ++ 39 :: e)).drop (a.length + 1)).take (a.length + 1 + b.length - (a.length + 1)) = b := by
    rw [show a ++ 39 :: (b ++ 39 :: e) = (a ++ [39]) ++ (b ++ 39 :: e) by simp, show a.length + 1 = (a ++ [39]).length by simp, List.drop_left]
    simp
  have e3 : ((a ++ 39 :: (b ++ 39 :: e)).drop (a.length + 1 + b.length + 1)).take (a.length + 1 + (b.length + 1 + e.length) - (a.length + 1 + b.length + 1)) = e := by
    rw [show a ++ 39 :: (b ++ 39 :: e) = (a ++ [39] ++ b ++ [39]) ++ e by simp, show a.length + 1 + b.length + 1 = (a ++ [39] ++ b ++ [39]).length by simp; omega, List.drop_left]
    apply List.take_of_length_le
    simp; omega
  rw [e1, e2, e3]
end

section
open PySem PySem.W PyProof.Rows PySem.Calls
set_option maxRecDepth 100000

/-- behind a def that catches: the callers' frames may have turned their slots -/
structure LeaveP (fs : List Addr) (g : Heap) (s : Shared) (P : Value → Prop) (v : Value) (s' : Shared) : Prop where
  fr : ∃ g' L' m', KtsTurn fs g g' ∧ Fr g' L' s'.heap m'
  st : ∃ h' tk', s' = { s with heap := h', toks := tk' }
  p : P v

def SoftV (L : Addr) (m : Str → Option Value) (s : Shared) (P : Value → Prop) : Value → Shared → Prop := fun v s' => (∀ b o, b ≠ L → s.heap.get? b = some o → s'.heap.get? b = some o) ∧ s'.heap.Ns L m ∧ (∃ h' tk', s' = { s with heap := h', toks := tk' }) ∧ P v
@[reducible] def SoftQ (L : Addr) (m : Str → Option Value) (s : Shared) (P : Value → Prop) (E : Value → Shared → Prop) : Result → Shared → Prop := fun r s' => match r with | .ok (.ret v) => SoftV L m s P v s' | .ok _ => False | .error e => E e s'
theorem soft_call {M : Model} {A : Around} {s : Shared} {f L : Addr} {m : Str → Option Value} {args : List Value} {P : Value → Prop} {E : Value → Shared → Prop} (h : codeAny M A (.call (.ref f) ⟨args, []⟩) (SoftQ L m s P E) s) :
    wpAny M A (call (.ref f) args) (SoftV L m s P) E s := wpAny_call h

section
variable {prog : Program} {w : World} {A A₀ : Around} {s : Shared} {K : Frag} {L : Addr} {h₀ base : Heap} {m mg mb : Str → Option Value} {p : Program} {loose : List Str} {mean : ExcName → Option Value}
  {env : Env} {P : Value → Prop} {E : Value → Shared → Prop} {name qual : Str} {params : Arguments} {body : List Stmt} {scope : Scope} {dV kV doc pm cdv ct oc : Value} {an od : Option Addr} {osl : Array (Option Value)} {f : Addr} {args : Args} {binds : List (Str × Value)}
theorem code_soft (B : Below A₀ base [] h₀) (F : Fr h₀ L s.heap m) (X₀ : K.In h₀) (T : Top p loose mean mg mb h₀) (hA : A.frames = some [env]) (hf : env.frame = some L) (hke : env.scope.kind = .function)
    (ho : K.lookup f = some ⟨oc, od, .func (fnOf name qual params body scope dV kV doc pm an cdv ct), osl⟩) (hcd : codeIn K cdv qual = true) (hroom : A.depth < recursionLimit)
    (hbind : BindsTo s (fnOf name qual params body scope dV kV doc pm an cdv ct) args binds) (hloc : ∀ y ∈ binds, scope.names.lookup y.1 = some .local)
    (h : ∀ g L' h₁, g = s.heap → Fr g L' h₁ (fun y => binds.reverse.lookup y) → News g L' h₁ [] → Below A base [env] g → K.In g → Top p loose mean mg mb g → KtsDicts ([env].filterMap (·.frame)) g →
      wpAny (model prog w) (A.deeper (envOf qual scope L' f cdv)) (execs body (envOf qual scope L' f cdv))
        (fun fl s' => LeaveP ([env].filterMap (·.frame)) g s P (match fl with | .ret v => v | _ => .none) s')
        (fun e s' => wpAny (model prog w) (A.deeper (envOf qual scope L' f cdv)) (leaving (envOf qual scope L' f cdv) e) (fun _ s'' => SoftQ L m s P E (.error e) s'') (fun e' s'' => SoftQ L m s P E (.error e') s'') s')
        { s with heap := h₁, toks := s.toks + binds.length })
    (hco : scope.isCoroutine = false) (hgen : scope.isGenerator = false) (hk : scope.kind = .function)
    (hcell : ∀ x ∈ scope.names, x.2 ≠ .cell) : codeAny (model prog w) A (.call (.ref f) args) (SoftQ L m s P E) s := by
  have X := X₀.keeps F.keep
  have hfs : [env].filterMap (·.frame) = [L] := by simp [hf]
  obtain ⟨FG, BG, st, _⟩ := groundX (R := fun _ _ => True) B F (News.nil) hA hf hke
  obtain ⟨oL, es, ep, hL, hLd, hLk, hLf⟩ := F.ns
  refine codeAny_call_def (fd := fnOf name qual params body scope dV kV doc pm an cdv ct) (body := body) (binds := binds) hroom (X _ _ ho) rfl (T.nolimit.keeps F.keep) (codeRec_of X hcd) rfl hbind hcell hloc (fun h₁ hns hk₁ => ?_) hco hgen hk
  refine wpAny_mono (h s.heap s.heap.objs.size h₁ rfl ⟨hns, hk₁, Nat.le_refl _⟩ News.nil BG X (T.keeps st) (fun b hb => ?_)) (fun fl s' hl => ?_) fun _ _ y => y
  · rw [hfs, List.mem_singleton] at hb
    rw [hb]
    exact ⟨oL, es, ep, hL, hLd⟩
  · obtain ⟨⟨g', L', m', T', F'⟩, hst, hp⟩ := hl
    rw [hfs] at T'
    obtain ⟨sl, hs⟩ := T'.up hL
    refine ⟨fun b o hb e => F'.keep b o (T'.other b o e fun q => hb (List.mem_singleton.mp q)), ⟨_, es, ep, F'.keep _ _ hs, hLd, hLk, hLf⟩, hst, hp⟩
end

/-- what a call of a def that catches gives, from the law's own frame -/
def Soft (w : World) (r : Nat) (f : Addr) (args : List Value) (pre : Heap → Prop) (P : Value → Prop) : Prop :=
  ∀ (mean : ExcName → Option Value) (mg mb : Str → Option Value) (dp un : Nat) (gd : Option (List Code)) (cn : Str) (cs : Scope) (a : Addr) (ccd : Value) (cl : List (Str × Addr)) (A₀ : Around) (h₀ : Heap) (L : Addr) (m : Str → Option Value) (s : Shared) (E : Value → Shared → Prop),
    Below A₀ h₀ [] h₀ → Fr h₀ L s.heap m → (hd.heap_39 w.params).In h₀ → Top hd.view_39 (looseW hd.view_39 []) mean mg mb h₀ → cs.kind = .function → pre s.heap → dp + r < recursionLimit → un + 16 * r < cLine →
    wpAny (model Challenge.rw_pk0013_01.row.prog w) (ktrTop dp un gd cn cs L a ccd cl []) (call (.ref f) args) (SoftV L m s P) E s

theorem use_soft {w : World} {r : Nat} {f : Addr} {args : List Value} {pre : Heap → Prop} {P : Value → Prop} {mean : ExcName → Option Value} {mg mb : Str → Option Value} {dp un : Nat} {gd : Option (List Code)} {cn : Str} {cs : Scope} {a : Addr} {ccd : Value} {cl : List (Str × Addr)} {A₀ : Around} {h₀ : Heap} {L : Addr} {m : Str → Option Value} {s : Shared} {news : List (Addr × Obj)} {Q E : Value → Shared → Prop}
    (C : Soft w r f args pre P) (B : Below A₀ h₀ [] h₀) (F : Fr h₀ L s.heap m) (X : (hd.heap_39 w.params).In h₀) (N : News h₀ L s.heap news) (T : Top hd.view_39 (looseW hd.view_39 []) mean mg mb h₀) (hk : cs.kind = .function) (hpre : pre s.heap) (hdp : dp + r < recursionLimit) (hu : un + 16 * r < cLine)
    (ret : ∀ v h' tk', Fr h₀ L h' m → News h₀ L h' news → P v → Q v { s with heap := h', toks := tk' }) :
    wpAny (model Challenge.rw_pk0013_01.row.prog w) (ktrTop dp un gd cn cs L a ccd cl []) (call (.ref f) args) Q E s := by
  refine wpAny_mono (C mean mg mb dp un gd cn cs a ccd cl A₀ h₀ L m s E B F X T hk hpre hdp hu) (fun v s' h => ?_) fun _ _ e => e
  obtain ⟨st, ns, ⟨h', tk', rfl⟩, p⟩ := h
  have nL : h₀.get? L = none := kts_self F
  exact ret v h' tk' ⟨ns, fun b o e => st b o (fun q => by rw [q, nL] at e; cases e) (F.keep b o e), F.above⟩ (fun q hq => ⟨st _ _ (N q hq).2.1 (N q hq).1, (N q hq).2⟩) p
end

section
open PySem PySem.W PyProof.Rows PySem.Calls
set_option maxRecDepth 100000
theorem ap_cut {k : Int} (h0 : 0 ≤ k) (h1 : k < 16) : KBy.picked #[65, 66, 67, 68, 69, 70, 71, 72, 73, 74, 75, 76, 77, 78, 79, 80] (some k) (some (k + 1)) = #[UInt8.ofNat (65 + k.toNat)] := by
  obtain ⟨j, rfl⟩ : ∃ j : Nat, k = j := ⟨k.toNat, by omega⟩
  have hj : j < 16 := by omega
  have : ∀ j : Nat, j < 16 → KBy.picked #[65, 66, 67, 68, 69, 70, 71, 72, 73, 74, 75, 76, 77, 78, 79, 80] (some (j : Int)) (some ((j : Int) + 1)) = #[UInt8.ofNat (65 + (j : Int).toNat)] := by decide +kernel
  exact this j hj
theorem ap_len (n : Nat) : (apB n).size ≤ n := by
  induction n using Nat.strongRecOn with
  | _ n ih =>
    rcases Nat.eq_zero_or_pos n with rfl | h
    · rw [apB_zero]; exact Nat.le_refl _
    · rw [apB_pos h, Array.size_append]
      have := ih (n / 16) (by omega)
      show _ + 1 ≤ n
      omega
theorem ap_start {n : Int} : 0 ≤ (if n < 0 then -n else n) ∧ apB (if n < 0 then -n else n).toNat ++ #[] = apB n.natAbs := by
  have : (if n < 0 then -n else n).toNat = n.natAbs := by split <;> omega
  refine ⟨by split <;> omega, ?_⟩
  rw [this]; simp
theorem ap_room {n a : Int} {v : Array UInt8} {c : UInt8} (h : apB a.toNat ++ v = apB n.natAbs) (h0 : 0 ≤ a) (ha : a ≠ 0) (hn0 : -16777216 < n) (hn1 : n < 16777216) : (#[c] : Array UInt8).size + v.size ≤ 16777216 := by
  have h1 := congrArg Array.size h
  rw [Array.size_append, apB_pos (by omega), Array.size_append] at h1
  have h2 := ap_len n.natAbs
  have h3 : (#[UInt8.ofNat (65 + a.toNat % 16)] : Array UInt8).size = 1 := rfl
  show 1 + v.size ≤ _
  omega
theorem fdiv16 {a : Int} (h0 : 0 ≤ a) : a.fdiv 16 = a / 16 := Int.fdiv_eq_ediv_of_nonneg _ (by decide)
theorem fmod16 {a : Int} : a.fmod 16 = a % 16 := Int.fmod_eq_emod_of_nonneg _ (by decide)
theorem ap_step {n a : Int} {v : Array UInt8} (h : apB a.toNat ++ v = apB n.natAbs) (h0 : 0 ≤ a) (ha : a ≠ 0) : 0 ≤ a.fdiv 16 ∧ apB (a.fdiv 16).toNat ++ (#[UInt8.ofNat (65 + (a.fmod 16).toNat)] ++ v) = apB n.natAbs := by
  rw [fdiv16 h0, fmod16]
  refine ⟨by omega, ?_⟩
  rw [← h, apB_pos (n := a.toNat) (by omega), Array.append_assoc, show (a / 16).toNat = a.toNat / 16 by omega, show (a % 16).toNat = a.toNat % 16 by omega]
theorem ap_less {a : Int} (h0 : 0 ≤ a) (ha : a ≠ 0) : (a.fdiv 16).toNat < a.toNat := by rw [fdiv16 h0]; omega
theorem ap_end {n a : Int} {v : Array UInt8} (h : apB a.toNat ++ v = apB n.natAbs) (ha : a = 0) : v = apB n.natAbs := by
  rw [← h, ha]; simp [apB_zero]
local macro_rules | `(tactic| walk_at "subscriptTail") => `(tactic| (k_here; (with_reducible show wpAny _ _ (subscriptTail _ (Expr.Slice _ _ none _) (Value.bytes _ _) (Value.ref _)) _ _ _); (with_reducible rename Fr _ _ _ _ => F'); (with_reducible rename News _ _ _ _ => N'); (refine KBc.slice_K (s := ⟨_, _, _, _, _⟩) F' N' rfl (by constructor) (by constructor) (by decide) ?_); intro h' t' k' F' N' kbcK; clear kbcK; rw [ap_cut (by rw [fmod16]; omega) (by rw [fmod16]; omega)]))
local macro_rules | `(tactic| walk_at "binaryOp Add bytes bytes") => `(tactic| (k_here; refine KBy.add_bytes (ap_room (by assumption) (by assumption) (by assumption) (by assumption) (by assumption)) ?_; intro t' k'))
set_option maxHeartbeats 8000000 in
theorem c_ap (w : World) (n : Int) (t : Tok) (h0 : -16777216 < n) (h1 : n < 16777216) : Pure w 2 35 [.int n t] (fun _ => True) (fun _ _ v => ∃ t', v = .bytes (apB n.natAbs) t') := by
  walk_at "mine go"
  k_with "exec While Name cons nil" => k_while (fun _ a v => 0 ≤ a ∧ apB a.toNat ++ v = apB n.natAbs) (fun _ a _ => a.toNat) "num" "val"
  k_with "state" => first | exact ap_start | exact ap_step (by assumption) (by assumption) (by assumption)
  k_with "measure" => exact ap_less (by assumption) (by assumption)
  w_strict (refine pure_call ?_; k_dflt walk_at "mine enter"; walk_at "mine t"; all_goals exact ⟨⟨_, _, rfl⟩, _, congrArg (Value.bytes · _) (ap_end (by assumption) (by assumption))⟩)
end

section
open PySem PySem.W PyProof.Rows PySem.Calls
open PySem.Builtin
set_option maxRecDepth 100000
/-- what the format gives -/
def fmtS (A1 A2 Z : Str) (d y hh mi ss : Int) : Str := A1 ++ Str.ofString ", " ++ figS d.toNat 2 ++ Str.ofString " " ++ A2 ++ Str.ofString " " ++ figS y.toNat 4 ++ Str.ofString " " ++ figS hh.toNat 2 ++ Str.ofString ":" ++ figS mi.toNat 2 ++ Str.ofString ":" ++ figS ss.toNat 2 ++ Str.ofString " " ++ Z
set_option maxHeartbeats 1000000 in
theorem pct (b : Addr) (t u1 u2 u3 u4 u5 u6 u7 u8 : Tok) (A1 A2 Z : Str) (d y hh mi ss : Int) (h1 : A1.length ≤ 1000) (h2 : A2.length ≤ 1000) (hz : Z.length ≤ 1000) (hy : 0 ≤ y) (hy1 : y < 10000) (hd0 : 0 ≤ d) (hd1 : d < 100) (hh0 : 0 ≤ hh) (hh1 : hh < 100) (mi0 : 0 ≤ mi) (mi1 : mi < 100) (ss0 : 0 ≤ ss) (ss1 : ss < 100) :
    Meets («str.__mod__» ⟨[.str (Str.mk #[37, 115, 44, 32, 37, 48, 50, 100, 32, 37, 115, 32, 37, 48, 52, 100, 32, 37, 48, 50, 100, 58, 37, 48, 50, 100, 58, 37, 48, 50, 100, 32, 37, 115]) t, .ref b], []⟩)
      (fun _ R s => IsTup s.heap b #[.str A1 u1, .int d u2, .str A2 u3, .int y u4, .int hh u5, .int mi u6, .int ss u7, .str Z u8] ∧ ∀ t' k, R (.ok (.ret (.str (fmtS A1 A2 Z d y hh mi ss) t'))) { s with toks := k }) := by
  apply KPt.meets_tup
  intro _ _ _ _ _ _ kptH _
  obtain ⟨kptO, kptG, kptC, kptN, kptD⟩ := kptH
  rw [KPt.entry_is_r]
  unfold Builtin.Str.percentFormat
  refine wpAny_bind (wpAny_isInstance (T := "tuple") ⟨kptO, kptG, kptC⟩ KPt.sub_tt ?_)
  refine wpAny_bind (KPt.asStr_ref kptG kptD ?_)
  refine wpAny_bind (KPt.fills_ref ⟨kptO, kptG, kptC⟩ ?_)
  intro _
  kpc_if
  refine wpAny_bind (wpAny_seqItems kptG kptD ?_)
  refine wpAny_bind (wpAny_pure ?_)
  refine wpAny_bind ?_
  rw [KPc.range_list]
  refine KPc.start ?_
  intro _ _
  -- %s
  refine KPc.turn ?_; kpc_check; (repeat kpc_if)
  refine wpAny_bind ?_; refine wpAny_holding ?_; (repeat kpc_if); kpt_conv; refine wpAny_pure ?_; refine wpAny_pure ?_; kpt_piece
  -- ", "
  refine KPc.turn ?_; kpc_check; (repeat kpc_if)
  refine wpAny_pure ?_; kpt_piece
  refine KPc.turn ?_; kpc_check; (repeat kpc_if)
  refine wpAny_bind ?_; refine wpAny_holding ?_; (repeat kpc_if); kpt_conv; refine wpAny_pure ?_
  generalize hc : (({ ljust := _, sign := _, blank := _, alt := _, zero := _, width := _, prec := _, type := _ } : Str.Percent)) = c
  refine pad_step (n := d) (c := c) (p := [.str A2 u3, .int y u4, .int hh u5, .int mi u6, .int ss u7, .str Z u8]) (r := [32, 37, 115, 32, 37, 48, 52, 100, 32, 37, 48, 50, 100, 58, 37, 48, 50, 100, 58, 37, 48, 50, 100, 32, 37, 115]) 1 (by kpc_g) (hc.symm.trans rfl) hd0 (by omega) (by decide) rfl (o := none) rfl ?_; intro _ _
  clear hc c
  refine KPc.turn ?_; kpc_check; (repeat kpc_if)
  refine wpAny_pure ?_; kpt_piece
  refine KPc.turn ?_; kpc_check; (repeat kpc_if)
  refine wpAny_bind ?_; refine wpAny_holding ?_; (repeat kpc_if); kpt_conv; refine wpAny_pure ?_; refine wpAny_pure ?_; kpt_piece
  refine KPc.turn ?_; kpc_check; (repeat kpc_if)
  refine wpAny_pure ?_; kpt_piece
  refine KPc.turn ?_; kpc_check; (repeat kpc_if)
  refine wpAny_bind ?_; refine wpAny_holding ?_; (repeat kpc_if); kpt_conv; refine wpAny_pure ?_
  generalize hc : (({ ljust := _, sign := _, blank := _, alt := _, zero := _, width := _, prec := _, type := _ } : Str.Percent)) = c
  refine pad_step (n := y) (c := c) (p := [.int hh u5, .int mi u6, .int ss u7, .str Z u8]) (r := [32, 37, 48, 50, 100, 58, 37, 48, 50, 100, 58, 37, 48, 50, 100, 32, 37, 115]) 3 (by kpc_g) (hc.symm.trans rfl) hy (by omega) (by decide) rfl (o := none) rfl ?_; intro _ _
  clear hc c
  refine KPc.turn ?_; kpc_check; (repeat kpc_if)
  refine wpAny_pure ?_; kpt_piece
  refine KPc.turn ?_; kpc_check; (repeat kpc_if)
  refine wpAny_bind ?_; refine wpAny_holding ?_; (repeat kpc_if); kpt_conv; refine wpAny_pure ?_
  generalize hc : (({ ljust := _, sign := _, blank := _, alt := _, zero := _, width := _, prec := _, type := _ } : Str.Percent)) = c
  refine pad_step (n := hh) (c := c) (p := [.int mi u6, .int ss u7, .str Z u8]) (r := [58, 37, 48, 50, 100, 58, 37, 48, 50, 100, 32, 37, 115]) 1 (by kpc_g) (hc.symm.trans rfl) hh0 (by omega) (by decide) rfl (o := none) rfl ?_; intro _ _
  clear hc c
  refine KPc.turn ?_; kpc_check; (repeat kpc_if)
  refine wpAny_pure ?_; kpt_piece
  refine KPc.turn ?_; kpc_check; (repeat kpc_if)
  refine wpAny_bind ?_; refine wpAny_holding ?_; (repeat kpc_if); kpt_conv; refine wpAny_pure ?_
  generalize hc : (({ ljust := _, sign := _, blank := _, alt := _, zero := _, width := _, prec := _, type := _ } : Str.Percent)) = c
  refine pad_step (n := mi) (c := c) (p := [.int ss u7, .str Z u8]) (r := [58, 37, 48, 50, 100, 32, 37, 115]) 1 (by kpc_g) (hc.symm.trans rfl) mi0 (by omega) (by decide) rfl (o := none) rfl ?_; intro _ _
  clear hc c
  refine KPc.turn ?_; kpc_check; (repeat kpc_if)
  refine wpAny_pure ?_; kpt_piece
  refine KPc.turn ?_; kpc_check; (repeat kpc_if)
  refine wpAny_bind ?_; refine wpAny_holding ?_; (repeat kpc_if); kpt_conv; refine wpAny_pure ?_
  generalize hc : (({ ljust := _, sign := _, blank := _, alt := _, zero := _, width := _, prec := _, type := _ } : Str.Percent)) = c
  refine pad_step (n := ss) (c := c) (p := [.str Z u8]) (r := [32, 37, 115]) 1 (by kpc_g) (hc.symm.trans rfl) ss0 (by omega) (by decide) rfl (o := none) rfl ?_; intro _ _
  clear hc c
  refine KPc.turn ?_; kpc_check; (repeat kpc_if)
  refine wpAny_pure ?_; kpt_piece
  refine KPc.turn ?_; kpc_check; (repeat kpc_if)
  refine wpAny_bind ?_; refine wpAny_holding ?_; (repeat kpc_if); kpt_conv; refine wpAny_pure ?_; refine wpAny_pure ?_; kpt_piece
  refine KPc.turn ?_; kpc_check; (repeat kpc_if)
  kpc_close
end

section
open PySem PySem.W PyProof.Rows PySem.Calls
set_option maxRecDepth 100000
local macro_rules | `(tactic| walk_at "binaryOp Pow int int") => `(tactic| (k_here; (with_reducible refine pow_gen (by decide) (by decide) ?_ ?_ ?_); omega; omega; intro q' hq' hq1' hq2'))
local macro_rules | `(tactic| walk_at "binaryOp FloorDiv int int") => `(tactic| (refine floordiv_pos (by omega) (by omega) ?_))
local macro_rules | `(tactic| walk_at "binaryOp Mod int int") => `(tactic| (refine mod_pos (by omega) ?_))
local macro_rules | `(tactic| walk_at "call builtin:chr") => `(tactic| (refine chr_of_range (by omega) (by omega) ?_))
local macro_rules | `(tactic| walk_at "callWith builtin:str.join") => `(tactic| (refine callWith_method1 ?_))

section
open PySem PySem.W PyProof.Rows PySem.Calls
set_option maxRecDepth 100000
theorem tup6 {i : Nat} {v : Value} {t0 t1 t2 t3 t4 t5 : Tok} (h : (#[Value.int 5 t0, Value.int 4 t1, Value.int 3 t2, Value.int 2 t3, Value.int 1 t4, Value.int 0 t5] : Array Value)[i]? = some v) : ∃ k t, v = .int k t ∧ 0 ≤ k ∧ k ≤ 5 ∧ (i : Int) = 5 - k := by
  match i with
  | 0 => exact ⟨5, t0, by simpa using h.symm, by decide, by decide, by decide⟩
  | 1 => exact ⟨4, t1, by simpa using h.symm, by decide, by decide, by decide⟩
  | 2 => exact ⟨3, t2, by simpa using h.symm, by decide, by decide, by decide⟩
  | 3 => exact ⟨2, t3, by simpa using h.symm, by decide, by decide, by decide⟩
  | 4 => exact ⟨1, t4, by simpa using h.symm, by decide, by decide, by decide⟩
  | 5 => exact ⟨0, t5, by simpa using h.symm, by decide, by decide, by decide⟩
  | i + 6 => simp at h
local macro_rules | `(tactic| walk_at "eval ListComp") => `(tactic| (k_here; k_dflt (refine comp_srcT (by k_asm) (by with_unfolding_all rfl) (by decide) (by rfl) (by decide) (by rfl) ?_)))
theorem word_p {n k : Int} {i : Nat} {q : Int} (h0 : 0 ≤ n) (hk0 : 0 ≤ k) (hik : (i : Int) = 5 - k) (hq : q = 16 ^ k.toNat) : decide (q ≤ n) = decide (16 ^ (5 - i) ≤ n.toNat) := by
  obtain ⟨n, rfl⟩ : ∃ j : Nat, n = j := ⟨n.toNat, by omega⟩
  have e : 5 - i = k.toNat := by omega
  rw [e, hq, decide_eq_decide, Int.toNat_natCast]
  exact_mod_cast Iff.rfl
theorem word_g {n k : Int} {i : Nat} {q : Int} (h0 : 0 ≤ n) (hk0 : 0 ≤ k) (hik : (i : Int) = 5 - k) (hq : q = 16 ^ k.toNat) : (65 + n / q % 16).toNat = 65 + n.toNat / 16 ^ (5 - i) % 16 := by
  obtain ⟨n, rfl⟩ : ∃ j : Nat, n = j := ⟨n.toNat, by omega⟩
  have e : 5 - i = k.toNat := by omega
  rw [e, hq, Int.toNat_natCast]
  have : (65 + (n : Int) / 16 ^ k.toNat % 16) = ((65 + n / 16 ^ k.toNat % 16 : Nat) : Int) := by push_cast; rfl
  rw [this, Int.toNat_natCast]
theorem word_list {n : Nat} (h : n < 16777216) : selL (fun i => decide (16 ^ (5 - i) ≤ n)) (fun i => 65 + n / 16 ^ (5 - i) % 16) 0 6 = ap n := by
  rw [← hexes_ap 6 n (by simpa using h)]
  simp only [selL, hexes, decide_eq_true_eq]
set_option maxHeartbeats 8000000 in
theorem c_word (w : World) (n : Int) (t : Tok) (h0 : 0 ≤ n) (h1 : n < 16777216) : Pure w 2 64 [.int n t] (fun _ => True) (fun _ _ v => ∃ t', v = .str (apS n.toNat) t') := by
  walk_at "mine go"
  w_strict (refine pure_call ?_; k_dflt walk_at "mine enter"; walk_at "mine t")
  rename_i F' N' l1
  refine ⟨_, _, _, fun i y => ∃ t, y = .str (ch (65 + n.toNat / 16 ^ (5 - i) % 16)) t, fun i => decide (16 ^ (5 - i) ≤ n.toNat), rfl, F', N', ?_, ItSrc.tuple rfl N' (by k_mem), ?_, ?_, ?_⟩
  · exact Nat.le_of_ble_eq_true rfl
  · intro i v I oI C oC D ys m₂ s E' hv hC hx F N off ne
    obtain ⟨k, t, rfl, hk0, hk5, hik⟩ := tup6 hv.2
    clear hv
    w_strict (walk_at "mine t")
    exact ⟨⟨_, _, rfl⟩, F, N, word_p h0 hk0 hik (by assumption)⟩
  · intro i v I oI C oC D ys m₂ s E' hv hC hx F N off ne
    obtain ⟨hv, hp⟩ := hv
    obtain ⟨k, t, rfl, hk0, hk5, hik⟩ := tup6 hv.2
    clear hv hp
    w_strict (walk_at "mine t")
    exact ⟨⟨_, _, rfl⟩, F, N, _, congrArg (Value.str · _) (congrArg ch (word_g h0 hk0 hik (by assumption)))⟩
  · intro zs h hz
    have hs := hz.chars
    clear hz
    w_strict (walk_at "mine t")
    rename_i N' o1'
    have hl : (selL (fun i => decide (16 ^ (5 - i) ≤ n.toNat)) (fun i => 65 + n.toNat / 16 ^ (5 - i) % 16) 0 6).length ≤ 6 := selL_length
    refine join_lst N' hs (by decide) (by rw [sum_ch, List.length_map]; show (selL _ _ 0 6).length + (selL _ _ 0 6).length * 64 ≤ _; omega) fun t' k => ?_
    w_strict (walk_at "mine t")
    refine ⟨⟨_, _, rfl⟩, _, congrArg (Value.str · _) ?_⟩
    rw [join_ch]
    show Str.mk (selL _ _ 0 6).toArray = _
    rw [word_list (by omega)]; rfl
end

section
open PySem PySem.W PyProof.Rows PySem.Calls
set_option maxRecDepth 100000
local macro_rules | `(tactic| walk_at "mine pad") => `(tactic| skip)
local macro_rules | `(tactic| walk_at "eval ListComp") => `(tactic| (k_here; k_dflt (refine comp_src (by k_asm) (by with_unfolding_all rfl) (by decide) (by rfl) (by decide) (by rfl) ?_)))
theorem fig_g {n k j : Int} {i : Nat} {q : Int} (h0 : 0 ≤ n) (hj : j = i) (hjk : j < k) (hq : q = 10 ^ (k - 1 - j).toNat) : (48 + n / q % 10).toNat = 48 + n.toNat / 10 ^ (k.toNat - 1 - i) % 10 := by
  obtain ⟨n, rfl⟩ : ∃ j : Nat, n = j := ⟨n.toNat, by omega⟩
  have e : k.toNat - 1 - i = (k - 1 - j).toNat := by omega
  rw [e, hq, Int.toNat_natCast]
  generalize (k - 1 - j).toNat = r
  have : (48 + (n : Int) / 10 ^ r % 10) = ((48 + n / 10 ^ r % 10 : Nat) : Int) := by push_cast; rfl
  rw [this, Int.toNat_natCast]
set_option maxHeartbeats 8000000 in
theorem c_figs (w : World) (n k : Int) (t u : Tok) (h0 : 0 ≤ n) (hk0 : 0 < k) (hk1 : k ≤ 4) : Pure w 2 59 [.int n t, .int k u] (fun _ => True) (fun _ _ v => ∃ t', v = .str (figS n.toNat k.toNat) t') := by
  walk_at "mine go"
  w_strict (refine pure_call ?_; k_dflt walk_at "mine enter"; walk_at "mine t")
  rename_i hR F' N' hK
  refine ⟨_, k.toNat, _, fun i y => ∃ t, y = .str (ch (48 + n.toNat / 10 ^ (k.toNat - 1 - i) % 10)) t, rfl, F', N', ?_, ItSrc.range rfl hR (small_one (by decide) (by decide) (by omega) (by omega)) (by rw [rangeSize_nat, Int.sub_zero]), ?_, ?_⟩
  · rw [sizeLine_eq]; omega
  · intro i v I oI C oC D ys m₂ s E' hv hC hx F N off ne
    obtain ⟨hi, t, rfl⟩ := hv
    obtain ⟨j, hj⟩ : ∃ j : Int, j = 0 + (i : Int) := ⟨_, rfl⟩
    rw [← hj] at hx
    have hj0 : 0 ≤ j := by omega
    have hj1 : j < k := by omega
    w_strict (walk_at "mine t")
    exact ⟨⟨_, _, rfl⟩, F, N, _, congrArg (Value.str · _) (congrArg ch (fig_g h0 (by omega) hj1 (by assumption)))⟩
  · intro zs h hz
    have hs := hz.chars
    clear hz
    w_strict (walk_at "mine t")
    rename_i N' o1'
    have hl : (figL n.toNat k.toNat).length ≤ k.toNat := selL_length
    refine join_lst N' hs (by decide) (by rw [sum_ch, List.length_map]; show (figL n.toNat k.toNat).length + (figL n.toNat k.toNat).length * 64 ≤ _; omega) fun t' k => ?_
    w_strict (walk_at "mine t")
    refine ⟨⟨_, _, rfl⟩, _, congrArg (Value.str · _) ?_⟩
    rw [join_ch]; rfl
end
end

section
open PySem PySem.W PyProof.Rows PySem.Calls
set_option maxRecDepth 100000
local macro_rules | `(tactic| walk_at "binaryOp FloorDiv int int") => `(tactic| (refine floordiv_pos (by decide) (by decide) ?_))
local macro_rules | `(tactic| walk_at "binaryOp Mod int int") => `(tactic| (refine mod_pos (by decide) ?_))
local macro_rules | `(tactic| walk_at "execs nil") => `(tactic| first | (k_here; k_gentoks) | (with_reducible refine wpAny_execs_nil ?_))
local macro_rules | `(tactic| walk_at "execs cons") => `(tactic| first | (k_here; k_gentoks) | (with_reducible refine wpAny_execs_cons ?_))
local macro_rules | `(tactic| walk_at "exec If") => `(tactic| (with_reducible refine wpAny_If ?_))

section
open PySem PySem.W PyProof.Rows PySem.Calls
set_option maxRecDepth 100000
/-- a test that only draws tokens -/
theorem wp_test {M : Model} {A : Around} {x : Sem Bool} {Q : Bool → Shared → Prop} {E : Value → Shared → Prop} {s : Shared} (p : Bool) (h : wpAny M A x (fun b s' => (∃ tk, s' = { s with toks := tk }) ∧ b = p) E s) (hq : ∀ tk, Q p { s with toks := tk }) : wpAny M A x Q E s :=
  wpAny_mono h (fun _ _ e => by obtain ⟨⟨tk, rfl⟩, rfl⟩ := e; exact hq tk) fun _ _ e => e
local macro_rules | `(tactic| walk_at "ite") => `(tactic| first | with_reducible refine ite_tt ?_ | with_reducible refine ite_ff ?_ | with_reducible refine ite_eqT (by law_clear; omega) ?_ | with_reducible refine ite_eqF (by law_clear; omega) ?_ | with_reducible refine ite_neT (by law_clear; omega) ?_ | with_reducible refine ite_neF (by law_clear; omega) ?_ | with_reducible refine ite_decT (by law_clear; omega) ?_ | with_reducible refine ite_decF (by law_clear; omega) ?_)
local macro_rules | `(tactic| walk_at "exec If") => `(tactic| (refine Halt.out ?_))
local macro_rules | `(tactic| walk_at "subscriptTail Name Slice ref ref") => `(tactic| (k_here; (with_reducible show wpAny _ _ (subscriptTail _ (PySem.Expr.Slice none (some _) none _) (Value.ref _) (Value.ref _)) _ _ _); k_dflt (refine' kmk_slice_ints (s := ⟨_, _, _, _, _⟩) ?F ?N ?l ?p ?q ?i ?m ?c ?_ ?s ?t ?z; (case F => k_asm); (case N => k_asm); (case l => kmk_list); (case p => kmk_part); (case q => kmk_part); (case i => first | assumption | repeat constructor); (case m => exact kmk_upto (by first | assumption | repeat constructor) (by law_clear; omega)); (case c => rfl); (case s => with_unfolding_all rfl); (case t => kmk_pure); (case z => first | exact Nat.le_of_ble_eq_true rfl | exact kmk_sz (by assumption) (Nat.le_of_ble_eq_true rfl))); intro D' ws' h' F' N' l1 hI' hC' hL'; clear hC' hL'))
local macro_rules | `(tactic| walk_at "subscriptTail Name Slice ref ref") => `(tactic| (k_here; (with_reducible show wpAny _ _ (subscriptTail _ (PySem.Expr.Slice (some _) none none _) (Value.ref _) (Value.ref _)) _ _ _); k_dflt (refine' kmk_slice_ints (s := ⟨_, _, _, _, _⟩) ?F ?N ?l ?p ?q ?i ?m ?c ?_ ?s ?t ?z; (case F => k_asm); (case N => k_asm); (case l => kmk_list); (case p => kmk_part); (case q => kmk_part); (case i => repeat constructor); (case m => exact kmk_from (by repeat constructor) (by decide)); (case c => rfl); (case s => with_unfolding_all rfl); (case t => kmk_pure); (case z => exact Nat.le_of_ble_eq_true rfl)); intro D' ws' h' F' N' l1 hI' hC' hL'; clear hC' hL'))
local macro_rules | `(tactic| walk_at "binaryOp Add ref ref") => `(tactic| (k_here; k_dflt (refine' kmk_add_ints ?F ?N ?a ?b ?i ?j ?_ ?z; (case F => k_asm); (case N => k_asm); (case a => kmk_list); (case b => kmk_list); (case i => repeat constructor); (case j => assumption); (case z => exact Nat.le_of_ble_eq_true rfl)); intro D' ws' h' F' N' l1 hI'))
set_option maxHeartbeats 1000000 in
theorem c_ahead (w : World) (y k : Int) (t u : Tok) (hk0 : 0 < k) : Pure w 2 49 [.int y t, .int k u] (fun _ => True) (fun _ _ v => ∃ t', v = .int (ahead y k) t') := by
  walk_at "mine go"
  w_strict (refine pure_call ?_; k_dflt walk_at "mine enter")
  w_strict (walk_at "mine d")
  refine Halt.on ?_
  with_reducible refine wpAny_If ?_
  refine wp_test (isLeap y) ?_ fun tk => ?_
  · have hc : y % 4 ≠ 0 ∨ (y % 4 = 0 ∧ y % 100 ≠ 0) ∨ (y % 4 = 0 ∧ y % 100 = 0 ∧ y % 400 = 0) ∨ (y % 4 = 0 ∧ y % 100 = 0 ∧ y % 400 ≠ 0) := by law_clear; omega
    rcases hc with hc | hc | hc | hc
    · w_strict (walk_at "mine d")
      exact (leap_n (.inl hc)).symm
    · w_strict (walk_at "mine d")
      exact (leap_l (.inl hc)).symm
    · w_strict (walk_at "mine d")
      exact (leap_l (.inr hc)).symm
    · w_strict (walk_at "mine d")
      exact (leap_n (.inr hc)).symm
  · try dsimp only
    cases hb : isLeap y with
    | false =>
      rw [if_neg Bool.false_ne_true]
      w_strict (walk_at "mine d")
      exact ⟨⟨_, _, rfl⟩, _, congrArg (Value.int · _) (ahead_n hb)⟩
    | true =>
      rw [if_pos rfl]
      w_strict (walk_at "mine d")
      exact ⟨⟨_, _, rfl⟩, _, congrArg (Value.int · _) (ahead_l hb)⟩
end

section
open PySem PySem.W PyProof.Rows PySem.Calls
set_option maxRecDepth 100000
local macro_rules | `(tactic| walk_at "exec For") => `(tactic| (k_here; (rename Fr _ _ _ _ => lF'); (with_unfolding_all refine' For_invVF lF' ?k1 ?k2 ?_; (case k1 => exact rfl); (case k2 => exact rfl); k_whole)))
local macro_rules | `(tactic| walk_at "exec For Name Call cons nil") => `(tactic| (k_here; (rename Fr _ _ _ _ => lF'); (with_unfolding_all refine' For_invVF lF' ?k1 ?k2 ?_; (case k1 => exact rfl); (case k2 => exact rfl); k_whole)))
local macro_rules | `(tactic| walk_at "call ref") => `(tactic| (k_here; k_dflt (refine' use_pure (c_ahead _ _ _ _ _ ?kp) ?k1 ?k2 ?k3 ?k4 ?k5 ?kK trivial ?kd ?ku ?_; (case k1 => k_asm); (case k2 => k_asm); (case k3 => k_asm); (case k4 => k_asm); (case k5 => k_asm); (case kK => first | exact rfl | assumption); (case kp => first | decide | (law_clear; omega)); (case kd => ktr_room); (case ku => first | (law_clear; (try dsimp only [Around.deeper]); omega) | ktr_units); intro v9 h9 tk9 F9 N9 P9; (obtain ⟨t9, hv9⟩ := P9); subst hv9; (try dsimp only); (try k_fold))))
local macro_rules | `(tactic| walk_at "pyIter ref") => `(tactic| (refine Halt.out ?_))
local macro_rules | `(tactic| walk_at "eval ListComp") => `(tactic| (k_here; k_dflt (refine comp_srcT (by k_asm) (by with_unfolding_all rfl) (by decide) (by rfl) (by decide) (by rfl) ?_)))
local macro_rules | `(tactic| walk_at "ite") => `(tactic| first | with_reducible refine ite_tt ?_ | with_reducible refine ite_ff ?_ | with_reducible refine split_dec (fun hS => ?_) (fun hS => ?_))
/-- the year's cell between the turns -/
def PlainJ (n : Int) (cN : Addr) (oN : Obj) (cY : Addr) (i : Nat) (nw : List (Addr × Obj)) : Prop := ∃ t oY, oY.data = .cell (some (.int (yearAt n i) t)) ∧ nw = [(cY, oY), (cN, oN)]
def PlainL (n : Int) : List Int := selL (fun i => decide (ahead (yearAt n 22) (1 + (i : Int)) ≤ n)) (fun i => 1 + (i : Int)) 0 12
/-- the last of the months -/
def PlainM (n M : Int) : Prop := M ∈ PlainL n ∧ ∀ a ∈ PlainL n, a ≤ M
theorem PlainL_pos {n : Int} (h : 0 ≤ n) : 0 < (PlainL n).length := by
  unfold PlainL selL
  rw [if_pos (by have := yearAt_le h 22; simpa using this)]
  exact Nat.succ_pos _
theorem selL_mem {α : Type} {p : Nat → Bool} {f : Nat → α} {x : α} : ∀ {k i : Nat}, x ∈ selL p f i k → ∃ j, i ≤ j ∧ j < i + k ∧ p j = true ∧ x = f j
  | 0, _, h => nomatch h
  | k + 1, i, h => by
    unfold selL at h
    split at h
    · rename_i hp
      rcases List.mem_cons.mp h with rfl | h
      · exact ⟨i, Nat.le_refl _, by omega, hp, rfl⟩
      · obtain ⟨j, a, b, c⟩ := selL_mem h
        exact ⟨j, by omega, by omega, c⟩
    · obtain ⟨j, a, b, c⟩ := selL_mem h
      exact ⟨j, by omega, by omega, c⟩
theorem PlainL_one {n M : Int} (h : M ∈ PlainL n) : 0 < M := by
  obtain ⟨j, _, _, _, rfl⟩ := selL_mem h
  omega
set_option maxHeartbeats 1000000 in
theorem c_plain (w : World) (n : Int) (t : Tok) (h0 : 0 ≤ n) (h1 : n < 3652059) : Pure w 4 54 [.int n t] (fun _ => True) (fun h h' v => ∃ D c t1 t2 t3 M, v = .ref D ∧ h.get? D = none ∧ h'.get? D = some { cls := .type "tuple", data := .seq #[.int (yearAt n 22) t1, .int M t2, .int (n - ahead (yearAt n 22) M + 1) t3] c } ∧ PlainM n M) := by
  walk_at "mine go"
  w_strict (refine pure_call ?_; k_dflt walk_at "mine enter"; walk_at "mine d")
  refine Halt.on ?_
  rename IsRange _ _ _ _ _ _ _ _ => hR
  rename Fr _ _ _ _ => F'
  rename News _ _ _ _ => N'
  rename _ = Data.cell (some _) => dY
  refine range_loop (n := 22) (PlainJ n _ _ _) rfl hR (by decide) rfl F' N' ⟨_, _, dY, rfl⟩ ?_ ?_
  · clear F' N' dY hR
    intro i t m₁ news₁ I oI s₁ hi hJ hoff F N
    obtain ⟨t', oY, dY, rfl⟩ := hJ
    have hf1 : @Ne Nat _ I := hoff _ (.head _)
    have hf2 : @Ne Nat _ I := hoff _ (.tail _ (.head _))
    dsimp only at hf1 hf2
    clear hoff
    w_strict (walk_at "mine d")
    · rename Fr _ _ _ _ => F'
      rename News _ _ _ _ => N'
      rename _ = Data.cell (some (Value.int (yearAt n i + 1) _)) => dY'
      rename (_ ≤ n) => hS
      exact ⟨rfl, ⟨_, _, rfl⟩, ⟨_, F'⟩, _, N', by simpa using ⟨hf1, hf2⟩, _, _, by rw [yearAt, if_pos hS]; exact dY', rfl⟩
    · rename Fr _ _ _ _ => F'
      rename News _ _ _ _ => N'
      rename ¬ (_ ≤ n) => hS
      exact ⟨rfl, ⟨_, _, rfl⟩, ⟨_, F'⟩, _, N', by simpa using ⟨hf1, hf2⟩, t', oY, by rw [yearAt, if_neg hS]; exact dY, rfl⟩
  · intro h tk m₁ news₁ F N hJ
    clear dY hR
    obtain ⟨t', oY, dY, rfl⟩ := hJ
    w_strict (walk_at "mine d")
    rename IsRange _ _ _ _ _ _ _ _ => hR
    rename Fr _ _ _ _ => F'
    rename News _ _ _ _ => N'
    refine ⟨_, 12, _, fun i y => ∃ t, y = .int (1 + (i : Int)) t, fun i => decide (ahead (yearAt n 22) (1 + (i : Int)) ≤ n), rfl, F', N', ?_, ItSrc.range rfl hR (by decide) rfl, ?_, ?_, ?_⟩
    · exact Nat.le_of_ble_eq_true rfl
    · intro i v I oI C oC D ys m₂ s E' hv hC hx F N off ne
      obtain ⟨hi, t, rfl⟩ := hv
      have hj : 0 < 1 + (i : Int) := by omega
      w_strict (walk_at "mine d")
      rename Fr _ _ _ _ => F'
      rename News _ _ _ _ => N'
      exact ⟨⟨_, _, rfl⟩, F', N', rfl⟩
    · intro i v I oI C oC D ys m₂ s E' hv hC hx F N off ne
      obtain ⟨⟨hi, t, rfl⟩, hp⟩ := hv
      w_strict (walk_at "mine d")
      exact ⟨⟨_, _, rfl⟩, F, N, _, rfl⟩
    · intro zs h hz
      have hs := hz.ints
      clear hz
      w_strict (walk_at "mine d")
      rename Fr _ _ _ _ => F'
      rename News _ _ _ _ => N'
      refine kso_max F' N' ⟨_, (N' _ (.head _)).1, rfl, _, rfl⟩ hs (PlainL_pos h0) rfl fun h' M t tk F N hM hmax => ?_
      have hM0 := PlainL_one hM
      w_strict (walk_at "mine d")
      rename News _ _ _ _ => kN
      clear kN
      rename News _ _ _ _ => N'
      rename _ = Shared.heap _ => hg
      exact ⟨⟨_, _, rfl⟩, _, _, _, _, _, M, rfl, hg ▸ (N' _ (.head _)).2.2, (N' _ (.head _)).1, hM, hmax⟩
end

section
open PySem PySem.W PyProof.Rows PySem.Calls
set_option maxRecDepth 100000
local macro_rules | `(tactic| walk_at "ite") => `(tactic| first | with_reducible refine ite_tt ?_ | with_reducible refine ite_ff ?_ | with_reducible refine split_dec (fun hS => ?_) (fun hS => ?_))
theorem fd_c (a : Int) : a.fdiv 146097 = a / 146097 := Int.fdiv_eq_ediv_of_nonneg _ (by decide)
theorem fm_c (a : Int) : a.fmod 146097 = a % 146097 := Int.fmod_eq_emod_of_nonneg _ (by decide)
theorem date_end {n y m d e r : Int} {t1 t2 t3 : Tok} (hr : r = cfM (cfR (cfD n))) (hy : y = cfY (cfD n) + 400 * ((n + 306) / 146097) + e) (hm : (r < 10 ∧ m = r + 3) ∨ (¬ r < 10 ∧ m = r - 9)) (he : (m < 3 ∧ e = 1) ∨ (¬ m < 3 ∧ e = 0)) (hd : d = cfR (cfD n) - (153 * r + 2) / 5 + 1) :
    ({ cls := .type "tuple", data := .seq #[.int y t1, .int m t2, .int d t3] } : Obj) = { cls := .type "tuple", data := .seq #[.int (dateY n) t1, .int (dateM n) t2, .int (dateD n) t3] } := by
  have hm' : m = dateM n := by
    unfold dateM cfMonth
    rw [← hr]
    split <;> omega
  have hy' : y = dateY n := by
    rw [hy, dateY, show cfMonth (cfM (cfR (cfD n))) = m from hm'.symm]
    split <;> omega
  rw [hm', hy', hd, hr]
  rfl
set_option maxHeartbeats 1000000 in
theorem c_date (w : World) (n : Int) (t : Tok) : Pure w 2 42 [.int n t] (fun _ => True) (fun h h' v => ∃ D c t1 t2 t3, v = .ref D ∧ h.get? D = none ∧ h'.get? D = some { cls := .type "tuple", data := .seq #[.int (dateY n) t1, .int (dateM n) t2, .int (dateD n) t3] c }) := by
  walk_at "mine go"
  w_strict (refine pure_call ?_; k_dflt walk_at "mine enter"; walk_at "mine d")
  all_goals
    rename News _ _ _ _ => kN
    clear kN
    rename News _ _ _ _ => N'
    rename _ = Shared.heap _ => hg
    simp only [fd_c, fm_c] at *
    refine ⟨⟨_, _, rfl⟩, _, _, _, _, _, rfl, hg ▸ (N' _ (.head _)).2.2, (N' _ (.head _)).1.trans (congrArg some (date_end rfl rfl ?_ ?_ rfl))⟩
  · exact .inl ⟨by assumption, rfl⟩
  · exact .inl ⟨by assumption, rfl⟩
  · exact .inl ⟨by assumption, rfl⟩
  · exact .inr ⟨by assumption, rfl⟩
  · exact .inr ⟨by assumption, rfl⟩
  · exact .inl ⟨by assumption, rfl⟩
  · exact .inr ⟨by assumption, rfl⟩
  · exact .inr ⟨by assumption, rfl⟩
end

section
open PySem PySem.W PyProof.Rows PySem.Calls
set_option maxRecDepth 100000
section
variable {prog : Program} {w : World} {A : Around} {E : Value → Shared → Prop} {s : Shared} {Q : Value → Shared → Prop}
theorem strsAre_at {vs : List Value} {ys : List Str} (h : StrsAre vs ys) : ∀ {j : Nat}, j < ys.length → ∃ t, vs[j]? = some (.str (ys.getD j Str.empty) t) := by
  induction h with
  | nil => intro j hj; exact absurd hj (Nat.not_lt_zero _)
  | cons y t _ ih =>
    intro j hj
    cases j with
    | zero => exact ⟨t, rfl⟩
    | succ j => exact ih (Nat.lt_of_succ_lt_succ hj)
theorem strsAre_len {vs : List Value} {ys : List Str} (h : StrsAre vs ys) : vs.length = ys.length := by
  induction h with
  | nil => rfl
  | cons _ _ _ ih => simp [ih]
theorem item_names {value slice : Expr} {a : Addr} {vs : List Value} {ys : List Str} {k : Int} {u : Tok} {n : Nat} (hl : s.heap.IsList a vs.toArray) (hi : StrsAre vs ys) (hn : ys.length = n) (hb : n ≤ 100) (h0 : -(n : Int) ≤ k) (hk : k < n)
    (h : ∀ t', Q (.str (ys.getD (k % n).toNat Str.empty) t') s)
    (hs : subscripted slice false (.ref a) (.int k u) = operate [.ref a, .int k u] (getItem (.ref a) (.int k u)) := by with_unfolding_all rfl) :
    wpAny (model prog w) A (subscriptTail value slice (.ref a) (.int k u)) Q E s := by
  have hlen := strsAre_len hi
  have hj : (k % n).toNat < ys.length := by
    rw [hn]
    have := Int.emod_nonneg k (show (n : Int) ≠ 0 by omega)
    have := Int.emod_lt_of_pos k (show (0 : Int) < n by omega)
    omega
  obtain ⟨t, ht⟩ := strsAre_at hi hj
  by_cases hk0 : 0 ≤ k
  · have e : (k % n).toNat = k.toNat := by rw [Int.emod_eq_of_lt hk0 hk]
    exact tail_any hl.typeIs slot_list_getitem.lookup (wpAny_getItem_list hl hk0 (by omega) (by rw [← e]; simpa using ht) (h t)) hs
  · have e : k % n = k + n := by rw [← Int.add_emod_right, Int.emod_eq_of_lt (by omega) (by omega)]
    have hz : vs.toArray.size = n := by rw [List.size_toArray, hlen, hn]
    exact tail_any hl.typeIs slot_list_getitem.lookup (wpAny_getItem_list_neg hl (by omega) (by rw [hz]; omega) (by omega) (by rw [hz, ← e]; simpa using ht) (h t)) hs
theorem tup_at {h₀ h : Heap} {L T : Addr} {m : Str → Option Value} {l : List Value} {c : Nat} (F : Fr h₀ L h m) (hp : h₀.get? T = some { cls := .type "tuple", data := .seq l.toArray c }) : IsTup h T l.toArray := ⟨_, F.keep _ _ hp, rfl, _, rfl⟩
end
local macro_rules | `(tactic| walk_at "subscriptTail") => `(tactic| (k_here; (with_reducible show wpAny _ _ (subscriptTail (Expr.Name _ _) _ (Value.ref _) (Value.int _ _)) _ _ _); k_dflt (refine' item_tupleT (tup_at ?k1 ?k2) ?k3 ?k4 ?k5 ?k6 ?_; (case k1 => k_asm); (case k2 => assumption); (case k3 => decide); (case k4 => decide); (case k5 => rfl); (case k6 => rfl))))
local macro_rules | `(tactic| walk_at "subscriptTail") => `(tactic| (k_here; (with_reducible show wpAny _ _ (subscriptTail (Expr.List _ _) _ (Value.ref _) (Value.int _ _)) _ _ _); k_dflt (refine' item_names (n := 12) ?l ?i ?e ?b ?lo ?hi ?_; (case l => kmk_list); (case i => repeat constructor); (case e => rfl); (case b => decide); (case lo => (law_clear; omega)); (case hi => (law_clear; omega)); intro t9)))
local macro_rules | `(tactic| walk_at "subscriptTail") => `(tactic| (k_here; (with_reducible show wpAny _ _ (subscriptTail (Expr.List _ _) _ (Value.ref _) (Value.int _ _)) _ _ _); k_dflt (refine' item_names (n := 7) ?l ?i ?e ?b ?lo ?hi ?_; (case l => kmk_list); (case i => repeat constructor); (case e => rfl); (case b => decide); (case lo => (law_clear; omega)); (case hi => (law_clear; omega)); intro t9)))
local macro_rules | `(tactic| walk_at "binaryOp Mod str ref") => `(tactic| (refine Halt.out ?_))
def wdNames : List Str := [Str.ofString "Mon", Str.ofString "Tue", Str.ofString "Wed", Str.ofString "Thu", Str.ofString "Fri", Str.ofString "Sat", Str.ofString "Sun"]
def monNames : List Str := [Str.ofString "Jan", Str.ofString "Feb", Str.ofString "Mar", Str.ofString "Apr", Str.ofString "May", Str.ofString "Jun", Str.ofString "Jul", Str.ofString "Aug", Str.ofString "Sep", Str.ofString "Oct", Str.ofString "Nov", Str.ofString "Dec"]
theorem getD_len {k : Nat} {l : List Str} (h : ∀ x ∈ l, x.length ≤ k) (j : Nat) : (l.getD j Str.empty).length ≤ k := by
  by_cases hj : j < l.length
  · have e : l.getD j Str.empty = l[j] := by simp [hj]
    rw [e]; exact h _ (List.getElem_mem hj)
  · have e : l.getD j Str.empty = Str.empty := by simp [List.getD, List.getElem?_eq_none (Nat.not_lt.mp hj)]
    rw [e]; exact Nat.zero_le _
theorem wd_len (j : Nat) : (wdNames.getD j Str.empty).length ≤ 3 := getD_len (by decide +kernel) j
theorem mon_len (j : Nat) : (monNames.getD j Str.empty).length ≤ 3 := getD_len (by decide +kernel) j
set_option maxHeartbeats 1000000 in
theorem c_fmt (w : World) (T : Addr) (z : Str) (c : Nat) (t t0 t1 t2 t3 t4 t5 t6 t7 t8 : Tok) (y mo d hh mi ss wd : Int) (hz : z.length < 200) (hy : 0 < y) (hy1 : y < 10000) (hm : -12 < mo) (hm1 : mo < 13) (hd0 : 0 < d) (hd1 : d < 32) (hh0 : 0 ≤ hh) (hh1 : hh < 24) (mi0 : 0 ≤ mi) (mi1 : mi < 60) (ss0 : 0 ≤ ss) (ss1 : ss < 60) (wd0 : -8 < wd) (wd1 : wd < 7) :
    Pure w 2 21 [.ref T, .str z t] (fun h => h.get? T = some { cls := .type "tuple", data := .seq #[.int y t0, .int mo t1, .int d t2, .int hh t3, .int mi t4, .int ss t5, .int wd t6, .int 0 t7, .int (-1) t8] c }) (fun _ _ v => ∃ t', v = .str (fmtS (wdNames.getD (wd % 7).toNat Str.empty) (monNames.getD ((mo - 1) % 12).toNat Str.empty) z d y hh mi ss) t') := by
  walk_at "mine go"
  w_strict (refine pure_call ?_; k_dflt walk_at "mine enter")
  rename _ = Shared.heap _ => hg
  subst hg
  w_strict (walk_at "mine d")
  refine Halt.on ?_
  rename News _ _ _ _ => N'
  refine KPt.mod_tuple N' (.head _) (by decide +kernel) (pct _ _ _ _ _ _ _ _ _ _ (wdNames.getD (wd % 7).toNat Str.empty) (monNames.getD ((mo - 1) % 12).toNat Str.empty) z d y hh mi ss (Nat.le_trans (wd_len _) (by decide)) (Nat.le_trans (mon_len _) (by decide)) (by omega) (by omega) hy1 (by omega) (by omega) hh0 (by omega) mi0 (by omega) ss0 (by omega)) ?_
  intro t' k'
  w_strict (walk_at "mine d")
  exact ⟨⟨_, _, rfl⟩, _, rfl⟩
end

section
open PySem PySem.W PyProof.Rows PySem.Calls
set_option maxRecDepth 100000
local macro_rules | `(tactic| walk_at "call builtin:str.split") => `(tactic| (refine Halt.out ?_))
local macro_rules | `(tactic| walk_at "callWith builtin:str.split") => `(tactic| (refine callWith_method1 ?_))
set_option maxHeartbeats 1000000 in
theorem c_dec1 (w : World) (z : Str) (t : Tok) (hz : z.length ≤ 1000) (hf : (posL 39 z.cps.toList 0).length ≤ 1) :
    Pure w 2 28 [.str z t] (fun _ => True) (fun h h' v => ∃ D c t', v = .ref D ∧ h.get? D = none ∧ h'.get? D = some { cls := .type "tuple", data := .seq #[.none, .none, .str z t'] c }) := by
  walk_at "mine go"
  w_strict (refine pure_call ?_; k_dflt walk_at "mine enter"; walk_at "mine d")
  refine Halt.on ?_
  rename Fr _ _ _ _ => F'
  rename News _ _ _ _ => N'
  refine splitN2A F' N' (by decide +kernel) (by decide) (fun l h' tk hl hs hlen hL F N => ?_) (by rw [sizeLine_eq]; omega)
  clear F' N' hs hlen hL
  have hl2 : l.length ≤ 2 := by
    have h1 := congrArg List.length hl
    rw [List.length_map, show Str.ofString "'" = ⟨#[39]⟩ by decide +kernel] at h1
    rw [h1]; exact parts_few hf
  w_strict (walk_at "mine d")
  rename News _ _ _ _ => kN
  clear kN
  rename News _ _ _ _ => N'
  rename _ = Shared.heap _ => hg
  exact ⟨⟨_, _, rfl⟩, _, _, _, rfl, hg ▸ (N' _ (.head _)).2.2, (N' _ (.head _)).1⟩
set_option maxHeartbeats 1000000 in
theorem c_dec2 (w : World) (a b e : Str) (t : Tok) (hz : (a ++ ⟨#[39]⟩ ++ b ++ ⟨#[39]⟩ ++ e).length ≤ 1000) (ha : 39 ∉ a.cps.toList) (hb : 39 ∉ b.cps.toList) :
    Pure w 2 28 [.str (a ++ ⟨#[39]⟩ ++ b ++ ⟨#[39]⟩ ++ e) t] (fun _ => True) (fun h h' v => ∃ D c t1 t2 t3, v = .ref D ∧ h.get? D = none ∧ h'.get? D = some { cls := .type "list", data := .seq #[.str a t1, .str b t2, .str e t3] c }) := by
  walk_at "mine go"
  w_strict (refine pure_call ?_; k_dflt walk_at "mine enter"; walk_at "mine d")
  refine Halt.on ?_
  rename Fr _ _ _ _ => F'
  rename News _ _ _ _ => N'
  refine splitN2A F' N' (by decide +kernel) (by decide) (fun l h' tk hl hs hlen hL F N => ?_) (by rw [sizeLine_eq]; omega)
  clear F' N' hs hlen hL
  rw [show Str.ofString "'" = ⟨#[39]⟩ by decide +kernel, parts_three ha hb] at hl
  obtain ⟨t1, t2, t3, rfl⟩ : ∃ t1 t2 t3, l = [(a, t1), (b, t2), (e, t3)] := by
    match l, hl with
    | [(a', t1), (b', t2), (e', t3)], hl =>
      simp only [List.map_cons, List.map_nil, List.cons.injEq, and_true] at hl
      obtain ⟨rfl, rfl, rfl⟩ := hl
      exact ⟨t1, t2, t3, rfl⟩
  w_strict (walk_at "mine d")
  rename News _ _ _ _ => kN
  clear kN
  rename News _ _ _ _ => N'
  rename _ = Shared.heap _ => hg
  exact ⟨⟨_, _, rfl⟩, _, _, _, _, _, rfl, hg ▸ (N' _ (.head _)).2.2, (N' _ (.head _)).1⟩
end

section
open PySem PySem.W PyProof.Rows PySem.Calls
set_option maxRecDepth 100000
def NsBad (ns : List Int) : Prop := ((ns.getD 6 0 < -7 ∨ 7 ≤ ns.getD 6 0) ∧ -1000 < ns.getD 6 0 ∧ ns.getD 6 0 < 1000) ∨ ((-7 ≤ ns.getD 6 0 ∧ ns.getD 6 0 < 7) ∧ (ns.getD 1 0 < -11 ∨ 13 ≤ ns.getD 1 0) ∧ -1000 < ns.getD 1 0 ∧ ns.getD 1 0 < 1000)
theorem item_tuI {prog : Program} {w : World} {A : Around} {E : Value → Shared → Prop} {s : Shared} {value slice : Expr} {l : Addr} {vs : List Value} {ns : List Int} {k z : Int} {u : Tok} {Q : Value → Shared → Prop} (j : Nat) (hk : k = j) (hl : IsTup s.heap l vs.toArray) (hi : IntsAre vs ns)
    (hz : ns.getD j 0 = z) (h1 : j < ns.length) (hfit : j < 100) (h : ∀ t, Q (.int z t) s)
    (hs : subscripted slice false (.ref l) (.int k u) = operate [.ref l, .int k u] (getItem (.ref l) (.int k u)) := by with_unfolding_all rfl) (hg : ∀ r, letTemporaryGo value (.ref l) r = pure () := by intro _; with_unfolding_all rfl) :
    wpAny (model prog w) A (subscriptTail value slice (.ref l) (.int k u)) Q E s := by
  subst hk hz
  exact item_tuple_ints hl hi (by omega) (by omega) (by omega) h hs hg
def NsPut (ns : List Int) (p v : Int) : List Int := ns.take p.toNat ++ [v] ++ ns.drop (p + 1).toNat
local macro_rules | `(tactic| walk_at "subscriptTail Name Slice ref ref") => `(tactic| (k_here; (with_reducible show wpAny _ _ (subscriptTail _ (PySem.Expr.Slice none (some _) none _) (Value.ref _) (Value.ref _)) _ _ _); k_dflt (refine' kmk_slice_ints (s := ⟨_, _, _, _, _⟩) ?F ?N ?l ?p ?q ?i ?m ?c ?_ ?s ?t ?z; (case F => k_asm); (case N => k_asm); (case l => kmk_list); (case p => kmk_part); (case q => kmk_part); (case i => assumption); (case m => exact kmk_upto (by assumption) (by law_clear; omega)); (case c => rfl); (case s => with_unfolding_all rfl); (case t => kmk_pure); (case z => exact kmk_sz (by assumption) (by rw [sizeLine_eq]; law_clear; omega))); intro D' ws' h' F' N' l1 hI' hC' hL'; clear hC' hL'))
local macro_rules | `(tactic| walk_at "subscriptTail Name Slice ref ref") => `(tactic| (k_here; (with_reducible show wpAny _ _ (subscriptTail _ (PySem.Expr.Slice (some _) none none _) (Value.ref _) (Value.ref _)) _ _ _); k_dflt (refine' kmk_slice_ints (s := ⟨_, _, _, _, _⟩) ?F ?N ?l ?p ?q ?i ?m ?c ?_ ?s ?t ?z; (case F => k_asm); (case N => k_asm); (case l => kmk_list); (case p => kmk_part); (case q => kmk_part); (case i => assumption); (case m => exact kmk_from (by assumption) (by law_clear; omega)); (case c => rfl); (case s => with_unfolding_all rfl); (case t => kmk_pure); (case z => exact kmk_sz (by assumption) (by rw [sizeLine_eq]; law_clear; omega))); intro D' ws' h' F' N' l1 hI' hC' hL'; clear hC' hL'))
local macro_rules | `(tactic| walk_at "binaryOp Add ref ref") => `(tactic| (k_here; k_dflt (refine' kmk_add_ints ?F ?N ?a ?b ?i ?j ?_ ?z; (case F => k_asm); (case N => k_asm); (case a => kmk_list); (case b => kmk_list); (case i => first | assumption | exact .cons _ _ .nil); (case j => first | assumption | exact .cons _ _ .nil); (case z => (simp only [List.length_append, List.length_cons, List.length_nil, List.length_take, List.length_drop, sizeLine_eq]; law_clear; omega))); intro D' ws' h' F' N' l1 hI'))
local macro_rules | `(tactic| walk_at "call ref") => `(tactic| (refine Halt.out ?_))
local macro_rules | `(tactic| walk_at "subscriptTail") => `(tactic| (k_here; (with_reducible show wpAny _ _ (subscriptTail (Expr.Name _ _) (Expr.Constant _ _ _) (Value.ref _) (Value.int _ _)) _ _ _); k_dflt (refine' item_tuI 6 ?k ?l ?i ?z ?k2 ?k3 ?_; (case k => rfl); (case l => exact News.isTup (by k_asm) (by k_mem)); (case i => assumption); (case z => assumption); (case k2 => (law_clear; omega)); (case k3 => decide); intro t9)))
local macro_rules | `(tactic| walk_at "subscriptTail") => `(tactic| (k_here; (with_reducible show wpAny _ _ (subscriptTail (Expr.Name _ _) (Expr.Constant _ _ _) (Value.ref _) (Value.int _ _)) _ _ _); k_dflt (refine' item_tuI 1 ?k ?l ?i ?z ?k2 ?k3 ?_; (case k => rfl); (case l => exact News.isTup (by k_asm) (by k_mem)); (case i => assumption); (case z => assumption); (case k2 => (law_clear; omega)); (case k3 => decide); intro t9)))
local macro_rules | `(tactic| walk_at "subscriptTail") => `(tactic| (k_here; (with_reducible show wpAny _ _ (subscriptTail (Expr.List _ _) _ (Value.ref _) (Value.int _ _)) _ _ _); k_dflt (refine' item_names (n := 7) ?l ?i ?e ?b ?lo ?hi ?_; (case l => kmk_list); (case i => repeat constructor); (case e => rfl); (case b => decide); (case lo => (law_clear; omega)); (case hi => (law_clear; omega)); intro t9)))
local macro_rules | `(tactic| walk_at "subscriptTail") => `(tactic| (k_here; (with_reducible show wpAny _ _ (subscriptTail (Expr.List _ _) _ (Value.ref _) (Value.int _ _)) _ _ _); k_dflt (refine' item_outK ?h ?l ?o ?lo ?hi ?_; (case h => rfl); (case l => kmk_list); (case o => first | (show _ < -((7 : Nat) : Int) ∨ ((7 : Nat) : Int) ≤ _; law_clear; omega) | (show _ < -((12 : Nat) : Int) ∨ ((12 : Nat) : Int) ≤ _; law_clear; omega)); (case lo => (law_clear; omega)); (case hi => (law_clear; omega)); intro h' tk' e' x')))
set_option maxHeartbeats 2000000 in
theorem c_ref (w : World) (Fa : Addr) (c : Nat) (tp tv : Tok) (p v : Int) (vs : List Value) (ns : List Int) (hI : IntsAre vs ns) (hlen : ns.length = 9) (hp0 : 0 ≤ p) (hp8 : p ≤ 8) (hv0 : -100 < v) (hv1 : v < 100) (hbad : NsBad (NsPut ns p v)) :
    Soft w 4 71 [.ref Fa, .int p tp, .int v tv] (fun h => h.get? Fa = some { cls := .type "list", data := .seq vs.toArray c }) (fun v => v = .bool true) := by
  unfold Soft
  k_fill
  intro mean mg mb dp un gd cn cs a ccd cl A₀ h₀ L m s E B F X T hk hpre hdp hu
  w_on
  w_strict (refine soft_call ?_; k_dflt (refine' code_soft ?k1 ?k2 ?k3 ?k5 ?kA ?kF ?kK ?k6 ?k7 ?k8 ?k9 ?kB ?_ ?c2 ?c3 ?c4 ?c5; (case kA => exact rfl); (case kF => exact rfl); (case kK => assumption); (case k1 => k_asm); (case k2 => k_asm); (case k3 => k_asm); (case k5 => k_asm); (case k6 => k_is); (case k7 => k_is); (case k8 => ktr_room); (case k9 => exact BindsTo.of_eq rfl); (case c5 => decide); (case kB => exact locs rfl); (case c2 => exact rfl); (case c3 => exact rfl); (case c4 => exact rfl); k_whole; intro g' L' h' hg' F' N' B' X' T' D'; (try dsimp only); (try k_fold)))
  rename _ = Shared.heap _ => hg
  subst hg
  rename Heap.get? _ Fa = some _ => hp
  obtain ⟨hL⟩ : Nonempty (Heap.IsList _ Fa vs.toArray) := ⟨⟨_, hp, rfl, _, rfl⟩⟩
  w_strict (walk_at "mine d")
  refine Halt.on ?_
  rename IntsAre _ _ => hQ
  have hql : (NsPut ns p v).length = 9 := by
    unfold NsPut
    simp only [List.length_append, List.length_cons, List.length_nil, List.length_take, List.length_drop]
    omega
  change IntsAre _ (NsPut ns p v) at hQ
  generalize NsPut ns p v = qs at hQ hql hbad
  unfold NsBad at hbad
  generalize hwd : qs.getD 6 0 = wd at hbad
  generalize hmo : qs.getD 1 0 = mo at hbad
  refine wpAny_call ?_
  k_dflt (refine' code_def ?k1 ?k2 ?k3 ?k4 ?k5 ?kA ?kF ?kK ?k6 ?k7 ?k8 ?k9 ?kB ?_ ?c2 ?c3 ?c4 ?c5)
  (case kA => exact rfl)
  (case kF => exact rfl); (case kK => exact rfl); (case k1 => k_asm); (case k2 => k_asm); (case k3 => k_asm); (case k4 => k_asm); (case k5 => k_asm); (case k6 => k_is); (case k7 => k_is)
  (case k8 => ktr_room)
  (case k9 => exact BindsTo.of_eq rfl)
  (case c5 => decide); (case kB => exact locs rfl); (case c2 => exact rfl); (case c3 => exact rfl); (case c4 => exact rfl); k_whole; intro g' L' h' FG' F' N' B' X' T'; (try dsimp only); (try k_lift B'); (try k_fold)
  rcases hbad with ⟨hA, hA1, hA2⟩ | ⟨hW, hM, hM1, hM2⟩
  · w_strict (walk_at "mine d")
    rename KtsTurn _ _ _ => hT
    rename Fr _ _ _ _ => F'
    exact ⟨⟨_, _, _, hT, F'⟩, ⟨_, _, rfl⟩, rfl⟩
  · w_strict (walk_at "mine d")
    rename KtsTurn _ _ _ => hT
    rename Fr _ _ _ _ => F'
    exact ⟨⟨_, _, _, hT, F'⟩, ⟨_, _, rfl⟩, rfl⟩
end

section
open PySem PySem.W PyProof.Rows PySem.Calls PySem.SeqAt
set_option maxRecDepth 100000
theorem slot_bytes_eq : Slot "bytes" (cmpInfo .Eq).2.1 "bytes.__eq__" :=
  .of (owner := "bytes") (n := "__eq__") (by rw [typeLookup_type, builtinLookup_eq_fast]; kernel_rfl) (by decide +kernel) (by decide +kernel) (by decide +kernel)
    (by first | exact .inl (by decide +kernel) | exact .inr (by decide +kernel)) (by rw [isSubtype_type]; kernel_rfl)
theorem entry_bytes_eq : entryFor table "bytes.__eq__" = some Builtin.«bytes.__eq__» := entryFor_of_tree (by kernel_rfl)
theorem own_bytes : Manifest.owners.lookup (String.ofList ['s', 'e', 't', 'y', 'b'].reverse) = some Manifest.sig_bytes := by kernel_rfl
theorem args_bytes_eq (a b : Value) : argsOk "bytes.__eq__" ⟨[a, b], []⟩ := by
  unfold argsOk; rw [signature?_of (id := "bytes.__eq__") (n := ['_', '_', 'q', 'e', '_', '_']) (o := ['s', 'e', 't', 'y', 'b']) (by kernel_rfl) own_bytes]; kernel_rfl
theorem order_self : ∀ x : List UInt8, Builtin.Bytes.order x x = .eq
  | [] => rfl
  | x :: xs => by
    have h : ¬ x < x := by simp [UInt8.lt_irrefl]
    simp only [Builtin.Bytes.order, GT.gt, h, if_false]; exact order_self xs
theorem gives_bytes_eq (x : Array UInt8) (t u : Tok) : Gives (Builtin.«bytes.__eq__» ⟨[.bytes x t, .bytes x u], []⟩) (.val (.bool true)) :=
  .of_wp fun M A E s Q h => by
    obtain ⟨hp, g, d, tk, os⟩ := s
    wp_walk
    refine wpAny_of_eq (show isSubtype (.type "bytes") (.type "bytes") = pure true from by rw [isSubtype_type]; kernel_rfl) ?_
    show wpAny M A (ret (Value.bool (Builtin.Bytes.holds "__eq__" (Builtin.Bytes.order x.toList x.toList)))) _ E _
    rw [order_self]
    exact wpAny_pure ⟨_, rfl, h⟩
theorem EqAt.bytes_same {A : Around} {s : Shared} (x : Array UInt8) (t u : Tok) : EqAt A s (.bytes x t) (.bytes x u) true := fun prog w E Q h => by
  unfold eqBool
  refine wpAny_holding ?_
  refine wpAny_ite_split (fun hab => ?_) (fun _ => ?_)
  · exact wpAny_bind (wpAny_rule (wpAny_pure h))
  · exact wpAny_bind (richCompare_gives (T := "bytes") rfl rfl slot_bytes_eq entry_bytes_eq (args_bytes_eq _ _) (gives_bytes_eq x t u) (fun x => nomatch x) (wpAny_truthy_bool h))
theorem ne_of_rc {prog : Program} {w : World} {A : Around} {E : Value → Shared → Prop} {s : Shared} {Q : Value → Shared → Prop} {a b : Value} {k : Bool} (h : RcNeAt A s a b k) (hq : Q (.bool k) s) :
    wpAny (model prog w) A (compareOp .NotEq a b) Q E s := h prog w E Q hq
theorem all_true (l : List Nat) : (l.all fun _ => true) = true := by simp [List.all_eq_true]
theorem ne_lists_same {prog : Program} {w : World} {A : Around} {E : Value → Shared → Prop} {s : Shared} {Q : Value → Shared → Prop} {l b : Addr} {items items2 : Array Value}
    (hl : s.heap.IsList l items) (hb : s.heap.IsList b items2) (hsz : items.size = items2.size) (hu : A.units < cLine)
    (he : ∀ j (h1 : j < items.size) (h2 : j < items2.size), EqAt A.in1 s items[j] items2[j] true) (hq : Q (.bool false) s) :
    wpAny (model prog w) A (compareOp .NotEq (.ref l) (.ref b)) Q E s :=
  ne_of_rc (k := false) (by have h := RcNeAt.lists (e := fun _ => true) hl hb hsz hu he; rw [all_true] at h; exact h) hq
theorem ne_tuples_same {prog : Program} {w : World} {A : Around} {E : Value → Shared → Prop} {s : Shared} {Q : Value → Shared → Prop} {l b : Addr} {items items2 : Array Value}
    (hl : s.heap.IsTuple l items) (hb : s.heap.IsTuple b items2) (hsz : items.size = items2.size) (hu : A.units < cLine)
    (he : ∀ j (h1 : j < items.size) (h2 : j < items2.size), EqAt A.in1 s items[j] items2[j] true) (hq : Q (.bool false) s) :
    wpAny (model prog w) A (compareOp .NotEq (.ref l) (.ref b)) Q E s :=
  ne_of_rc (k := false) (by have h := RcNeAt.tuples (e := fun _ => true) hl hb hu he; rw [all_true, hsz] at h; simpa using h) hq
def pickN {α : Type} (l : List α) : List Nat → List α
  | [] => []
  | i :: is => match l.drop i with
    | [] => pickN l is
    | x :: _ => x :: pickN l is
theorem pickN_mem {α : Type} (l : List α) : ∀ is : List Nat, ∀ p ∈ pickN l is, p ∈ l
  | [], p, h => by cases h
  | i :: is, p, h => by
    unfold pickN at h
    cases e : l.drop i with
    | nil => rw [e] at h; exact pickN_mem l is p h
    | cons x r =>
      rw [e] at h
      rcases List.mem_cons.mp h with rfl | h
      · exact List.mem_of_mem_drop (e ▸ List.mem_cons_self)
      · exact pickN_mem l is p h
theorem news_pick {h₀ h : Heap} {L : Addr} {news : List (Addr × Obj)} (N : News h₀ L h news) (is : List Nat) : News h₀ L h (pickN news is) := fun p hp => N p (pickN_mem _ is p hp)
end

section
open PySem PySem.W PyProof.Rows PySem.Calls
def wgt (l : List Int) (i : Nat) : Int := l.getD (l.length - 1 - i) 0 * 2 ^ i
theorem wgt_step (l : List Int) (c : Int) : ∀ k s : Nat, s + k ≤ l.length → (selL (fun _ => true) (wgt (l ++ [c])) (s + 1) k).sum = 2 * (selL (fun _ => true) (wgt l) s k).sum
  | 0, _, _ => by simp [selL]
  | k + 1, s, h => by
    have ih := wgt_step l c k (s + 1) (by omega)
    simp only [selL, if_true, List.sum_cons] at ih ⊢
    rw [ih]
    have e : wgt (l ++ [c]) (s + 1) = 2 * wgt l s := by
      unfold wgt
      have e1 : (l ++ [c]).length - 1 - (s + 1) = l.length - 1 - s := by rw [List.length_append, List.length_singleton]; omega
      have e2 : (l ++ [c]).getD (l.length - 1 - s) 0 = l.getD (l.length - 1 - s) 0 := by
        simp only [List.getD]
        rw [List.getElem?_append_left (by omega)]
      rw [e1, e2, Int.pow_succ, ← Int.mul_assoc, Int.mul_comm 2]
    rw [e, Int.mul_add]
theorem wgt_last (l : List Int) (c : Int) : (selL (fun _ => true) (wgt (l ++ [c])) 0 (l ++ [c]).length).sum = c + 2 * (selL (fun _ => true) (wgt l) 0 l.length).sum := by
  have h := wgt_step l c l.length 0 (by omega)
  rw [List.length_append, List.length_singleton]
  simp only [selL, if_true, List.sum_cons]
  rw [h]
  congr 1
  unfold wgt
  simp [List.getD]
theorem weigh (n : Nat) : (selL (fun _ => true) (wgt ((ap n).map fun c => ((c : Nat) : Int) - 65)) 0 ((ap n).map fun c => ((c : Nat) : Int) - 65).length).sum % 7 = (n : Int) % 7 := by
  induction n using Nat.strongRecOn with
  | ind n ih =>
    rcases Nat.eq_zero_or_pos n with rfl | h
    · rw [ap_zero]; rfl
    · have i := ih (n / 16) (by omega)
      rw [ap_pos h, List.map_append, List.map_cons, List.map_nil, wgt_last]
      generalize (selL (fun _ => true) (wgt ((ap (n / 16)).map fun c => ((c : Nat) : Int) - 65)) 0 ((ap (n / 16)).map fun c => ((c : Nat) : Int) - 65).length).sum = S at i ⊢
      push_cast
      omega
end

section
open PySem PySem.W PyProof.Rows PySem.Calls
set_option maxRecDepth 100000
theorem intsAre_mem {vs : List Value} {ns : List Int} (h : IntsAre vs ns) : ∀ v ∈ vs, ∃ k t, v = .int k t := by
  induction h with
  | nil => intro v hv; cases hv
  | cons n t _ ih =>
    intro v hv
    rcases List.mem_cons.mp hv with rfl | hv
    · exact ⟨_, _, rfl⟩
    · exact ih v hv
theorem pick_mem {its : Array Value} {lo hi st : Option Int} {i : Nat} {v : Value} (h : (slicePick its lo hi st)[i]? = some v) : v ∈ its.toList := by
  have hm : v ∈ (slicePick its lo hi st).toList := by
    rw [← Array.getElem?_toList] at h
    exact List.mem_of_getElem? h
  unfold slicePick at hm
  obtain ⟨j, _, hj⟩ := List.mem_filterMap.mp hm
  rw [← Array.getElem?_toList] at hj
  exact List.mem_of_getElem? hj
theorem sel_ints {zs : List Value} {n i : Nat} (h : Sel (fun _ => true) (fun _ y => ∃ k t, y = Value.int k t) i n zs) : ∃ ns, IntsAre zs ns := by
  induction h with
  | nil => exact ⟨[], .nil⟩
  | yes _ g _ ih =>
    obtain ⟨k, t, rfl⟩ := g
    obtain ⟨ns, hn⟩ := ih
    exact ⟨k :: ns, .cons _ _ hn⟩
  | no h _ _ => cases h
theorem selL_map {α β : Type} (f : α → β) (d : α) : ∀ (l : List α) (m : List α), selL (fun _ => true) (fun i => f ((m ++ l).getD i d)) m.length l.length = l.map f
  | [], _ => rfl
  | x :: l, m => by
    rw [List.length_cons, selL, if_pos rfl, List.map_cons]
    have h := selL_map f d l (m ++ [x])
    rw [List.append_assoc, List.length_append] at h
    have e : (m ++ x :: l).getD m.length d = x := by simp [List.getD]
    rw [e]
    exact congrArg _ h
theorem selL_all {α β : Type} (f : α → β) (d : α) (l : List α) : selL (fun _ => true) (fun i => f (l.getD i d)) 0 l.length = l.map f := selL_map f d l []
theorem apB_at {q i : Nat} {c : UInt8} (h : (apB q)[i]? = some c) : ((c.toNat : Nat) : Int) = (((ap q).getD i 0 : Nat) : Int) := by
  have h' : ((ap q).map UInt8.ofNat)[i]? = some c := by simpa [apB] using h
  rw [List.getElem?_map] at h'
  cases e : (ap q)[i]? with
  | none => rw [e] at h'; cases h'
  | some a =>
    rw [e] at h'
    have hc : UInt8.ofNat a = c := Option.some.inj h'
    have := ap_mem q a (List.mem_of_getElem? e)
    rw [← hc, List.getD, e, Option.getD_some, UInt8.toNat_ofNat']
    have : a % 2 ^ 8 = a := Nat.mod_eq_of_lt (by omega)
    rw [this]
end

section
/-- what is left to show, kept from the tactics' eyes -/
structure Hid (P : Prop) : Prop where
  out : P
end

section
open PySem PySem.W PyProof.Rows PySem.Calls
section
variable {prog : Program} {w : World} {A : Around} {E : Value → Shared → Prop} {s : Shared} {Q : Value → Shared → Prop}
theorem item_tupS {value slice : Expr} {a : Addr} {vs : List Value} {ys : List Str} {k : Int} {u : Tok} (hl : IsTup s.heap a vs.toArray) (hi : StrsAre vs ys) (h0 : 0 ≤ k) (hk : k < ys.length) (hb : ys.length ≤ 100)
    (h : ∀ t', Q (.str (ys.getD k.toNat Str.empty) t') s)
    (hs : subscripted slice false (.ref a) (.int k u) = operate [.ref a, .int k u] (getItem (.ref a) (.int k u)) := by with_unfolding_all rfl) :
    wpAny (model prog w) A (subscriptTail value slice (.ref a) (.int k u)) Q E s := by
  obtain ⟨t, ht⟩ := strsAre_at hi (j := k.toNat) (by omega)
  refine item_tupleT hl (by omega) (by omega) (j := k.toNat) ?_ ht (h t) hs
  unfold seqIndex?
  have e : ¬ k < 0 := by omega
  simp [e, strsAre_len hi, h0, hk]
end
theorem selL_len {α : Type} (f : Nat → α) : ∀ (k i : Nat), (selL (fun _ => true) f i k).length = k
  | 0, _ => rfl
  | k + 1, i => by rw [selL, if_pos rfl, List.length_cons, selL_len f k]
theorem figS_len (n k : Nat) : (figS n k).length = k := by
  simp [figS, Str.length, figL, selL_len]
theorem len_q : (Str.ofString "'").length = 1 := by decide +kernel
theorem len_c : (Str.ofString ", ").length = 2 := by decide +kernel
theorem len_b : (Str.ofString " ").length = 1 := by decide +kernel
theorem apS_len (n : Nat) (h : n < 16777216) : (apS n).length ≤ 6 := by
  have := ap_length 6 n (by simpa using h)
  simpa [apS, Str.length] using this
def restS (k : Int) : Str := [Str.ofString "Z'", Str.ofString "Z", Str.ofString "'Z", Str.ofString "'"].getD (k % 4).toNat Str.empty
theorem restS_len (k : Int) : (restS k).length ≤ 2 := getD_len (by decide +kernel) _
end

section
theorem ediv_is {a b q : Int} (hb : 0 < b) (h1 : b * q ≤ a) (h2 : a < b * q + b) : a / b = q := by
  have e : a = (a - b * q) + b * q := by omega
  rw [e, Int.add_mul_ediv_left _ _ (Int.ne_of_gt hb), Int.ediv_eq_zero_of_lt (by omega) (by omega), Int.zero_add]
theorem cf_lin1 {c p g : Int} (hc0 : 0 ≤ c) (hp0 : 0 ≤ p) (hg0 : 0 ≤ g) : 0 ≤ 36524 * c + 1461 * p + g := by omega
theorem cf_lin2 {c p g : Int} (hc1 : c ≤ 3) (hp1 : p ≤ 24) (hg1 : g ≤ 1460) (hpg : p = 24 → g ≤ 1459) : 36524 * c + 1461 * p + g < 146096 := by omega
theorem cf_lin3 {c p g : Int} (hp1 : p ≤ 24) (hg1 : g ≤ 1460) (hpg : p = 24 → g ≤ 1459) : 36524 * c + 1461 * p + g < 36524 * c + 36524 := by omega
theorem cf_e {c p g : Int} (hc0 : 0 ≤ c) (hc1 : c ≤ 3) (hp0 : 0 ≤ p) (hp1 : p ≤ 24) (hg0 : 0 ≤ g) (hg1 : g ≤ 1460) : ∃ e : Int, 1460 * (25 * c + p + e) ≤ 36524 * c + 1461 * p + g ∧ 36524 * c + 1461 * p + g < 1460 * (25 * c + p + e) + 1460 ∧ ((e = 0 ∧ g < 1460) ∨ (e = 1 ∧ 1364 ≤ g)) := by
  by_cases h : 24 * c + p + g < 1460
  · exact ⟨0, by omega, by omega, .inl ⟨rfl, by omega⟩⟩
  · exact ⟨1, by omega, by omega, .inr ⟨rfl, by omega⟩⟩
theorem cf_u {g e u : Int} (hg1 : g ≤ 1460) (he : (e = 0 ∧ g < 1460) ∨ (e = 1 ∧ 1364 ≤ g))
    (hu : (u = 0 ∧ g < 365) ∨ (u = 1 ∧ 365 ≤ g ∧ g < 730) ∨ (u = 2 ∧ 730 ≤ g ∧ g < 1095) ∨ (u = 3 ∧ 1095 ≤ g)) (hg0 : 0 ≤ g) : 365 * u ≤ g - e ∧ g - e < 365 * u + 365 := by
  rcases he with ⟨rfl, h⟩ | ⟨rfl, h⟩
  · omega
  · omega
theorem cf_parts {c p g u : Int} (hc0 : 0 ≤ c) (hc1 : c ≤ 3) (hp0 : 0 ≤ p) (hp1 : p ≤ 24) (hg0 : 0 ≤ g) (hg1 : g ≤ 1460) (hpg : p = 24 → g ≤ 1459)
    (hu : (u = 0 ∧ g < 365) ∨ (u = 1 ∧ 365 ≤ g ∧ g < 730) ∨ (u = 2 ∧ 730 ≤ g ∧ g < 1095) ∨ (u = 3 ∧ 1095 ≤ g)) : cfY (36524 * c + 1461 * p + g) = 100 * c + 4 * p + u := by
  obtain ⟨e, e1, e2, he⟩ := cf_e hc0 hc1 hp0 hp1 hg0 hg1
  obtain ⟨u1, u2⟩ := cf_u hg1 he hu hg0
  have l1 := cf_lin1 hc0 hp0 hg0
  have l2 := cf_lin2 hc1 hp1 hg1 hpg
  have l3 := cf_lin3 (c := c) hp1 hg1 hpg
  unfold cfY
  rw [ediv_is (b := 146096) (q := 0) (by decide) l1 l2, ediv_is (b := 36524) (q := c) (by decide) (by clear l1 l2 l3 e1 e2 u1 u2 hu he hpg; omega) l3, ediv_is (b := 1460) (by decide) e1 e2]
  clear l1 l2 l3 e1 e2 he hu hpg hc0 hc1 hp0 hp1 hg0 hg1
  exact ediv_is (by decide) (by omega) (by omega)
theorem cf_end {c p g u : Int} (hc0 : 0 ≤ c) (hc1 : c ≤ 3) (hp0 : 0 ≤ p) (hp1 : p ≤ 24) (hg1 : g ≤ 1460) (hpg : p = 24 → g ≤ 1459) (hg : g < 365 * u + 365 ∨ (u = 3 ∧ g ≤ 1460)) (hu0 : 0 ≤ u) (hu3 : u ≤ 3) :
    36524 * c + 1461 * p + g < 365 * (100 * c + 4 * p + u + 1) + (100 * c + 4 * p + u + 1) / 4 - (100 * c + 4 * p + u + 1) / 100 + (100 * c + 4 * p + u + 1) / 400 := by
  by_cases h3 : u = 3
  · subst h3
    rw [ediv_is (a := 100 * c + 4 * p + 3 + 1) (b := 4) (q := 25 * c + p + 1) (by decide) (by clear hc0 hc1 hp0 hp1 hg1 hpg hg; omega) (by clear hc0 hc1 hp0 hp1 hg1 hpg hg; omega)]
    by_cases h24 : p = 24
    · subst h24
      have g9 := hpg rfl
      clear hpg hg hg1 hp0 hp1
      rw [ediv_is (a := 100 * c + 4 * 24 + 3 + 1) (b := 100) (q := c + 1) (by decide) (by clear g9; omega) (by clear g9; omega)]
      have h4 : 0 ≤ (100 * c + 4 * 24 + 3 + 1) / 400 := Int.ediv_nonneg (by clear g9; omega) (by decide)
      clear hc0 hc1
      omega
    · have p23 : p ≤ 23 := by clear hc0 hc1 hp0 hg1 hpg hg; omega
      clear hpg hp1 h24
      rw [ediv_is (a := 100 * c + 4 * p + 3 + 1) (b := 100) (q := c) (by decide) (by clear hg hg1; omega) (by clear hg hg1; omega)]
      have h4 : 0 ≤ (100 * c + 4 * p + 3 + 1) / 400 := Int.ediv_nonneg (by clear hg hg1; omega) (by decide)
      clear hc0 hc1 hp0 p23 hg
      omega
  · have u2 : u ≤ 2 := by clear hc0 hc1 hp0 hp1 hg1 hpg hg; omega
    have g9 : g < 365 * u + 365 := by clear hc0 hc1 hp0 hp1 hg1 hpg; omega
    clear hpg hg hg1 h3 hu3
    have h4 : 0 ≤ (100 * c + 4 * p + u + 1) / 400 := Int.ediv_nonneg (by clear g9; omega) (by decide)
    rw [ediv_is (a := 100 * c + 4 * p + u + 1) (b := 4) (q := 25 * c + p) (by decide) (by clear g9 h4; omega) (by clear g9 h4; omega), ediv_is (a := 100 * c + 4 * p + u + 1) (b := 100) (q := c) (by decide) (by clear g9 h4; omega) (by clear g9 h4; omega)]
    clear hc0 hc1 hp0 hp1 u2 hu0
    omega
theorem cf_bounds {d : Int} (h0 : 0 ≤ d) (h1 : d < 146097) : 0 ≤ cfY d ∧ cfY d ≤ 399 ∧ 365 * cfY d + cfY d / 4 - cfY d / 100 ≤ d ∧ d < 365 * (cfY d + 1) + (cfY d + 1) / 4 - (cfY d + 1) / 100 + (cfY d + 1) / 400 := by
  by_cases hz : d = 146096
  · subst hz; decide
  obtain ⟨c, x, hc0, hc1, hx0, hx1, rfl⟩ : ∃ c x : Int, 0 ≤ c ∧ c ≤ 3 ∧ 0 ≤ x ∧ x < 36524 ∧ d = 36524 * c + x := ⟨d / 36524, d % 36524, by omega, by omega, Int.emod_nonneg _ (by decide), Int.emod_lt_of_pos _ (by decide), (Int.mul_ediv_add_emod _ _).symm⟩
  clear h0 h1 hz
  obtain ⟨p, g, hp0, hp1, hg0, hg1, rfl⟩ : ∃ p g : Int, 0 ≤ p ∧ p ≤ 24 ∧ 0 ≤ g ∧ g < 1461 ∧ x = 1461 * p + g := ⟨x / 1461, x % 1461, by clear hc0 hc1; omega, by clear hc0 hc1; omega, Int.emod_nonneg _ (by decide), Int.emod_lt_of_pos _ (by decide), (Int.mul_ediv_add_emod _ _).symm⟩
  have hpg : p = 24 → g ≤ 1459 := by clear hc0 hc1 hp0 hp1 hg0 hg1 hx0; omega
  clear hx0 hx1
  have hg1 : g ≤ 1460 := Int.le_of_lt_add_one hg1
  obtain ⟨u, hu⟩ : ∃ u : Int, (u = 0 ∧ g < 365) ∨ (u = 1 ∧ 365 ≤ g ∧ g < 730) ∨ (u = 2 ∧ 730 ≤ g ∧ g < 1095) ∨ (u = 3 ∧ 1095 ≤ g) := by
    by_cases a : g < 365
    · exact ⟨0, .inl ⟨rfl, a⟩⟩
    by_cases b : g < 730
    · exact ⟨1, .inr (.inl ⟨rfl, Int.not_lt.mp a, b⟩)⟩
    by_cases e : g < 1095
    · exact ⟨2, .inr (.inr (.inl ⟨rfl, Int.not_lt.mp b, e⟩))⟩
    · exact ⟨3, .inr (.inr (.inr ⟨rfl, Int.not_lt.mp e⟩))⟩
  rw [← Int.add_assoc, cf_parts hc0 hc1 hp0 hp1 hg0 hg1 hpg hu]
  obtain ⟨u0, u3, ug, gu⟩ : 0 ≤ u ∧ u ≤ 3 ∧ 365 * u ≤ g ∧ (g < 365 * u + 365 ∨ (u = 3 ∧ g ≤ 1460)) := by
    clear hc0 hc1 hp0 hp1 hpg
    rcases hu with ⟨rfl, a⟩ | ⟨rfl, a, b⟩ | ⟨rfl, a, b⟩ | ⟨rfl, a⟩
    · exact ⟨by decide, by decide, hg0, .inl a⟩
    · exact ⟨by decide, by decide, a, .inl b⟩
    · exact ⟨by decide, by decide, a, .inl b⟩
    · exact ⟨by decide, by decide, a, .inr ⟨rfl, hg1⟩⟩
  clear hu
  refine ⟨by clear hg0 hg1 hpg gu ug; omega, by clear hg0 hg1 hpg gu ug; omega, ?_, cf_end hc0 hc1 hp0 hp1 hg1 hpg gu u0 u3⟩
  clear hpg gu hg0 hg1
  rw [ediv_is (a := 100 * c + 4 * p + u) (b := 4) (q := 25 * c + p) (by decide) (by clear ug; omega) (by clear ug; omega), ediv_is (a := 100 * c + 4 * p + u) (b := 100) (q := c) (by decide) (by clear ug; omega) (by clear ug; omega)]
  clear hc0 hc1 hp0 hp1 u0 u3
  omega
/-- the days of so many years -/
def dp (y : Int) : Int := 365 * y + y / 4 - y / 100 + y / 400
theorem dp_step (y : Int) : dp y = dp (y - 1) + 365 + (if isLeap y then 1 else 0) := by
  have a4 : y / 4 = (y - 1) / 4 + (if y % 4 = 0 then 1 else 0) := by split <;> omega
  have a100 : y / 100 = (y - 1) / 100 + (if y % 100 = 0 then 1 else 0) := by split <;> omega
  have a400 : y / 400 = (y - 1) / 400 + (if y % 400 = 0 then 1 else 0) := by split <;> omega
  have b : (if isLeap y then (1 : Int) else 0) = (if y % 4 = 0 then 1 else 0) - (if y % 100 = 0 then 1 else 0) + (if y % 400 = 0 then 1 else 0) := by
    unfold isLeap
    clear a4 a100 a400
    by_cases h4 : y % 4 = 0
    · by_cases h100 : y % 100 = 0
      · by_cases h400 : y % 400 = 0
        · simp [h4, h100, h400]
        · simp [h4, h100, h400]
      · have h400 : y % 400 ≠ 0 := by omega
        simp [h4, h100, h400]
    · have h100 : y % 100 ≠ 0 := by omega
      have h400 : y % 400 ≠ 0 := by omega
      simp [h4, h100, h400]
  rw [b]
  unfold dp
  rw [a4, a100, a400]
  generalize (if y % 4 = 0 then (1 : Int) else 0) = p
  generalize (if y % 100 = 0 then (1 : Int) else 0) = q
  generalize (if y % 400 = 0 then (1 : Int) else 0) = r
  omega
theorem dp_lt (y : Int) : dp (y - 1) + 365 ≤ dp y := by
  rw [dp_step y]
  split <;> omega
theorem dp_mono : ∀ (k : Nat) (y : Int), dp y ≤ dp (y + k)
  | 0, y => by simp
  | k + 1, y => by
    have h1 := dp_mono k y
    have h2 := dp_lt (y + (k + 1 : Nat))
    rw [show y + ((k + 1 : Nat) : Int) - 1 = y + (k : Int) by push_cast; omega] at h2
    omega
theorem dp_le {a b : Int} (h : a ≤ b) : dp a ≤ dp b := by
  have := dp_mono (b - a).toNat a
  rwa [show a + ((b - a).toNat : Int) = b by omega] at this
theorem dp_era (y e : Int) (h0 : 0 ≤ y) (h1 : y ≤ 399) : dp (y + 400 * e) = 146097 * e + (365 * y + y / 4 - y / 100) := by
  unfold dp
  have a4 : (y + 400 * e) / 4 = y / 4 + 100 * e := by omega
  have a100 : (y + 400 * e) / 100 = y / 100 + 4 * e := by omega
  have a400 : (y + 400 * e) / 400 = e := by omega
  rw [a4, a100, a400]
  omega
theorem dp_era1 (y e : Int) : dp (y + 400 * e) = 146097 * e + dp y := by
  unfold dp
  have a4 : (y + 400 * e) / 4 = y / 4 + 100 * e := by omega
  have a100 : (y + 400 * e) / 100 = y / 100 + 4 * e := by omega
  have a400 : (y + 400 * e) / 400 = y / 400 + e := by omega
  rw [a4, a100, a400]
  omega
theorem ahead_dp (y k : Int) : ahead y k = dp (y - 1) + ((mlen (isLeap y)).take (k - 1).toNat).sum := rfl
theorem mlen_early : ∀ (l : Bool) (j : Fin 2), ((mlen l).take j.val).sum = (153 * ((j.val : Int) + 10) + 2) / 5 - 306 := by decide
theorem mlen_late : ∀ (l : Bool) (j : Fin 10), ((mlen l).take (j.val + 2)).sum = 59 + (if l then 1 else 0) + (153 * (j.val : Int) + 2) / 5 := by decide
theorem ahead_early (y k : Int) (hk : k = 1 ∨ k = 2) : ahead y k = dp (y - 1) + ((153 * (k + 9) + 2) / 5 - 306) := by
  rw [ahead_dp]
  rcases hk with rfl | rfl
  · exact congrArg _ (mlen_early _ 0)
  · exact congrArg _ (mlen_early _ 1)
theorem ahead_late (y k : Int) (h3 : 3 ≤ k) (h12 : k ≤ 12) : ahead y k = dp y + (153 * (k - 3) + 2) / 5 - 306 := by
  obtain ⟨j, rfl⟩ : ∃ j : Fin 10, k = (j.val : Int) + 3 := ⟨⟨(k - 3).toNat, by omega⟩, by simp only; omega⟩
  clear h3 h12
  rw [ahead_dp, dp_step y, show ((j.val : Int) + 3 - 1).toNat = j.val + 2 by omega, mlen_late, Int.add_sub_cancel]
  generalize (if isLeap y = true then (1 : Int) else 0) = q
  generalize (153 * (j.val : Int) + 2) / 5 = z
  omega
end

section
open PySem PySem.W PyProof.Rows PySem.Calls
/-- what the closed form's parts say of the number -/
theorem date_core (n : Int) : ∃ y r : Int, n = dp y + r - 306 ∧ 0 ≤ r ∧ dp y + r < dp (y + 1) ∧ cfR (cfD n) = r ∧ y = cfY (cfD n) + 400 * ((n + 306) / 146097) := by
  have h0 : 0 ≤ cfD n := by unfold cfD; omega
  have h1 : cfD n < 146097 := by unfold cfD; omega
  obtain ⟨a, b, c, e⟩ := cf_bounds h0 h1
  refine ⟨cfY (cfD n) + 400 * ((n + 306) / 146097), cfR (cfD n), ?_, ?_, ?_, rfl, rfl⟩
  · rw [dp_era _ _ a b]
    unfold cfR
    have : n + 306 = 146097 * ((n + 306) / 146097) + cfD n := by unfold cfD; omega
    omega
  · unfold cfR; omega
  · rw [show cfY (cfD n) + 400 * ((n + 306) / 146097) + 1 = (cfY (cfD n) + 1) + 400 * ((n + 306) / 146097) by omega, dp_era1, dp_era1]
    unfold cfR
    unfold dp
    omega
theorem year_min {n Y : Int} (h0 : ahead Y 1 ≤ n) (h1 : n < ahead (Y + 1) 1) (h2 : n / 366 + 1 ≤ Y) : ∀ i : Nat, yearAt n i = min (n / 366 + 1 + i) Y
  | 0 => by rw [yearAt]; omega
  | i + 1 => by
    rw [yearAt, year_min h0 h1 h2 i]
    by_cases h : n / 366 + 1 + (i : Int) < Y
    · have e : min (n / 366 + 1 + (i : Int)) Y = n / 366 + 1 + (i : Int) := by omega
      rw [e]
      have hle : ahead (n / 366 + 1 + (i : Int) + 1) 1 ≤ n := by
        rw [ahead_early _ _ (.inl rfl)] at h0 ⊢
        have := dp_le (show n / 366 + 1 + (i : Int) + 1 - 1 ≤ Y - 1 by omega)
        omega
      rw [if_pos hle]
      push_cast; omega
    · have e : min (n / 366 + 1 + (i : Int)) Y = Y := by omega
      rw [e, if_neg (by omega)]
      push_cast; omega
theorem year_22 {n Y : Int} (hn : 0 ≤ n) (h0 : ahead Y 1 ≤ n) (h1 : n < ahead (Y + 1) 1) (hY : Y < 10000) (hY0 : 0 < Y) : yearAt n 22 = Y := by
  have hlo : n / 366 + 1 ≤ Y := by
    rw [ahead_early _ _ (.inl rfl)] at h1
    unfold dp at h1
    omega
  have hhi : Y ≤ n / 366 + 1 + 22 := by
    rw [ahead_early _ _ (.inl rfl)] at h0
    unfold dp at h0
    omega
  rw [year_min h0 h1 hlo 22]
  omega
theorem plain_in {n m : Int} : m ∈ PlainL n ↔ (1 ≤ m ∧ m ≤ 12 ∧ ahead (yearAt n 22) m ≤ n) := by
  unfold PlainL
  generalize yearAt n 22 = Y
  constructor
  · intro h
    obtain ⟨j, a, b, c, rfl⟩ := selL_mem h
    exact ⟨by omega, by omega, of_decide_eq_true c⟩
  · rintro ⟨a, b, c⟩
    have key : ∀ (k i : Nat), (i : Int) + 1 ≤ m → m < (i : Int) + 1 + k → m ∈ selL (fun i => decide (ahead Y (1 + (i : Int)) ≤ n)) (fun i => 1 + (i : Int)) i k := by
      intro k
      induction k with
      | zero => intro i h1 h2; omega
      | succ k ih =>
        intro i h1 h2
        rw [selL]
        by_cases e : m = 1 + (i : Int)
        · rw [if_pos (by rw [← e]; exact decide_eq_true c), e]; exact .head _
        · have := ih (i + 1) (by push_cast; omega) (by push_cast at h2 ⊢; omega)
          split
          · exact .tail _ this
          · exact this
    exact key 12 0 (by omega) (by omega)
theorem date_a {n y r p : Int} (h0 : 0 ≤ n) (hy0 : 0 < y) (hy1 : y < 10000) (hn : n = dp y + r - 306) (hr0 : 0 ≤ r) (h1 : 153 * p ≤ 5 * r + 2) (h2 : 5 * r + 2 < 153 * p + 153) (hp0 : 0 ≤ p) (hp1 : p < 10) :
    1 ≤ r - (153 * p + 2) / 5 + 1 ∧ r - (153 * p + 2) / 5 + 1 ≤ 31 ∧ yearAt n 22 = y ∧ (∀ M, PlainM n M → M = p + 3) ∧ n - ahead y (p + 3) + 1 = r - (153 * p + 2) / 5 + 1 := by
  have d1 : 1 ≤ r - (153 * p + 2) / 5 + 1 := by clear h0 hy0 hy1 hn hr0 h2 hp0 hp1; omega
  have d2 : r - (153 * p + 2) / 5 + 1 ≤ 31 := by clear h0 hy0 hy1 hn hr0 h1 hp0 hp1 d1; omega
  have e22 : yearAt n 22 = y := by
    have hlo := dp_lt y
    have r305 : r ≤ 305 := by clear h0 hy0 hy1 hn hr0 h1 hp0 d1 d2 hlo; omega
    clear h1 h2 hp0 hp1 d1 d2
    refine year_22 h0 ?_ ?_ hy1 hy0
    · rw [ahead_early _ _ (.inl rfl)]; omega
    · rw [ahead_early _ _ (.inl rfl), Int.add_sub_cancel]; omega
  have hA : n - ahead y (p + 3) + 1 = r - (153 * p + 2) / 5 + 1 := by
    rw [ahead_late _ _ (Int.le_add_of_nonneg_left hp0) (by clear h0 hy0 hy1 hn hr0 h1 h2 hp0 d1 d2 e22; omega), Int.add_sub_cancel, hn]
    generalize (153 * p + 2) / 5 = q
    clear h0 hy0 hy1 hn hr0 h1 h2 hp0 hp1 d1 d2 e22
    omega
  refine ⟨d1, d2, e22, fun M hPM => ?_, hA⟩
  obtain ⟨hin, hmax⟩ := hPM
  have hme := hmax (p + 3) (plain_in.mpr ⟨by clear h0 hy0 hy1 hn hr0 h1 h2 hp1 d1 d2 e22 hA; omega, by clear h0 hy0 hy1 hn hr0 h1 h2 hp0 d1 d2 e22 hA; omega, by
    rw [e22]
    generalize ahead y (p + 3) = a at hA ⊢
    generalize r - (153 * p + 2) / 5 + 1 = b at d1 hA
    clear h0 hy0 hy1 hn hr0 h1 h2 hp0 hp1 d2 e22
    omega⟩)
  obtain ⟨m1, m2, m3⟩ := plain_in.mp hin
  clear hin hmax d1 d2 hA hy0 hy1 hr0 h0
  rw [e22, ahead_late _ _ (Int.le_trans (Int.le_add_of_nonneg_left hp0) hme) m2, hn] at m3
  clear hn e22 m1 m2 h1 hp0 hp1
  omega
theorem date_b {n y r p : Int} (h0 : 0 ≤ n) (hy0 : 0 ≤ y) (hy1 : y < 9999) (hn : n = dp y + r - 306) (h1 : 153 * p ≤ 5 * r + 2) (h2 : 5 * r + 2 < 153 * p + 153) (hp0 : 10 ≤ p) (hp1 : p ≤ 11) (hr1 : dp y + r < dp (y + 1)) (hr2 : r ≤ 365) :
    1 ≤ r - (153 * p + 2) / 5 + 1 ∧ r - (153 * p + 2) / 5 + 1 ≤ 31 ∧ yearAt n 22 = y + 1 ∧ (∀ M, PlainM n M → M = p - 9) ∧ n - ahead (y + 1) (p - 9) + 1 = r - (153 * p + 2) / 5 + 1 := by
  have d1 : 1 ≤ r - (153 * p + 2) / 5 + 1 := by clear h0 hy0 hy1 hn h2 hp0 hp1 hr1 hr2; omega
  have d2 : r - (153 * p + 2) / 5 + 1 ≤ 31 := by clear h0 hy0 hy1 hn h1 hp0 hp1 hr1 hr2 d1; omega
  have e22 : yearAt n 22 = y + 1 := by
    have r306 : 306 ≤ r := by clear h0 hy0 hy1 hn h2 hp1 hr1 hr2 d1 d2; omega
    clear h1 h2 hp0 hp1 d1 d2 hr2
    refine year_22 h0 ?_ ?_ (Int.add_lt_add_right hy1 1) (Int.lt_add_one_of_le hy0)
    · rw [ahead_early _ _ (.inl rfl), Int.add_sub_cancel]; clear hr1 hy0 hy1; omega
    · rw [ahead_early _ _ (.inl rfl), Int.add_sub_cancel]; clear r306 hy0 hy1; omega
  have hA : n - ahead (y + 1) (p - 9) + 1 = r - (153 * p + 2) / 5 + 1 := by
    rw [ahead_early _ _ (by clear h0 hy0 hy1 hn h1 h2 hr1 hr2 d1 d2 e22; omega), Int.add_sub_cancel, Int.sub_add_cancel, hn]
    generalize (153 * p + 2) / 5 = q
    clear h0 hy0 hy1 hn h1 h2 hp0 hp1 d1 d2 e22 hr1 hr2
    omega
  refine ⟨d1, d2, e22, fun M hPM => ?_, hA⟩
  obtain ⟨hin, hmax⟩ := hPM
  have hme := hmax (p - 9) (plain_in.mpr ⟨by clear h0 hy0 hy1 hn h1 h2 hp1 d1 d2 e22 hA hr1 hr2; omega, by clear h0 hy0 hy1 hn h1 h2 hp0 d1 d2 e22 hA hr1 hr2; omega, by
    rw [e22]
    generalize ahead (y + 1) (p - 9) = a at hA ⊢
    generalize r - (153 * p + 2) / 5 + 1 = b at d1 hA
    clear h0 hy0 hy1 hn h1 h2 hp0 hp1 d2 e22 hr1 hr2
    omega⟩)
  obtain ⟨m1, m2, m3⟩ := plain_in.mp hin
  clear hin hmax d1 d2 hA hy0 hy1 h0
  rw [e22] at m3
  by_cases hm3 : M < 3
  · rw [ahead_early _ _ (by clear hn h1 h2 hp0 hp1 hr1 hr2 m3 m2 hme e22; omega), Int.add_sub_cancel, hn] at m3
    clear hn e22 m2 h1 hp1 hr1 hr2
    omega
  · exfalso
    rw [ahead_late _ _ (Int.not_lt.mp hm3) m2, hn] at m3
    clear hn e22 m1 m2 h1 h2 hp0 hp1 hr2 hme
    omega
theorem year_hi {y n r : Int} (hn : n = dp y + r - 306) (hr0 : 0 ≤ r) (h1 : n < 3652059) (K : Int) (hK : 3652364 < dp K) : y < K :=
  Int.not_le.mp fun h => by
    have := dp_le h
    omega
theorem year_lo {y n r : Int} (hn : n = dp y + r - 306) (hr1 : dp y + r < dp (y + 1)) (h0 : 0 ≤ n) : 0 ≤ y :=
  Int.not_lt.mp fun h => by
    have e := dp_le (show y + 1 ≤ 0 from h)
    rw [show dp 0 = 0 from rfl] at e
    omega
theorem cfM_b (r : Int) : 153 * cfM r ≤ 5 * r + 2 ∧ 5 * r + 2 < 153 * cfM r + 153 := by
  unfold cfM
  generalize 5 * r + 2 = a
  omega
theorem date_facts (n : Int) (h0 : 0 ≤ n) (h1 : n < 3652059) : 0 < dateY n ∧ dateY n < 10000 ∧ 1 ≤ dateM n ∧ dateM n ≤ 12 ∧ 1 ≤ dateD n ∧ dateD n ≤ 31 ∧ yearAt n 22 = dateY n ∧ (∀ M, PlainM n M → M = dateM n) ∧ n - ahead (dateY n) (dateM n) + 1 = dateD n := by
  obtain ⟨y, r, hn, hr0, hr1, er, ey⟩ := date_core n
  have hr2 : r ≤ 365 := by
    have := dp_step (y + 1)
    rw [Int.add_sub_cancel] at this
    clear er ey hn h0 h1 hr0
    split at this <;> omega
  have hy0 := year_lo hn hr1 h0
  have hy1 := year_hi hn hr0 h1 10000 (by decide)
  obtain ⟨b1, b2⟩ := cfM_b r
  have eD : dateD n = r - (153 * cfM r + 2) / 5 + 1 := by unfold dateD; rw [er]
  have eM : dateM n = cfMonth (cfM r) := by unfold dateM; rw [er]
  have eY : dateY n = y + (if dateM n < 3 then 1 else 0) := by rw [ey]; rfl
  rw [eD, eY, eM]
  clear eD eM eY er ey
  generalize cfM r = p at b1 b2
  have hp0 : 0 ≤ p := by clear hn hr1 hr2 hy0 hy1 h0 h1 b1; omega
  have hp1 : p ≤ 11 := by clear hn hr1 hr0 hy0 hy1 h0 h1 b2 hp0; omega
  unfold cfMonth
  by_cases hp10 : p < 10
  · have hpos : 0 < y := by
      rcases Int.le_iff_lt_or_eq.mp hy0 with e | e
      · exact e
      subst e
      rw [show dp 0 = 0 from rfl] at hn
      clear hr1 hr2 hy0 hy1 h1 b1 hp1
      omega
    obtain ⟨a1, a2, a3, a4, a5⟩ := date_a h0 hpos hy1 hn hr0 b1 b2 hp0 hp10
    clear hn hr0 hr1 hr2 h0 h1 b1 b2 hp1 hy0
    rw [if_pos hp10, if_neg (by clear a1 a2 a5 hpos hy1; omega), Int.add_zero]
    exact ⟨hpos, hy1, by clear a1 a2 a5 hpos hy1; omega, by clear a1 a2 a5 hpos hy1; omega, a1, a2, a3, a4, a5⟩
  · have hp9 := Int.not_lt.mp hp10
    have hy2 : y < 9999 := by
      rcases Int.le_iff_lt_or_eq.mp (Int.le_of_lt_add_one hy1 : y ≤ 9999) with e | e
      · exact e
      subst e
      rw [show dp 9999 = 3652059 from rfl] at hn
      clear hr1 hr2 hy0 hy1 h0 b2 hp1 hp10
      omega
    obtain ⟨a1, a2, a3, a4, a5⟩ := date_b h0 hy0 hy2 hn b1 b2 hp9 hp1 hr1 hr2
    clear hn hr0 hr1 hr2 h0 h1 b1 b2 hy1 hp0
    rw [if_neg hp10, if_pos (by clear a1 a2 a5 hy0 hy2 hp10; omega)]
    exact ⟨Int.lt_add_one_of_le hy0, Int.add_lt_add_right hy2 1, by clear a1 a2 a5 hy0 hy2 hp10; omega, by clear a1 a2 a5 hy0 hy2 hp10; omega, a1, a2, a3, a4, a5⟩
end

section
open PySem PySem.W PyProof.Rows PySem.Calls
theorem len_k : (Str.ofString ":").length = 1 := by decide +kernel
theorem join3 (x a b c : Str) : Txt.join x [a, b, c] = a ++ x ++ b ++ x ++ c := by
  rw [show Txt.join x [a, b, c] = Str.join x [a, b, c] from eq_of_beq (join_plain_closes _ _)]
  simp only [Str.join, Str.append_assoc]
def dateS (n k : Int) : Str := wdNames.getD (n % 7).toNat Str.empty ++ Str.ofString ", " ++ figS (dateD n).toNat (Int.toNat 2) ++ Str.ofString " " ++ monNames.getD (dateM n - 1).toNat Str.empty ++ Str.ofString " " ++ figS (dateY n).toNat (Int.toNat 4) ++ Str.ofString " " ++ (figS (k / 3600).toNat 2 ++ Str.ofString ":" ++ figS (k / 60 % 60).toNat 2 ++ Str.ofString ":" ++ figS (k % 60).toNat 2) ++ Str.ofString " "
theorem told_eq (n k : Int) (z : Str) : fmtS (wdNames.getD (n % 7).toNat Str.empty) (monNames.getD (dateM n - 1).toNat Str.empty) z (dateD n) (dateY n) (k / 3600) (k / 60 % 60) (k % 60) = dateS n k ++ z := by
  unfold fmtS dateS
  simp only [Str.append_assoc]
  rfl
theorem dateS_len (n k : Int) : (dateS n k).length ≤ 29 := by
  unfold dateS
  have h1 := wd_len (n % 7).toNat
  have h2 := mon_len (dateM n - 1).toNat
  have h3 : Int.toNat 2 = 2 := rfl
  have h4 : Int.toNat 4 = 4 := rfl
  simp only [Str.length_append, len_c, len_b, len_k, figS_len]
  omega
theorem ap_tick (n : Nat) : 39 ∉ (apS n).cps.toList := by
  intro h
  have := ap_mem n 39 (by simpa [apS] using h)
  omega
theorem selL_in {p : Nat → Bool} {f : Nat → Nat} (h : ∀ i, 48 ≤ f i) : ∀ (k i : Nat), ∀ c ∈ selL p f i k, 48 ≤ c
  | 0, _, c, hc => by cases hc
  | k + 1, i, c, hc => by
    rw [selL] at hc
    split at hc
    · rcases List.mem_cons.mp hc with rfl | hc
      · exact h i
      · exact selL_in h k _ c hc
    · exact selL_in h k _ c hc
theorem fig_tick (n k : Nat) : 39 ∉ (figS n k).cps.toList := by
  intro h
  have := selL_in (p := fun _ => true) (f := fun i => 48 + n / 10 ^ (k - 1 - i) % 10) (fun i => Nat.le_add_right _ _) k 0 39 (by simpa [figS, figL] using h)
  omega
theorem getD_tick {l : List Str} (h : ∀ x ∈ l, 39 ∉ x.cps.toList) (j : Nat) : 39 ∉ (l.getD j Str.empty).cps.toList := by
  by_cases hj : j < l.length
  · have e : l.getD j Str.empty = l[j] := by simp [hj]
    rw [e]; exact h _ (List.getElem_mem hj)
  · have e : l.getD j Str.empty = Str.empty := by simp [List.getD, List.getElem?_eq_none (Nat.not_lt.mp hj)]
    rw [e]; intro h; cases h
theorem app_tick {a b : Str} (ha : 39 ∉ a.cps.toList) (hb : 39 ∉ b.cps.toList) : 39 ∉ (a ++ b).cps.toList := by
  rw [Str.cps_append, Array.toList_append]
  intro h
  rcases List.mem_append.mp h with h | h
  · exact ha h
  · exact hb h
theorem dateS_tick (n k : Int) : 39 ∉ (dateS n k).cps.toList := by
  unfold dateS
  have hb : 39 ∉ (Str.ofString " ").cps.toList := by decide +kernel
  have hk : 39 ∉ (Str.ofString ":").cps.toList := by decide +kernel
  have hc : 39 ∉ (Str.ofString ", ").cps.toList := by decide +kernel
  have hw : 39 ∉ (wdNames.getD (n % 7).toNat Str.empty).cps.toList := getD_tick (by decide +kernel) _
  have hm : 39 ∉ (monNames.getD (dateM n - 1).toNat Str.empty).cps.toList := getD_tick (by decide +kernel) _
  exact app_tick (app_tick (app_tick (app_tick (app_tick (app_tick (app_tick (app_tick (app_tick hw hc) (fig_tick _ _)) hb) hm) hb) (fig_tick _ _)) hb) (app_tick (app_tick (app_tick (app_tick (fig_tick _ _) hk) (fig_tick _ _)) hk) (fig_tick _ _))) hb
/-- the date's first part; the clock -/
def dateA (n : Int) : Str := wdNames.getD (n % 7).toNat Str.empty ++ Str.ofString ", " ++ figS (dateD n).toNat (Int.toNat 2) ++ Str.ofString " " ++ monNames.getD (dateM n - 1).toNat Str.empty ++ Str.ofString " " ++ figS (dateY n).toNat (Int.toNat 4)
def dateJ (k : Int) : Str := figS (k / 3600).toNat 2 ++ Str.ofString ":" ++ figS (k / 60 % 60).toNat 2 ++ Str.ofString ":" ++ figS (k % 60).toNat 2
theorem dateA_len (n : Int) : (dateA n).length ≤ 16 := by
  unfold dateA
  have h1 := wd_len (n % 7).toNat
  have h2 := mon_len (dateM n - 1).toNat
  have h3 : Int.toNat 2 = 2 := rfl
  have h4 : Int.toNat 4 = 4 := rfl
  simp only [Str.length_append, len_c, len_b, figS_len]
  omega
theorem dateJ_len (k : Int) : (dateJ k).length ≤ 8 := by
  unfold dateJ
  simp only [Str.length_append, len_k, figS_len]
  decide
theorem q_eq : Str.ofString "'" = ⟨#[39]⟩ := by decide +kernel
theorem told_form (n k : Int) (a b r : Str) : fmtS (wdNames.getD (n % 7).toNat Str.empty) (monNames.getD (dateM n - 1).toNat Str.empty) (a ++ Str.ofString "'" ++ b ++ Str.ofString "'" ++ r) (dateD n) (dateY n) (k / 3600) (k / 60 % 60) (k % 60) = dateS n k ++ a ++ ⟨#[39]⟩ ++ b ++ ⟨#[39]⟩ ++ r := by
  rw [told_eq, q_eq]
  simp only [Str.append_assoc]
theorem ne_same {x y : Str} (h : x = y) : (x != y) = false := by subst h; simp
theorem pos_app_s (a b : Str) (h : 39 ∉ a.cps.toList) : posL 39 (a ++ b).cps.toList 0 = posL 39 b.cps.toList (a.cps.toList.length) := by
  rw [Str.cps_append, Array.toList_append, posL_app, posL_free 39 _ _ h, List.nil_append, Nat.zero_add]
theorem short_few {a b : Str} (ha : 39 ∉ a.cps.toList) (hb : 39 ∉ b.cps.toList) : (posL 39 (a ++ Str.ofString "'" ++ b).cps.toList 0).length ≤ 1 := by
  rw [Str.append_assoc, pos_app_s _ _ ha, q_eq, Str.cps_append, Array.toList_append, posL_app, posL_free 39 b.cps.toList _ hb]
  simp [posL]
theorem date_few {a : Str} (ha : 39 ∉ a.cps.toList) : (posL 39 a.cps.toList 0).length ≤ 1 := by
  rw [posL_free 39 _ _ ha]; exact Nat.zero_le _
theorem str_same {A : Around} {s : Shared} (x : Str) (t u : Tok) : SeqAt.EqAt A s (.str x t) (.str x u) true := by
  have h := SeqAt.EqAt.str_str (A := A) (s := s) x t x u
  rwa [show (x == x) = true from beq_self_eq_true x] at h
end

local macro_rules | `(tactic| walk_at "eval ListComp") => `(tactic| (k_here; k_dflt (refine comp_src (by k_asm) (by with_unfolding_all rfl) (by decide) (by rfl) (by decide) (by rfl) ?_)))
local macro_rules | `(tactic| walk_at "call ref") => `(tactic| (refine Halt.out ?_))
local macro_rules | `(tactic| walk_at "eval Name") => `(tactic| (k_here; (with_reducible show wpAny _ _ (eval (Expr.Name _ _) (envOfC _ _ _ _ _)) _ _ _); k_dflt (first
  | (refine' nameX_L ?F ?v ?_ ?a ?b; (case b => rfl); (case F => with_reducible assumption); (case a => rfl); (case v => rfl); k_whole)
  | (refine' nameX_K ?F ?X ?T ?e ?_ ?a ?b; (case b => rfl); (case F => with_reducible assumption); (case X => with_reducible assumption); (case T => with_reducible assumption); (case a => rfl); (case e => k_is); k_whole)
  | (refine' nameX_B ?F ?X ?T ?e ?v ?n ?_ ?a ?b; (case b => rfl); (case F => with_reducible assumption); (case X => with_reducible assumption); (case T => with_reducible assumption); (case a => rfl); (case e => k_is); (case v => boot_fast); (case n => decide); k_whole))))
local macro_rules | `(tactic| walk_at "callWith ref") => `(tactic| (k_here; k_dflt (refine' callWith_K ?k1 ?k2 ?_; (case k1 => with_reducible assumption); (case k2 => k_is); k_whole)))

section
open PySem PySem.W PyProof.Rows PySem.Calls
set_option maxRecDepth 100000
local macro_rules | `(tactic| walk_at "call builtin:sum") => `(tactic| (refine Halt.out ?_))
local macro_rules | `(tactic| walk_at "subscriptTail Name Slice ref ref") => `(tactic| (k_here; (with_reducible show wpAny _ _ (subscriptTail _ (PySem.Expr.Slice _ none (some _) _) (Value.ref _) (Value.ref _)) _ _ _); k_dflt (refine' slice_list3 (s := ⟨_, _, _, _, _⟩) ?F ?N ?l ?p ?q ?k ?o ?_ ?s ?t ?z; (case F => k_asm); (case N => k_asm); (case l => kmk_list); (case p => kmk_part); (case q => kmk_part); (case k => kmk_part); (case o => decide); (case s => with_unfolding_all rfl); (case t => kmk_pure); (case z => exact kmk_sz (by assumption) (by rw [sizeLine_eq, List.length_take]; law_clear; omega))); intro h' F' N'))
local macro_rules | `(tactic| walk_at "subscriptTail Name Slice ref ref") => `(tactic| (k_here; (with_reducible show wpAny _ _ (subscriptTail _ (PySem.Expr.Slice none (some _) none _) (Value.ref _) (Value.ref _)) _ _ _); k_dflt (refine' kmk_slice_ints (s := ⟨_, _, _, _, _⟩) ?F ?N ?l ?p ?q ?i ?m ?c ?_ ?s ?t ?z; (case F => k_asm); (case N => k_asm); (case l => kmk_list); (case p => kmk_part); (case q => kmk_part); (case i => assumption); (case m => exact kmk_upto (by assumption) (by decide)); (case c => rfl); (case s => with_unfolding_all rfl); (case t => kmk_pure); (case z => exact kmk_sz (by assumption) (by rw [sizeLine_eq]; law_clear; omega))); intro D' ws' h' F' N' l1 hI' hC' hL'; clear hC' hL'))
set_option maxHeartbeats 2000000 in
def stage1 : { G : Prop // Hid G → PySem.Challenge.rw_pk0013_01.Holds } := ⟨_, fun hidG => hd (by
  w_on
  w_strict (k_go0; (all_goals try k_fold); walk_at "mine d")
  -- number
  rename IntsAre _ _ => hI9
  rename Fr _ _ _ _ => F'
  rename News _ _ _ _ => N'
  have hz9 := kmk_sz hI9 (show _ ≤ sizeLine by rw [sizeLine_eq, List.length_take]; exact Nat.le_trans (Nat.min_le_left _ _) (by decide))
  refine ⟨_, _, _, fun _ y => ∃ k t, y = .int k t, rfl, F', N', Nat.le_trans (slicePick_size_le _ _ _ _) hz9, ItSrc.list rfl F' N' (.inr ⟨_, .head _, rfl, _, rfl⟩), ?_, ?_⟩
  · (try clear F'); (try clear N')
    intro i v I oI C oC D ys m₂ s E' hv hC hx F N off ne
    obtain ⟨k, t, rfl⟩ := intsAre_mem hI9 v (by simpa using pick_mem hv.2)
    w_strict (walk_at "mine d")
    exact ⟨⟨_, _, rfl⟩, F, N, _, _, rfl⟩
  (try clear F'); (try clear N')
  intro zs h hz
  obtain ⟨ns, hns⟩ := sel_ints hz
  clear hz
  w_strict (walk_at "mine d")
  refine Halt.on ?_
  rename Fr _ _ _ _ => F'
  rename News _ _ _ _ => N'
  refine sumK rfl F' N' ⟨_, (N' _ (.head _)).1, rfl, _, rfl⟩ hns fun h' tk t' F N => ?_
  (try clear F'); (try clear N'); clear hns
  generalize ns.sum = S
  clear ns
  replace N := cb_drop (news := [_, _]) N (by exact fun p hp => .tail _ (.tail _ hp))
  w_strict (walk_at "mine d")
  -- moment
  rename Fr _ _ _ _ => F'
  rename News _ _ _ _ => N'
  generalize hN : (730178 + S) % 3652059 = n at F' ⊢
  have hn0 : 0 ≤ n := by omega
  have hn1 : n < 3652059 := by omega
  clear hN
  refine ⟨_, _, _, fun _ y => ∃ k t, y = .int k t, rfl, F', N', Nat.le_trans (slicePick_size_le _ _ _ _) hz9, ItSrc.list rfl F' N' (.inr ⟨_, .head _, rfl, _, rfl⟩), ?_, ?_⟩
  · (try clear F'); (try clear N')
    intro i v I oI C oC D ys m₂ s E' hv hC hx F N off ne
    obtain ⟨k, t, rfl⟩ := intsAre_mem hI9 v (by simpa using pick_mem hv.2)
    w_strict (walk_at "mine d")
    exact ⟨⟨_, _, rfl⟩, F, N, _, _, rfl⟩
  (try clear F'); (try clear N')
  intro zs h hz
  obtain ⟨ns, hns⟩ := sel_ints hz
  clear hz
  w_strict (walk_at "mine d")
  refine Halt.on ?_
  rename Fr _ _ _ _ => F'
  rename News _ _ _ _ => N'
  refine sumK rfl F' N' ⟨_, (N' _ (.head _)).1, rfl, _, rfl⟩ hns fun h' tk t' F N => ?_
  (try clear F'); (try clear N'); clear hns
  generalize ns.sum = S
  clear ns hI9 hz9
  replace N := cb_drop (news := [_]) N (by exact fun p hp => .tail _ (.tail _ (.tail _ hp)))
  w_strict (walk_at "mine d")
  -- words
  refine Halt.on ?_
  rename Fr _ _ _ _ => F'
  rename News _ _ _ _ => N'
  generalize hK : (45296 + S) % 86400 = k at F' ⊢
  have hk0 : 0 ≤ k := by omega
  have hk1 : k < 86400 := by omega
  clear hK
  rename Fr _ _ _ _ => F9z
  rename News _ _ _ _ => N9z
  generalize bindL _ _ _ = m9z at F9z
  revert F9z N9z
  repeat (rename Fr _ _ _ _ => z9; clear z9)
  repeat (rename News _ _ _ _ => z9; clear z9)
  (try (rename CellsAre _ _ _ => z9; clear z9))
  (try (rename Dflts _ _ _ _ _ _ => z9; clear z9))
  (try (rename Heap.CodeRec _ _ _ => z9; clear z9))
  (try (rename Well _ _ _ _ => z9; clear z9))
  (try (rename Reads _ _ _ _ => z9; clear z9))
  (try (rename ReadsAll _ _ _ _ => z9; clear z9))
  (try (rename ReadsAllW _ _ _ _ _ _ => z9; clear z9))
  intro N9z F9z
  repeat (rename_i x9; revert x9)
  revert n hn0 hn1 zs h h' t' S tk k hk0 hk1 m9z
  exact hidG.out)⟩
end

section
open PySem PySem.W PyProof.Rows PySem.Calls
set_option maxRecDepth 100000
local macro_rules | `(tactic| walk_at "call ref") => `(tactic| (k_here; k_dflt (refine' use_pure (c_ap _ _ _ ?kp ?kq) ?k1 ?k2 ?k3 ?k4 ?k5 ?kK trivial ?kd ?ku ?_; (case kp => (law_clear; omega)); (case kq => (law_clear; omega)); (case k1 => with_reducible assumption); (case k2 => with_reducible assumption); (case k3 => with_reducible assumption); (case k4 => with_reducible assumption); (case k5 => with_reducible assumption); (case kK => exact rfl); (case kd => decide); (case ku => decide); intro v9 h9 tk9 F9 N9 P9; (obtain ⟨t9, hv9⟩ := P9); subst hv9; (try dsimp only))))
local macro_rules | `(tactic| walk_at "call ref") => `(tactic| (k_here; k_dflt (refine' use_pure (c_word _ _ _ ?kp ?kq) ?k1 ?k2 ?k3 ?k4 ?k5 ?kK trivial ?kd ?ku ?_; (case kp => (law_clear; omega)); (case kq => (law_clear; omega)); (case k1 => with_reducible assumption); (case k2 => with_reducible assumption); (case k3 => with_reducible assumption); (case k4 => with_reducible assumption); (case k5 => with_reducible assumption); (case kK => exact rfl); (case kd => decide); (case ku => decide); intro v9 h9 tk9 F9 N9 P9; (obtain ⟨t9, hv9⟩ := P9); subst hv9; (try dsimp only))))
local macro_rules | `(tactic| walk_at "call type:bytes") => `(tactic| (refine Halt.out ?_))
local macro_rules | `(tactic| walk_at "compareOp NotEq ref ref") => `(tactic| (refine Halt.out ?_))
set_option maxHeartbeats 2000000 in
def stage2 : { G : Prop // Hid G → stage1.1 } := ⟨_, fun hidG => by
  unfold stage1
  dsimp only
  intro n hn0 hn1 zs h h' t' S tk k hk0 hk1 m9z
  intros
  have hfill : PySem.Challenge.rw_pk0013_01.Holds ∨ ∀ w, hd.heap_39 w = hd.heap_39 w := by k_fill; exact .inr fun _ => rfl
  clear hfill
  have TR := topRead_of (by assumption)
  w_on
  w_strict (walk_at "mine d")
  rename Fr _ _ _ _ => F'
  rename News _ _ _ _ => N'
  refine ⟨_, _, _, fun i y => ∃ t, y = .bytes (apB (if i = 0 then n.toNat else k.toNat)) t, rfl, F', N', Nat.le_of_ble_eq_true rfl, ItSrc.list rfl F' N' (.inr ⟨_, .head _, rfl, _, rfl⟩), ?_, ?_⟩
  · intro i v I oI C oC D ys m₂ s E' hv hC hx F N off ne
    obtain ⟨q, t, rfl, hq, hq1⟩ : ∃ q t, v = .str (apS q) t ∧ q = (if i = 0 then n.toNat else k.toNat) ∧ q < 16777216 := by
      match i, hv.2 with
      | 0, h => exact ⟨n.toNat, _, (Option.some.inj h).symm, rfl, by omega⟩
      | 1, h => exact ⟨k.toNat, _, (Option.some.inj h).symm, rfl, by omega⟩
      | i + 2, h => simp at h
    clear hv; (try clear F'); (try clear N')
    w_strict (walk_at "mine d")
    refine ⟨_, _, _, fun i y => ∃ t, y = .int (((ap q).getD i 0 : Nat) : Int) t, rfl, F, N, ?_, ItSrc.ascii rfl (ap_lt q), ?_, ?_⟩
    · have := ap_length 6 q (by simpa using hq1)
      show (ap q).toArray.size ≤ _
      rw [sizeLine_eq, List.size_toArray]; omega
    · intro j v2 I2 oI2 C2 oC2 D2 ys2 m₃ s2 E2 hv2 hC2 hx2 F2 N2 off2 ne2
      obtain ⟨_, cc, u, hcc, rfl⟩ := hv2
      have hcc' : (ap q).getD j 0 = cc := by
        have : (ap q)[j]? = some cc := by simpa [apS] using hcc
        simp [List.getD, this]
      w_strict (walk_at "mine d")
      exact ⟨⟨_, _, rfl⟩, F2, N2, _, congrArg (Value.int · _) (by rw [hcc'])⟩
    · intro zs h hz
      have hzi := hz.ints
      clear hz
      have hsl : selL (fun _ => true) (fun i => (((ap q).getD i 0 : Nat) : Int)) 0 (apS q).cps.size = List.map (fun (c : Nat) => (c : Int)) (ap q) := by
        have : (apS q).cps.size = (ap q).length := by simp [apS]
        rw [this]; exact selL_all (fun (c : Nat) => (c : Int)) 0 (ap q)
      rw [hsl] at hzi
      clear hsl F N
      w_strict (walk_at "mine d")
      refine Halt.on ?_
      rename Fr _ _ _ _ => F'
      rename News _ _ _ _ => N'
      refine bytes_K F' N' ⟨_, (N' _ (.head _)).1, rfl, _, rfl⟩ hzi ?_ ?_ rfl ?_
      · intro c hc
        obtain ⟨a, ha, rfl⟩ := List.mem_map.mp hc
        have := ap_mem q a ha
        omega
      · have h6 := ap_length 6 q (by simpa using hq1)
        rw [hzi.length, List.length_map, sizeLine_eq]; omega
      · intro h2 t2 k2 F2 N2 _
        (try clear F'); (try clear N')
        w_strict (walk_at "mine d")
        refine ⟨⟨_, _, rfl⟩, F2, cb_drop N2 (fun p hp => .tail _ hp), _, congrArg (Value.bytes · _) ?_⟩
        rw [← hq, apB, List.map_map]; rfl
  · intro zs h hz
    (try clear F'); (try clear N')
    obtain ⟨b1, b2, rfl⟩ : ∃ b1 b2, zs = [.bytes (apB n.toNat) b1, .bytes (apB k.toNat) b2] := by
      cases hz with
      | yes _ g1 h1 => cases h1 with
        | yes _ g2 h2 => cases h2; obtain ⟨b1, rfl⟩ := g1; obtain ⟨b2, rfl⟩ := g2; exact ⟨b1, b2, rfl⟩
        | no h => cases h
      | no h => cases h
    clear hz
    w_strict (walk_at "mine d")
    refine Halt.on ?_
    rename Fr _ _ _ _ => F'
    rename News _ _ _ _ => N'
    have e1 : n.natAbs = n.toNat := by law_clear; omega
    have e2 : (-k).natAbs = k.toNat := by law_clear; omega
    refine ne_lists_same ⟨_, (N' _ (.tail _ (.tail _ (.head _)))).1, rfl, _, rfl⟩ ⟨_, (N' _ (.head _)).1, rfl, _, rfl⟩ rfl (Nat.le_of_ble_eq_true rfl) ?_ ?_
    · intro j h1 h2
      match j, h1 with
      | 0, _ => show SeqAt.EqAt _ _ (.bytes (apB n.natAbs) _) (.bytes (apB n.toNat) b1) true; rw [e1]; exact EqAt.bytes_same _ _ _
      | 1, _ => show SeqAt.EqAt _ _ (.bytes (apB (-k).natAbs) _) (.bytes (apB k.toNat) b2) true; rw [e2]; exact EqAt.bytes_same _ _ _
      | j + 2, h => exact absurd h (by simp)
    clear e1 e2
    w_strict (walk_at "mine d")
    rename Fr _ _ _ _ => F9z
    rename News _ _ _ _ => N9z
    revert F9z N9z
    repeat (rename Fr _ _ _ _ => z9; clear z9)
    repeat (rename News _ _ _ _ => z9; clear z9)
    intro N9z F9z
    repeat (rename_i x9; revert x9)
    revert n hn0 hn1 zs h' t' S k hk0 hk1 m9z h b1 b2 tk
    exact hidG.out⟩
end

section
open PySem PySem.W PyProof.Rows PySem.Calls
set_option maxRecDepth 100000
set_option maxHeartbeats 2000000 in
def stage3 : { G : Prop // Hid G → stage2.1 } := ⟨_, fun hidG => by
  unfold stage2
  dsimp only
  intro n hn0 hn1 zs h' t' S k hk0 hk1 m9z h b1 b2 tk
  intros
  have hfill : PySem.Challenge.rw_pk0013_01.Holds ∨ ∀ w, hd.heap_39 w = hd.heap_39 w := by k_fill; exact .inr fun _ => rfl
  clear hfill
  w_on
  rename Fr _ _ _ _ => F'
  rename News _ _ _ _ => N'
  replace N' := cb_drop (news := [_, _, _, _, _]) N' (fun p hp => by
    rcases hp with _ | ⟨_, _ | ⟨_, hp⟩⟩
    · exact .head _
    · exact .tail _ (.head _)
    · exact .tail _ (.tail _ (.tail _ hp)))
  refine Halt.on ?_
  k_here
  refine' use_pure (c_date _ _ _) ?k1 F' ?k3 N' ?k5 ?kK trivial ?kd ?ku ?_
  case k1 => with_reducible assumption
  case k3 => with_reducible assumption
  case k5 => with_reducible assumption
  case kK => exact rfl
  case kd => decide
  case ku => decide
  intro v9 h9 tk9 F9 N9 P9
  obtain ⟨D9, c9, t1, t2, t3, rfl, hD, ho⟩ := P9
  have N8 := news_fresh F' N9 hD ho
  have off9 := off_fresh N' hD
  (try clear F'); (try clear N'); clear N9; clear hD; clear ho
  try dsimp only
  w_strict (walk_at "mine d")
  rename Fr _ _ _ _ => F'
  rename News _ _ _ _ => N'
  have e1 : n.natAbs = n.toNat := by law_clear; omega
  have hq1 : n.toNat < 16777216 := by law_clear; omega
  rw [e1]
  refine ⟨_, _, _, fun i y => ∃ t, y = .int ((((ap n.toNat).getD i 0 : Nat) : Int) - 65) t, rfl, F', N', ?_, ItSrc.bytes rfl, ?_, ?_⟩
  · have := ap_length 6 n.toNat (by simpa using hq1)
    rw [sizeLine_eq]; simp [apB]; omega
  · (try clear F'); (try clear N')
    intro i v I oI C oC D ys m₂ s E' hv hC hx F N off ne
    obtain ⟨_, cc, u, hcc, rfl⟩ := hv
    rw [apB_at hcc] at hx
    w_strict (walk_at "mine d")
    exact ⟨⟨_, _, rfl⟩, F, N, _, rfl⟩
  · (try clear F'); (try clear N')
    intro zs h hz
    have hzi := hz.ints
    clear hz
    rw [show (apB n.toNat).size = (ap n.toNat).length by simp [apB], selL_all (fun (c : Nat) => (c : Int) - 65) 0 (ap n.toNat)] at hzi
    w_strict (walk_at "mine d")
    rename Fr _ _ _ _ => F'
    rename News _ _ _ _ => N'
    replace N' := news_pick N' [7, 0, 1, 3, 4, 5]
    simp only [pickN, List.drop] at N'
    rename _ = Data.cell _ => hcell
    with_unfolding_all refine stCNk (own := []) (rest := [_, _, _, _, _]) F' N' rfl hcell trivial (by cells_apart) ?_
    intro h2 o2 F2 N2 hc2
    (try clear F'); (try clear N'); clear hcell; clear e1
    simp only [List.nil_append] at N2
    rename Fr _ _ _ _ => F9z
    rename News _ _ _ _ => N9z
    revert F9z N9z
    repeat (rename Fr _ _ _ _ => z9; clear z9)
    repeat (rename News _ _ _ _ => z9; clear z9)
    intro N9z F9z
    repeat (rename_i x9; revert x9)
    revert n hn0 hn1 h' t' S k hk0 hk1 m9z b1 b2 h9 tk9 D9 c9 t1 t2 t3 tk hq1 zs h hzi h2 o2
    exact hidG.out⟩
end

section
open PySem PySem.W PyProof.Rows PySem.Calls
set_option maxRecDepth 100000
local macro_rules | `(tactic| walk_at "call builtin:len") => `(tactic| (refine Halt.out ?_))
local macro_rules | `(tactic| walk_at "call builtin:sum") => `(tactic| (refine Halt.out ?_))
local macro_rules | `(tactic| walk_at "binaryOp Pow int int") => `(tactic| (refine Halt.out ?_))
local macro_rules | `(tactic| walk_at "subscriptTail") => `(tactic| (refine Halt.out ?_))
set_option maxHeartbeats 2000000 in
def stage4 : { G : Prop // Hid G → stage3.1 } := ⟨_, fun hidG => by
  unfold stage3
  dsimp only
  intro n hn0 hn1 h' t' S k hk0 hk1 m9z b1 b2 h9 tk9 D9 c9 t1 t2 t3 tk hq1 zs h hzi h2 o2
  intros
  have hfill : PySem.Challenge.rw_pk0013_01.Holds ∨ ∀ w, hd.heap_39 w = hd.heap_39 w := by k_fill; exact .inr fun _ => rfl
  clear hfill
  w_on
  w_strict (walk_at "mine d")
  refine Halt.on ?_
  rename Fr _ _ _ _ => F'
  rename News _ _ _ _ => N'
  have hm6 := ap_length 6 n.toNat (by simpa using hq1)
  have hm : zs.toArray.size = (ap n.toNat).length := by rw [List.size_toArray, hzi.length, List.length_map]
  refine len_list ⟨_, (N' _ (.tail _ (.head _))).1, rfl, _, rfl⟩ (by rw [hm]; omega) ?_
  rw [hm]
  clear hm
  try dsimp only
  w_strict (walk_at "mine d")
  (try clear F'); (try clear N')
  rename IsRange _ _ _ _ _ _ _ _ => hR
  rename Fr _ _ _ _ => F'
  rename News _ _ _ _ => N'
  refine ⟨_, (ap n.toNat).length, _, fun i y => ∃ t, y = .int (wgt ((ap n.toNat).map (fun c => ((c : Nat) : Int) - 65)) i) t, rfl, F', N', ?_, ItSrc.range rfl hR (small_one (by decide) (by decide) (by omega) (by omega)) (by rw [rangeSize_nat, Int.sub_zero, Int.toNat_natCast]), ?_, ?_⟩
  · rw [sizeLine_eq]; omega
  · (try clear F'); (try clear N'); clear hR
    intro i v I oI C oC D ys m₂ s E' hv hC hx F N off ne
    obtain ⟨hi, t, rfl⟩ := hv
    obtain ⟨j, hj⟩ : ∃ j : Int, j = 0 + (i : Int) := ⟨_, rfl⟩
    rw [← hj] at hx
    have hj0 : 0 ≤ j := by omega
    have hj1 : j < (ap n.toNat).length := by omega
    w_strict (walk_at "mine d")
    refine Halt.on ?_
    have hl9 : ((ap n.toNat).map (fun c => ((c : Nat) : Int) - 65)).length = (ap n.toNat).length := List.length_map _
    refine item_list_ints_neg ⟨_, (N _ (.tail _ (.tail _ (.tail _ (.tail _ (.head _)))))).1, rfl, _, rfl⟩ hzi (by omega) (by rw [hl9]; omega) (by omega) (fun t9 => ?_)
    try dsimp only
    w_strict (walk_at "mine d")
    refine Halt.on ?_
    refine pow_gen (by decide) (by decide) hj0 (by omega) fun q9 hq9 _ _ => ?_
    try dsimp only
    w_strict (walk_at "mine d")
    refine ⟨⟨_, _, rfl⟩, F, N, _, congrArg (Value.int · _) ?_⟩
    rw [hq9, wgt, hl9, show j.toNat = i by omega, show (-1 - j + ((ap n.toNat).length : Int)).toNat = (ap n.toNat).length - 1 - i by omega]
  · intro zs h hz
    have hs := hz.ints
    clear hz; (try clear F'); (try clear N'); clear hR
    w_strict (walk_at "mine d")
    refine Halt.on ?_
    rename Fr _ _ _ _ => F'
    rename News _ _ _ _ => N'
    refine sumK rfl F' N' ⟨_, (N' _ (.head _)).1, rfl, _, rfl⟩ hs fun h' tk t' F N => ?_
    (try clear F'); (try clear N'); clear hs
    have hw9 := weigh n.toNat
    rw [List.length_map] at hw9
    generalize (selL (fun _ => true) (wgt ((ap n.toNat).map (fun c => ((c : Nat) : Int) - 65))) 0 (ap n.toNat).length).sum = W9 at hw9 ⊢
    replace N := news_pick N [3, 4, 5, 6]
    simp only [pickN, List.drop] at N
    w_strict (walk_at "mine d")
    rename Fr _ _ _ _ => F9z
    rename News _ _ _ _ => N9z
    revert F9z N9z
    repeat (rename Fr _ _ _ _ => z9; clear z9)
    repeat (rename News _ _ _ _ => z9; clear z9)
    intro N9z F9z
    repeat (rename_i x9; revert x9)
    revert n hn0 hn1 S k hk0 hk1 m9z b1 b2 h9 tk9 D9 c9 t1 t2 t3 hq1 h2 o2 hm6 zs h h' t' W9 hw9 tk
    exact hidG.out⟩
end

section
open PySem PySem.W PyProof.Rows PySem.Calls
set_option maxRecDepth 100000
local macro_rules | `(tactic| walk_at "binaryOp Add str str") => `(tactic| ((refine PyProof.Rows.add_str (hsz := ?hsz) ?_); (case hsz => (simp only [Str.length_append, len_q, len_c, len_b, figS_len, sizeLine_eq]; law_clear; omega)); intro t9 k9))
local macro_rules | `(tactic| walk_at "subscriptTail") => `(tactic| ((with_reducible show wpAny _ _ (subscriptTail _ (Expr.BinOp _ _ _ _) _ _) _ _ _); refine Halt.out ?_))
local macro_rules | `(tactic| walk_at "call ref") => `(tactic| (k_here; k_dflt (refine' use_pure (c_figs _ _ _ _ _ ?kp ?kq ?kr) ?k1 ?k2 ?k3 ?k4 ?k5 ?kK trivial ?kd ?ku ?_; (case kp => (law_clear; omega)); (case kq => (law_clear; omega)); (case kr => (law_clear; omega)); (case k1 => with_reducible assumption); (case k2 => with_reducible assumption); (case k3 => with_reducible assumption); (case k4 => with_reducible assumption); (case k5 => with_reducible assumption); (case kK => exact rfl); (case kd => decide); (case ku => decide); intro v9 h9 tk9 F9 N9 P9; (obtain ⟨t9, hv9⟩ := P9); subst hv9; (try dsimp only))))

section
open PySem PySem.W PyProof.Rows PySem.Calls
set_option maxRecDepth 100000
local macro_rules | `(tactic| walk_at "mine pad") => `(tactic| skip)
local macro_rules | `(tactic| walk_at "call type:tuple") => `(tactic| (refine Halt.out ?_))
set_option maxHeartbeats 2000000 in
def stage5 : { G : Prop // Hid G → stage4.1 } := ⟨_, fun hidG => by
  unfold stage4
  dsimp only
  intro n hn0 hn1 S k hk0 hk1 m9z b1 b2 h9 tk9 D9 c9 t1 t2 t3 hq1 h2 o2 hm6 zs h h' t' W9 hw9 tk
  intros
  have hfill : PySem.Challenge.rw_pk0013_01.Holds ∨ ∀ w, hd.heap_39 w = hd.heap_39 w := by k_fill; exact .inr fun _ => rfl
  clear hfill
  w_on
  have hA9 := apS_len n.toNat hq1
  have hB9 := apS_len k.toNat (by law_clear; omega)
  have hR9 := restS_len k
  refine Halt.on ?_
  rename Fr _ _ _ _ => F'
  rename News _ _ _ _ => N'
  refine item_tupS (ys := [Str.ofString "Z'", Str.ofString "Z", Str.ofString "'Z", Str.ofString "'"]) ⟨_, (N' _ (.head _)).1, rfl, _, rfl⟩ (by repeat constructor) (by law_clear; omega) (by show k % 4 < 4; law_clear; omega) (by decide) fun t9 => ?_
  try dsimp only
  rw [show [Str.ofString "Z'", Str.ofString "Z", Str.ofString "'Z", Str.ofString "'"].getD (k % 4).toNat Str.empty = restS k from rfl]
  replace N' := news_pick N' [1, 8, 5, 6, 7]
  simp only [pickN, List.drop] at N'
  w_strict (walk_at "mine d")
  refine Halt.on ?_
  rename Fr _ _ _ _ => F'
  rename News _ _ _ _ => N'
  refine tuple_ofL (vs := [_, _, _, _, _, _, _, _, _]) F' N' ⟨_, (N' _ (.head _)).1, rfl, _, rfl⟩ (fun D8 h8 F8 N8 _ => ?_) (Nat.le_of_ble_eq_true rfl)
  (try clear F'); (try clear N')
  try dsimp only
  w_strict (walk_at "mine d")
  refine Halt.on ?_
  k_here
  rename Fr _ _ _ _ => F'
  rename News _ _ _ _ => N'
  obtain ⟨y0, y1, m0, m1, d0, d1, hY, hM, hD9⟩ := date_facts n hn0 hn1
  have e9 : W9 % 7 = n % 7 := by rw [hw9, Int.toNat_of_nonneg hn0]
  refine' use_pure (c_fmt _ _ _ _ _ _ _ _ _ _ _ _ _ _ _ _ _ _ _ _ _ ?z9 y0 y1 ?m9 ?m10 ?d9 ?d10 ?a1 ?a2 ?a3 ?a4 ?a5 ?a6 ?a7 ?a8) ?k1 F' ?k3 N' ?k5 ?kK (N' _ (.head _)).1 ?kd ?ku ?_
  case z9 => simp only [Str.length_append, len_q]; law_clear; omega
  case m9 => law_clear; omega
  case m10 => law_clear; omega
  case d9 => law_clear; omega
  case d10 => law_clear; omega
  case a1 => law_clear; omega
  case a2 => law_clear; omega
  case a3 => law_clear; omega
  case a4 => law_clear; omega
  case a5 => law_clear; omega
  case a6 => law_clear; omega
  case a7 => law_clear; omega
  case a8 => law_clear; omega
  case k1 => with_reducible assumption
  case k3 => with_reducible assumption
  case k5 => with_reducible assumption
  case kK => exact rfl
  case kd => decide
  case ku => decide
  intro v9 h9 tk9 F9 N9 P9
  obtain ⟨t10, rfl⟩ := P9
  have e10 : ((W9 % 7 - 7 * (1 - n % 2)) % 7).toNat = (n % 7).toNat := by law_clear; omega
  have e11 : ((dateM n - 12 * (1 - k % 2) - 1) % 12).toNat = (dateM n - 1).toNat := by law_clear; omega
  rw [e10, e11]
  (try clear F'); (try clear N'); clear e10; clear e11
  try dsimp only
  w_strict (walk_at "mine d")
  refine Halt.on ?_
  k_here
  rename Fr _ _ _ _ => F'
  rename News _ _ _ _ => N'
  replace N' := news_pick N' [1, 2, 3, 4, 5]
  simp only [pickN, List.drop] at N'
  refine' use_pure (c_plain _ _ _ hn0 hn1) ?k1 F' ?k3 N' ?k5 ?kK trivial ?kd ?ku ?_
  case k1 => with_reducible assumption
  case k3 => with_reducible assumption
  case k5 => with_reducible assumption
  case kK => exact rfl
  case kd => decide
  case ku => decide
  intro v9 h9 tk9 F9 N9 P9
  obtain ⟨P8, c8, p1, p2, p3, M9, rfl, hD, ho, hPM⟩ := P9
  have eM := hM M9 hPM
  subst eM
  rw [hY, hD9] at ho
  have N8 := news_fresh F' N9 hD ho
  have off8 := off_fresh N' hD
  (try clear F'); (try clear N'); clear N9; clear hD; clear ho; clear hPM
  try dsimp only
  w_strict (walk_at "mine d")
  refine Halt.on ?_
  rename Fr _ _ _ _ => F'
  rename News _ _ _ _ => N'
  refine item_names (n := 7) (ys := wdNames) (vs := [_, _, _, _, _, _, _]) ⟨_, (N' _ (.tail _ (.tail _ (.tail _ (.tail _ (.tail _ (.head _))))))).1, rfl, _, rfl⟩ (by repeat constructor) rfl (by decide) (by law_clear; omega) (by law_clear; omega) fun t9 => ?_
  rw [show n % 7 % (7 : Nat) = n % 7 by law_clear; omega]
  have hW9 := wd_len (n % 7).toNat
  have hM8 := mon_len (dateM n - 1).toNat
  try dsimp only
  w_strict (walk_at "mine d")
  refine Halt.on ?_
  (try clear F'); (try clear N')
  rename Fr _ _ _ _ => F'
  rename News _ _ _ _ => N'
  refine item_names (n := 12) (ys := monNames) (vs := [_, _, _, _, _, _, _, _, _, _, _, _]) ⟨_, (N' _ (.tail _ (.tail _ (.tail _ (.tail _ (.head _)))))).1, rfl, _, rfl⟩ (by repeat constructor) rfl (by decide) (by law_clear; omega) (by law_clear; omega) fun t9 => ?_
  rw [show (dateM n - 1) % (12 : Nat) = dateM n - 1 by law_clear; omega]
  try dsimp only
  w_strict (walk_at "mine d")
  rename Fr _ _ _ _ => F9z
  rename News _ _ _ _ => N9z
  revert F9z N9z
  repeat (rename Fr _ _ _ _ => z9; clear z9)
  repeat (rename News _ _ _ _ => z9; clear z9)
  intro N9z F9z
  repeat (rename_i x9; revert x9)
  revert n hn0 hn1 S k hk0 hk1 m9z b1 b2 D9 c9 t1 t2 t3 hq1 h2 o2 hm6 zs h h' t' W9 hw9 hA9 hB9 hR9 D8 h8 y0 y1 m0 m1 d0 d1 hY hM hD9 e9 t10 h9 tk9 P8 c8 p1 p2 p3 hW9 hM8 t9 tk
  exact hidG.out⟩
end

section
open PySem PySem.W PyProof.Rows PySem.Calls
set_option maxRecDepth 100000
local macro_rules | `(tactic| walk_at "call builtin:str.join") => `(tactic| (refine Halt.out ?_))
local macro_rules | `(tactic| walk_at "exec If") => `(tactic| (refine Halt.out ?_))
local macro_rules | `(tactic| walk_at "compareOp NotEq str str") => `(tactic| (refine Halt.out ?_))
local macro_rules | `(tactic| walk_at "compareOp NotEq ref ref") => `(tactic| (refine Halt.out ?_))
set_option maxHeartbeats 2000000 in
theorem stage6 : stage5.1 := by
  unfold stage5
  dsimp only
  intro n hn0 hn1 S k hk0 hk1 m9z b1 b2 D9 c9 t1 t2 t3 hq1 h2 o2 hm6 zs h h' t' W9 hw9 hA9 hB9 hR9 D8 h8 y0 y1 m0 m1 d0 d1 hY hM hD9 e9 t10 h9 tk9 P8 c8 p1 p2 p3 hW9 hM8 t9 tk
  intros
  have hfill : PySem.Challenge.rw_pk0013_01.Holds ∨ ∀ w, hd.heap_39 w = hd.heap_39 w := by k_fill; exact .inr fun _ => rfl
  clear hfill
  w_on
  rename Fr _ _ _ _ => F'
  rename News _ _ _ _ => N'
  have eA : wdNames.getD (n % 7).toNat Str.empty ++ Str.ofString ", " ++ figS (dateD n).toNat (Int.toNat 2) ++ Str.ofString " " ++ monNames.getD (dateM n - 1).toNat Str.empty ++ Str.ofString " " ++ figS (dateY n).toNat (Int.toNat 4) = dateA n := rfl
  rw [eA, told_form] at F' ⊢
  clear eA
  have hA8 := dateA_len n
  have hJ8 := dateJ_len k
  refine ⟨_, _, _, fun i y => ∃ t, y = .str (figS (if i = 0 then k / 3600 else if i = 1 then k / 60 % 60 else k % 60).toNat 2) t, rfl, F', N', Nat.le_of_ble_eq_true rfl, ItSrc.list rfl F' N' (.inr ⟨_, .tail _ (.tail _ (.tail _ (.head _))), rfl, _, rfl⟩), ?_, ?_⟩
  · intro i v I oI C oC D ys m₂ s E' hv hC hx F N off ne
    obtain ⟨q, t, rfl, hq, hq1⟩ : ∃ q t, v = .int q t ∧ q = (if i = 0 then k / 3600 else if i = 1 then k / 60 % 60 else k % 60) ∧ 0 ≤ q := by
      match i, hv.2 with
      | 0, h => exact ⟨_, _, (Option.some.inj h).symm, rfl, by law_clear; omega⟩
      | 1, h => exact ⟨_, _, (Option.some.inj h).symm, rfl, by law_clear; omega⟩
      | 2, h => exact ⟨_, _, (Option.some.inj h).symm, rfl, by law_clear; omega⟩
      | i + 3, h => simp at h
    clear hv; (try clear F'); (try clear N')
    w_strict (walk_at "mine d")
    rename Fr _ _ _ _ => F'
    rename News _ _ _ _ => N'
    exact ⟨⟨_, _, rfl⟩, F', N', _, congrArg (Value.str · _) (by rw [hq]; rfl)⟩
  · intro zs h hz
    (try clear F'); (try clear N')
    obtain ⟨b1, b2, b3, rfl⟩ : ∃ b1 b2 b3, zs = [.str (figS (k / 3600).toNat 2) b1, .str (figS (k / 60 % 60).toNat 2) b2, .str (figS (k % 60).toNat 2) b3] := by
      cases hz with
      | yes _ g1 h1 => cases h1 with
        | yes _ g2 h2 => cases h2 with
          | yes _ g3 h3 => cases h3; obtain ⟨b1, rfl⟩ := g1; obtain ⟨b2, rfl⟩ := g2; obtain ⟨b3, rfl⟩ := g3; exact ⟨b1, b2, b3, rfl⟩
          | no h => cases h
        | no h => cases h
      | no h => cases h
    clear hz
    w_strict (walk_at "mine d")
    refine Halt.on ?_
    rename Fr _ _ _ _ => F'
    rename News _ _ _ _ => N'
    refine join_lst N' (ys := [_, _, _]) (by repeat constructor) (by decide +kernel) (by simp only [List.map_cons, List.map_nil, List.sum_cons, List.sum_nil, List.length_cons, List.length_nil, figS_len]; decide) fun t9 k9 => ?_
    rw [join3, show figS (k / 3600).toNat 2 ++ Str.ofString ":" ++ figS (k / 60 % 60).toNat 2 ++ Str.ofString ":" ++ figS (k % 60).toNat 2 = dateJ k from rfl]
    try dsimp only
    w_strict (walk_at "mine d")
    refine Halt.on ?_
    rename Fr _ _ _ _ => F'
    rename News _ _ _ _ => N'
    rw [show dateA n ++ Str.ofString " " ++ dateJ k ++ Str.ofString " " = dateS n k from rfl] at F'
    have hD9 := dateS_len n k
    with_reducible refine wpAny_If ?_
    w_strict (walk_at "mine d")
    refine Halt.on ?_
    rename Fr _ _ _ _ => F'
    rename News _ _ _ _ => N'
    refine PyProof.Rows.ne_str ?_
    rw [ne_same (by rw [q_eq])]
    try dsimp only
    replace N' := news_pick N' [2, 3]
    simp only [pickN, List.drop] at N'
    w_strict (walk_at "mine d")
    refine Halt.on ?_
    with_reducible refine wpAny_If ?_
    w_strict (walk_at "mine d")
    refine Halt.on ?_
    k_here
    rename Fr _ _ _ _ => F'
    rename News _ _ _ _ => N'
    have hT9 : 39 ∉ (dateS n k ++ apS n.toNat).cps.toList := app_tick (dateS_tick _ _) (ap_tick _)
    refine' use_pure (c_dec2 _ _ _ _ _ ?z9 hT9 (ap_tick _)) ?k1 F' ?k3 N' ?k5 ?kK trivial ?kd ?ku ?_
    case z9 => simp only [Str.length_append, show (Str.mk #[39]).length = 1 from rfl]; law_clear; omega
    case k1 => with_reducible assumption
    case k3 => with_reducible assumption
    case k5 => with_reducible assumption
    case kK => exact rfl
    case kd => decide
    case ku => decide
    intro v9 h9 tk9 F9 N9 P9
    obtain ⟨P8, c8, p1, p2, p3, rfl, hD, ho⟩ := P9
    have N8 := news_fresh F' N9 hD ho
    have off8 := off_fresh N' hD
    (try clear F'); (try clear N'); clear N9; clear hD; clear ho
    try dsimp only
    w_strict (walk_at "mine d")
    refine Halt.on ?_
    rename Fr _ _ _ _ => F'
    rename News _ _ _ _ => N'
    refine ne_lists_same ⟨_, (N' _ (.tail _ (.head _))).1, rfl, _, rfl⟩ ⟨_, (N' _ (.head _)).1, rfl, _, rfl⟩ rfl (Nat.le_of_ble_eq_true rfl) ?_ ?_
    · intro j h1 h2
      match j, h1 with
      | 0, _ => exact str_same _ _ _
      | 1, _ => exact str_same _ _ _
      | 2, _ => exact str_same _ _ _
      | j + 3, h => exact absurd h (by simp)
    try dsimp only
    replace N' := news_pick N' [2, 3]
    simp only [pickN, List.drop] at N'
    w_strict (walk_at "mine d")
    refine Halt.on ?_
    k_here
    rename Fr _ _ _ _ => F'
    rename News _ _ _ _ => N'
    refine' use_pure (c_dec1 _ _ _ ?z9 (short_few hT9 (ap_tick _))) ?k1 F' ?k3 N' ?k5 ?kK trivial ?kd ?ku ?_
    case z9 => simp only [Str.length_append, len_q]; law_clear; omega
    case k1 => with_reducible assumption
    case k3 => with_reducible assumption
    case k5 => with_reducible assumption
    case kK => exact rfl
    case kd => decide
    case ku => decide
    intro v9 h9 tk9 F9 N9 P9
    obtain ⟨P8, c8, p1, rfl, hD, ho⟩ := P9
    have N8 := news_fresh F' N9 hD ho
    have off8 := off_fresh N' hD
    (try clear F'); (try clear N'); clear N9; clear hD; clear ho
    try dsimp only
    w_strict (walk_at "mine d")
    refine Halt.on ?_
    rename Fr _ _ _ _ => F'
    rename News _ _ _ _ => N'
    refine ne_tuples_same ⟨_, (N' _ (.tail _ (.head _))).1, rfl, _, rfl⟩ ⟨_, (N' _ (.head _)).1, rfl, _, rfl⟩ rfl (Nat.le_of_ble_eq_true rfl) ?_ ?_
    · intro j h1 h2
      match j, h1 with
      | 0, _ => exact .same _
      | 1, _ => exact .same _
      | 2, _ => exact str_same _ _ _
      | j + 3, h => exact absurd h (by simp)
    try dsimp only
    replace N' := news_pick N' [2, 3]
    simp only [pickN, List.drop] at N'
    w_strict (walk_at "mine d")
    refine Halt.on ?_
    k_here
    rename Fr _ _ _ _ => F'
    rename News _ _ _ _ => N'
    refine' use_pure (c_dec1 _ _ _ ?z9 (date_few (dateS_tick _ _))) ?k1 F' ?k3 N' ?k5 ?kK trivial ?kd ?ku ?_
    case z9 => law_clear; omega
    case k1 => with_reducible assumption
    case k3 => with_reducible assumption
    case k5 => with_reducible assumption
    case kK => exact rfl
    case kd => decide
    case ku => decide
    intro v9 h9 tk9 F9 N9 P9
    obtain ⟨P8, c8, p1, rfl, hD, ho⟩ := P9
    have N8 := news_fresh F' N9 hD ho
    have off8 := off_fresh N' hD
    (try clear F'); (try clear N'); clear N9; clear hD; clear ho
    try dsimp only
    w_strict (walk_at "mine d")
    refine Halt.on ?_
    rename Fr _ _ _ _ => F'
    rename News _ _ _ _ => N'
    refine ne_tuples_same ⟨_, (N' _ (.tail _ (.head _))).1, rfl, _, rfl⟩ ⟨_, (N' _ (.head _)).1, rfl, _, rfl⟩ rfl (Nat.le_of_ble_eq_true rfl) ?_ ?_
    · intro j h1 h2
      match j, h1 with
      | 0, _ => exact .same _
      | 1, _ => exact .same _
      | 2, _ => exact str_same _ _ _
      | j + 3, h => exact absurd h (by simp)
    try dsimp only
    replace N' := news_pick N' [2, 3]
    simp only [pickN, List.drop] at N'
    w_strict (walk_at "mine d")
    have bw9 : -7 ≤ W9 % 7 - 7 * (1 - n % 2) ∧ W9 % 7 - 7 * (1 - n % 2) < 7 := by law_clear; omega
    refine Halt.on ?_
    k_here
    rename Fr _ _ _ _ => F'
    rename News _ _ _ _ => N'
    refine' use_soft (c_ref _ _ _ _ _ 6 7 [_, _, _, _, _, _, _, _, _] [dateY n, dateM n - 12 * (1 - k % 2), dateD n, k / 3600, k / 60 % 60, k % 60, W9 % 7 - 7 * (1 - n % 2), 0, -1] (by repeat constructor) rfl (by decide) (by decide) (by decide) (by decide) ?b9) ?k1 F' ?k3 N' ?k5 ?kK (N' _ (.head _)).1 ?kd ?ku ?_
    case b9 => exact .inl ⟨.inr (show (7 : Int) ≤ 7 by decide), (show (-1000 : Int) < 7 by decide), (show (7 : Int) < 1000 by decide)⟩
    case k1 => with_reducible assumption
    case k3 => with_reducible assumption
    case k5 => with_reducible assumption
    case kK => exact rfl
    case kd => decide
    case ku => decide
    intro v9 h9 tk9 F9 N9 P9
    subst P9
    (try clear F'); (try clear N')
    try dsimp only
    w_strict (walk_at "mine d")
    refine Halt.on ?_
    k_here
    rename Fr _ _ _ _ => F'
    rename News _ _ _ _ => N'
    refine' use_soft (c_ref _ _ _ _ _ 6 (-8) [_, _, _, _, _, _, _, _, _] [dateY n, dateM n - 12 * (1 - k % 2), dateD n, k / 3600, k / 60 % 60, k % 60, W9 % 7 - 7 * (1 - n % 2), 0, -1] (by repeat constructor) rfl (by decide) (by decide) (by decide) (by decide) ?b9) ?k1 F' ?k3 N' ?k5 ?kK (N' _ (.head _)).1 ?kd ?ku ?_
    case b9 => exact .inl ⟨.inl (show (-8 : Int) < -7 by decide), (show (-1000 : Int) < -8 by decide), (show (-8 : Int) < 1000 by decide)⟩
    case k1 => with_reducible assumption
    case k3 => with_reducible assumption
    case k5 => with_reducible assumption
    case kK => exact rfl
    case kd => decide
    case ku => decide
    intro v9 h9 tk9 F9 N9 P9
    subst P9
    (try clear F'); (try clear N')
    try dsimp only
    w_strict (walk_at "mine d")
    refine Halt.on ?_
    k_here
    rename Fr _ _ _ _ => F'
    rename News _ _ _ _ => N'
    refine' use_soft (c_ref _ _ _ _ _ 1 13 [_, _, _, _, _, _, _, _, _] [dateY n, dateM n - 12 * (1 - k % 2), dateD n, k / 3600, k / 60 % 60, k % 60, W9 % 7 - 7 * (1 - n % 2), 0, -1] (by repeat constructor) rfl (by decide) (by decide) (by decide) (by decide) ?b9) ?k1 F' ?k3 N' ?k5 ?kK (N' _ (.head _)).1 ?kd ?ku ?_
    case b9 => exact .inr ⟨bw9, .inr (show (13 : Int) ≤ 13 by decide), (show (-1000 : Int) < 13 by decide), (show (13 : Int) < 1000 by decide)⟩
    case k1 => with_reducible assumption
    case k3 => with_reducible assumption
    case k5 => with_reducible assumption
    case kK => exact rfl
    case kd => decide
    case ku => decide
    intro v9 h9 tk9 F9 N9 P9
    subst P9
    (try clear F'); (try clear N')
    try dsimp only
    w_strict (walk_at "mine d")
    refine Halt.on ?_
    k_here
    rename Fr _ _ _ _ => F'
    rename News _ _ _ _ => N'
    refine' use_soft (c_ref _ _ _ _ _ 1 (-12) [_, _, _, _, _, _, _, _, _] [dateY n, dateM n - 12 * (1 - k % 2), dateD n, k / 3600, k / 60 % 60, k % 60, W9 % 7 - 7 * (1 - n % 2), 0, -1] (by repeat constructor) rfl (by decide) (by decide) (by decide) (by decide) ?b9) ?k1 F' ?k3 N' ?k5 ?kK (N' _ (.head _)).1 ?kd ?ku ?_
    case b9 => exact .inr ⟨bw9, .inl (show (-12 : Int) < -11 by decide), (show (-1000 : Int) < -12 by decide), (show (-12 : Int) < 1000 by decide)⟩
    case k1 => with_reducible assumption
    case k3 => with_reducible assumption
    case k5 => with_reducible assumption
    case kK => exact rfl
    case kd => decide
    case ku => decide
    intro v9 h9 tk9 F9 N9 P9
    subst P9
    (try clear F'); (try clear N')
    try dsimp only
    w_strict (walk_at "mine d")
end
end
end
end Mine

theorem PySem.Challenge.cw_pk0013_01_holds : PySem.Challenge.rw_pk0013_01.Holds :=
  Mine.stage1.2 ⟨Mine.stage2.2 ⟨Mine.stage3.2 ⟨Mine.stage4.2 ⟨Mine.stage5.2 ⟨Mine.stage6⟩⟩⟩⟩⟩
