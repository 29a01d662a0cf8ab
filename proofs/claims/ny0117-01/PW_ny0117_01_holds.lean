import PyProof.Rows.All
import Wide.All
import OpenK.AllK
import Wide.FinOn
import PySem.Challenge.RW_ny0117_01
open PySem PySem.W PyProof.Rows
set_option Elab.async false

section
namespace Mine
set_option maxRecDepth 100000
set_option maxHeartbeats 8000000
open_top hd for PySem.Challenge.rw_ny0117_01
end Mine
end

section
namespace Mine
open PySem.Calls
set_option maxRecDepth 100000

section
variable {prog : Program} {w : World} {A A₀ : Around} {s : Shared} {K : Frag} {L : Addr} {h₀ base : Heap} {m mg mb : Str → Option Value} {p : Program} {loose : List Str} {mean : ExcName → Option Value}
  {env : Env} {outer : List Env} {R : Result → Shared → Prop} {name qual : Str} {params : Arguments} {body : List Stmt} {scope : Scope} {dV kV doc pm cdv ct oc : Value} {an od : Option Addr} {osl : Array (Option Value)} {f : Addr} {args : Args} {binds : List (Str × Value)}

/-- a def without cells is entered; all that stands is kept, the ledger is empty -/
theorem code_def0
    (B : Below A₀ base outer h₀) (F : Fr h₀ L s.heap m) (X₀ : K.In h₀) (T : Top p loose mean mg mb h₀) (hA : A.frames = some (env :: outer)) (hf : env.frame = some L) (hke : env.scope.kind = .function)
    (ho : K.lookup f = some ⟨oc, od, .func (fnOf name qual params body scope dV kV doc pm an cdv ct), osl⟩) (hcd : codeIn K cdv qual = true) (hroom : A.depth < recursionLimit)
    (hbind : BindsTo s (fnOf name qual params body scope dV kV doc pm an cdv ct) args binds) (hloc : ∀ y ∈ binds, scope.names.lookup y.1 = some .local)
    (h : ∀ L' h₁, Fr s.heap L' h₁ (fun y => binds.reverse.lookup y) → News s.heap L' h₁ [] → Below A base (env :: outer) s.heap → K.In s.heap → Top p loose mean mg mb s.heap →
      wpAny (model prog w) (A.deeper (envOf qual scope L' f cdv)) (execs body (envOf qual scope L' f cdv))
        (fun fl s' => R (.ok (.ret (match fl with | .ret v => v | _ => .none))) s')
        (fun e s' => wpAny (model prog w) (A.deeper (envOf qual scope L' f cdv)) (leaving (envOf qual scope L' f cdv) e) (fun _ s'' => R (.error e) s'') (fun e' s'' => R (.error e') s'') s')
        { s with heap := h₁, toks := s.toks + binds.length })
    (hco : scope.isCoroutine = false) (hgen : scope.isGenerator = false) (hk : scope.kind = .function)
    (hcell : ∀ x ∈ scope.names, x.2 ≠ .cell) : codeAny (model prog w) A (.call (.ref f) args) R s := by
  obtain ⟨FG, BG, st, _⟩ := groundX (R := R) B F (News.nil (h₀ := h₀) (L := L)) hA hf hke
  have Xs := X₀.keeps F.keep
  exact codeAny_call_def (fd := fnOf name qual params body scope dV kV doc pm an cdv ct) (body := body) (binds := binds) hroom (Xs _ _ ho) rfl (T.nolimit.keeps F.keep) (codeRec_of Xs hcd) rfl hbind hcell hloc
    (fun h₁ hns hk₁ => h s.heap.objs.size h₁ ⟨hns, hk₁, Nat.le_refl _⟩ News.nil BG Xs (T.keeps F.keep)) hco hgen hk

/-- the same, but a part of what stands goes along as the ledger -/
theorem code_defN {news : List (Addr × Obj)}
    (B : Below A₀ base outer h₀) (F : Fr h₀ L s.heap m) (X₀ : K.In h₀) (N : News h₀ L s.heap news) (T : Top p loose mean mg mb h₀) (hA : A.frames = some (env :: outer)) (hf : env.frame = some L) (hke : env.scope.kind = .function)
    (ho : K.lookup f = some ⟨oc, od, .func (fnOf name qual params body scope dV kV doc pm an cdv ct), osl⟩) (hcd : codeIn K cdv qual = true) (hroom : A.depth < recursionLimit)
    (hbind : BindsTo s (fnOf name qual params body scope dV kV doc pm an cdv ct) args binds) (hloc : ∀ y ∈ binds, scope.names.lookup y.1 = some .local)
    (h : ∀ L' h₁, Fr (hideAll s.heap (news.map (·.1))) L' h₁ (fun y => binds.reverse.lookup y) → News (hideAll s.heap (news.map (·.1))) L' h₁ news → Below A base (env :: outer) (hideAll s.heap (news.map (·.1))) → K.In (hideAll s.heap (news.map (·.1))) → Top p loose mean mg mb (hideAll s.heap (news.map (·.1))) →
      (∀ p ∈ news, p.1 < L') →
      wpAny (model prog w) (A.deeper (envOf qual scope L' f cdv)) (execs body (envOf qual scope L' f cdv))
        (fun fl s' => R (.ok (.ret (match fl with | .ret v => v | _ => .none))) s')
        (fun e s' => wpAny (model prog w) (A.deeper (envOf qual scope L' f cdv)) (leaving (envOf qual scope L' f cdv) e) (fun _ s'' => R (.error e) s'') (fun e' s'' => R (.error e') s'') s')
        { s with heap := h₁, toks := s.toks + binds.length })
    (hco : scope.isCoroutine = false) (hgen : scope.isGenerator = false) (hk : scope.kind = .function)
    (hcell : ∀ x ∈ scope.names, x.2 ≠ .cell) : codeAny (model prog w) A (.call (.ref f) args) R s := by
  obtain ⟨FG, BG, st, _⟩ := groundX (R := R) B F N hA hf hke
  have Xs := X₀.keeps F.keep
  exact codeAny_call_def (fd := fnOf name qual params body scope dV kV doc pm an cdv ct) (body := body) (binds := binds) hroom (Xs _ _ ho) rfl (T.nolimit.keeps F.keep) (codeRec_of Xs hcd) rfl hbind hcell hloc
    (fun h₁ hns hk₁ => h s.heap.objs.size h₁ ⟨hns, fun b o e => hk₁ b o (of_hideAll _ e), Nat.le_of_eq (hideAll_size _ _)⟩
      (fun p hp => ⟨hk₁ _ _ (N p hp).1, Nat.ne_of_lt (Heap.lt_size (N p hp).1), hideAll_none _ (List.mem_map_of_mem hp)⟩) BG (X₀.keeps st) (T.keeps st) (fun p hp => Heap.lt_size (N p hp).1)) hco hgen hk

/-- what went along and came back, and the rest, stands -/
theorem keeps_of {h h' : Heap} {L' : Addr} {m' : Str → Option Value} {news news' : List (Addr × Obj)} (hn : ∀ p ∈ news, h.get? p.1 = some p.2) (F' : Fr (hideAll h (news.map (·.1))) L' h' m') (N' : News (hideAll h (news.map (·.1))) L' h' news') (hs : ∀ p ∈ news, p ∈ news') :
    ∀ b o, h.get? b = some o → h'.get? b = some o := by
  intro b o e
  by_cases hb : b ∈ news.map (·.1)
  · obtain ⟨p, hp, rfl⟩ := List.mem_map.mp hb
    have := hn p hp
    rw [e] at this
    rw [Option.some.inj this]
    exact (N' p (hs p hp)).1
  · exact F'.keep b o (hideAll_get _ e hb)

/-- the same for a def with cells -/
theorem code_defC0
    (B : Below A₀ base outer h₀) (F : Fr h₀ L s.heap m) (X₀ : K.In h₀) (T : Top p loose mean mg mb h₀) (hA : A.frames = some (env :: outer)) (hf : env.frame = some L) (hke : env.scope.kind = .function)
    (ho : K.lookup f = some ⟨oc, od, .func (fnOf name qual params body scope dV kV doc pm an cdv ct), osl⟩) (hcd : codeIn K cdv qual = true) (hroom : A.depth < recursionLimit)
    (hbind : BindsTo s (fnOf name qual params body scope dV kV doc pm an cdv ct) args binds) (hkind : (binds.all fun y => scope.names.lookup y.1 == some .local || scope.names.lookup y.1 == some .cell) = true)
    (hnd : ((cellsFrom 0 scope.names []).map (·.1)).Nodup)
    (h : ∀ L' h₁ tk cells, Fr s.heap L' h₁ (bindL (envOfC qual scope L' f cdv).kindOf binds fun _ => none) → News s.heap L' h₁ cells →
      CellsAre (bindC (envOfC qual scope L' f cdv).kindOf binds fun _ => none) (cellsFrom (L' + 1) scope.names []) cells → Below A base (env :: outer) s.heap → K.In s.heap → Top p loose mean mg mb s.heap →
      wpAny (model prog w) (A.deeper (envOfC qual scope L' f cdv)) (execs body (envOfC qual scope L' f cdv))
        (fun fl s' => R (.ok (.ret (match fl with | .ret v => v | _ => .none))) s')
        (fun e s' => wpAny (model prog w) (A.deeper (envOfC qual scope L' f cdv)) (leaving (envOfC qual scope L' f cdv) e) (fun _ s'' => R (.error e) s'') (fun e' s'' => R (.error e') s'') s')
        { s with heap := h₁, toks := tk })
    (hco : scope.isCoroutine = false) (hgen : scope.isGenerator = false) (hk : scope.kind = .function) : codeAny (model prog w) A (.call (.ref f) args) R s := by
  obtain ⟨FG, BG, st, _⟩ := groundX (R := R) B F (News.nil (h₀ := h₀) (L := L)) hA hf hke
  have Xs := X₀.keeps F.keep
  refine codeAny_call_function hroom (Xs _ _ ho) rfl hco hgen rfl (codeRec_of Xs hcd) (hbind _ _ _ _ ?_)
  refine wpAny_newFunctionEnv_cells hk (kindsX hkind _) fun env' he s' x => ?_
  subst he
  refine ⟨(T.nolimit.keeps F.keep).keeps x.toInCall.keep, codeAny_func ?_⟩
  obtain ⟨h₁, tk, rfl, _⟩ := x.done
  have hk₁ := x.toInCall.keep
  obtain ⟨cells, NC, Y⟩ := Cl.news (h₀ := s.heap) (Nat.le_refl _) fun n c hm => ⟨x.cell n c (lookup_of_mem_nodup (cellsFrom_names scope.names 0 (s.heap.objs.size + 1) [] [] rfl ▸ hnd) hm), x.above n c hm⟩
  exact h s.heap.objs.size h₁ tk cells ⟨x.toInCall.ns, hk₁, Nat.le_refl _⟩ NC Y BG Xs (T.keeps F.keep)
/-- a def with cells; a part of what stands goes along as the ledger -/
theorem code_defCN {news : List (Addr × Obj)}
    (B : Below A₀ base outer h₀) (F : Fr h₀ L s.heap m) (X₀ : K.In h₀) (N : News h₀ L s.heap news) (T : Top p loose mean mg mb h₀) (hA : A.frames = some (env :: outer)) (hf : env.frame = some L) (hke : env.scope.kind = .function)
    (ho : K.lookup f = some ⟨oc, od, .func (fnOf name qual params body scope dV kV doc pm an cdv ct), osl⟩) (hcd : codeIn K cdv qual = true) (hroom : A.depth < recursionLimit)
    (hbind : BindsTo s (fnOf name qual params body scope dV kV doc pm an cdv ct) args binds) (hkind : (binds.all fun y => scope.names.lookup y.1 == some .local || scope.names.lookup y.1 == some .cell) = true)
    (hnd : ((cellsFrom 0 scope.names []).map (·.1)).Nodup)
    (h : ∀ L' h₁ tk cells, Fr (hideAll s.heap (news.map (·.1))) L' h₁ (bindL (envOfC qual scope L' f cdv).kindOf binds fun _ => none) → News (hideAll s.heap (news.map (·.1))) L' h₁ (cells ++ news) →
      CellsAre (bindC (envOfC qual scope L' f cdv).kindOf binds fun _ => none) (cellsFrom (L' + 1) scope.names []) cells → Below A base (env :: outer) (hideAll s.heap (news.map (·.1))) → K.In (hideAll s.heap (news.map (·.1))) → Top p loose mean mg mb (hideAll s.heap (news.map (·.1))) →
      (∀ p ∈ news, p.1 < L') →
      wpAny (model prog w) (A.deeper (envOfC qual scope L' f cdv)) (execs body (envOfC qual scope L' f cdv))
        (fun fl s' => R (.ok (.ret (match fl with | .ret v => v | _ => .none))) s')
        (fun e s' => wpAny (model prog w) (A.deeper (envOfC qual scope L' f cdv)) (leaving (envOfC qual scope L' f cdv) e) (fun _ s'' => R (.error e) s'') (fun e' s'' => R (.error e') s'') s')
        { s with heap := h₁, toks := tk })
    (hco : scope.isCoroutine = false) (hgen : scope.isGenerator = false) (hk : scope.kind = .function) : codeAny (model prog w) A (.call (.ref f) args) R s := by
  obtain ⟨FG, BG, st, _⟩ := groundX (R := R) B F N hA hf hke
  have Xs := X₀.keeps F.keep
  refine codeAny_call_function hroom (Xs _ _ ho) rfl hco hgen rfl (codeRec_of Xs hcd) (hbind _ _ _ _ ?_)
  refine wpAny_newFunctionEnv_cells hk (kindsX hkind _) fun env' he s' x => ?_
  subst he
  refine ⟨(T.nolimit.keeps F.keep).keeps x.toInCall.keep, codeAny_func ?_⟩
  obtain ⟨h₁, tk, rfl, _⟩ := x.done
  have hk₁ := x.toInCall.keep
  obtain ⟨cells, NC, Y⟩ := Cl.news (h₀ := s.heap) (Nat.le_refl _) fun n c hm => ⟨x.cell n c (lookup_of_mem_nodup (cellsFrom_names scope.names 0 (s.heap.objs.size + 1) [] [] rfl ▸ hnd) hm), x.above n c hm⟩
  refine h s.heap.objs.size h₁ tk cells ⟨x.toInCall.ns, fun b o e => hk₁ b o (of_hideAll _ e), Nat.le_of_eq (hideAll_size _ _)⟩ (fun p hp => ?_) Y BG (X₀.keeps st) (T.keeps st) (fun p hp => Heap.lt_size (N p hp).1)
  rcases List.mem_append.mp hp with hp | hp
  · refine ⟨(NC p hp).1, (NC p hp).2.1, ?_⟩
    cases q : (hideAll s.heap (news.map (·.1))).get? p.1 with
    | none => rfl
    | some o => have := of_hideAll _ q; rw [(NC p hp).2.2] at this; cases this
  · exact ⟨hk₁ _ _ (N p hp).1, Nat.ne_of_lt (Heap.lt_size (N p hp).1), hideAll_none _ (List.mem_map_of_mem hp)⟩
end

/-- what a call of the def at f does: all that stands is kept, and what comes back is Rel -/
def Says (f : Addr) (vs : List Value) (Rel : Heap → Heap → Value → Prop) : Prop :=
  ∀ (w : World) (loose : List Str) (mean : ExcName → Option Value) (mg mb : Str → Option Value) (dp un : Nat) (gd : Option (List Code)) (cn : Str) (cs : Scope) (a : Addr) (ccd : Value) (cl : List (Str × Addr)) (outer : List Env) (A₀ : Around) (base h₀ : Heap) (L : Addr) (m : Str → Option Value) (s : Shared) (Q E : Value → Shared → Prop),
    Below A₀ base outer h₀ → Fr h₀ L s.heap m → (hd.heap_39 w.params).In h₀ → Top topProg loose mean mg mb h₀ → cs.kind = .function →
    dp + 20 < recursionLimit → un + 200 < cLine →
    (∀ v h' tk', (∀ b o, s.heap.get? b = some o → h'.get? b = some o) → Rel s.heap h' v → Q v { s with heap := h', toks := tk' }) →
    wpAny (model PySem.Challenge.rw_ny0117_01.row.prog w) (ktrTop dp un gd cn cs L a ccd cl outer) (call (.ref f) vs) Q E s

/-- the same, where something stands beforehand -/
def SaysP (Pre : Heap → Prop) (f : Addr) (vs : List Value) (Rel : Heap → Heap → Value → Prop) : Prop :=
  ∀ (w : World) (loose : List Str) (mean : ExcName → Option Value) (mg mb : Str → Option Value) (dp un : Nat) (gd : Option (List Code)) (cn : Str) (cs : Scope) (a : Addr) (ccd : Value) (cl : List (Str × Addr)) (outer : List Env) (A₀ : Around) (base h₀ : Heap) (L : Addr) (m : Str → Option Value) (s : Shared) (Q E : Value → Shared → Prop),
    Below A₀ base outer h₀ → Fr h₀ L s.heap m → (hd.heap_39 w.params).In h₀ → Top topProg loose mean mg mb h₀ → cs.kind = .function →
    dp + 20 < recursionLimit → un + 200 < cLine → Pre s.heap →
    (∀ v h' tk', (∀ b o, s.heap.get? b = some o → h'.get? b = some o) → Rel s.heap h' v → Q v { s with heap := h', toks := tk' }) →
    wpAny (model PySem.Challenge.rw_ny0117_01.row.prog w) (ktrTop dp un gd cn cs L a ccd cl outer) (call (.ref f) vs) Q E s

/-- the same, where one object of the ledger is handed on -/
def SaysL (l : Addr) (lo : Obj) (f : Addr) (vs : List Value) (Rel : Heap → Heap → Value → Prop) : Prop :=
  ∀ (w : World) (loose : List Str) (mean : ExcName → Option Value) (mg mb : Str → Option Value) (dp un : Nat) (gd : Option (List Code)) (cn : Str) (cs : Scope) (a : Addr) (ccd : Value) (cl : List (Str × Addr)) (outer : List Env) (A₀ : Around) (base h₀ : Heap) (L : Addr) (m : Str → Option Value) (s : Shared) (Q E : Value → Shared → Prop),
    Below A₀ base outer h₀ → Fr h₀ L s.heap m → (hd.heap_39 w.params).In h₀ → News h₀ L s.heap [(l, lo)] → Top topProg loose mean mg mb h₀ → cs.kind = .function →
    dp + 20 < recursionLimit → un + 200 < cLine →
    (∀ v h' tk', (∀ b o, s.heap.get? b = some o → h'.get? b = some o) → Rel s.heap h' v → Q v { s with heap := h', toks := tk' }) →
    wpAny (model PySem.Challenge.rw_ny0117_01.row.prog w) (ktrTop dp un gd cn cs L a ccd cl outer) (call (.ref f) vs) Q E s

/-- the same, where the table of the lambda's code stands empty and may grow -/
def SaysW (bd bu : Nat) (f : Addr) (vs : List Value) (Rel : Heap → Heap → Value → Prop) : Prop :=
  ∀ (w : World) (loose : List Str) (mean : ExcName → Option Value) (mg mb : Str → Option Value) (dp un : Nat) (gd : Option (List Code)) (cn : Str) (cs : Scope) (a : Addr) (ccd : Value) (cl : List (Str × Addr)) (outer : List Env) (A₀ : Around) (base h₀ : Heap) (L : Addr) (m : Str → Option Value) (s : Shared) (Q E : Value → Shared → Prop),
    Below A₀ base outer h₀ → Fr h₀ L s.heap m → (hd.heap_39 w.params).In h₀ → News h₀ L s.heap [(107, tabObj #[])] → CodeHd h₀ 111 107 → Top topProg loose mean mg mb h₀ → cs.kind = .function →
    dp + bd < recursionLimit → un + bu < cLine →
    (∀ v h' tk' ps, (∀ b o, b ≠ 107 → s.heap.get? b = some o → h'.get? b = some o) → h'.get? 107 = some (tabObj ps) → Rel s.heap h' v → Q v { s with heap := h', toks := tk' }) →
    wpAny (model PySem.Challenge.rw_ny0117_01.row.prog w) (ktrTop dp un gd cn cs L a ccd cl outer) (call (.ref f) vs) Q E s

abbrev isInt (x : Int) : Heap → Heap → Value → Prop := fun _ _ v => ∃ t, v = .int x t
abbrev isStr (x : Str) : Heap → Heap → Value → Prop := fun _ _ v => ∃ t, v = .str x t
/-- a new list of these ints -/
abbrev isInts (ns : List Int) : Heap → Heap → Value → Prop := fun h h' v => ∃ l us nn, v = .ref l ∧ h.get? l = none ∧ h'.get? l = some (W.listOf us.toArray nn) ∧ IntsAre us ns
abbrev isBool (x : Bool) : Heap → Heap → Value → Prop := fun _ _ v => v = .bool x

section
variable {w : World} {loose : List Str} {mean : ExcName → Option Value} {mg mb : Str → Option Value} {dp un : Nat} {gd : Option (List Code)} {cn : Str} {cs : Scope} {a : Addr} {ccd : Value} {cl : List (Str × Addr)} {outer : List Env} {A₀ : Around} {base h₀ : Heap} {L : Addr} {m : Str → Option Value} {s : Shared} {Q E : Value → Shared → Prop} {news : List (Addr × Obj)} {f : Addr} {vs : List Value}

theorem Says.int {x : Int} (S : Says f vs (isInt x)) (B : Below A₀ base outer h₀) (F : Fr h₀ L s.heap m) (X : (hd.heap_39 w.params).In h₀) (N : News h₀ L s.heap news) (T : Top topProg loose mean mg mb h₀) (hk : cs.kind = .function)
    (hd : dp + 20 < recursionLimit) (hu : un + 200 < cLine) (ret : ∀ t h' tk', Fr h₀ L h' m → News h₀ L h' news → Q (.int x t) { s with heap := h', toks := tk' }) :
    wpAny (model PySem.Challenge.rw_ny0117_01.row.prog w) (ktrTop dp un gd cn cs L a ccd cl outer) (call (.ref f) vs) Q E s :=
  S _ _ _ _ _ _ _ _ _ _ _ _ _ _ _ _ _ _ _ _ _ _ B F X T hk hd hu fun v h' tk' k r => by
    obtain ⟨t, rfl⟩ := r
    exact ret t h' tk' (F.after k) (N.keepsAll k)
theorem Says.str {x : Str} (S : Says f vs (isStr x)) (B : Below A₀ base outer h₀) (F : Fr h₀ L s.heap m) (X : (hd.heap_39 w.params).In h₀) (N : News h₀ L s.heap news) (T : Top topProg loose mean mg mb h₀) (hk : cs.kind = .function)
    (hd : dp + 20 < recursionLimit) (hu : un + 200 < cLine) (ret : ∀ t h' tk', Fr h₀ L h' m → News h₀ L h' news → Q (.str x t) { s with heap := h', toks := tk' }) :
    wpAny (model PySem.Challenge.rw_ny0117_01.row.prog w) (ktrTop dp un gd cn cs L a ccd cl outer) (call (.ref f) vs) Q E s :=
  S _ _ _ _ _ _ _ _ _ _ _ _ _ _ _ _ _ _ _ _ _ _ B F X T hk hd hu fun v h' tk' k r => by
    obtain ⟨t, rfl⟩ := r
    exact ret t h' tk' (F.after k) (N.keepsAll k)
theorem ne_of_none {h : Heap} {a l : Addr} {o : Obj} (h1 : h.get? a = some o) (h2 : h.get? l = none) : @Ne Nat a l := by
  intro e
  have e' : a = l := e
  rw [e', h2] at h1; cases h1
/-- a new list goes onto the ledger -/
theorem Says.ints {ns : List Int} (S : Says f vs (isInts ns)) (B : Below A₀ base outer h₀) (F : Fr h₀ L s.heap m) (X : (hd.heap_39 w.params).In h₀) (N : News h₀ L s.heap news) (T : Top topProg loose mean mg mb h₀) (hk : cs.kind = .function)
    (hd : dp + 20 < recursionLimit) (hu : un + 200 < cLine) (ret : ∀ l us nn h' tk', Fr h₀ L h' m → News h₀ L h' ((l, W.listOf us.toArray nn) :: news) → IntsAre us ns → (∀ p ∈ news, @Ne Nat p.1 l) → Q (.ref l) { s with heap := h', toks := tk' }) :
    wpAny (model PySem.Challenge.rw_ny0117_01.row.prog w) (ktrTop dp un gd cn cs L a ccd cl outer) (call (.ref f) vs) Q E s :=
  S _ _ _ _ _ _ _ _ _ _ _ _ _ _ _ _ _ _ _ _ _ _ B F X T hk hd hu fun v h' tk' k r => by
    obtain ⟨l, us, nn, rfl, hn, hl, hi⟩ := r
    obtain ⟨oL, _, _, hL, _⟩ := F.ns
    refine ret l us nn h' tk' (F.after k) (fun p hp => ?_) hi fun p hp => ne_of_none (N p hp).1 hn
    rcases List.mem_cons.mp hp with rfl | hp
    · refine ⟨hl, fun e => ne_of_none hL hn e.symm, ?_⟩
      cases z : h₀.get? l with
      | none => rfl
      | some o => have := F.keep _ _ z; rw [hn] at this; cases this
    · exact ⟨k _ _ (N p hp).1, (N p hp).2⟩
theorem SaysW.ints {ns : List Int} {bd bu : Nat} (S : SaysW bd bu f vs (isInts ns)) (B : Below A₀ base outer h₀) (F : Fr h₀ L s.heap m) (X : (hd.heap_39 w.params).In h₀) (N : News h₀ L s.heap [(107, tabObj #[])]) (C : CodeHd h₀ 111 107) (T : Top topProg loose mean mg mb h₀) (hk : cs.kind = .function)
    (hd : dp + bd < recursionLimit) (hu : un + bu < cLine) (ret : ∀ l us nn ps h' tk', Fr h₀ L h' m → News h₀ L h' [(l, W.listOf us.toArray nn), (107, tabObj ps)] → IntsAre us ns → @Ne Nat 107 l → Q (.ref l) { s with heap := h', toks := tk' }) :
    wpAny (model PySem.Challenge.rw_ny0117_01.row.prog w) (ktrTop dp un gd cn cs L a ccd cl outer) (call (.ref f) vs) Q E s :=
  S _ _ _ _ _ _ _ _ _ _ _ _ _ _ _ _ _ _ _ _ _ _ B F X N C T hk hd hu fun v h' tk' ps k h7 r => by
    obtain ⟨l, us, nn, rfl, hn, hl, hi⟩ := r
    have n7 := N _ (.head _)
    obtain ⟨oL, _, _, hL, _⟩ := id F.ns
    have z0 : ∀ b o, h₀.get? b = some o → b ≠ 107 := fun b o e q => by
      have := n7.2.2
      rw [← q, e] at this; cases this
    refine ret l us nn ps h' tk' ⟨F.ns.at' fun o e => k _ o (fun q => n7.2.1 q.symm) e, fun b o e => k b o (z0 b o e) (F.keep b o e), F.above⟩ (fun p hp => ?_) hi (ne_of_none n7.1 hn)
    rcases List.mem_cons.mp hp with rfl | hp
    · refine ⟨hl, fun e => ne_of_none hL hn e.symm, ?_⟩
      cases z : h₀.get? l with
      | none => rfl
      | some o => have := F.keep _ _ z; rw [hn] at this; cases this
    · rw [List.mem_singleton.mp hp]
      exact ⟨h7, n7.2⟩
theorem SaysL.bool {x : Bool} {l : Addr} {lo : Obj} (S : SaysL l lo f vs (isBool x)) (B : Below A₀ base outer h₀) (F : Fr h₀ L s.heap m) (X : (hd.heap_39 w.params).In h₀) (N : News h₀ L s.heap news) (hm : (l, lo) ∈ news) (T : Top topProg loose mean mg mb h₀) (hk : cs.kind = .function)
    (hd : dp + 20 < recursionLimit) (hu : un + 200 < cLine) (ret : ∀ h' tk', Fr h₀ L h' m → News h₀ L h' news → Q (.bool x) { s with heap := h', toks := tk' }) :
    wpAny (model PySem.Challenge.rw_ny0117_01.row.prog w) (ktrTop dp un gd cn cs L a ccd cl outer) (call (.ref f) vs) Q E s :=
  S _ _ _ _ _ _ _ _ _ _ _ _ _ _ _ _ _ _ _ _ _ _ B F X (fun p hp => N p (by rw [List.mem_singleton.mp hp]; exact hm)) T hk hd hu fun v h' tk' k r => by
    have r : v = .bool x := r
    subst r
    exact ret h' tk' (F.after k) (N.keepsAll k)
theorem Says.bool {x : Bool} (S : Says f vs (isBool x)) (B : Below A₀ base outer h₀) (F : Fr h₀ L s.heap m) (X : (hd.heap_39 w.params).In h₀) (N : News h₀ L s.heap news) (T : Top topProg loose mean mg mb h₀) (hk : cs.kind = .function)
    (hd : dp + 20 < recursionLimit) (hu : un + 200 < cLine) (ret : ∀ h' tk', Fr h₀ L h' m → News h₀ L h' news → Q (.bool x) { s with heap := h', toks := tk' }) :
    wpAny (model PySem.Challenge.rw_ny0117_01.row.prog w) (ktrTop dp un gd cn cs L a ccd cl outer) (call (.ref f) vs) Q E s :=
  S _ _ _ _ _ _ _ _ _ _ _ _ _ _ _ _ _ _ _ _ _ _ B F X T hk hd hu fun v h' tk' k r => by
    have r : v = .bool x := r
    subst r
    exact ret h' tk' (F.after k) (N.keepsAll k)
end

/-- a loop over a range by what holds between its turns; the ledger's addresses stay -/
theorem iter_rangeJ {prog : Program} {w : World} {A : Around} {E : Value → Shared → Prop} {s : Shared} {env : Env} {h₀ : Heap} {x : Str} {body : List Stmt} {Q : Flow → Shared → Prop} {r : Addr} {a₀ b₀ : Int} {t₀ u₀ v₀ : Tok} {n : Nat} {m₀ : Str → Option Value} {news : List (Addr × Obj)}
    (R : Nat → (Str → Option Value) → List (Addr × Obj) → Prop)
    (hh : A.handled = none) (hr : IsRange s.heap r a₀ b₀ 1 t₀ u₀ v₀) (hsmall : Builtin.Range.small a₀ b₀ 1 = true) (hn : Builtin.Range.rangeSize a₀ b₀ 1 = (n : Int)) (F : Fr h₀ env.locals s.heap m₀) (N : News h₀ env.locals s.heap news) (hR : R 0 m₀ news)
    (turn : ∀ i t m₁ nx h tk own, i < n → OwnOff own (news.map (·.1)) → R i m₁ nx → Fr h₀ env.locals h (fun y => if y = x then some (.int (a₀ + (i : Int)) t) else m₁ y) → News h₀ env.locals h (nx ++ own) →
      wpAny (model prog w) A (execs body env) (InvPostN h₀ env.locals (R (i + 1)) own (news.map (·.1)) { s with heap := h, toks := tk } Q) E { s with heap := h, toks := tk })
    (done : ∀ m₁ nx h tk, R n m₁ nx → Fr h₀ env.locals h m₁ → News h₀ env.locals h nx → Q .next { s with heap := h, toks := tk }) :
    wpAny (model prog w) A (pyIter (.ref r)) (fun it s₂ => LoopAtV prog w A h₀ env x body Q E it s₂) E s := by
  refine wpAny_pyIter_range hr hsmall ?_
  have W : Walks prog w A s.heap.objs.size [s.heap.objs.size] [s.heap.objs.size] n (fun i v => i < n ∧ ∃ t, v = .int (a₀ + i * 1) t)
      (fun i h => IsRangeIter h s.heap.objs.size (a₀ + (i : Nat) * 1) ((n : Int) - (i : Nat)) 1) := (Walks.range hh _ a₀ 1 n).bound
  refine loop_invN R W ?_ ?_ ?_ ?_ (by show IsRangeIter _ _ _ _ _; rw [hn]; simpa using Heap.get?_push_size _ rfl) (F.push _) (fun p hp => ⟨Heap.get?_push_of_some _ (N p hp).1, (N p hp).2⟩) hR ?_ ?_
  · intro hm
    exact absurd F.ns.lt ((List.mem_singleton.mp hm) ▸ Nat.lt_irrefl _)
  · intro b hb
    rw [List.mem_singleton.mp hb]
    exact next_is_new F
  · intro p hp hI
    exact absurd (Heap.lt_size (N p hp).1) ((List.mem_singleton.mp hI) ▸ Nat.lt_irrefl _)
  · intro p hp hI
    exact absurd (Heap.lt_size (N p hp).1) ((List.mem_singleton.mp hI) ▸ Nat.lt_irrefl _)
  · rintro i v m₁ nx h tk own hi ⟨_, t, rfl⟩ _ ho hr' F' N'
    rw [Int.mul_one] at F'
    exact turn i t m₁ nx h tk own hi ho hr' F' N'
  · exact fun m₁ nx h tk hr' F' N' => done m₁ nx h tk hr' F' N'
/-- the same, the ledger holds one object -/
theorem iter_range1 {prog : Program} {w : World} {A : Around} {E : Value → Shared → Prop} {s : Shared} {env : Env} {h₀ : Heap} {x : Str} {body : List Stmt} {Q : Flow → Shared → Prop} {r : Addr} {a₀ b₀ : Int} {t₀ u₀ v₀ : Tok} {n : Nat} {m₀ : Str → Option Value} {l : Addr} {o : Obj}
    (R : Addr → Nat → (Str → Option Value) → List (Addr × Obj) → Prop)
    (hh : A.handled = none) (hr : IsRange s.heap r a₀ b₀ 1 t₀ u₀ v₀) (hsmall : Builtin.Range.small a₀ b₀ 1 = true) (hn : Builtin.Range.rangeSize a₀ b₀ 1 = (n : Int)) (F : Fr h₀ env.locals s.heap m₀) (N : News h₀ env.locals s.heap [(l, o)]) (hR : R l 0 m₀ [(l, o)])
    (turn : ∀ i t m₁ nx h tk own, i < n → OwnOff own [l] → R l i m₁ nx → Fr h₀ env.locals h (fun y => if y = x then some (.int (a₀ + (i : Int)) t) else m₁ y) → News h₀ env.locals h (nx ++ own) →
      wpAny (model prog w) A (execs body env) (InvPostN h₀ env.locals (R l (i + 1)) own [l] { s with heap := h, toks := tk } Q) E { s with heap := h, toks := tk })
    (done : ∀ m₁ nx h tk, R l n m₁ nx → Fr h₀ env.locals h m₁ → News h₀ env.locals h nx → Q .next { s with heap := h, toks := tk }) :
    wpAny (model prog w) A (pyIter (.ref r)) (fun it s₂ => LoopAtV prog w A h₀ env x body Q E it s₂) E s :=
  iter_rangeJ (R l) hh hr hsmall hn F N hR turn done

theorem ints_snoc {v : Int} {t : Tok} : ∀ {us : List Value} {ns : List Int}, IntsAre us ns → IntsAre (us ++ [.int v t]) (ns ++ [v])
  | _, _, .nil => .cons v t .nil
  | _, _, .cons n u h => .cons n u (ints_snoc h)
theorem inv_end1 {h₀ : Heap} {L l : Addr} {o : Obj} {J : (Str → Option Value) → List (Addr × Obj) → Prop} {m' : Str → Option Value} {own : List (Addr × Obj)} {s₁ : Shared} {h' : Heap} {tk : Nat} (F : Fr h₀ L h' m') (N : News h₀ L h' ((l, o) :: own))
    (hj : J m' [(l, o)]) : InvEndN h₀ L J own [l] s₁ { s₁ with heap := h', toks := tk } :=
  InvEndN.intro F N hj rfl (fun p hp => by rw [List.mem_singleton.mp hp]; exact .head _) fun p hp => .tail _ hp
theorem cls_ne {h₀ h : Heap} {L a b : Addr} {o o' : Obj} {news : List (Addr × Obj)} (N : News h₀ L h news) (h1 : (a, o) ∈ news) (h2 : (b, o') ∈ news) (hc : o.cls ≠ o'.cls) : @Ne Nat a b := by
  intro e
  have q1 := (N _ h1).1
  have q2 := (N _ h2).1
  have e' : a = b := e
  subst e'
  exact hc (congrArg Obj.cls (Option.some.inj (q1.symm.trans q2)))
/-- the turns of a list comprehension: each element is G, the ledger stays -/
theorem lc_turns {prog : Program} {w : World} {A : Around} {h₀ : Heap} {L : Addr} {m : Str → Option Value} {env : Env} {elt : Expr} {x : Str} {scope : Scope} {cl : List (Str × Addr)} {s : Shared} {S : List (Addr × Obj) → Prop} {P : Nat → Value → Prop} {Fin : List Value → List (Addr × Obj) → Prop} {news : List (Addr × Obj)} {n : Nat}
    (G : Nat → Value → Prop)
    (turn : ∀ i v I oI C oC D m₂ ys h tk (E' : Value → Shared → Prop), i < n → P i v → LCg.NsObj oC m₂ → m₂ x = some v → Fr h₀ L h m → News h₀ L h ((I, oI) :: (C, oC) :: (D, LCg.lst ys) :: news) → LCg.Off3 I C D news → ((@Ne Nat I C) ∧ (@Ne Nat I D) ∧ (@Ne Nat C D)) →
      wpAny (model prog w) A (eval elt (compEnvC scope cl C env)) (LCg.CompEnd h₀ L m { s with heap := h, toks := tk } I oI C oC D (LCg.lst ys) S (fun y news' => news' = news ∧ G i y)) E' { s with heap := h, toks := tk })
    (fin : ∀ ys, ys.length = n → (∀ i y, ys[i]? = some y → G i y) → Fin ys news) : LCg.CompRest prog w A h₀ L m env elt x scope cl s S P Fin n 0 [] news := by
  have key : ∀ (j i : Nat) (ys : List Value), i + j = n → ys.length = i → (∀ k y, ys[k]? = some y → G k y) → LCg.CompRest prog w A h₀ L m env elt x scope cl s S P Fin j i ys news := by
    intro j
    induction j with
    | zero =>
      intro i ys hi hl hy
      exact LCg.CompRest.zero (fin ys (by omega) hy)
    | succ j ih =>
      intro i ys hi hl hy
      refine LCg.CompRest.succ ?_
      intro v I oI C oC D m₂ h tk E' hv hC hx F N off ne
      refine wpAny_mono (turn i v I oI C oC D m₂ ys h tk E' (by omega) hv hC hx F N off ne) (fun y s₂ hq => ?_) fun _ _ e => e
      obtain ⟨h', tk', nw, e, F', N', off', hS, hn, hy'⟩ := hq
      subst hn
      refine ⟨h', tk', nw, e, F', N', off', hS, ih (i + 1) _ (by omega) (by rw [List.length_append, hl]; rfl) ?_⟩
      intro k z hz
      by_cases hk : k < ys.length
      · rw [List.getElem?_append_left hk] at hz
        exact hy k z hz
      · have hk' : k = i := by
          have := (List.getElem?_eq_some_iff.mp hz).1
          rw [List.length_append, List.length_singleton] at this
          omega
        subst hk'
        rw [List.getElem?_append_right (by omega), hl, Nat.sub_self] at hz
        have hz' : y = z := by simpa using hz
        rw [← hz']; exact hy'
  exact key n 0 [] (by omega) rfl fun k y h => by simp at h

/-- the walk halts here -/
structure Halt (P : Prop) : Prop where
  out : P

theorem fr_named {h₀ h : Heap} {L : Addr} {m : Str → Option Value} {x : Str} {v : Value} (F : Fr h₀ L h m) (e : m x = some v) : Fr h₀ L h (fun y => if y = x then some v else m y) := by
  have q : (fun y => if y = x then some v else m y) = m := by
    funext y
    by_cases hy : y = x
    · rw [if_pos hy, hy, e]
    · rw [if_neg hy]
  rw [q]; exact F
end Mine
end

section
namespace Mine
set_option maxRecDepth 100000

/-- one step of the walk over the modes, as the walk says it -/
def stp (x y : Int) : Int := Builtin.bitAnd x 61440 + Builtin.bitAnd (x + Builtin.bitOr (x * x) y) 4095
section
set_option maxHeartbeats 4000000
local macro_rules | `(tactic| k_room) => `(tactic| ktr_room)
local macro_rules | `(tactic| units_room) => `(tactic| ktr_units)
local macro_rules | `(tactic| k_units) => `(tactic| ktr_units)
local macro_rules | `(tactic| cell_enter) => `(tactic| first
  | (refine' code_def0 ?k1 ?k2 ?k3 ?k5 ?kA ?kF ?kK ?k6 ?k7 ?k8 ?k9 ?kB ?_ ?c2 ?c3 ?c4 ?c5; (case kA => exact rfl); (case kF => exact rfl); (case kK => assumption); (case k1 => k_asm); (case k2 => k_asm); (case k3 => k_asm); (case k5 => k_asm); (case k6 => k_is); (case k7 => k_is); (case k8 => ktr_room); (case k9 => exact BindsTo.of_eq rfl); (case c5 => decide); (case kB => exact locs rfl); (case c2 => exact rfl); (case c3 => exact rfl); (case c4 => exact rfl); k_whole; intro L' h' F' N' B' X' T'; (try dsimp only); (try k_lift B'); (try k_fold))
  | (refine' code_defC0 ?k1 ?k2 ?k3 ?k5 ?kA ?kF ?kK ?k6 ?k7 ?k8 ?k9 ?kB ?kD ?_ ?c2 ?c3 ?c4; (case kA => exact rfl); (case kF => exact rfl); (case kK => assumption); (case k1 => k_asm); (case k2 => k_asm); (case k3 => k_asm); (case k5 => k_asm); (case k6 => k_is); (case k7 => k_is); (case k8 => ktr_room); (case k9 => exact BindsTo.of_eq rfl); (case kB => exact rfl); (case kD => decide +kernel); (case c2 => exact rfl); (case c3 => exact rfl); (case c4 => exact rfl); k_whole; intro L' h' tk' cells' F' N' Y' B' X' T'; k_cells Y'; (try simp only [List.cons_append, List.nil_append] at N'); (try dsimp only); (try k_lift B'); (try k_fold)))

theorem step_says (x y : Int) (t1 t2 : Tok) (hx : 0 ≤ x) (hx' : x < 65536) (hy : 0 ≤ y) (hy' : y < 65536) : Says 105 [.int x t1, .int y t2] (isInt (stp x y)) := by
  unfold Says
  w_on
  k_fill
  intro w loose mean mg mb dp un gd cn cs a ccd cl outer A₀ base h₀ L m s Q E B F X T hk hd hu hret
  refine wpAny_call ?_
  k_dflt cell_enter
  k_steps
  exact hret _ _ _ (Fr.keep (by assumption)) ⟨_, rfl⟩
end
end Mine
end

section
namespace Mine
set_option maxRecDepth 100000

/-- the law's own row of a mode -/
def rowS (x : Int) : Str :=
  Txt.item (Str.ofString "?pc?d?b?-?l?s???") (x.fdiv 4096) ++
    (Txt.item (Str.ofString "-r") (((x.fdiv 64).fmod 8).fdiv 4) ++ Txt.item (Str.ofString "-w") ((((x.fdiv 64).fmod 8).fdiv 2).fmod 2)) ++
    Txt.item (Str.ofString "-xSs") (((x.fdiv 64).fmod 8).fmod 2 + 2 * (x.fdiv 2048).fmod 2) ++
    (Txt.item (Str.ofString "-r") (((x.fdiv 8).fmod 8).fdiv 4) ++ Txt.item (Str.ofString "-w") ((((x.fdiv 8).fmod 8).fdiv 2).fmod 2)) ++
    Txt.item (Str.ofString "-xSs") (((x.fdiv 8).fmod 8).fmod 2 + 2 * (x.fdiv 1024).fmod 2) ++
    (Txt.item (Str.ofString "-r") (((x.fdiv 1).fmod 8).fdiv 4) ++ Txt.item (Str.ofString "-w") ((((x.fdiv 1).fmod 8).fdiv 2).fmod 2)) ++
    Txt.item (Str.ofString "-xTt") (((x.fdiv 1).fmod 8).fmod 2 + 2 * (x.fdiv 512).fmod 2)
section
set_option maxHeartbeats 4000000
local macro_rules | `(tactic| k_room) => `(tactic| ktr_room)
local macro_rules | `(tactic| units_room) => `(tactic| ktr_units)
local macro_rules | `(tactic| k_units) => `(tactic| ktr_units)
local macro_rules | `(tactic| cell_enter) => `(tactic| first
  | (refine' code_def0 ?k1 ?k2 ?k3 ?k5 ?kA ?kF ?kK ?k6 ?k7 ?k8 ?k9 ?kB ?_ ?c2 ?c3 ?c4 ?c5; (case kA => exact rfl); (case kF => exact rfl); (case kK => assumption); (case k1 => k_asm); (case k2 => k_asm); (case k3 => k_asm); (case k5 => k_asm); (case k6 => k_is); (case k7 => k_is); (case k8 => ktr_room); (case k9 => exact BindsTo.of_eq rfl); (case c5 => decide); (case kB => exact locs rfl); (case c2 => exact rfl); (case c3 => exact rfl); (case c4 => exact rfl); k_whole; intro L' h' F' N' B' X' T'; (try dsimp only); (try k_lift B'); (try k_fold))
  | (refine' code_defC0 ?k1 ?k2 ?k3 ?k5 ?kA ?kF ?kK ?k6 ?k7 ?k8 ?k9 ?kB ?kD ?_ ?c2 ?c3 ?c4; (case kA => exact rfl); (case kF => exact rfl); (case kK => assumption); (case k1 => k_asm); (case k2 => k_asm); (case k3 => k_asm); (case k5 => k_asm); (case k6 => k_is); (case k7 => k_is); (case k8 => ktr_room); (case k9 => exact BindsTo.of_eq rfl); (case kB => exact rfl); (case kD => decide +kernel); (case c2 => exact rfl); (case c3 => exact rfl); (case c4 => exact rfl); k_whole; intro L' h' tk' cells' F' N' Y' B' X' T'; k_cells Y'; (try simp only [List.cons_append, List.nil_append] at N'); (try dsimp only); (try k_lift B'); (try k_fold)))

theorem row_says (x : Int) (t1 : Tok) (hx : 0 ≤ x) (hx' : x < 65536) : Says 126 [.int x t1] (isStr (rowS x)) := by
  unfold Says
  w_on
  k_fill
  intro w loose mean mg mb dp un gd cn cs a ccd cl outer A₀ base h₀ L m s Q E B F X T hk hd hu hret
  refine wpAny_call ?_
  k_dflt cell_enter
  k_steps
  exact hret _ _ _ (Fr.keep (by assumption)) ⟨_, rfl⟩
end
end Mine
end

section
namespace Mine
set_option maxRecDepth 100000

/-- the rights behind n turns of the law's own walk -/
def plR (x y : Int) : Nat → Int
  | 0 => x.fmod 4096
  | n + 1 => (plR x y n + plR x y n * plR x y n + y - Builtin.bitAnd (plR x y n * plR x y n) y).fmod 4096
/-- the modes behind n turns -/
def plM (x y : Int) : Nat → List Int
  | 0 => [x]
  | n + 1 => plM x y n ++ [x - x.fmod 4096 + plR x y (n + 1)]
theorem plM_len (x y : Int) : ∀ n, (plM x y n).length = n + 1
  | 0 => rfl
  | n + 1 => by rw [plM, List.length_append, plM_len x y n]; rfl
theorem plR_bd (x y : Int) : ∀ n, 0 ≤ plR x y n ∧ plR x y n < 4096
  | 0 => ⟨Int.fmod_nonneg_of_pos _ (by decide), Int.fmod_lt_of_pos _ (by decide)⟩
  | _ + 1 => ⟨Int.fmod_nonneg_of_pos _ (by decide), Int.fmod_lt_of_pos _ (by decide)⟩
abbrev S (x : String) : Str := Str.ofString x
/-- what holds between the turns -/
def PlRel (x y : Int) (t1 t2 : Tok) (l : Addr) (n : Nat) (m : Str → Option Value) (nx : List (Addr × Obj)) : Prop :=
  ∃ t us nn, m (S "start") = some (.int x t1) ∧ m (S "lead") = some (.int y t2) ∧ m (S "rights") = some (.int (plR x y n) t) ∧ m (S "modes") = some (.ref l) ∧ nx = [(l, W.listOf us.toArray nn)] ∧ IntsAre us (plM x y n)
section
set_option maxHeartbeats 4000000
local macro_rules | `(tactic| k_room) => `(tactic| ktr_room)
local macro_rules | `(tactic| units_room) => `(tactic| ktr_units)
local macro_rules | `(tactic| k_units) => `(tactic| ktr_units)
local macro_rules | `(tactic| cell_enter) => `(tactic| first
  | (refine' code_def0 ?k1 ?k2 ?k3 ?k5 ?kA ?kF ?kK ?k6 ?k7 ?k8 ?k9 ?kB ?_ ?c2 ?c3 ?c4 ?c5; (case kA => exact rfl); (case kF => exact rfl); (case kK => assumption); (case k1 => k_asm); (case k2 => k_asm); (case k3 => k_asm); (case k5 => k_asm); (case k6 => k_is); (case k7 => k_is); (case k8 => ktr_room); (case k9 => exact BindsTo.of_eq rfl); (case c5 => decide); (case kB => exact locs rfl); (case c2 => exact rfl); (case c3 => exact rfl); (case c4 => exact rfl); k_whole; intro L' h' F' N' B' X' T'; (try dsimp only); (try k_lift B'); (try k_fold))
  | (refine' code_defC0 ?k1 ?k2 ?k3 ?k5 ?kA ?kF ?kK ?k6 ?k7 ?k8 ?k9 ?kB ?kD ?_ ?c2 ?c3 ?c4; (case kA => exact rfl); (case kF => exact rfl); (case kK => assumption); (case k1 => k_asm); (case k2 => k_asm); (case k3 => k_asm); (case k5 => k_asm); (case k6 => k_is); (case k7 => k_is); (case k8 => ktr_room); (case k9 => exact BindsTo.of_eq rfl); (case kB => exact rfl); (case kD => decide +kernel); (case c2 => exact rfl); (case c3 => exact rfl); (case c4 => exact rfl); k_whole; intro L' h' tk' cells' F' N' Y' B' X' T'; k_cells Y'; (try simp only [List.cons_append, List.nil_append] at N'); (try dsimp only); (try k_lift B'); (try k_fold)))

theorem plain_says (x y : Int) (t1 t2 : Tok) (hx : 0 ≤ x) (hx' : x < 65536) (hy : 0 ≤ y) (hy' : y < 65536) : Says 119 [.int x t1, .int y t2] (isInts (plM x y 16)) := by
  unfold Says
  w_on
  k_fill
  intro w loose mean mg mb dp un gd cn cs a ccd cl outer A₀ base h₀ L m s Q E B F X T hk hd hu hret
  k_with_none
  k_with "pyIter ref" => refine Halt.out ?_
  refine wpAny_call ?_
  k_dflt cell_enter
  k_steps
  refine Halt.mk ?_
  (rename IsRange _ _ _ _ _ _ _ _ => R'); (rename Fr _ _ _ _ => F'); (rename News _ _ _ _ => N')
  with_unfolding_all refine' iter_range1 (n := 16) (PlRel x y t1 t2) ?hh R' ?hs ?hn F' N' ?hR ?turn ?done
  case hh => rfl
  case hs => decide +kernel
  case hn => decide +kernel
  case hR => exact ⟨_, [.int x t1], _, rfl, rfl, rfl, rfl, rfl, IntsAre.cons _ _ IntsAre.nil⟩
  case turn =>
    skip
    intro n t m₁ nx h tk own hn16 ho hr F₁ N₁
    obtain ⟨t', us, nn, e1, e2, e3, e4, rfl, hi⟩ := hr
    have F₂ := fr_named (fr_named (fr_named (fr_named F₁ ((if_neg (by decide)).trans e1)) ((if_neg (by decide)).trans ((if_neg (by decide)).trans e2))) ((if_neg (by decide)).trans ((if_neg (by decide)).trans ((if_neg (by decide)).trans e3)))) ((if_neg (by decide)).trans ((if_neg (by decide)).trans ((if_neg (by decide)).trans ((if_neg (by decide)).trans e4))))
    clear F₁
    simp only [List.cons_append, List.nil_append] at N₁
    obtain ⟨b1, b2⟩ := plR_bd x y n
    have hR1 : plR x y (n + 1) = (plR x y n + plR x y n * plR x y n + y - Builtin.bitAnd (plR x y n * plR x y n) y).fmod 4096 := rfl
    have hM1 : plM x y (n + 1) = plM x y n ++ [x - x.fmod 4096 + plR x y (n + 1)] := rfl
    have hl := hi.length
    rw [plM_len] at hl
    generalize plR x y n = r at *
    k_steps
    k_dflt (refine' append_K ?k1 ?k2 ?k3 ?_ ?z; (case k1 => k_asm); (case k2 => k_asm); (case k3 => k_upd); (case z => size_fits); k_whole); intro h' F' N'; (try k_sweep)
    k_steps
    simp only [List.push_toArray] at N'
    refine' inv_end1 (by assumption) N' ⟨_, _, _, rfl, rfl, ?r, rfl, rfl, ?i⟩
    case r => rw [hR1]; rfl
    case i => rw [hM1, hR1]; exact ints_snoc hi
  case done =>
    intro m₁ nx h tk hr F₁ N₁
    obtain ⟨t', us, nn, e1, e2, e3, e4, rfl, hi⟩ := hr
    have F₂ := fr_named F₁ e4
    clear F₁
    k_steps
    have n1 := N₁ _ (.head _)
    refine hret _ _ _ (Fr.keep F₂) ⟨_, us, nn, rfl, n1.2.2, n1.1, hi⟩
end
end Mine
end

section
namespace Mine
open PySem.Calls PyProof.V PySem.Spec
open AutoSeq1 (wpAny_loadPart')
set_option maxRecDepth 100000

section
variable {prog : Program} {w : World} {A : Around} {E : Value → Shared → Prop} {s : Shared}

theorem nextOf_tuple_item {it t : Addr} {i : Nat} {items : Array Value} {x : Value} {Q : Value → Shared → Prop} (hit : s.heap.IsTupleIter it t i)
    (ht : s.heap.IsTuple t items) (hx : items[i]? = some x)
    (hQ : ∀ h', h'.IsTupleIter it t (i + 1) → Heap.SameBut it s.heap h' → Q x { s with heap := h' }) :
    wpAny (model prog w) A (Builtin.SmallTypes.nextOf (.ref it)) Q E s := by
  obtain ⟨o, ho, hc, hd⟩ := id hit
  obtain ⟨ol, hol, _, nl, hdl⟩ := ht
  unfold Builtin.SmallTypes.nextOf
  refine wpAny_bind (wpAny_callSpecial?_slot (name := Str.ofString "__next__") hit.typeIs F.slot_tuple_iterator_next
    (wpAny_call_entry F.slot_tuple_iterator_next hit.typeIs F.entry_tuple_iterator_next ?_ (F.args_tuple_iterator_next_1 _)))
  show wpAny _ _ (field (.ref it) 0 >>= _) _ _ s
  refine wpAny_bind (wpAny_field ho hd (x := .ref t) rfl ?_)
  show wpAny _ _ (if (Value.ref t == Value.none) = true then _ else _) _ _ s
  rw [if_neg (show ¬ ((Value.ref t == Value.none) = true) from Bool.false_ne_true)]
  show wpAny _ _ (field (.ref it) 1 >>= _) _ _ s
  refine wpAny_bind (wpAny_field ho hd (x := .int i 0) rfl ?_)
  show wpAny _ _ (seqItems? (.ref t) >>= _) _ _ s
  refine wpAny_bind (wpAny_seqItems hol hdl ?_)
  simp only [Int.toNat_natCast, hx]
  refine wpAny_bind (wpAny_setField ho hd (by simp) (wpAny_pure ⟨x, rfl, wpAny_pure (hQ _ ?_ (Heap.SameBut.update ..))⟩))
  exact ⟨_, Heap.get?_update_self _ ho (Obj.isFreed_of_fields (Obj.data_mapFields hd _)), (Obj.cls_mapFields ..).trans hc, by
    rw [Obj.data_mapFields hd]; simp [rawInt]⟩

theorem nextOf_tuple_end {it t : Addr} {i : Nat} {items : Array Value} {Q : Value → Shared → Prop} (hh : A.handled = none)
    (hit : s.heap.IsTupleIter it t i) (ht : s.heap.IsTuple t items) (hx : items[i]? = none)
    (hE : ∀ h' e, Heap.ExtBut it s.heap h' → (∃ o, h'.get? e = some o ∧ o.cls = .type "StopIteration") → E (.ref e) { s with heap := h' }) :
    wpAny (model prog w) A (Builtin.SmallTypes.nextOf (.ref it)) Q E s := by
  obtain ⟨o, ho, hc, hd⟩ := id hit
  obtain ⟨ol, hol, _, nl, hdl⟩ := ht
  unfold Builtin.SmallTypes.nextOf
  refine wpAny_bind (wpAny_callSpecial?_slot (name := Str.ofString "__next__") hit.typeIs F.slot_tuple_iterator_next
    (wpAny_call_entry F.slot_tuple_iterator_next hit.typeIs F.entry_tuple_iterator_next ?_ (F.args_tuple_iterator_next_1 _)))
  show wpAny _ _ (field (.ref it) 0 >>= _) _ _ s
  refine wpAny_bind (wpAny_field ho hd (x := .ref t) rfl ?_)
  show wpAny _ _ (if (Value.ref t == Value.none) = true then _ else _) _ _ s
  rw [if_neg (show ¬ ((Value.ref t == Value.none) = true) from Bool.false_ne_true)]
  show wpAny _ _ (field (.ref it) 1 >>= _) _ _ s
  refine wpAny_bind (wpAny_field ho hd (x := .int i 0) rfl ?_)
  show wpAny _ _ (seqItems? (.ref t) >>= _) _ _ s
  refine wpAny_bind (wpAny_seqItems hol hdl ?_)
  simp only [Int.toNat_natCast, hx]
  refine wpAny_bind (wpAny_rule (wpAny_bind (wpAny_setField ho hd (by simp) ?_)))
  show wpAny _ _ (newExc (.type "StopIteration") [] >>= _) _ _ _
  refine wpAny_bind ?_
  simp only [newExc, newTuple]
  refine wpAny_bind (wpAny_newObj_type ?_ (by size_fits))
  refine wpAny_bind (m := firstArgMember _ _) (wpAny_of_eq (a := Value.none) (by first | rfl | (simp only [firstArgMember]; rfl)) ?_)
  refine wpAny_newObj_type ?_ (by size_fits)
  simp only [raiseNew]
  refine wpAny_bind (wpAny_handled ?_)
  first | rw [show A.in1.handled = none from hh] | rw [hh]
  refine wpAny_bind (wpAny_pure (wpAny_throw ?_))
  exact hE _ _ (((Heap.SameBut.update ..).extBut.push _).push _) ⟨_, Heap.get?_push_size _ rfl, rfl⟩
end

theorem draws_tuple {prog : Program} {w : World} {A : Around} (hh : A.handled = none) (it l : Addr) (hne : l ≠ it) (items : Array Value) :
    Draws prog w A it [it, l] items.size (fun i v => items[i]? = some v) (fun i h => h.IsTupleIter it l i ∧ h.IsTuple l items) where
  live := fun _ _ st => let ⟨o, ho, _⟩ := st.1; ⟨o, ho⟩
  frame := fun _ _ _ st hk => ⟨st.1.at fun o e => hk it (by simp) o e, st.2.at fun o e => hk l (by simp) o e⟩
  item := fun i s Q E hi st hQ => by
    refine nextOf_tuple_item st.1 st.2 (x := items[i]) (by simp [hi]) fun h' hit' hs' => ?_
    exact hQ _ h' s.toks (by simp [hi]) ⟨hit', st.2.extBut hs'.extBut hne⟩ hs'
  done := fun s Q E st hE => nextOf_tuple_end hh st.1 st.2 (by simp) hE

theorem meets_enum_tuple (l : Addr) (items : Array Value) (n : Nat) (dct : Option Addr) (sl : Array (Option Value)) :
    Meets (Builtin.«enumerate.__new__» ⟨[.type "enumerate", .ref l], []⟩) (fun _ R s => s.heap.get? l = some { cls := .type "tuple", dict := dct, data := .seq items n, slots := sl } ∧
      R (.ok (.ret (.ref (s.heap.push { cls := .type "tuple_iterator", data := .fields #[.ref l, .int 0 0] }).objs.size)))
        { s with heap := (s.heap.push { cls := .type "tuple_iterator", data := .fields #[.ref l, .int 0 0] }).push { cls := .type "enumerate", data := .fields #[.none, .bool false, .ref s.heap.objs.size, rawInt 0, .none, .none] } }) :=
  .of_wp fun prog w A R s h => by
    obtain ⟨hp, g, d, tk, os⟩ := s; obtain ⟨hl, h⟩ := h
    have hsub := sub_enumerate
    have hL : Heap.IsTuple (Shared.heap ⟨hp, g, d, tk, os⟩) l items := ⟨_, hl, rfl, n, rfl⟩
    wp_walk using wpAny_loadPart' hl
    refine wpAny_stack_any fun st => wpAny_pure ?_
    split
    · rename_i c _ _ _ _ _
      cases (c == Value.type "enumerate")
      · wp_walk using wpAny_loadPart' hl, wpAny_pyIter_tuple hL
        exact ⟨_, rfl, h⟩
      · wp_walk using wpAny_loadPart' hl, wpAny_pyIter_tuple hL
        exact ⟨_, rfl, h⟩
    · wp_walk using wpAny_loadPart' hl, wpAny_pyIter_tuple hL
      exact ⟨_, rfl, h⟩

section
variable {prog : Program} {w : World} {A : Around} {E : Value → Shared → Prop} {s : Shared}
theorem call_enum_tuple {l : Addr} {items : Array Value} {Q : Value → Shared → Prop} (hL : s.heap.IsTuple l items)
    (h : ∀ h', IsEnum h' (s.heap.objs.size + 1) s.heap.objs.size 0 .none → h'.IsTupleIter s.heap.objs.size l 0 → h'.objs.size = s.heap.objs.size + 2 →
      (∀ b o, s.heap.get? b = some o → h'.get? b = some o) → Q (.ref (s.heap.objs.size + 1)) { s with heap := h' }) :
    wpAny (model prog w) A (call (.type "enumerate") [.ref l]) Q E s := by
  obtain ⟨⟨c, dct, dt, sl⟩, hl, hc, n, hd⟩ := hL
  replace hc : c = .type "tuple" := hc
  replace hd : dt = .seq items n := hd
  subst hc hd
  refine callType_new F.called_enumerate (by decide) (F.typeCall_enumerate_1 _) (F.newCall_enumerate_1 _) (fun obj => F.args_object_init_2 obj _) F.entry_enumerate_new
    (meets_enum_tuple l items n dct sl) ⟨hl, ?_⟩
  have hz : (s.heap.push { cls := .type "tuple_iterator", data := .fields #[.ref l, .int 0 0] }).objs.size = s.heap.objs.size + 1 := Heap.size_push ..
  show _ ∧ _
  rw [hz]
  have he : IsEnum ((s.heap.push { cls := .type "tuple_iterator", data := .fields #[.ref l, .int 0 0] }).push
      { cls := .type "enumerate", data := .fields #[.none, .bool false, .ref s.heap.objs.size, rawInt 0, .none, .none] }) (s.heap.objs.size + 1) s.heap.objs.size 0 .none := by
    have := Heap.get?_push_size (s.heap.push { cls := .type "tuple_iterator", data := .fields #[.ref l, .int 0 0] })
      (o := { cls := .type "enumerate", data := .fields #[.none, .bool false, .ref s.heap.objs.size, rawInt 0, .none, .none] }) rfl
    rw [hz] at this; exact this
  refine ⟨⟨_, he, rfl⟩, h _ he ⟨_, Heap.get?_push_of_some _ (Heap.get?_push_size _ rfl), rfl, rfl⟩ (by rw [Heap.size_push, hz]) fun b o x => Heap.get?_push_of_some _ (Heap.get?_push_of_some _ x)⟩
end

section
variable {prog : Program} {w : World} {A : Around} {E : Value → Shared → Prop} {s : Shared} {env : Env} {h₀ : Heap} {body orelse : List Stmt} {Q : Flow → Shared → Prop}
/-- enumerate over a tuple that stands -/
theorem enum_turns {elts : List Expr} {k : Nat} {pos : Pos} {ax : Addr} {lo : Obj} {vs : List Value} {n : Nat} {m₀ : Str → Option Value} {news : List (Addr × Obj)}
    (hh : A.handled = none) (F : Fr h₀ env.locals s.heap m₀) (N : News h₀ env.locals s.heap news) (hg : h₀.get? ax = some lo) (hc : lo.cls = .type "tuple") (hd : lo.data = .seq vs.toArray n)
    (rest₀ : ∀ I : Addr, (∀ p ∈ news, p.1 < I) → ItemsRest prog w A E h₀ env (.Tuple elts k pos) body Q s [(I + 1, "enumerate"), (I, "tuple_iterator")] [] (enumItems 0 vs) m₀ news) :
    wpAny (model prog w) A (call (.type "enumerate") [.ref ax]) (fun xv s₁ => wpAny (model prog w) A (pyIter xv) (fun it s₂ => TurnsAt prog w A h₀ env (.Tuple elts k pos) body Q E it s₂) E s₁) E s := by
  have hax : s.heap.get? ax = some lo := F.keep _ _ hg
  have hl : s.heap.IsTuple ax vs.toArray := ⟨lo, hax, hc, n, hd⟩
  have hlt : ax < s.heap.objs.size := Heap.lt_size hax
  have hLs : env.locals < s.heap.objs.size := F.ns.lt
  refine call_enum_tuple hl fun h' hE hI hsz hk => ?_
  refine wpAny_pyIter_enum hE ?_
  have W := WalksT.enumerateD (prog := prog) (w := w) (A := A) (draws_tuple (A := A.in1) hh s.heap.objs.size ax (Nat.ne_of_lt hlt) vs.toArray) (s.heap.objs.size + 1) (Nat.succ_ne_self _)
    (by
      intro hm
      rcases List.mem_cons.mp hm with e | e
      · exact absurd e (Nat.succ_ne_self _)
      · exact absurd (List.mem_singleton.mp e).symm (ktu_ne 1 hlt)) (List.mem_cons_self ..)
  refine ktg_core (tk0 := s.toks) (keep := []) (KTurns.ofWalksU W.toU) (by simp [enumItems_length]) ?_ ?_ ?_ ?_ ?_ ?_ ?_ ?_ (F.keeps hk) (N.grown hk) trivial (rest₀ _ fun p hp => Heap.lt_size (N p hp).1)
  · rintro i v h ⟨T, vals, rfl, ⟨t, x, hx, rfl⟩, hT⟩
    refine ⟨_, enumItems_get vs 0 i (v := x) (by simpa using hx), T, t, rfl, ?_⟩
    show IsTup h T #[.int ((0 + i : Nat) : Int) t, x]
    rw [Nat.zero_add]
    exact hT
  · rintro i h ⟨⟨old, he⟩, ⟨oi, hoi, hic, _⟩, _⟩
    have he' : ∃ oe : Obj, h.get? (s.heap.objs.size + 1) = some oe ∧ oe.cls = .type "enumerate" := ⟨_, he, rfl⟩
    obtain ⟨oe, h1, h2⟩ := he'
    refine ⟨[(s.heap.objs.size + 1, oe), (s.heap.objs.size, oi)], ⟨⟨rfl, h2⟩, ⟨rfl, hic⟩, trivial⟩, fun p hp => ?_⟩
    rcases List.mem_cons.mp hp with rfl | hp
    · exact h1
    · rw [List.mem_singleton.mp hp]; exact hoi
  · intro b hb
    have hb' : b = s.heap.objs.size + 1 ∨ b = s.heap.objs.size := by simpa using hb
    rcases hb' with rfl | rfl
    · exact ⟨by simp, ktu_new F (Nat.le_add_right _ _)⟩
    · exact ⟨by simp, ktu_new F (Nat.le_refl _)⟩
  · intro b hb
    simpa using hb
  · intro b hb
    have hb' : b = s.heap.objs.size + 1 ∨ b = s.heap.objs.size ∨ b = ax := by simpa using hb
    rcases hb' with rfl | rfl | rfl
    · exact .inl (by simp)
    · exact .inl (by simp)
    · exact .inr (.inr ⟨lo, hg⟩)
  · intro hI'
    have hb' : env.locals = s.heap.objs.size + 1 ∨ env.locals = s.heap.objs.size ∨ env.locals = ax := by simpa using hI'
    rcases hb' with e | e | e
    · exact ktu_ne 1 hLs e
    · exact Nat.ne_of_lt hLs e
    · exact absurd (Heap.lt_size hg) (Nat.not_lt.mpr (e ▸ F.above))
  · intro p hp hI'
    have hb' : p.1 = s.heap.objs.size + 1 ∨ p.1 = s.heap.objs.size := by simpa using hI'
    have hlp := Heap.lt_size (N p hp).1
    rcases hb' with e | e
    · exact ktu_ne 1 hlp e
    · exact Nat.ne_of_lt hlp e
  · exact ⟨⟨.none, hE⟩, hI, hl.at fun o e => hk ax o e⟩

/-- behind a turn's body: what holds goes on, or the loop is left -/
def TurnTo (h₀ : Heap) (L I : Addr) (oI : Obj) (s : Shared) (J : (Str → Option Value) → List (Addr × Obj) → Prop) (Q : Flow → Shared → Prop) (f : Flow) (s₃ : Shared) : Prop :=
  match f with
  | .ret v => Q (.ret v) s₃
  | .brk => Q .next s₃
  | _ => ∃ h' tk' m' nx', s₃ = { s with heap := h', toks := tk' } ∧ Fr h₀ L h' m' ∧ News h₀ L h' ((I, oI) :: nx') ∧ (∀ p ∈ nx', p.1 ≠ I) ∧ J m' nx'

/-- a for over a tuple that stands, with an else -/
theorem for_else {target iter : Expr} {pos : Pos} {ax : Addr} {lo : Obj} {vs : List Value} {n : Nat} {m₀ : Str → Option Value} {news : List (Addr × Obj)}
    (J : Nat → (Str → Option Value) → List (Addr × Obj) → Prop)
    (hh : A.handled = none) (F : Fr h₀ env.locals s.heap m₀) (N : News h₀ env.locals s.heap news) (hg : h₀.get? ax = some lo) (hc : lo.cls = .type "tuple") (hd : lo.data = .seq vs.toArray n)
    (hx : wpAny (model prog w) A (eval iter env) (fun xv s₁ => xv = .ref ax ∧ s₁ = s) E s) (h0 : J 0 m₀ news)
    (turn : ∀ i v m₁ nx h tk I oI, vs[i]? = some v → J i m₁ nx → (∀ p ∈ nx, p.1 ≠ I) → Fr h₀ env.locals h m₁ → News h₀ env.locals h ((I, oI) :: nx) →
      wpAny (model prog w) A (assign target env v) (fun _ s₂ => wpAny (model prog w) A (execs body env) (TurnTo h₀ env.locals I oI s (J (i + 1)) Q) E s₂) E { s with heap := h, toks := tk })
    (els : ∀ m₁ nx h tk, J vs.length m₁ nx → Fr h₀ env.locals h m₁ → News h₀ env.locals h nx → wpAny (model prog w) A (execs orelse env) Q E { s with heap := h, toks := tk })
    (hs : ∀ x, foldedSetIterable iter env x = pure x := by intro _; rfl)
    (hE : PassesOwn (model prog w) A env E := by passes_own) :
    wpAny (model prog w) A (exec (.For target iter body orelse pos) env) Q E s := by
  have hax : s.heap.get? ax = some lo := F.keep _ _ hg
  have hl : s.heap.IsTuple ax vs.toArray := ⟨lo, hax, hc, n, hd⟩
  have hlt : ax < s.heap.objs.size := Heap.lt_size hax
  have hLs : env.locals < s.heap.objs.size := F.ns.lt
  refine wpAny_For (wpAny_mono hx (fun xv s₁ h₁ => ?_) fun _ _ e => e) hs
  obtain ⟨rfl, rfl⟩ := h₁
  refine wpAny_pyIter_tuple hl ?_
  generalize hI : s₁.heap.objs.size = I at *
  have hI₀ : h₀.get? I = none := by rw [← hI]; exact next_is_new F
  have hLI : env.locals ≠ I := Nat.ne_of_lt hLs
  refine codeAny_forLoop_any
    (fun k s' => ∃ h' tk m' nx i, s' = { s₁ with heap := h', toks := tk } ∧ h'.IsTupleIter I ax i ∧ Fr h₀ env.locals h' m' ∧ News h₀ env.locals h' nx ∧ (∀ p ∈ nx, p.1 ≠ I) ∧ J i m' nx ∧ i ≤ vs.length ∧ k = vs.length + 1 - i) ?_ (vs.length + 1)
    ⟨_, s₁.toks, m₀, news, 0, rfl, ⟨_, by rw [← hI]; exact Heap.get?_push_size _ rfl, rfl, rfl⟩, F.push _, (fun p hp => ⟨Heap.get?_push_of_some _ (N p hp).1, (N p hp).2⟩), (fun p hp e => absurd (Heap.lt_size (N p hp).1) (by rw [e, hI]; exact Nat.lt_irrefl _)), h0, Nat.zero_le _, rfl⟩
  rintro k s' ⟨h', tk, m', nx, i, rfl, hst, F', N', off, hJ, hi, rfl⟩
  have hl' : h'.IsTuple ax vs.toArray := ⟨lo, F'.keep _ _ hg, hc, n, hd⟩
  by_cases hlt' : i < vs.length
  · refine wpAny_pyNext_tuple_item hst hl' (x := vs[i]) (by simp [hlt']) fun h₁ hit₁ hs₁ => ?_
    refine letGo_tupleiter hit₁ ?_
    have F₁ : Fr h₀ env.locals h₁ m' := ⟨F'.ns.sameBut hs₁ hLI, fun b o e => hs₁.extBut b o (fun q => by rw [q, hI₀] at e; cases e) (F'.keep b o e), F'.above⟩
    obtain ⟨oI, hoI, hcI, hdI⟩ := id hit₁
    have N₁ : News h₀ env.locals h₁ ((I, oI) :: nx) := fun p hp => by
      rcases List.mem_cons.mp hp with rfl | hp
      · exact ⟨hoI, fun e => hLI e.symm, hI₀⟩
      · exact ⟨hs₁.extBut _ _ (off p hp) (N' p hp).1, (N' p hp).2⟩
    refine wpAny_mono (turn i vs[i] m' nx h₁ tk I oI (by simp [hlt']) hJ off F₁ N₁) (fun _ s₂ h₂ => wpAny_mono (wpAny_passesOwn hE h₂) (fun f s₃ h₃ => ?_) fun _ _ e => e) hE
    have fin : (∃ h' tk' m' nx', s₃ = { s₁ with heap := h', toks := tk' } ∧ Fr h₀ env.locals h' m' ∧ News h₀ env.locals h' ((I, oI) :: nx') ∧ (∀ p ∈ nx', p.1 ≠ I) ∧ J (i + 1) m' nx') →
        ∃ q, q < vs.length + 1 - i ∧ ∃ h' tk m' nx j, s₃ = { s₁ with heap := h', toks := tk } ∧ h'.IsTupleIter I ax j ∧ Fr h₀ env.locals h' m' ∧ News h₀ env.locals h' nx ∧ (∀ p ∈ nx, p.1 ≠ I) ∧ J j m' nx ∧ j ≤ vs.length ∧ q = vs.length + 1 - j := by
      rintro ⟨h₄, tk₄, m₄, nx₄, rfl, F₄, N₄, off₄, hJ₄⟩
      exact ⟨vs.length + 1 - (i + 1), by omega, h₄, tk₄, m₄, nx₄, i + 1, rfl, ⟨oI, (N₄ _ (.head _)).1, hcI, hdI⟩, F₄, (fun p hp => N₄ p (.tail _ hp)), off₄, hJ₄, hlt', rfl⟩
    cases f with
    | ret v => exact h₃
    | brk => exact h₃
    | next => exact fin h₃
    | cont => exact fin h₃
  · have hin : i = vs.length := by omega
    subst hin
    refine wpAny_pyNext_tuple_end hh hst hl' (by simp) fun h₁ he₁ => ?_
    have F₁ : Fr h₀ env.locals h₁ m' := ⟨F'.ns.at' fun o e => he₁ _ o hLI e, fun b o e => he₁ b o (fun q => by rw [q, hI₀] at e; cases e) (F'.keep b o e), F'.above⟩
    have N₁ : News h₀ env.locals h₁ nx := fun p hp => ⟨he₁ _ _ (off p hp) (N' p hp).1, (N' p hp).2⟩
    exact wpAny_mono (wpAny_passesOwn hE (els m' nx h₁ tk hJ F₁ N₁)) (fun _ _ e => e) fun _ _ e => e
end
end Mine
end

section
namespace Mine
open PySem.Calls PyProof.V PySem.Spec
set_option maxRecDepth 100000
abbrev rangeO (n : Int) (t u v : Tok) : Obj := { cls := .type "range", dict := none, data := .fields #[.int 0 t, .int n u, .int 1 v], slots := #[] }
abbrev rangeIt (x left : Int) : Obj := { cls := .type "range_iterator", dict := none, data := .fields #[rawInt x, rawInt left, rawInt 1], slots := #[] }
section
variable {prog : Program} {w : World} {A : Around} {E : Value → Shared → Prop} {s : Shared} {h₀ : Heap} {L : Addr} {m : Str → Option Value} {news : List (Addr × Obj)} {Q : Value → Shared → Prop}
theorem range_new {n : Int} {t : Tok} (F : Fr h₀ L s.heap m) (N : News h₀ L s.heap news)
    (h : ∀ r h' tk t₁ u₁ v₁, Fr h₀ L h' m → News h₀ L h' ((r, rangeO n t₁ u₁ v₁) :: news) → (∀ p ∈ news, p.1 < r) → Q (.ref r) { s with heap := h', toks := tk }) :
    wpAny (model prog w) A (call (.type "range") [.int n t]) Q E s :=
  range1_rows F N fun h' tk t₁ u₁ v₁ R F' N' _ => h _ h' tk t₁ u₁ v₁ F' (fun p hp => by
    rcases List.mem_cons.mp hp with rfl | hp
    · exact ⟨R, Nat.ne_of_gt F.ns.lt, next_is_new F⟩
    · exact N' p hp) fun p hp => Heap.lt_size (N p hp).1
theorem iter_range_new {r : Addr} {n : Int} {t u v : Tok} (F : Fr h₀ L s.heap m) (N : News h₀ L s.heap news) (hr : IsRange s.heap r 0 n 1 t u v) (hsmall : Builtin.Range.small 0 n 1 = true)
    (h : ∀ I h', Fr h₀ L h' m → News h₀ L h' ((I, rangeIt 0 (Builtin.Range.rangeSize 0 n 1)) :: news) → (∀ p ∈ news, p.1 < I) → Q (.ref I) { s with heap := h' }) :
    wpAny (model prog w) A (call (.builtin "iter") [.ref r]) Q E s := by
  refine call_function_entry (by decide +kernel) (by decide +kernel) kdk_entry_iter (kdk_args_iter _) ?_
  unfold Builtin.«iter»
  refine wpAny_bind (m := someArgs "iter" 1 2 _) (wpAny_of_eq (a := [Value.ref r]) (by first | rfl | kernel_rfl!) ?_)
  show wpAny _ _ (pyIter (.ref r) >>= _) _ _ _
  refine wpAny_bind (wpAny_pyIter_range hr hsmall ?_)
  exact wpAny_pure ⟨_, rfl, h _ _ (F.push _) (News.push F N _ rfl) fun p hp => Heap.lt_size (N p hp).1⟩
end
section
variable {prog : Program} {w : World} {A : Around} {E : Value → Shared → Prop} {s : Shared} {env : Env} {h₀ : Heap} {body : List Stmt} {Q : Flow → Shared → Prop}
/-- a for over a range's iterator that stands in the ledger -/
theorem for_iter {x : Str} {px : Pos} {iter : Expr} {pos : Pos} {I : Addr} {n : Nat} {m₀ : Str → Option Value} {news : List (Addr × Obj)}
    (J : Nat → (Str → Option Value) → List (Addr × Obj) → Prop)
    (hh : A.handled = none) (F : Fr h₀ env.locals s.heap m₀) (N : News h₀ env.locals s.heap ((I, rangeIt 0 (n : Int)) :: news)) (off₀ : ∀ p ∈ news, p.1 ≠ I)
    (hx : wpAny (model prog w) A (eval iter env) (fun xv s₁ => xv = .ref I ∧ s₁ = s) E s) (h0 : J 0 m₀ news)
    (turn : ∀ i t m₁ nx h tk oI, i < n → oI.cls = .type "range_iterator" → J i m₁ nx → (∀ p ∈ nx, p.1 ≠ I) → Fr h₀ env.locals h m₁ → News h₀ env.locals h ((I, oI) :: nx) →
      wpAny (model prog w) A (assign (.Name x px) env (.int (i : Int) t)) (fun _ s₂ => wpAny (model prog w) A (execs body env) (TurnTo h₀ env.locals I oI s (J (i + 1)) Q) E s₂) E { s with heap := h, toks := tk })
    (done : ∀ m₁ nx h tk, J n m₁ nx → Fr h₀ env.locals h m₁ → News h₀ env.locals h nx → Q .next { s with heap := h, toks := tk })
    (hs : ∀ x, foldedSetIterable iter env x = pure x := by intro _; rfl)
    (hE : PassesOwn (model prog w) A env E := by passes_own) :
    wpAny (model prog w) A (exec (.For (.Name x px) iter body [] pos) env) Q E s := by
  have hI₁ : IsRangeIter s.heap I 0 (n : Int) 1 := (N _ (.head _)).1
  have hLI : env.locals ≠ I := (N _ (.head _)).2.1.symm
  have hI₀ : h₀.get? I = none := (N _ (.head _)).2.2
  refine wpAny_For (wpAny_mono hx (fun xv s₁ h₁ => ?_) fun _ _ e => e) hs
  obtain ⟨rfl, rfl⟩ := h₁
  refine wpAny_pyIter_rangeiter hI₁ ?_
  refine codeAny_forLoop_any
    (fun k s' => ∃ h' tk m' nx i, s' = { s₁ with heap := h', toks := tk } ∧ IsRangeIter h' I ((i : Nat) : Int) ((n : Int) - (i : Nat)) 1 ∧ Fr h₀ env.locals h' m' ∧ News h₀ env.locals h' nx ∧ (∀ p ∈ nx, p.1 ≠ I) ∧ J i m' nx ∧ i ≤ n ∧ k = n + 1 - i) ?_ (n + 1)
    ⟨_, s₁.toks, m₀, news, 0, rfl, by simpa using hI₁, F, (fun p hp => N p (.tail _ hp)), off₀, h0, Nat.zero_le _, rfl⟩
  rintro k s' ⟨h', tk, m', nx, i, rfl, hst, F', N', off, hJ, hi, rfl⟩
  by_cases hlt' : i < n
  · refine wpAny_pyNext_range_item hst (by omega) fun h₁ hit₁ hs₁ => ?_
    refine wpAny_pure ?_
    have F₁ : Fr h₀ env.locals h₁ m' := ⟨F'.ns.sameBut hs₁ hLI, fun b o e => hs₁.extBut b o (fun q => by rw [q, hI₀] at e; cases e) (F'.keep b o e), F'.above⟩
    have N₁ : News h₀ env.locals h₁ ((I, rangeIt ((i : Int) + 1) ((n : Int) - (i : Int) - 1)) :: nx) := fun p hp => by
      rcases List.mem_cons.mp hp with rfl | hp
      · exact ⟨hit₁, fun e => hLI e.symm, hI₀⟩
      · exact ⟨hs₁.extBut _ _ (off p hp) (N' p hp).1, (N' p hp).2⟩
    refine wpAny_mono (turn i _ m' nx h₁ _ _ hlt' rfl hJ off F₁ N₁) (fun _ s₂ h₂ => wpAny_mono (wpAny_passesOwn hE h₂) (fun f s₃ h₃ => ?_) fun _ _ e => e) hE
    have fin : (∃ h' tk' m' nx', s₃ = { s₁ with heap := h', toks := tk' } ∧ Fr h₀ env.locals h' m' ∧ News h₀ env.locals h' ((I, rangeIt ((i : Int) + 1) ((n : Int) - (i : Int) - 1)) :: nx') ∧ (∀ p ∈ nx', p.1 ≠ I) ∧ J (i + 1) m' nx') →
        ∃ q, q < n + 1 - i ∧ ∃ h' tk m' nx j, s₃ = { s₁ with heap := h', toks := tk } ∧ IsRangeIter h' I ((j : Nat) : Int) ((n : Int) - (j : Nat)) 1 ∧ Fr h₀ env.locals h' m' ∧ News h₀ env.locals h' nx ∧ (∀ p ∈ nx, p.1 ≠ I) ∧ J j m' nx ∧ j ≤ n ∧ q = n + 1 - j := by
      rintro ⟨h₄, tk₄, m₄, nx₄, rfl, F₄, N₄, off₄, hJ₄⟩
      refine ⟨n + 1 - (i + 1), by omega, h₄, tk₄, m₄, nx₄, i + 1, rfl, ?_, F₄, (fun p hp => N₄ p (.tail _ hp)), off₄, hJ₄, hlt', rfl⟩
      have q : IsRangeIter h₄ I ((i : Int) + 1) ((n : Int) - (i : Int) - 1) 1 := (N₄ _ (.head _)).1
      have e1 : ((i + 1 : Nat) : Int) = (i : Int) + 1 := by omega
      have e2 : (n : Int) - ((i + 1 : Nat) : Int) = (n : Int) - (i : Int) - 1 := by omega
      rw [e2, e1]
      exact q
    cases f with
    | ret v => exact h₃
    | brk => exact h₃
    | next => exact fin h₃
    | cont => exact fin h₃
  · have hin : i = n := by omega
    subst hin
    refine wpAny_pyNext_range_end hh hst (by omega) fun h₁ he₁ => ?_
    have F₁ : Fr h₀ env.locals h₁ m' := ⟨F'.ns.at' fun o e => he₁ _ o hLI e, fun b o e => he₁ b o (fun q => by rw [q, hI₀] at e; cases e) (F'.keep b o e), F'.above⟩
    have N₁ : News h₀ env.locals h₁ nx := fun p hp => ⟨he₁ _ _ (off p hp) (N' p hp).1, (N' p hp).2⟩
    exact wpAny_execs_nil (done m' nx h₁ tk hJ F₁ N₁)
theorem for_iter1 {x : Str} {px : Pos} {iter : Expr} {pos : Pos} {I l₀ : Addr} {o₀ : Obj} {n : Nat} {m₀ : Str → Option Value} {rest : List (Addr × Obj)}
    (J : List (Addr × Obj) → Nat → (Str → Option Value) → List (Addr × Obj) → Prop)
    (hh : A.handled = none) (F : Fr h₀ env.locals s.heap m₀) (N : News h₀ env.locals s.heap ((I, rangeIt 0 (n : Int)) :: (l₀, o₀) :: rest)) (off₀ : ∀ p ∈ (l₀, o₀) :: rest, p.1 ≠ I)
    (hx : wpAny (model prog w) A (eval iter env) (fun xv s₁ => xv = .ref I ∧ s₁ = s) E s) (h0 : J rest 0 m₀ ((l₀, o₀) :: rest))
    (turn : ∀ i t m₁ nx h tk oI, i < n → oI.cls = .type "range_iterator" → J rest i m₁ nx → (∀ p ∈ nx, p.1 ≠ I) → Fr h₀ env.locals h m₁ → News h₀ env.locals h ((I, oI) :: nx) →
      wpAny (model prog w) A (assign (.Name x px) env (.int (i : Int) t)) (fun _ s₂ => wpAny (model prog w) A (execs body env) (TurnTo h₀ env.locals I oI s (J rest (i + 1)) Q) E s₂) E { s with heap := h, toks := tk })
    (done : ∀ m₁ nx h tk, J rest n m₁ nx → Fr h₀ env.locals h m₁ → News h₀ env.locals h nx → Q .next { s with heap := h, toks := tk })
    (hs : ∀ x, foldedSetIterable iter env x = pure x := by intro _; rfl)
    (hE : PassesOwn (model prog w) A env E := by passes_own) :
    wpAny (model prog w) A (exec (.For (.Name x px) iter body [] pos) env) Q E s := for_iter (J rest) hh F N off₀ hx h0 turn done hs hE
end
section
variable {prog : Program} {w : World} {A A₀ : Around} {s : Shared} {K : Frag} {L : Addr} {h₀ base : Heap} {m mg mb : Str → Option Value} {p : Program} {loose : List Str} {mean : ExcName → Option Value}
/-- a lambda that stands is entered; all that stands is kept, the ledger is empty -/
theorem lam0 {env : Env} {outer : List Env} {R : Result → Shared → Prop} {name qual : Str} {params : Arguments} {body : Expr} {scope : Scope} {cl : List (Str × Addr)} {pm ctv : Value} {c' : Addr} {f : Addr} {args : Args} {binds : List (Str × Value)}
    (B : Below A₀ base outer h₀) (F : Fr h₀ L s.heap m) (X₀ : K.In h₀) (T : Top p loose mean mg mb h₀) (hA : A.frames = some (env :: outer)) (hf : env.frame = some L) (hke : env.scope.kind = .function)
    (ho : s.heap.get? f = some (kla_obj name qual params body scope cl pm c' ctv)) (hcd : s.heap.CodeRec (.ref c') qual) (hroom : A.depth < recursionLimit)
    (hbind : bindArgs (kla_fn name qual params body scope cl pm (.ref c') ctv) args = pure binds) (hloc : ∀ y ∈ binds, scope.names.lookup y.1 = some .local)
    (h : ∀ L' h₁, Fr s.heap L' h₁ (fun y => binds.reverse.lookup y) → News s.heap L' h₁ [] → Below A base (env :: outer) s.heap → K.In s.heap → Top p loose mean mg mb s.heap →
      wpAny (model prog w) (A.deeper (envX qual scope L' f (.ref c') cl)) (eval body (envX qual scope L' f (.ref c') cl))
        (fun v s' => R (.ok (.ret v)) s')
        (fun e s' => wpAny (model prog w) (A.deeper (envX qual scope L' f (.ref c') cl)) (leaving (envX qual scope L' f (.ref c') cl) e) (fun _ s'' => R (.error e) s'') (fun e' s'' => R (.error e') s'') s')
        { s with heap := h₁, toks := s.toks + binds.length })
    (hco : scope.isCoroutine = false) (hgen : scope.isGenerator = false) (hk : scope.kind = .function)
    (hcell : ∀ x ∈ scope.names, x.2 ≠ .cell) : codeAny (model prog w) A (.call (.ref f) args) R s := by
  obtain ⟨FG, BG, st, _⟩ := groundX (R := R) B F (News.nil (h₀ := h₀) (L := L)) hA hf hke
  refine kla_callFunE hroom ho rfl hco hgen rfl hcd ?_
  rw [hbind]
  refine wpAny_pure (wpAny_newFunctionEnv hcell hloc (fun h₁ hns hsb => ⟨((T.nolimit).keeps F.keep).fresh _ hsb, ?_⟩) hk)
  show codeAny _ _ (.expr body (envX qual scope s.heap.objs.size f (.ref c') cl)) _ _
  have hk₁ : ∀ b o, s.heap.get? b = some o → h₁.get? b = some o := fun b o e => hsb.extBut b o (Nat.ne_of_lt (Heap.lt_size e)) (Heap.get?_push_of_some _ e)
  exact kla_codeExpr (h s.heap.objs.size h₁ ⟨hns, hk₁, Nat.le_refl _⟩ News.nil BG (X₀.keeps F.keep) (T.keeps F.keep))
end
end Mine
end

section
namespace Mine
set_option maxRecDepth 100000
/-- the signs that tell the right of place k -/
def sgn (k : Int) : Str := if k = 0 then Str.ofString "xt" else if k = 1 then Str.ofString "w" else if k = 2 then Str.ofString "r" else if k = 3 then Str.ofString "xs" else Str.ofString "w"
/-- is the sign at place k one of them -/
def seenT (x : Str) (k : Int) : Bool := !(Builtin.Str.occurrences (sgn k) (Txt.item x (9 - k)) 0 (sgn k).length 1).isEmpty
def seenG (x : Str) (l : List Int) (k : Int) : List Int := if seenT x k then l ++ [2 ^ k.toNat] else l
def seenV (x : Str) : Int := ((rangeKs 0 5).foldl (seenG x) []).sum
theorem seen_no {x : Str} {l : List Int} {k : Int} (h : (Builtin.Str.occurrences (sgn k) (Txt.item x (9 - k)) 0 (sgn k).length 1).isEmpty = true) : seenG x l k = l := by
  unfold seenG seenT
  rw [h]; rfl
theorem seen_yes {x : Str} {l : List Int} {k : Int} (h : (Builtin.Str.occurrences (sgn k) (Txt.item x (9 - k)) 0 (sgn k).length 1).isEmpty = false) : seenG x l k = l ++ [2 ^ k.toNat] := by
  unfold seenG seenT
  rw [h]; rfl
section
set_option maxHeartbeats 4000000
local macro_rules | `(tactic| k_room) => `(tactic| ktr_room)
local macro_rules | `(tactic| units_room) => `(tactic| ktr_units)
local macro_rules | `(tactic| k_units) => `(tactic| ktr_units)
local macro_rules | `(tactic| cell_enter) => `(tactic| first
  | (refine' code_def0 ?k1 ?k2 ?k3 ?k5 ?kA ?kF ?kK ?k6 ?k7 ?k8 ?k9 ?kB ?_ ?c2 ?c3 ?c4 ?c5; (case kA => exact rfl); (case kF => exact rfl); (case kK => first | exact rfl | assumption); (case k1 => k_asm); (case k2 => k_asm); (case k3 => k_asm); (case k5 => k_asm); (case k6 => k_is); (case k7 => k_is); (case k8 => ktr_room); (case k9 => exact BindsTo.of_eq rfl); (case c5 => decide); (case kB => exact locs rfl); (case c2 => exact rfl); (case c3 => exact rfl); (case c4 => exact rfl); k_whole; intro L' h' F' N' B' X' T'; (try dsimp only); (try k_lift B'); (try k_fold))
  | (refine' code_defC0 ?k1 ?k2 ?k3 ?k5 ?kA ?kF ?kK ?k6 ?k7 ?k8 ?k9 ?kB ?kD ?_ ?c2 ?c3 ?c4; (case kA => exact rfl); (case kF => exact rfl); (case kK => first | exact rfl | assumption); (case k1 => k_asm); (case k2 => k_asm); (case k3 => k_asm); (case k5 => k_asm); (case k6 => k_is); (case k7 => k_is); (case k8 => ktr_room); (case k9 => exact BindsTo.of_eq rfl); (case kB => exact rfl); (case kD => decide +kernel); (case c2 => exact rfl); (case c3 => exact rfl); (case c4 => exact rfl); k_whole; intro L' h' tk' cells' F' N' Y' B' X' T'; k_cells Y'; (try simp only [List.cons_append, List.nil_append] at N'); (try dsimp only); (try k_lift B'); (try k_fold)))
local macro_rules | `(tactic| ktr_enter) => `(tactic| first
  | (refine' code_defN ?k1 ?k2 ?k3 ?k4 ?k5 ?kA ?kF ?kK ?k6 ?k7 ?k8 ?k9 ?kB ?_ ?c2 ?c3 ?c4 ?c5; (case kA => exact rfl); (case kF => exact rfl); (case kK => first | exact rfl | assumption); (case k1 => k_asm); (case k2 => k_asm); (case k3 => k_asm); (case k4 => k_asm); (case k5 => k_asm); (case k6 => k_is); (case k7 => k_is); (case k8 => ktr_room); (case k9 => exact BindsTo.of_eq rfl); (case c5 => decide); (case kB => exact locs rfl); (case c2 => exact rfl); (case c3 => exact rfl); (case c4 => exact rfl); k_whole; intro L' h' F' N' B' X' T' l1; (try k_lt l1); (try dsimp only); (try k_lift B'); (try k_fold))
  | (refine' code_defCN ?k1 ?k2 ?k3 ?k4 ?k5 ?kA ?kF ?kK ?k6 ?k7 ?k8 ?k9 ?kB ?kD ?_ ?c2 ?c3 ?c4; (case kA => exact rfl); (case kF => exact rfl); (case kK => first | exact rfl | assumption); (case k1 => k_asm); (case k2 => k_asm); (case k3 => k_asm); (case k4 => k_asm); (case k5 => k_asm); (case k6 => k_is); (case k7 => k_is); (case k8 => ktr_room); (case k9 => exact BindsTo.of_eq rfl); (case kB => exact rfl); (case kD => decide +kernel); (case c2 => exact rfl); (case c3 => exact rfl); (case c4 => exact rfl); k_whole; intro L' h' tk' cells' F' N' Y' B' X' T' l1; (try k_lt l1); k_cells Y'; (try simp only [List.cons_append, List.nil_append] at N'); (try dsimp only); (try k_lift B'); (try k_fold)))
local macro_rules | `(tactic| walk_at "eval ListComp") => `(tactic| k_extra "eval ListComp")
local macro_rules | `(tactic| walk_at "CompSrcT") => `(tactic| k_extra "CompSrcT")
theorem seen_says (x : Str) (t1 : Tok) (hx : x.length = 10) : Says 131 [.str x t1] (isInt (seenV x)) := by
  unfold Says
  w_on
  k_fill
  intro w loose mean mg mb dp un gd cn cs a ccd cl outer A₀ base h₀ L m s Q E B F X T hk hd hu hret
  k_with_none
  k_with "eval ListComp" => refine Halt.out ?_
  k_with "CompSrcT" => refine Halt.out ?_
  refine wpAny_call ?_
  k_dflt cell_enter
  k_steps
  refine Halt.mk ?_
  k_dflt (refine LCt.ListComp_T (F₀ := by k_asm) (by with_unfolding_all rfl) (by decide) (by rfl) (by decide) (by rfl) ?_)
  k_steps
  refine Halt.mk ?_
  k_dflt (refine LCt.CompSrcT.range (n := 5) (by rfl) (by k_asm) (by k_asm) (by assumption) (by decide +kernel) (by decide +kernel) (by exact Nat.le_of_ble_eq_true rfl) ?_)
  intro g'
  refine' kci_range (seenG x) (fun k' t' I' oI' C' oC' D' m' ys' l' h' tk' E' hlo' hhi' hI' hC' hx' F' N' off' ne' mk' => ?_) ?_ ?_
  · simp only [LCg.Off3, and_true] at off'
    have hk : k' = 0 ∨ k' = 1 ∨ k' = 2 ∨ k' = 3 ∨ k' = 4 := by omega
    rcases hk with rfl | rfl | rfl | rfl | rfl
    all_goals (k_steps; all_goals first | exact ⟨rfl, seen_no (by assumption)⟩ | exact ⟨rfl, _, _, rfl, seen_yes (by assumption)⟩)
  · unfold KPfDone
    intro ys hy hl
    k_steps
    exact hret _ _ _ (Fr.keep (by assumption)) ⟨_, rfl⟩
  · intro l k
    unfold seenG
    split
    · rw [List.length_append]; exact Nat.le_refl _
    · exact Nat.le_succ _
end
end Mine
end

section
namespace Mine
set_option maxRecDepth 100000
/-- each pair's distance is p by the remainder by 2 p -/
def Pass (p : Int) : List Int → List Int → Prop
  | a :: r, b :: q => (b - a).fmod (2 * p) = p ∧ Pass p r q
  | [], _ => True
  | _ :: _, [] => True
section
variable {prog : Program} {w : World} {A : Around} {E : Value → Shared → Prop} {s : Shared} {env : Env} {h₀ : Heap} {target : Expr} {body : List Stmt} {Q : Flow → Shared → Prop} {ws : List (Addr × String)} {keep news : List (Addr × Obj)} {p : Int}
/-- the turns over the pairs of two lists of ints, each of which passes -/
theorem items_zip (P : (Str → Option Value) → Prop)
    (turn : ∀ (x y : Int) (tx ty : Tok) (r : List Itm) (m : Str → Option Value) (T : Addr) (h : Heap) (tk : Nat), (y - x).fmod (2 * p) = p → P m → (∀ m', P m' → ItemsRest prog w A E h₀ env target body Q s ws keep r m' news) → IsTup h T #[.int x tx, .int y ty] → Fr h₀ env.locals h m →
      AllObj ws (fun its => News h₀ env.locals h (its ++ news) →
        wpAny (model prog w) A (assign target env (.ref T)) (fun _ s₂ => wpAny (model prog w) A (execs body env) (UnrPostW h₀ env.locals { s with heap := h, toks := tk } its (fun m' n' => SubL keep n' ∧ ItemsRest prog w A E h₀ env target body Q s ws keep r m' n') Q) E s₂) E { s with heap := h, toks := tk }))
    (done : ∀ (m : Str → Option Value) (h : Heap) (tk : Nat), P m → Fr h₀ env.locals h m → News h₀ env.locals h news → Q .next { s with heap := h, toks := tk }) :
    ∀ (xs ys : List Value) (as bs : List Int), IntsAre xs as → IntsAre ys bs → Pass p as bs → ∀ m, P m → ItemsRest prog w A E h₀ env target body Q s ws keep (zipItems xs ys) m news
  | _, _, _, _, .nil, _, _, m, hm => ItemsRest.zero fun h tk F N => done m h tk hm F N
  | _, _, _, _, .cons .., .nil, _, m, hm => ItemsRest.zero fun h tk F N => done m h tk hm F N
  | _, _, _, _, .cons x tx hx, .cons y ty hy, hp, m, hm => ItemsRest.pair fun T t h tk hT F => turn x y tx ty _ m T h tk hp.1 hm (fun m' hm' => items_zip P turn done _ _ _ _ hx hy hp.2 m' hm') hT F
end
section
set_option maxHeartbeats 1000000
local macro_rules | `(tactic| k_room) => `(tactic| ktr_room)
local macro_rules | `(tactic| units_room) => `(tactic| ktr_units)
local macro_rules | `(tactic| k_units) => `(tactic| ktr_units)
local macro_rules | `(tactic| cell_enter) => `(tactic| first
  | (refine' code_def0 ?k1 ?k2 ?k3 ?k5 ?kA ?kF ?kK ?k6 ?k7 ?k8 ?k9 ?kB ?_ ?c2 ?c3 ?c4 ?c5; (case kA => exact rfl); (case kF => exact rfl); (case kK => first | exact rfl | assumption); (case k1 => k_asm); (case k2 => k_asm); (case k3 => k_asm); (case k5 => k_asm); (case k6 => k_is); (case k7 => k_is); (case k8 => ktr_room); (case k9 => exact BindsTo.of_eq rfl); (case c5 => decide); (case kB => exact locs rfl); (case c2 => exact rfl); (case c3 => exact rfl); (case c4 => exact rfl); k_whole; intro L' h' F' N' B' X' T'; (try dsimp only); (try k_lift B'); (try k_fold))
  | (refine' code_defC0 ?k1 ?k2 ?k3 ?k5 ?kA ?kF ?kK ?k6 ?k7 ?k8 ?k9 ?kB ?kD ?_ ?c2 ?c3 ?c4; (case kA => exact rfl); (case kF => exact rfl); (case kK => first | exact rfl | assumption); (case k1 => k_asm); (case k2 => k_asm); (case k3 => k_asm); (case k5 => k_asm); (case k6 => k_is); (case k7 => k_is); (case k8 => ktr_room); (case k9 => exact BindsTo.of_eq rfl); (case kB => exact rfl); (case kD => decide +kernel); (case c2 => exact rfl); (case c3 => exact rfl); (case c4 => exact rfl); k_whole; intro L' h' tk' cells' F' N' Y' B' X' T'; k_cells Y'; (try simp only [List.cons_append, List.nil_append] at N'); (try dsimp only); (try k_lift B'); (try k_fold)))
local macro_rules | `(tactic| ktr_enter) => `(tactic| first
  | (refine' code_defN ?k1 ?k2 ?k3 ?k4 ?k5 ?kA ?kF ?kK ?k6 ?k7 ?k8 ?k9 ?kB ?_ ?c2 ?c3 ?c4 ?c5; (case kA => exact rfl); (case kF => exact rfl); (case kK => first | exact rfl | assumption); (case k1 => k_asm); (case k2 => k_asm); (case k3 => k_asm); (case k4 => k_asm); (case k5 => k_asm); (case k6 => k_is); (case k7 => k_is); (case k8 => ktr_room); (case k9 => exact BindsTo.of_eq rfl); (case c5 => decide); (case kB => exact locs rfl); (case c2 => exact rfl); (case c3 => exact rfl); (case c4 => exact rfl); k_whole; intro L' h' F' N' B' X' T' l1; (try k_lt l1); (try dsimp only); (try k_lift B'); (try k_fold))
  | (refine' code_defCN ?k1 ?k2 ?k3 ?k4 ?k5 ?kA ?kF ?kK ?k6 ?k7 ?k8 ?k9 ?kB ?kD ?_ ?c2 ?c3 ?c4; (case kA => exact rfl); (case kF => exact rfl); (case kK => first | exact rfl | assumption); (case k1 => k_asm); (case k2 => k_asm); (case k3 => k_asm); (case k4 => k_asm); (case k5 => k_asm); (case k6 => k_is); (case k7 => k_is); (case k8 => ktr_room); (case k9 => exact BindsTo.of_eq rfl); (case kB => exact rfl); (case kD => decide +kernel); (case c2 => exact rfl); (case c3 => exact rfl); (case c4 => exact rfl); k_whole; intro L' h' tk' cells' F' N' Y' B' X' T' l1; (try k_lt l1); k_cells Y'; (try simp only [List.cons_append, List.nil_append] at N'); (try dsimp only); (try k_lift B'); (try k_fold)))
local macro_rules | `(tactic| walk_at "exec For Tuple Call") => `(tactic| k_extra "exec For Tuple Call")
local macro_rules | `(tactic| walk_at "subscriptTail Name Slice ref ref") => `(tactic| k_extra "subscriptTail Name Slice ref ref")
local macro_rules | `(tactic| walk_at "call type:zip") => `(tactic| k_extra "call type:zip")
local macro_rules | `(tactic| walk_at "exec For Name Call cons nil") => `(tactic| (k_here; (rename Fr _ _ _ _ => lF'); (with_unfolding_all refine' For_invVF lF' ?k1 ?k2 ?_; (case k1 => exact rfl); (case k2 => exact rfl); k_whole)))
/-- what holds between the turns of the outer loop -/
def TuRel (lo : Obj) (l : Addr) (_n : Nat) (m : Str → Option Value) (nx : List (Addr × Obj)) : Prop := m (Str.ofString "seen") = some (.ref l) ∧ nx = [(l, lo)]
theorem turns_says (l : Addr) (us : List Value) (nn : Nat) (ns : List Int) (hi : IntsAre us ns) (hn : ns.length = 17) (hpass : ∀ k : Nat, k < 5 → Pass ((2 : Int) ^ k) ns (ns.drop (2 ^ k))) : SaysL l (W.listOf us.toArray nn) 138 [.ref l] (isBool true) := by
  unfold SaysL
  w_on
  k_fill
  intro w loose mean mg mb dp un gd cn cs a ccd cl outer A₀ base h₀ L m s Q E B F X N T hk hd hu hret
  k_with_none
  have hus : us.length = 17 := by rw [hi.length, hn]
  k_with "subscriptTail Name Slice ref ref" => refine Halt.out ?_
  k_with "pyIter ref" => refine Halt.out ?_
  k_with "exec For Tuple Call" => refine Halt.out ?_
  k_with "call type:zip" => refine Halt.out ?_
  refine wpAny_call ?_
  k_dflt ktr_enter
  k_steps
  refine Halt.mk ?_
  (rename IsRange _ _ _ _ _ _ _ _ => R'); (rename Fr _ _ _ _ => F'); (rename News _ _ _ _ => N')
  with_unfolding_all refine' iter_range1 (n := 5) (TuRel (W.listOf us.toArray nn)) ?hh R' ?hs ?hn F' N' ?hR ?turn ?done
  case hh => rfl
  case hs => decide +kernel
  case hn => decide +kernel
  case hR => exact ⟨rfl, rfl⟩
  case turn =>
    intro i t m₁ nx h tk own hi5 ho hr F₁ N₁
    obtain ⟨e1, rfl⟩ := hr
    have F₂ := fr_named F₁ ((if_neg (by decide)).trans e1)
    clear F₁ F' N' R'
    simp only [List.cons_append, List.nil_append] at N₁
    k_steps
    refine Halt.mk ?_
    (rename Fr _ _ _ _ => F3)
    have hp : (2 : Int) ^ (0 + (i : Int)).toNat = 1 ∨ (2 : Int) ^ (0 + (i : Int)).toNat = 2 ∨ (2 : Int) ^ (0 + (i : Int)).toNat = 4 ∨ (2 : Int) ^ (0 + (i : Int)).toNat = 8 ∨ (2 : Int) ^ (0 + (i : Int)).toNat = 16 := by
      have hk : i = 0 ∨ i = 1 ∨ i = 2 ∨ i = 3 ∨ i = 4 := by omega
      rcases hk with rfl | rfl | rfl | rfl | rfl <;> decide
    have hP : Pass ((2 : Int) ^ (0 + (i : Int)).toNat) ns (ns.drop ((2 : Int) ^ (0 + (i : Int)).toNat).toNat) := by
      have e : (0 + (i : Int)).toNat = i := by omega
      rw [e]
      have q := hpass i hi5
      have e2 : ((2 : Int) ^ i).toNat = 2 ^ i := by
        have hk : i = 0 ∨ i = 1 ∨ i = 2 ∨ i = 3 ∨ i = 4 := by omega
        rcases hk with rfl | rfl | rfl | rfl | rfl <;> decide
      rw [e2]; exact q
    generalize (2 : Int) ^ (0 + (i : Int)).toNat = p at *
    have hp1 : 1 ≤ p := by omega
    have hp2 : p ≤ 16 := by omega
    with_unfolding_all refine' For_turns F3 ?_
    k_steps
    refine Halt.mk ?_
    k_dflt (refine' kmk_slice_ints (ns := ns) ?zF ?zN ?zl ?zp ?zq ?zi ?zm ?zc ?_ ?zs ?zt ?zz)
    case zF => k_asm
    case zN => k_asm
    case zl => kmk_list
    case zp => kmk_part
    case zq => kmk_part
    case zi => assumption
    case zm => exact kmk_from (by assumption) (by omega)
    case zc => rfl
    case zs => with_unfolding_all rfl
    case zt => kmk_pure
    case zz => kmk_size
    intro D' ws' h' F' N' l1 hI' hC' hL'; (try k_sweep)
    k_steps
    refine Halt.mk ?_
    with_unfolding_all refine' ktu_zip ?zh F' N' (List.Mem.tail _ (List.Mem.head _)) rfl rfl (List.Mem.head _) rfl rfl ?zr
    case zh => rfl
    case zr =>
      intro I lI
      refine items_zip (p := p) (fun m => ∃ t, m (Str.ofString "apart") = some (.int p t) ∧ m (Str.ofString "seen") = some (.ref l)) ?zu ?zd us ws' ns _ (by assumption) hI' hP _ ⟨_, rfl, rfl⟩
      case zu =>
        intro x y tx ty r m3 T3 h3 tk3 hxy hm3 hrest hT3 F4
        obtain ⟨t4, e3, e4⟩ := hm3
        intro o1 c1 o2 c2 o3 c3 o4 c4 o5 c5 N4
        have F5 := fr_named (fr_named F4 e3) ((if_neg (by decide)).trans e4)
        clear F4 F' N'
        k_steps
        · exact absurd hxy (by assumption)
        · (rename Fr _ _ _ _ => F6); (rename News _ _ _ _ => N6)
          refine ⟨_, _, _, (D', W.listOf ws'.toArray 0) :: (l, W.listOf us.toArray nn) :: own, rfl, F6, N6, ?zo, ⟨.tail _ (.head _), .head _, trivial⟩, hrest _ ⟨_, rfl, rfl⟩⟩
          intro p1 hp1 q1 hq1 e
          have h9 := lI p1 hp1
          have h8 : q1.1 = I + 4 ∨ q1.1 = I + 2 ∨ q1.1 = I + 3 ∨ q1.1 = I ∨ q1.1 = I + 1 := by
            simp only [List.mem_cons, List.not_mem_nil, or_false] at hq1
            rcases hq1 with rfl | rfl | rfl | rfl | rfl <;> simp
          have h7 : @Nat.lt p1.1 I := h9
          have h6 : (p1.1 : Nat) = q1.1 := e
          have h5 : ∀ z : Nat, p1.1 < I → p1.1 = z → z < I := fun z a b => b ▸ a
          have h4 := h5 _ h9 h6
          rcases h8 with h8 | h8 | h8 | h8 | h8 <;> rw [h8] at h4 <;> exact absurd h4 (by intro hh; have : (I : Nat) < I := Nat.lt_of_le_of_lt (by first | exact Nat.le_refl _ | exact Nat.le_add_right _ _) hh; exact Nat.lt_irrefl _ this)
      case zd =>
        intro m3 h3 tk3 hm3 F4 N4
        obtain ⟨t4, e3, e4⟩ := hm3
        have F5 := fr_named F4 e4
        clear F4 F' N'
        k_steps
        refine InvEndN.intro F5 N4 (nx := [(l, W.listOf us.toArray nn)]) ⟨rfl, rfl⟩ rfl (fun p hp => by rw [List.mem_singleton.mp hp]; exact .tail _ (.head _)) fun p hp => .tail _ (.tail _ hp)
  case done =>
    intro m₁ nx h tk hr F₁ N₁
    obtain ⟨e1, rfl⟩ := hr
    k_steps
    refine hret _ _ _ (keeps_of (fun p hp => (N p hp).1) F₁ N₁ (fun p hp => hp)) rfl
end
end Mine
end

section
namespace Mine
set_option maxRecDepth 100000
/-- a new list of two modes -/
abbrev isTwo : Heap → Heap → Value → Prop := fun h h' v => ∃ a b : Int, 0 ≤ a ∧ a < 65536 ∧ 0 ≤ b ∧ b < 65536 ∧ isInts [a, b] h h' v
section
set_option maxHeartbeats 4000000
local macro_rules | `(tactic| k_room) => `(tactic| ktr_room)
local macro_rules | `(tactic| units_room) => `(tactic| ktr_units)
local macro_rules | `(tactic| k_units) => `(tactic| ktr_units)
local macro_rules | `(tactic| cell_enter) => `(tactic| first
  | (refine' code_def0 ?k1 ?k2 ?k3 ?k5 ?kA ?kF ?kK ?k6 ?k7 ?k8 ?k9 ?kB ?_ ?c2 ?c3 ?c4 ?c5; (case kA => exact rfl); (case kF => exact rfl); (case kK => first | exact rfl | assumption); (case k1 => k_asm); (case k2 => k_asm); (case k3 => k_asm); (case k5 => k_asm); (case k6 => k_is); (case k7 => k_is); (case k8 => ktr_room); (case k9 => exact BindsTo.of_eq rfl); (case c5 => decide); (case kB => exact locs rfl); (case c2 => exact rfl); (case c3 => exact rfl); (case c4 => exact rfl); k_whole; intro L' h' F' N' B' X' T'; (try dsimp only); (try k_lift B'); (try k_fold))
  | (refine' code_defC0 ?k1 ?k2 ?k3 ?k5 ?kA ?kF ?kK ?k6 ?k7 ?k8 ?k9 ?kB ?kD ?_ ?c2 ?c3 ?c4; (case kA => exact rfl); (case kF => exact rfl); (case kK => first | exact rfl | assumption); (case k1 => k_asm); (case k2 => k_asm); (case k3 => k_asm); (case k5 => k_asm); (case k6 => k_is); (case k7 => k_is); (case k8 => ktr_room); (case k9 => exact BindsTo.of_eq rfl); (case kB => exact rfl); (case kD => decide +kernel); (case c2 => exact rfl); (case c3 => exact rfl); (case c4 => exact rfl); k_whole; intro L' h' tk' cells' F' N' Y' B' X' T'; k_cells Y'; (try simp only [List.cons_append, List.nil_append] at N'); (try dsimp only); (try k_lift B'); (try k_fold)))
local macro_rules | `(tactic| ktr_enter) => `(tactic| first
  | (refine' code_defN ?k1 ?k2 ?k3 ?k4 ?k5 ?kA ?kF ?kK ?k6 ?k7 ?k8 ?k9 ?kB ?_ ?c2 ?c3 ?c4 ?c5; (case kA => exact rfl); (case kF => exact rfl); (case kK => first | exact rfl | assumption); (case k1 => k_asm); (case k2 => k_asm); (case k3 => k_asm); (case k4 => k_asm); (case k5 => k_asm); (case k6 => k_is); (case k7 => k_is); (case k8 => ktr_room); (case k9 => exact BindsTo.of_eq rfl); (case c5 => decide); (case kB => exact locs rfl); (case c2 => exact rfl); (case c3 => exact rfl); (case c4 => exact rfl); k_whole; intro L' h' F' N' B' X' T' l1; (try k_lt l1); (try dsimp only); (try k_lift B'); (try k_fold))
  | (refine' code_defCN ?k1 ?k2 ?k3 ?k4 ?k5 ?kA ?kF ?kK ?k6 ?k7 ?k8 ?k9 ?kB ?kD ?_ ?c2 ?c3 ?c4; (case kA => exact rfl); (case kF => exact rfl); (case kK => first | exact rfl | assumption); (case k1 => k_asm); (case k2 => k_asm); (case k3 => k_asm); (case k4 => k_asm); (case k5 => k_asm); (case k6 => k_is); (case k7 => k_is); (case k8 => ktr_room); (case k9 => exact BindsTo.of_eq rfl); (case kB => exact rfl); (case kD => decide +kernel); (case c2 => exact rfl); (case c3 => exact rfl); (case c4 => exact rfl); k_whole; intro L' h' tk' cells' F' N' Y' B' X' T' l1; (try k_lt l1); k_cells Y'; (try simp only [List.cons_append, List.nil_append] at N'); (try dsimp only); (try k_lift B'); (try k_fold)))
local macro_rules | `(tactic| walk_at "eval ListComp") => `(tactic| k_extra "eval ListComp")
local macro_rules | `(tactic| walk_at "subscriptTail Name Slice ref ref") => `(tactic| k_extra "subscriptTail Name Slice ref ref")
local macro_rules | `(tactic| walk_at "CompSrc") => `(tactic| k_extra "CompSrc")
theorem two_says (l : Addr) (us : List Value) (ns : List Int) (hi : IntsAre us ns) (hn : ns.length ≤ 63) : SaysP (fun h => h.IsList l us.toArray) 148 [.ref l] isTwo := by
  unfold SaysP
  w_on
  k_fill
  intro w loose mean mg mb dp un gd cn cs a ccd cl outer A₀ base h₀ L m s Q E B F X T hk hd hu hpre hret
  k_with_none
  k_with "eval ListComp" => ((with_reducible show wpAny _ _ (eval (Expr.ListComp (Expr.BinOp (Expr.BinOp _ _ _ _) _ _ _) _ _ _) _) _ _ _); refine Halt.out ?_)
  refine wpAny_call ?_
  k_dflt cell_enter
  k_steps
  refine Halt.mk ?_
  k_with "CompSrc" => refine Halt.out ?_
  k_dflt (refine LCg.ListComp_U (F₀ := by k_asm) (by with_unfolding_all rfl) (by decide) (by rfl) (by decide) (by rfl) ?_)
  k_steps
  refine Halt.mk ?_
  k_dflt (refine LCg.CompSrc.range (n := 2) (by rfl) (by k_asm) (by k_asm) (by assumption) (by decide +kernel) (by decide +kernel) (by exact Nat.le_of_ble_eq_true rfl) ?_)
  intro g'
  k_with "subscriptTail Name Slice ref ref" => refine Halt.out ?_
  (rename IntsAre _ _ => hI9)
  refine LCg.CompRest.succ ?_
  intro v I oI C oC D m₂ h tk E' hv hC hx F' N' off ne
  obtain ⟨t, rfl⟩ := hv
  k_steps
  refine Halt.mk ?_
  k_dflt (refine' kmk_slice3_lit (zs := Array.toList _) ?zF1 ?zN1 ?zl1 ?zp1 ?zq1 ?zk1 ?zo1 ?ze1 ?_ ?zs1 ?zt1 ?zz1)
  case zF1 => k_asm
  case zN1 => k_asm
  case zl1 => kmk_list
  case zp1 => kmk_part
  case zq1 => kmk_part
  case zk1 => kmk_part
  case zo1 => decide
  case ze1 => exact rfl
  case zs1 => with_unfolding_all rfl
  case zt1 => kmk_pure
  case zz1 => kmk_size
  intro D' h' F8 N8 l1
  have hI8 := IntsAre.pick hI9 (some (0 + ((0 : Nat) : Int))) none (some 2)
  clear F' N'
  k_steps
  clear hI8
  (rename Fr _ _ _ _ => F7); (rename News _ _ _ _ => N7)
  refine LCg.CompEnd.intro F7 N7 _ (fun p hp => List.Mem.tail _ hp) off trivial ?_
  clear F7 N7 off ne hC hx
  refine LCg.CompRest.succ ?_
  intro v I oI C oC D m₂ h tk E' hv hC hx F' N' off ne
  obtain ⟨t, rfl⟩ := hv
  k_steps
  refine Halt.mk ?_
  k_dflt (refine' kmk_slice3_lit (zs := Array.toList _) ?zF2 ?zN2 ?zl2 ?zp2 ?zq2 ?zk2 ?zo2 ?ze2 ?_ ?zs2 ?zt2 ?zz2)
  case zF2 => k_asm
  case zN2 => k_asm
  case zl2 => kmk_list
  case zp2 => kmk_part
  case zq2 => kmk_part
  case zk2 => kmk_part
  case zo2 => decide
  case ze2 => exact rfl
  case zs2 => with_unfolding_all rfl
  case zt2 => kmk_pure
  case zz2 => kmk_size
  intro D' h' F8 N8 l1
  have hI8 := IntsAre.pick hI9 (some (0 + ((0 + 1 : Nat) : Int))) none (some 2)
  clear F' N'
  k_steps
  clear hI8
  (rename Fr _ _ _ _ => F7); (rename News _ _ _ _ => N7)
  refine LCg.CompEnd.intro F7 N7 _ (fun p hp => List.Mem.tail _ hp) off trivial ?_
  clear F7 N7 off ne hC hx
  refine LCg.CompRest.zero ?_
  k_steps
  (rename Fr _ _ _ _ => F7); (rename News _ _ _ _ => N7)
  have n1 := N7 _ (List.Mem.head _)
  refine hret _ _ _ (Fr.keep F7) ⟨_, _, ?_, ?_, ?_, ?_, _, [_, _], _, rfl, n1.2.2, n1.1, IntsAre.cons _ _ (IntsAre.cons _ _ IntsAre.nil)⟩
  · exact Int.fmod_nonneg_of_pos _ (by decide)
  · exact Int.fmod_lt_of_pos _ (by decide)
  · exact Int.fmod_nonneg_of_pos _ (by decide)
  · exact Int.fmod_lt_of_pos _ (by decide)
end
end Mine
end

section
namespace Mine
open PyProof.V
set_option maxRecDepth 100000

/-- a row of the table: where it stands, its pairs: where, the bit, the sign -/
abbrev FRow := Addr × List (Addr × Int × Str)
abbrev ofs (x : String) : Str := Str.ofString x
def rowsF : List FRow := [
  (66, [(59, 40960, ofs "l"), (60, 49152, ofs "s"), (61, 32768, ofs "-"), (62, 24576, ofs "b"), (63, 16384, ofs "d"), (64, 8192, ofs "c"), (65, 4096, ofs "p")]),
  (68, [(67, 256, ofs "r")]),
  (70, [(69, 128, ofs "w")]),
  (74, [(71, 2112, ofs "s"), (72, 2048, ofs "S"), (73, 64, ofs "x")]),
  (76, [(75, 32, ofs "r")]),
  (78, [(77, 16, ofs "w")]),
  (82, [(79, 1032, ofs "s"), (80, 1024, ofs "S"), (81, 8, ofs "x")]),
  (84, [(83, 4, ofs "r")]),
  (86, [(85, 2, ofs "w")]),
  (90, [(87, 513, ofs "t"), (88, 512, ofs "T"), (89, 1, ofs "x")])]
def RowAt (h : Heap) (r : FRow) : Prop := (∃ lo n, h.get? r.1 = some lo ∧ lo.cls = .type "tuple" ∧ lo.data = .seq (r.2.map fun p => Value.ref p.1).toArray n) ∧
  ∀ p ∈ r.2, ∃ t u, h.IsTuple p.1 #[.int p.2.1 t, .str p.2.2 u]
/-- does the row's bit lie in the mode (the first row: is it the mode's kind) -/
def fits (i : Nat) (x b : Int) : Bool := if i = 0 then decide (Builtin.bitAnd x 61440 = b) else decide (Builtin.bitAnd x b = b)
/-- the first sign whose bit fits, else the sign for none -/
def pick (i : Nat) (x : Int) : List (Addr × Int × Str) → Str
  | [] => if i = 0 then ofs "?" else ofs "-"
  | p :: r => if fits i x p.2.1 then p.2.2 else pick i x r
/-- the signs of the first a rows -/
def permS (x : Int) : Nat → List Str
  | 0 => []
  | a + 1 => permS x a ++ [pick a x (rowsF.getD a (0, [])).2]

theorem pick_at {a : Nat} {x : Int} : ∀ {r : List (Addr × Int × Str)} {i : Nat} {p : Addr × Int × Str}, (∀ j q, j < i → r[j]? = some q → fits a x q.2.1 = false) → r[i]? = some p → fits a x p.2.1 = true → pick a x r = p.2.2
  | [], _, _, _, h, _ => by simp at h
  | q :: r, 0, p, _, h, hf => by
    have e : q = p := by simpa using h
    subst e
    rw [pick, if_pos hf]
  | q :: r, i + 1, p, hn, h, hf => by
    rw [pick, if_neg (by rw [hn 0 q (Nat.succ_pos _) rfl]; exact Bool.false_ne_true)]
    exact pick_at (fun j q' hj hq' => hn (j + 1) q' (Nat.succ_lt_succ hj) (by simpa using hq')) (by simpa using h) hf
theorem pick_none {a : Nat} {x : Int} : ∀ {r : List (Addr × Int × Str)}, (∀ j q, j < r.length → r[j]? = some q → fits a x q.2.1 = false) → pick a x r = if a = 0 then ofs "?" else ofs "-"
  | [], _ => rfl
  | q :: r, hn => by
    rw [pick, if_neg (by rw [hn 0 q (Nat.succ_pos _) rfl]; exact Bool.false_ne_true)]
    exact pick_none fun j q' hj hq' => hn (j + 1) q' (Nat.succ_lt_succ hj) (by simpa using hq')
theorem fits_zero {a : Nat} {x b : Int} (h : (a : Int) = 0) (e : Builtin.bitAnd x 61440 = b) : fits a x b = true := by
  have h' : a = 0 := by omega
  unfold fits; rw [if_pos h']; exact decide_eq_true e
theorem fits_zero_no {a : Nat} {x b : Int} (h : (a : Int) = 0) (e : ¬ Builtin.bitAnd x 61440 = b) : fits a x b = false := by
  have h' : a = 0 := by omega
  unfold fits; rw [if_pos h']; exact decide_eq_false e
theorem fits_pos {a : Nat} {x b : Int} (h : ¬ (a : Int) = 0) (e : Builtin.bitAnd x b = b) : fits a x b = true := by
  have h' : ¬ a = 0 := by omega
  unfold fits; rw [if_neg h']; exact decide_eq_true e
theorem fits_pos_no {a : Nat} {x b : Int} (h : ¬ (a : Int) = 0) (e : ¬ Builtin.bitAnd x b = b) : fits a x b = false := by
  have h' : ¬ a = 0 := by omega
  unfold fits; rw [if_neg h']; exact decide_eq_false e
theorem permS_len (x : Int) : ∀ a, (permS x a).length = a
  | 0 => rfl
  | a + 1 => by rw [permS, List.length_append, permS_len x a]; rfl
theorem pick_one {a : Nat} {x : Int} : ∀ {r : List (Addr × Int × Str)}, (∀ p ∈ r, p.2.2.length = 1) → (pick a x r).length = 1
  | [], _ => by
    rw [pick]
    split <;> rfl
  | p :: r, h => by
    rw [pick]
    split
    · exact h p (.head _)
    · exact pick_one fun q hq => h q (.tail _ hq)
theorem rows_one : ∀ r ∈ rowsF, ∀ p ∈ r.2, p.2.2.length = 1 := by decide +kernel
theorem permS_one (x : Int) : ∀ a, ∀ y ∈ permS x a, y.length = 1
  | 0, _, h => nomatch h
  | a + 1, y, h => by
    rcases List.mem_append.mp h with h | h
    · exact permS_one x a y h
    · rw [List.mem_singleton.mp h]
      refine pick_one fun p hp => ?_
      rw [List.getD_eq_getElem?_getD] at hp
      cases q : rowsF[a]? with
      | none => rw [q] at hp; exact nomatch hp
      | some r => rw [q] at hp; exact rows_one r (List.mem_of_getElem? q) p hp
/-- the listing of a mode -/
def fmS (x : Int) : Str := Txt.join (Str.ofString "") (permS x 10)
theorem step_no {a i : Nat} {x : Int} {r : List (Addr × Int × Str)} {p : Addr × Int × Str} (hn : ∀ j q, j < i → r[j]? = some q → fits a x q.2.1 = false) (h : r[i]? = some p) (hf : fits a x p.2.1 = false) : ∀ j q, j < i + 1 → r[j]? = some q → fits a x q.2.1 = false := by
  intro j q hj hq
  by_cases e : j = i
  · subst e
    rw [h] at hq
    rw [← Option.some.inj hq]; exact hf
  · exact hn j q (by omega) hq
section
variable {prog : Program} {w : World} {A : Around} {E : Value → Shared → Prop} {s : Shared} {env : Env} {h₀ : Heap} {target : Expr} {body : List Stmt} {Q : Flow → Shared → Prop} {ws : List (Addr × String)}
/-- the turns over an enumerated tuple by what holds between them -/
theorem items_enum (R : Nat → (Str → Option Value) → List (Addr × Obj) → Prop) (vs : List Value)
    (turn : ∀ (a : Nat) (v : Value) (r : List Itm) (m : Str → Option Value) (nx : List (Addr × Obj)) (T : Addr) (t : Tok) (h : Heap) (tk : Nat), vs[a]? = some v → R a m nx → (∀ m' n', R (a + 1) m' n' → ItemsRest prog w A E h₀ env target body Q s ws [] r m' n') → IsTup h T #[.int ((a : Nat) : Int) t, v] → Fr h₀ env.locals h m →
      AllObj ws (fun its => News h₀ env.locals h (its ++ nx) →
        wpAny (model prog w) A (assign target env (.ref T)) (fun _ s₂ => wpAny (model prog w) A (execs body env) (UnrPostW h₀ env.locals { s with heap := h, toks := tk } its (fun m' n' => SubL [] n' ∧ ItemsRest prog w A E h₀ env target body Q s ws [] r m' n') Q) E s₂) E { s with heap := h, toks := tk }))
    (done : ∀ (m : Str → Option Value) (nx : List (Addr × Obj)) (h : Heap) (tk : Nat), R vs.length m nx → Fr h₀ env.locals h m → News h₀ env.locals h nx → Q .next { s with heap := h, toks := tk }) :
    ∀ (suf pre : List Value), vs = pre ++ suf → ∀ m nx, R pre.length m nx → ItemsRest prog w A E h₀ env target body Q s ws [] (enumItems pre.length suf) m nx
  | [], pre, e, m, nx, hR => ItemsRest.zero fun h tk F N => done m nx h tk (by rw [e, List.append_nil]; exact hR) F N
  | v :: suf, pre, e, m, nx, hR => ItemsRest.pair fun T t h tk hT F => turn pre.length v _ m nx T t h tk (by rw [e]; simp) hR (fun m' n' hR' => by
      have q := items_enum R vs turn done suf (pre ++ [v]) (by rw [e]; simp) m' n' (by rw [List.length_append]; exact hR')
      rw [List.length_append] at q
      exact q) hT F
end
section
set_option maxHeartbeats 4000000
local macro_rules | `(tactic| k_room) => `(tactic| ktr_room)
local macro_rules | `(tactic| units_room) => `(tactic| ktr_units)
local macro_rules | `(tactic| k_units) => `(tactic| ktr_units)
local macro_rules | `(tactic| cell_enter) => `(tactic| first
  | (refine' code_def0 ?k1 ?k2 ?k3 ?k5 ?kA ?kF ?kK ?k6 ?k7 ?k8 ?k9 ?kB ?_ ?c2 ?c3 ?c4 ?c5; (case kA => exact rfl); (case kF => exact rfl); (case kK => first | exact rfl | assumption); (case k1 => k_asm); (case k2 => k_asm); (case k3 => k_asm); (case k5 => k_asm); (case k6 => k_is); (case k7 => k_is); (case k8 => ktr_room); (case k9 => exact BindsTo.of_eq rfl); (case c5 => decide); (case kB => exact locs rfl); (case c2 => exact rfl); (case c3 => exact rfl); (case c4 => exact rfl); k_whole; intro L' h' F' N' B' X' T'; (try dsimp only); (try k_lift B'); (try k_fold))
  | (refine' code_defC0 ?k1 ?k2 ?k3 ?k5 ?kA ?kF ?kK ?k6 ?k7 ?k8 ?k9 ?kB ?kD ?_ ?c2 ?c3 ?c4; (case kA => exact rfl); (case kF => exact rfl); (case kK => first | exact rfl | assumption); (case k1 => k_asm); (case k2 => k_asm); (case k3 => k_asm); (case k5 => k_asm); (case k6 => k_is); (case k7 => k_is); (case k8 => ktr_room); (case k9 => exact BindsTo.of_eq rfl); (case kB => exact rfl); (case kD => decide +kernel); (case c2 => exact rfl); (case c3 => exact rfl); (case c4 => exact rfl); k_whole; intro L' h' tk' cells' F' N' Y' B' X' T'; k_cells Y'; (try simp only [List.cons_append, List.nil_append] at N'); (try dsimp only); (try k_lift B'); (try k_fold)))
local macro_rules | `(tactic| ktr_enter) => `(tactic| first
  | (refine' code_defN ?k1 ?k2 ?k3 ?k4 ?k5 ?kA ?kF ?kK ?k6 ?k7 ?k8 ?k9 ?kB ?_ ?c2 ?c3 ?c4 ?c5; (case kA => exact rfl); (case kF => exact rfl); (case kK => first | exact rfl | assumption); (case k1 => k_asm); (case k2 => k_asm); (case k3 => k_asm); (case k4 => k_asm); (case k5 => k_asm); (case k6 => k_is); (case k7 => k_is); (case k8 => ktr_room); (case k9 => exact BindsTo.of_eq rfl); (case c5 => decide); (case kB => exact locs rfl); (case c2 => exact rfl); (case c3 => exact rfl); (case c4 => exact rfl); k_whole; intro L' h' F' N' B' X' T' l1; (try k_lt l1); (try dsimp only); (try k_lift B'); (try k_fold))
  | (refine' code_defCN ?k1 ?k2 ?k3 ?k4 ?k5 ?kA ?kF ?kK ?k6 ?k7 ?k8 ?k9 ?kB ?kD ?_ ?c2 ?c3 ?c4; (case kA => exact rfl); (case kF => exact rfl); (case kK => first | exact rfl | assumption); (case k1 => k_asm); (case k2 => k_asm); (case k3 => k_asm); (case k4 => k_asm); (case k5 => k_asm); (case k6 => k_is); (case k7 => k_is); (case k8 => ktr_room); (case k9 => exact BindsTo.of_eq rfl); (case kB => exact rfl); (case kD => decide +kernel); (case c2 => exact rfl); (case c3 => exact rfl); (case c4 => exact rfl); k_whole; intro L' h' tk' cells' F' N' Y' B' X' T' l1; (try k_lt l1); k_cells Y'; (try simp only [List.cons_append, List.nil_append] at N'); (try dsimp only); (try k_lift B'); (try k_fold)))
local macro_rules | `(tactic| walk_at "exec For Tuple Call") => `(tactic| k_extra "exec For Tuple Call")
local macro_rules | `(tactic| walk_at "call type:enumerate") => `(tactic| k_extra "call type:enumerate")
local macro_rules | `(tactic| walk_at "exec For Tuple Name") => `(tactic| k_extra "exec For Tuple Name")
local macro_rules | `(tactic| walk_at "exec For Tuple Name cons cons") => `(tactic| k_extra "exec For Tuple Name")
local macro_rules | `(tactic| walk_at "call builtin:list.append") => `(tactic| (k_here; k_dflt (refine' append_K ?k1 ?k2 ?k3 ?_ ?z; (case k1 => k_asm); (case k2 => k_asm); (case k3 => k_upd); (case z => size_fits); k_whole); intro h' F' N'; (try k_sweep)))
/-- what holds between the rows -/
def FmRel (x : Int) (t1 : Tok) (a : Nat) (m : Str → Option Value) (nx : List (Addr × Obj)) : Prop :=
  ∃ pl us nn, m (ofs "mode") = some (.int x t1) ∧ m (ofs "perm") = some (.ref pl) ∧ nx = [(pl, W.listOf us.toArray nn)] ∧ StrsAre us (permS x a)
theorem fm_says (x : Int) (t1 : Tok) (hx : 0 ≤ x) (hx' : x < 65536) : Says 98 [.int x t1] (isStr (fmS x)) := by
  unfold Says
  w_on
  k_fill
  intro w loose mean mg mb dp un gd cn cs a ccd cl outer A₀ base h₀ L m s Q E B F X T hk hd hu hret
  k_with_none
  k_with "exec For Tuple Call" => refine Halt.out ?_
  k_with "call type:enumerate" => refine Halt.out ?_
  k_with "exec For Tuple Name" => refine Halt.out ?_
  have Xs := X.keeps F.keep
  have hrows : ∀ r ∈ rowsF, RowAt s.heap r := by
    intro r hr
    simp only [rowsF, List.mem_cons, List.not_mem_nil, or_false] at hr
    rcases hr with rfl | rfl | rfl | rfl | rfl | rfl | rfl | rfl | rfl | rfl
    all_goals (refine ⟨⟨_, _, Xs _ _ (by k_dflt k_is), rfl, rfl⟩, ?_⟩; intro p hp; simp only [List.mem_cons, List.not_mem_nil, or_false] at hp)
    all_goals first
      | (rcases hp with rfl | rfl | rfl | rfl | rfl | rfl | rfl <;> exact ⟨_, _, _, Xs _ _ (by k_dflt k_is), rfl, _, rfl⟩)
      | (rcases hp with rfl | rfl | rfl <;> exact ⟨_, _, _, Xs _ _ (by k_dflt k_is), rfl, _, rfl⟩)
      | (subst hp; exact ⟨_, _, _, Xs _ _ (by k_dflt k_is), rfl, _, rfl⟩)
  have htab : ∃ lo n, s.heap.get? 91 = some lo ∧ lo.cls = .type "tuple" ∧ lo.data = .seq (rowsF.map fun r => Value.ref r.1).toArray n := ⟨_, _, Xs _ _ (by k_dflt k_is), rfl, rfl⟩
  refine wpAny_call ?_
  k_dflt cell_enter
  rename_i L9 h9 F9 N9 B9 X9 T9
  k_steps
  refine Halt.mk ?_
  (rename Fr _ _ _ _ => F3)
  with_unfolding_all refine' For_turns F3 ?_
  k_steps
  refine Halt.mk ?_
  obtain ⟨lo91, n91, g91, c91, d91⟩ := htab
  (rename Fr _ _ _ _ => F4); (rename News _ _ _ _ => N4)
  with_unfolding_all refine' enum_turns ?zh F4 N4 g91 c91 d91 ?zr
  case zh => rfl
  case zr =>
    intro I lI
    refine' items_enum (FmRel x t1) (rowsF.map fun r => Value.ref r.1) ?zu ?zd (rowsF.map fun r => Value.ref r.1) [] rfl _ _ ?z0
    case z0 => exact ⟨_, [], _, rfl, rfl, rfl, .nil⟩
    case zu =>
      intro a9 v r m3 nx T3 t3 h3 tk3 hv hR hrest hT3 F5
      obtain ⟨pl, us, nn, e1, e2, rfl, hus⟩ := hR
      intro o1 c1 o2 c2 N5
      have F6 := fr_named (fr_named F5 e1) ((if_neg (by decide)).trans e2)
      clear F5 F4 N4
      simp only [List.cons_append, List.nil_append] at N5
      have n1 : @Ne Nat (I + 1) pl := cls_ne N5 (.head _) (.tail _ (.tail _ (.head _))) (by rw [c1]; show Value.type "enumerate" ≠ Value.type "list"; decide)
      have n2 : @Ne Nat I pl := cls_ne N5 (.tail _ (.head _)) (.tail _ (.tail _ (.head _))) (by rw [c2]; show Value.type "tuple_iterator" ≠ Value.type "list"; decide)
      obtain ⟨r9, hr9, rfl⟩ : ∃ r9, rowsF[a9]? = some r9 ∧ v = .ref r9.1 := by
        rw [List.getElem?_map] at hv
        cases q : rowsF[a9]? with
        | none => rw [q] at hv; cases hv
        | some r9 => rw [q] at hv; exact ⟨r9, rfl, (Option.some.inj hv).symm⟩
      obtain ⟨⟨lo9, n9, g9, cc9, d9⟩, hps⟩ := hrows r9 (List.mem_of_getElem? hr9)
      k_steps
      refine Halt.mk ?_
      k_fold
      (rename Fr _ _ _ _ => F7); (rename News _ _ _ _ => N7)
      have hul : us.length = a9 := by rw [StrsAre.len_eq hus, permS_len]
      have ha9 : a9 < 10 := by
        have := (List.getElem?_eq_some_iff.mp hr9).1
        exact this
      have hpk : permS x (a9 + 1) = permS x a9 ++ [pick a9 x r9.2] := by
        rw [permS, List.getD_eq_getElem?_getD, hr9]; rfl
      have fin : ∀ (m' : Str → Option Value) (h' : Heap) (tk' : Nat) (t' : Tok), m' (ofs "mode") = some (.int x t1) → m' (ofs "perm") = some (.ref pl) → Fr s.heap L9 h' m' → News s.heap L9 h' [(I + 1, o1), (I, o2), (pl, W.listOf (us ++ [Value.str (pick a9 x r9.2) t']).toArray (nn + 1))] → qk .next { s with heap := h', toks := tk' } := by
        intro m' h' tk' t' q1 q2 F8 N8
        k_steps
        exact hrest _ _ ⟨pl, _, _, q1, q2, rfl, by rw [hpk]; exact kct_snoc hus⟩
      with_unfolding_all refine' for_else (fun k m nx => m (ofs "mode") = some (.int x t1) ∧ m (ofs "perm") = some (.ref pl) ∧ m (ofs "index") = some (.int ((a9 : Nat) : Int) t3) ∧ nx = [(I + 1, o1), (I, o2), (pl, W.listOf us.toArray nn)] ∧ ∀ j p, j < k → r9.2[j]? = some p → fits a9 x p.2.1 = false) ?yh F7 N7 g9 cc9 d9 ?yx ?y0 ?yt ?ye
      case yh => rfl
      case yx => k_steps
      case y0 => exact ⟨rfl, rfl, rfl, rfl, fun j p hj _ => absurd hj (Nat.not_lt_zero _)⟩
      case yt =>
        intro i v m₁ nx h tk I9 oI hv hJ off F8 N8
        obtain ⟨q1, q2, q3, rfl, hno⟩ := hJ
        obtain ⟨p9, hp9, rfl⟩ : ∃ p9, r9.2[i]? = some p9 ∧ v = .ref p9.1 := by
          rw [List.getElem?_map] at hv
          cases q : r9.2[i]? with
          | none => rw [q] at hv; cases hv
          | some p9 => rw [q] at hv; exact ⟨p9, rfl, (Option.some.inj hv).symm⟩
        obtain ⟨tb, tc, hT9⟩ := hps p9 (List.mem_of_getElem? hp9)
        have hT8 : IsTup h p9.1 #[.int p9.2.1 tb, .str p9.2.2 tc] := hT9.at fun o e => F8.keep _ o e
        have F10 := fr_named (fr_named (fr_named F8 q1) ((if_neg (by decide)).trans q2)) ((if_neg (by decide)).trans ((if_neg (by decide)).trans q3))
        clear F8 F7 N7 hT3
        have n3 : @Ne Nat pl I9 := off _ (.tail _ (.tail _ (.head _)))
        clear_value qk
        k_steps
        · (rename News _ _ _ _ => N6); (rename Fr _ _ _ _ => F11)
          simp only [List.push_toArray] at N6
          have hf := pick_at hno hp9 (fits_zero (by assumption) (by assumption))
          exact fin _ _ _ tc rfl rfl F11 (by rw [hf]; exact fun p hp => N6 p (.tail _ hp))
        · (rename News _ _ _ _ => N6); (rename Fr _ _ _ _ => F11)
          exact ⟨_, _, _, _, rfl, F11, N6, off, rfl, rfl, rfl, rfl, step_no hno hp9 (fits_zero_no (by assumption) (by assumption))⟩
        · (rename News _ _ _ _ => N6); (rename Fr _ _ _ _ => F11)
          simp only [List.push_toArray] at N6
          have hf := pick_at hno hp9 (fits_pos (by assumption) (by assumption))
          exact fin _ _ _ tc rfl rfl F11 (by rw [hf]; exact fun p hp => N6 p (.tail _ hp))
        · (rename News _ _ _ _ => N6); (rename Fr _ _ _ _ => F11)
          exact ⟨_, _, _, _, rfl, F11, N6, off, rfl, rfl, rfl, rfl, step_no hno hp9 (fits_pos_no (by assumption) (by assumption))⟩
      case ye =>
        intro m₁ nx h tk hJ F8 N8
        obtain ⟨q1, q2, q3, rfl, hno⟩ := hJ
        have F10 := fr_named (fr_named (fr_named F8 q1) ((if_neg (by decide)).trans q2)) ((if_neg (by decide)).trans ((if_neg (by decide)).trans q3))
        clear F8 F7 N7 hT3
        clear_value qk
        rw [List.length_map] at hno
        have hf := pick_none hno
        k_steps
        · (rename News _ _ _ _ => N6); (rename Fr _ _ _ _ => F11)
          simp only [List.push_toArray] at N6
          rw [if_pos (by omega)] at hf
          exact fin _ _ _ _ rfl rfl F11 (by rw [hf]; exact N6)
        · (rename News _ _ _ _ => N6); (rename Fr _ _ _ _ => F11)
          simp only [List.push_toArray] at N6
          rw [if_neg (by omega)] at hf
          exact fin _ _ _ _ rfl rfl F11 (by rw [hf]; exact N6)
    case zd =>
      intro m3 nx h3 tk3 hR F5 N5
      obtain ⟨pl, us, nn, e1, e2, rfl, hus⟩ := hR
      have F6 := fr_named (fr_named F5 e1) ((if_neg (by decide)).trans e2)
      clear F5 F4 N4
      k_steps
      k_dflt (refine' KT.join_1 (l := permS x 10) (g := id) ?xl ?xc ?x1 ?xn ?_)
      case xl => exact News.isList N5 (.head _)
      case xc => exact hus.carried
      case x1 => exact fun y hy => permS_one x 10 y hy
      case xn => rw [permS_len]; decide
      intro t' k' _
      rw [List.map_id]
      exact hret _ _ _ (Fr.keep F6) ⟨_, rfl⟩
end
end Mine
end

section
namespace Mine
set_option maxRecDepth 100000
/-- the modes of the walk behind k steps -/
def wyL (x y : Int) : Nat → Int
  | 0 => x
  | k + 1 => stp (wyL x y k) y
def wyM (x y : Int) : Nat → List Int
  | 0 => [x]
  | k + 1 => wyM x y k ++ [wyL x y (k + 1)]
theorem wyM_len (x y : Int) : ∀ n, (wyM x y n).length = n + 1
  | 0 => rfl
  | n + 1 => by rw [wyM, List.length_append, wyM_len x y n]; rfl
theorem stp_bd (x y : Int) : 0 ≤ stp x y ∧ stp x y < 65536 := by
  have h1 := bitAnd_range x (y := 61440) (by decide)
  have h2 := bitAnd_range (x + Builtin.bitOr (x * x) y) (y := 4095) (by decide)
  unfold stp
  omega
theorem wyL_bd {x y : Int} (hx : 0 ≤ x) (hx' : x < 65536) : ∀ n, 0 ≤ wyL x y n ∧ wyL x y n < 65536
  | 0 => ⟨hx, hx'⟩
  | _ + 1 => stp_bd _ _
theorem wyM_bd {x y : Int} (hx : 0 ≤ x) (hx' : x < 65536) : ∀ n, ∀ k ∈ wyM x y n, 0 ≤ k ∧ k < 65536
  | 0, k, h => by rw [List.mem_singleton.mp h]; exact ⟨hx, hx'⟩
  | n + 1, k, h => by
    rcases List.mem_append.mp h with h | h
    · exact wyM_bd hx hx' n k h
    · rw [List.mem_singleton.mp h]; exact wyL_bd hx hx' (n + 1)
theorem wyM_last (x y : Int) : ∀ n, (wyM x y n).getD (-1 + ((wyM x y n).length : Int)).toNat 0 = wyL x y n
  | 0 => rfl
  | n + 1 => by
    have e : (-1 + ((wyM x y (n + 1)).length : Int)).toNat = n + 1 := by rw [wyM_len]; omega
    rw [e, wyM, List.getD_eq_getElem?_getD, List.getElem?_append_right (by rw [wyM_len]; exact Nat.le_refl _), wyM_len]
    simp
abbrev ofs' (x : String) : Str := Str.ofString x
/-- what holds between the turns of reduce -/
def WyRel (x y : Int) (rest : List (Addr × Obj)) (k : Nat) (m : Str → Option Value) (nx : List (Addr × Obj)) : Prop :=
  ∃ lv us nn, m (ofs' "function") = (rest[1]?).map (fun p => Value.ref p.1) ∧ m (ofs' "value") = some (.ref lv) ∧ nx = (lv, W.listOf us.toArray nn) :: rest ∧ IntsAre us (wyM x y k)
theorem wy_end {x y : Int} {rest : List (Addr × Obj)} {k : Nat} {h₀ h' : Heap} {L I l l1 lv : Addr} {oI o1 o2 : Obj} {s : Shared} {tk' : Nat} {m' : Str → Option Value} {us : List Value} {Q : Flow → Shared → Prop}
    (F : Fr h₀ L h' m') (N : News h₀ L h' ((l, { cls := .type "list", data := .seq us.toArray }) :: (l1, o1) :: (I, oI) :: (lv, o2) :: rest)) (hc : oI.cls = .type "range_iterator") (off : ∀ p ∈ (lv, o2) :: rest, p.1 ≠ I)
    (e1 : m' (ofs' "function") = (rest[1]?).map (fun p => Value.ref p.1)) (e2 : m' (ofs' "value") = some (.ref l)) (hi : IntsAre us (wyM x y k)) :
    TurnTo h₀ L I oI s (WyRel x y rest k) Q .next { s with heap := h', toks := tk' } := by
  refine ⟨h', tk', m', (l, { cls := .type "list", data := .seq us.toArray }) :: rest, rfl, F, ?_, ?_, l, us, 0, e1, e2, rfl, hi⟩
  · intro p hp
    rcases List.mem_cons.mp hp with rfl | hp
    · exact N _ (.tail _ (.tail _ (.head _)))
    · rcases List.mem_cons.mp hp with rfl | hp
      · exact N _ (.head _)
      · exact N _ (.tail _ (.tail _ (.tail _ (.tail _ hp))))
  · intro p hp
    rcases List.mem_cons.mp hp with rfl | hp
    · exact cls_ne N (.head _) (.tail _ (.tail _ (.head _))) (by rw [hc]; show Value.type "list" ≠ Value.type "range_iterator"; decide)
    · exact off p (.tail _ hp)
section
set_option maxHeartbeats 2000000
local macro_rules | `(tactic| k_room) => `(tactic| ktr_room)
local macro_rules | `(tactic| units_room) => `(tactic| ktr_units)
local macro_rules | `(tactic| k_units) => `(tactic| ktr_units)
local macro_rules | `(tactic| cell_enter) => `(tactic| first
  | (refine' code_def0 ?k1 ?k2 ?k3 ?k5 ?kA ?kF ?kK ?k6 ?k7 ?k8 ?k9 ?kB ?_ ?c2 ?c3 ?c4 ?c5; (case kA => exact rfl); (case kF => exact rfl); (case kK => first | exact rfl | assumption); (case k1 => k_asm); (case k2 => k_asm); (case k3 => k_asm); (case k5 => k_asm); (case k6 => k_is); (case k7 => k_is); (case k8 => ktr_room); (case k9 => exact BindsTo.of_eq rfl); (case c5 => decide); (case kB => exact locs rfl); (case c2 => exact rfl); (case c3 => exact rfl); (case c4 => exact rfl); k_whole; intro L' h' F' N' B' X' T'; (try dsimp only); (try k_lift B'); (try k_fold))
  | (refine' code_defC0 ?k1 ?k2 ?k3 ?k5 ?kA ?kF ?kK ?k6 ?k7 ?k8 ?k9 ?kB ?kD ?_ ?c2 ?c3 ?c4; (case kA => exact rfl); (case kF => exact rfl); (case kK => first | exact rfl | assumption); (case k1 => k_asm); (case k2 => k_asm); (case k3 => k_asm); (case k5 => k_asm); (case k6 => k_is); (case k7 => k_is); (case k8 => ktr_room); (case k9 => exact BindsTo.of_eq rfl); (case kB => exact rfl); (case kD => decide +kernel); (case c2 => exact rfl); (case c3 => exact rfl); (case c4 => exact rfl); k_whole; intro L' h' tk' cells' F' N' Y' B' X' T'; k_cells Y'; (try simp only [List.cons_append, List.nil_append] at N'); (try dsimp only); (try k_lift B'); (try k_fold)))
local macro_rules | `(tactic| ktr_enter) => `(tactic| first
  | (refine' code_defN ?k1 ?k2 ?k3 ?k4 ?k5 ?kA ?kF ?kK ?k6 ?k7 ?k8 ?k9 ?kB ?_ ?c2 ?c3 ?c4 ?c5; (case kA => exact rfl); (case kF => exact rfl); (case kK => first | exact rfl | assumption); (case k1 => k_asm); (case k2 => k_asm); (case k3 => k_asm); (case k4 => k_asm); (case k5 => k_asm); (case k6 => k_is); (case k7 => k_is); (case k8 => ktr_room); (case k9 => exact BindsTo.of_eq rfl); (case c5 => decide); (case kB => exact locs rfl); (case c2 => exact rfl); (case c3 => exact rfl); (case c4 => exact rfl); k_whole; intro L' h' F' N' B' X' T' l1; (try k_lt l1); (try dsimp only); (try k_lift B'); (try k_fold))
  | (refine' code_defCN ?k1 ?k2 ?k3 ?k4 ?k5 ?kA ?kF ?kK ?k6 ?k7 ?k8 ?k9 ?kB ?kD ?_ ?c2 ?c3 ?c4; (case kA => exact rfl); (case kF => exact rfl); (case kK => first | exact rfl | assumption); (case k1 => k_asm); (case k2 => k_asm); (case k3 => k_asm); (case k4 => k_asm); (case k5 => k_asm); (case k6 => k_is); (case k7 => k_is); (case k8 => ktr_room); (case k9 => exact BindsTo.of_eq rfl); (case kB => exact rfl); (case kD => decide +kernel); (case c2 => exact rfl); (case c3 => exact rfl); (case c4 => exact rfl); k_whole; intro L' h' tk' cells' F' N' Y' B' X' T' l1; (try k_lt l1); k_cells Y'; (try simp only [List.cons_append, List.nil_append] at N'); (try dsimp only); (try k_lift B'); (try k_fold)))
local macro_rules | `(tactic| walk_at "call type:range") => `(tactic| k_extra "call type:range")
local macro_rules | `(tactic| walk_at "call ref") => `(tactic| k_extra "call ref")
local macro_rules | `(tactic| walk_at "call builtin:iter") => `(tactic| k_extra "call builtin:iter")
local macro_rules | `(tactic| walk_at "exec For Name Name cons nil") => `(tactic| k_extra "exec For Name Name")
theorem way_says (x y : Int) (t1 t2 : Tok) (hx : 0 ≤ x) (hx' : x < 65536) (hy : 0 ≤ y) (hy' : y < 65536) : SaysW 60 600 112 [.int x t1, .int y t2] (isInts (wyM x y 16)) := by
  unfold SaysW
  w_on
  k_fill
  intro w loose mean mg mb dp un gd cn cs a ccd cl outer A₀ base h₀ L m s Q E B F X N C107 T hk hd hu hret
  k_with_none
  k_with "call type:range" => (k_dflt (refine' range_new ?zrF ?zrN ?_; (case zrF => k_asm); (case zrN => k_asm)); intro r9 h9 tk9 ta tb tc F9 N9 l1; (try k_lt l1))
  k_with "call ref" => ((with_reducible show wpAny _ _ (call (Value.ref 105) _) _ _ _); refine Halt.out ?_)
  k_with "call builtin:iter" => refine Halt.out ?_
  k_with "exec For Name Name" => refine Halt.out ?_
  refine wpAny_call ?_
  k_dflt ktr_enter
  have C108 : CodeHd (hideAll s.heap (List.map (fun p => p.1) [(107, tabObj #[])])) 111 107 := C107.keeps fun b o e => hideAll_get _ (F.keep b o e) (fun q => by
    have q' : b = 107 := List.mem_singleton.mp q
    have z := (N _ (.head _)).2.2
    rw [← q', e] at z; cases z)
  k_steps
  refine Halt.mk ?_
  (rename Fr _ _ _ _ => F4); (rename News _ _ _ _ => N4)
  k_dflt (refine' iter_range_new F4 N4 ?yr ?ys ?_)
  case yr => exact (N4 _ (.tail _ (.head _))).1
  case ys => decide +kernel
  intro I h5 F5 N5 l1
  have e16 : Builtin.Range.rangeSize 0 16 1 = ((16 : Nat) : Int) := by decide +kernel
  rw [e16] at N5
  clear F4 N4
  (try k_lt l1)
  k_steps
  refine Halt.mk ?_
  (rename Fr _ _ _ _ => F6); (rename News _ _ _ _ => N6)
  with_unfolding_all refine' for_iter1 (n := 16) (WyRel x y) ?xh F6 N6 ?xo ?xx ?x0 ?xt ?xd
  case xh => rfl
  case xo =>
    intro p hp
    simp only [List.mem_cons, List.not_mem_nil, or_false] at hp
    rcases hp with rfl | rfl | rfl | rfl | rfl | rfl
    all_goals (refine neN ?_; (try dsimp only); omega)
  case xx => k_steps
  case x0 => exact ⟨_, [.int x t1], _, rfl, rfl, rfl, IntsAre.cons _ _ IntsAre.nil⟩
  case xt =>
    intro i t m₁ nx h tk oI hi16 hcI hJ off F7 N7
    obtain ⟨lv, us, nn, e1, e2, rfl, hI⟩ := hJ
    have F8 := fr_named (fr_named F7 e1) ((if_neg (by decide)).trans e2)
    clear F7 F6 N6
    have hul := hI.length
    rw [wyM_len] at hul
    k_steps
    refine Halt.mk ?_
    rw [wyM_last]
    obtain ⟨b1, b2⟩ := wyL_bd (y := y) hx hx' i
    k_dflt (refine' Says.int (step_says (wyL x y i) y _ _ b1 b2 hy hy') ?wB ?wF ?wX ?wN ?wT ?wk ?wd ?wu ?_)
    case wB => k_asm
    case wF => k_asm
    case wX => k_asm
    case wN => k_asm
    case wT => k_asm
    case wk => first | exact rfl | assumption
    case wd => ktr_room
    case wu => ktr_units
    intro t9 h9 tk9 F9 N9
    k_steps
    (rename Fr _ _ _ _ => F10); (rename News _ _ _ _ => N10)
    exact wy_end F10 N10 hcI off rfl rfl (ints_snoc hI)
  case xd =>
    intro m₁ nx h tk hJ F7 N7
    obtain ⟨lv, us, nn, e1, e2, rfl, hI⟩ := hJ
    have F8 := fr_named F7 e2
    clear F7 F6 N6
    k_steps
    (rename Fr _ _ _ _ => F10); (rename News _ _ _ _ => N10)
    have q0 := N10 _ (.head _)
    have q7 := N10 _ (.tail _ (.tail _ (.tail _ (.tail _ (.tail _ (.head _))))))
    have ne : @Ne Nat lv 107 := cls_ne N10 (.head _) (.tail _ (.tail _ (.tail _ (.tail _ (.tail _ (.head _)))))) (by intro z; cases z)
    refine hret _ _ _ _ (fun b o hb e => F10.keep b o (hideAll_get _ e (fun q => hb (List.mem_singleton.mp q)))) q7.1 ⟨lv, us, nn, rfl, ?_, q0.1, hI⟩
    cases z : s.heap.get? lv with
    | none => rfl
    | some o =>
      have z' := hideAll_get (List.map (fun p : Addr × Obj => p.1) [(107, tabObj #[])]) z (fun q => ne (List.mem_singleton.mp q))
      rw [q0.2.2] at z'; cases z'
end
end Mine
end

section
namespace Mine
set_option maxRecDepth 100000
theorem es_can : ∀ ss : List Str, (∀ a ∈ ss, PyData.canLay0 (.str a) = true) → PyData.canLayAll0 (ss.map PyData.str) = true
  | [], _ => rfl
  | a :: r, h => by rw [List.map_cons, PyData.canLayAll0, es_can r (fun b hb => h b (.tail _ hb)), h a (.head _)]; rfl
theorem es_depth : ∀ ss : List Str, PyData.depthAll (ss.map PyData.str) = 0
  | [] => rfl
  | _ :: r => by rw [List.map_cons, PyData.depthAll, es_depth r]; rfl
theorem es_shaped (ss : List Str) (h : ∀ a ∈ ss, PyData.canLay0 (.str a) = true) : SeqAt.shaped (.list (ss.map PyData.str)) = true := by
  simp [SeqAt.shaped, PyData.canLay0, PyData.depth, es_can ss h, es_depth]
theorem es_sameAll : ∀ ss ts : List Str, PySem.Spec.sameAll (ss.map PyData.str) (ts.map PyData.str) = decide (ss = ts)
  | [], [] => rfl
  | [], _ :: _ => rfl
  | _ :: _, [] => rfl
  | a :: r, b :: q => by
    rw [List.map_cons, List.map_cons, PySem.Spec.sameAll, es_sameAll r q]
    by_cases h : a = b
    · subst h; simp [PySem.Spec.same]
    · simp [PySem.Spec.same, h]
theorem es_same (ss ts : List Str) : PySem.Spec.same (.list (ss.map PyData.str)) (.list (ts.map PyData.str)) = decide (ss = ts) := by
  rw [PySem.Spec.same, es_sameAll]
section
variable {prog : Program} {w : World} {A : Around} {E : Value → Shared → Prop} {s : Shared} {a b : Addr} {xs ys : List Value} {ss ts : List Str} {Q : Value → Shared → Prop}
theorem ne_strs (ha : s.heap.IsList a xs.toArray) (hb : s.heap.IsList b ys.toArray) (hi : StrsAre xs ss) (hj : StrsAre ys ts) (ks : ∀ a ∈ ss, PyData.canLay0 (.str a) = true) (kt : ∀ a ∈ ts, PyData.canLay0 (.str a) = true) (hu : A.units + 64 < cLine) (h : Q (.bool (!decide (ss = ts))) s) :
    wpAny (model prog w) A (compareOp .NotEq (.ref a) (.ref b)) Q E s :=
  ne_dataH_same (reads_newData ha hi.carried) (reads_newData hb hj.carried) (es_shaped _ ks) (es_shaped _ kt) hu (SeqAt.noMix_of_shape (.list .str) rfl _ _ (list_map_has fun _ => rfl) (list_map_has fun _ => rfl)) (by rw [es_same]; exact h)
end
end Mine
end

section
namespace Mine
set_option maxRecDepth 100000

def chr1 (c : Nat) : Str := ⟨#[c]⟩
def cK (q : Nat) : Nat := [63, 112, 99, 63, 100, 63, 98, 63, 45, 63, 108, 63, 115, 63, 63, 63].getD q 63
def cR (b : Bool) : Nat := if b then 114 else 45
def cW (b : Bool) : Nat := if b then 119 else 45
def cX (b c : Bool) : Nat := if c then (if b then 115 else 83) else (if b then 120 else 45)
def cT (b c : Bool) : Nat := if c then (if b then 116 else 84) else (if b then 120 else 45)
/-- the signs of a mode's listing, by its bits -/
def codes (k : Nat) : List Nat := [cK (k / 4096), cR (k.testBit 8), cW (k.testBit 7), cX (k.testBit 6) (k.testBit 11), cR (k.testBit 5), cW (k.testBit 4), cX (k.testBit 3) (k.testBit 10), cR (k.testBit 2), cW (k.testBit 1), cT (k.testBit 0) (k.testBit 9)]

theorem bitAnd_nat (a b : Nat) : Builtin.bitAnd (a : Int) (b : Int) = ((a &&& b : Nat) : Int) := by
  unfold Builtin.bitAnd
  rw [decide_eq_true (Int.natCast_nonneg a), decide_eq_true (Int.natCast_nonneg b)]
  rfl
/-- one bit -/
theorem and_bit (k i : Nat) : k &&& 2 ^ i = if k.testBit i then 2 ^ i else 0 := by
  apply Nat.eq_of_testBit_eq
  intro j
  rw [Nat.testBit_and, Nat.testBit_two_pow]
  by_cases h : i = j
  · subst h
    cases k.testBit i <;> simp [Nat.testBit_two_pow]
  · cases hk : k.testBit i <;> simp [h, Nat.testBit_two_pow]
theorem and_bits (k i j : Nat) : k &&& (2 ^ i ||| 2 ^ j) = (if k.testBit i then 2 ^ i else 0) ||| (if k.testBit j then 2 ^ j else 0) := by
  rw [Nat.and_or_distrib_left, and_bit, and_bit]
theorem tb_div (k i : Nat) : k / 2 ^ i % 2 = (k.testBit i).toNat := by
  rw [Nat.testBit_eq_decide_div_mod_eq]
  have : k / 2 ^ i % 2 = 0 ∨ k / 2 ^ i % 2 = 1 := by omega
  rcases this with h | h <;> rw [h] <;> rfl
theorem kind_and {k : Nat} (h : k < 65536) : k &&& 61440 = 4096 * (k / 4096) := by
  have h1 : (k &&& 61440) % 2 ^ 12 = k % 2 ^ 12 &&& 61440 % 2 ^ 12 := Nat.and_mod_two_pow
  have h2 : (k &&& 61440) / 2 ^ 12 = k / 2 ^ 12 &&& 61440 / 2 ^ 12 := Nat.and_div_two_pow
  have h3 : k / 2 ^ 12 &&& 61440 / 2 ^ 12 = k / 2 ^ 12 % 2 ^ 4 := Nat.and_two_pow_sub_one_eq_mod (k / 2 ^ 12) 4
  rw [h3] at h2
  have h4 : k % 2 ^ 12 &&& 61440 % 2 ^ 12 = 0 := by
    show k % 2 ^ 12 &&& 0 = 0
    exact Nat.and_zero _
  rw [h4] at h1
  omega
theorem fits_bit {a : Nat} (ha : a ≠ 0) (k i : Nat) : fits a (k : Int) ((2 ^ i : Nat) : Int) = k.testBit i := by
  unfold fits
  rw [if_neg ha, bitAnd_nat, and_bit]
  have hp : 0 < 2 ^ i := Nat.two_pow_pos i
  cases k.testBit i
  · simp only [Bool.false_eq_true, if_false]
    refine decide_eq_false ?_
    omega
  · simp
theorem fits_bits {a : Nat} (ha : a ≠ 0) (k i j : Nat) (hij : i ≠ j) : fits a (k : Int) ((2 ^ i ||| 2 ^ j : Nat) : Int) = (k.testBit i && k.testBit j) := by
  unfold fits
  rw [if_neg ha, bitAnd_nat, and_bits]
  have key : ∀ b c : Bool, ((if b then 2 ^ i else 0) ||| (if c then 2 ^ j else 0) = 2 ^ i ||| 2 ^ j) ↔ (b && c) = true := by
    intro b c
    cases b <;> cases c <;> simp only [Bool.false_eq_true, if_false, if_true, Bool.and_self, Bool.and_true, Bool.and_false, iff_true, iff_false]
    · intro h
      have := congrArg (Nat.testBit · i) h
      simp [Nat.testBit_or, Nat.testBit_two_pow] at this
    · intro h
      have := congrArg (Nat.testBit · i) h
      simp [Nat.testBit_or, Nat.testBit_two_pow, Ne.symm hij] at this
    · intro h
      have := congrArg (Nat.testBit · j) h
      simp [Nat.testBit_or, Nat.testBit_two_pow, hij] at this
  cases hb : (k.testBit i && k.testBit j)
  · refine decide_eq_false fun h => ?_
    have := (key _ _).mp (by exact_mod_cast h)
    rw [hb] at this; cases this
  · exact decide_eq_true (by exact_mod_cast (key _ _).mpr hb)

theorem pk1 {a : Nat} (ha : a ≠ 0) (k i : Nat) (q : Addr) (c : Str) : pick a (k : Int) [(q, ((2 ^ i : Nat) : Int), c)] = if k.testBit i then c else ofs "-" := by
  rw [pick, fits_bit ha, pick, if_neg ha]
theorem pk3 {a : Nat} (ha : a ≠ 0) (k i j : Nat) (hij : i ≠ j) (q1 q2 q3 : Addr) (c1 c2 c3 : Str) :
    pick a (k : Int) [(q1, ((2 ^ i ||| 2 ^ j : Nat) : Int), c1), (q2, ((2 ^ j : Nat) : Int), c2), (q3, ((2 ^ i : Nat) : Int), c3)] =
      if k.testBit j then (if k.testBit i then c1 else c2) else (if k.testBit i then c3 else ofs "-") := by
  rw [pick, fits_bits ha k i j hij, pick, fits_bit ha, pick, fits_bit ha, pick, if_neg ha]
  cases k.testBit i <;> cases k.testBit j <;> rfl
theorem pk0 {k : Nat} (h : k < 65536) : pick 0 (k : Int) (rowsF.getD 0 (0, [])).2 = chr1 (cK (k / 4096)) := by
  have e : ∀ b : Int, fits 0 (k : Int) b = decide (((4096 * (k / 4096) : Nat) : Int) = b) := by
    intro b
    unfold fits
    rw [if_pos rfl]
    have : Builtin.bitAnd (k : Int) 61440 = ((4096 * (k / 4096) : Nat) : Int) := by
      rw [← kind_and h]; exact bitAnd_nat k 61440
    rw [this]
  have hq : k / 4096 < 16 := by omega
  generalize k / 4096 = q at *
  show pick 0 (k : Int) [(59, 40960, ofs "l"), (60, 49152, ofs "s"), (61, 32768, ofs "-"), (62, 24576, ofs "b"), (63, 16384, ofs "d"), (64, 8192, ofs "c"), (65, 4096, ofs "p")] = _
  simp only [pick, e]
  clear e
  revert hq
  revert q
  decide +kernel
theorem perm_codes {k : Nat} (h : k < 65536) : permS (k : Int) 10 = (codes k).map chr1 := by
  have e0 := pk0 h
  have e1 : pick 1 (k : Int) (rowsF.getD 1 (0, [])).2 = chr1 (cR (k.testBit 8)) := (pk1 (a := 1) (by decide) k 8 67 (ofs "r")).trans (by cases k.testBit 8 <;> decide +kernel)
  have e2 : pick 2 (k : Int) (rowsF.getD 2 (0, [])).2 = chr1 (cW (k.testBit 7)) := (pk1 (a := 2) (by decide) k 7 69 (ofs "w")).trans (by cases k.testBit 7 <;> decide +kernel)
  have e3 : pick 3 (k : Int) (rowsF.getD 3 (0, [])).2 = chr1 (cX (k.testBit 6) (k.testBit 11)) := (pk3 (a := 3) (by decide) k 6 11 (by decide) 71 72 73 (ofs "s") (ofs "S") (ofs "x")).trans (by cases k.testBit 6 <;> cases k.testBit 11 <;> decide +kernel)
  have e4 : pick 4 (k : Int) (rowsF.getD 4 (0, [])).2 = chr1 (cR (k.testBit 5)) := (pk1 (a := 4) (by decide) k 5 75 (ofs "r")).trans (by cases k.testBit 5 <;> decide +kernel)
  have e5 : pick 5 (k : Int) (rowsF.getD 5 (0, [])).2 = chr1 (cW (k.testBit 4)) := (pk1 (a := 5) (by decide) k 4 77 (ofs "w")).trans (by cases k.testBit 4 <;> decide +kernel)
  have e6 : pick 6 (k : Int) (rowsF.getD 6 (0, [])).2 = chr1 (cX (k.testBit 3) (k.testBit 10)) := (pk3 (a := 6) (by decide) k 3 10 (by decide) 79 80 81 (ofs "s") (ofs "S") (ofs "x")).trans (by cases k.testBit 3 <;> cases k.testBit 10 <;> decide +kernel)
  have e7 : pick 7 (k : Int) (rowsF.getD 7 (0, [])).2 = chr1 (cR (k.testBit 2)) := (pk1 (a := 7) (by decide) k 2 83 (ofs "r")).trans (by cases k.testBit 2 <;> decide +kernel)
  have e8 : pick 8 (k : Int) (rowsF.getD 8 (0, [])).2 = chr1 (cW (k.testBit 1)) := (pk1 (a := 8) (by decide) k 1 85 (ofs "w")).trans (by cases k.testBit 1 <;> decide +kernel)
  have e9 : pick 9 (k : Int) (rowsF.getD 9 (0, [])).2 = chr1 (cT (k.testBit 0) (k.testBit 9)) := (pk3 (a := 9) (by decide) k 0 9 (by decide) 87 88 89 (ofs "t") (ofs "T") (ofs "x")).trans (by cases k.testBit 0 <;> cases k.testBit 9 <;> decide +kernel)
  simp only [permS, e0, e1, e2, e3, e4, e5, e6, e7, e8, e9]
  rfl
theorem glue_ones (l : List Nat) : Txt.join (Str.ofString "") (l.map chr1) = ⟨l.toArray⟩ := by
  have e : Str.ofString "" = (⟨#[]⟩ : Str) := by decide +kernel
  show Builtin.Str.glued (Str.ofString "") (l.map chr1) = _
  rw [StrLaws.glued_eq_join, e]
  exact join_ones l
theorem fm_codes {k : Nat} (h : k < 65536) : fmS (k : Int) = ⟨(codes k).toArray⟩ := by
  rw [fmS, perm_codes h, glue_ones]

theorem fdiv_nat (a b : Nat) : Int.fdiv (a : Int) (b : Int) = ((a / b : Nat) : Int) := by
  rw [Int.fdiv_eq_ediv_of_nonneg _ (Int.natCast_nonneg b)]; rfl
theorem fmod_nat (a b : Nat) : Int.fmod (a : Int) (b : Int) = ((a % b : Nat) : Int) := by
  rw [Int.fmod_eq_emod_of_nonneg _ (Int.natCast_nonneg b)]; rfl
theorem it_r (b : Bool) : Txt.item (Str.ofString "-r") ((b.toNat : Nat) : Int) = chr1 (cR b) := by cases b <;> decide +kernel
theorem it_w (b : Bool) : Txt.item (Str.ofString "-w") ((b.toNat : Nat) : Int) = chr1 (cW b) := by cases b <;> decide +kernel
theorem it_x (b c : Bool) : Txt.item (Str.ofString "-xSs") ((b.toNat + 2 * c.toNat : Nat) : Int) = chr1 (cX b c) := by cases b <;> cases c <;> decide +kernel
theorem it_t (b c : Bool) : Txt.item (Str.ofString "-xTt") ((b.toNat + 2 * c.toNat : Nat) : Int) = chr1 (cT b c) := by cases b <;> cases c <;> decide +kernel
theorem it_k {q : Nat} (h : q < 16) : Txt.item (Str.ofString "?pc?d?b?-?l?s???") ((q : Nat) : Int) = chr1 (cK q) := by
  revert h
  revert q
  decide +kernel
theorem row_codes {k : Nat} (h : k < 65536) : rowS (k : Int) = ⟨(codes k).toArray⟩ := by
  have f : ∀ b : Nat, Int.fdiv (k : Int) (b : Int) = ((k / b : Nat) : Int) := fdiv_nat k
  have t := tb_div k
  have r1 : Int.fdiv (k : Int) 4096 = ((k / 4096 : Nat) : Int) := f 4096
  have g1 : ((Int.fdiv (k : Int) 64).fmod 8).fdiv 4 = (((k.testBit 8).toNat : Nat) : Int) := by
    rw [show Int.fdiv (k : Int) 64 = ((k / 64 : Nat) : Int) from f 64, show (((k / 64 : Nat) : Int)).fmod 8 = ((k / 64 % 8 : Nat) : Int) from fmod_nat _ 8, show (((k / 64 % 8 : Nat) : Int)).fdiv 4 = ((k / 64 % 8 / 4 : Nat) : Int) from fdiv_nat _ 4, ← t 8]
    congr 1; omega
  have g2 : (((Int.fdiv (k : Int) 64).fmod 8).fdiv 2).fmod 2 = (((k.testBit 7).toNat : Nat) : Int) := by
    rw [show Int.fdiv (k : Int) 64 = ((k / 64 : Nat) : Int) from f 64, show (((k / 64 : Nat) : Int)).fmod 8 = ((k / 64 % 8 : Nat) : Int) from fmod_nat _ 8, show (((k / 64 % 8 : Nat) : Int)).fdiv 2 = ((k / 64 % 8 / 2 : Nat) : Int) from fdiv_nat _ 2, show (((k / 64 % 8 / 2 : Nat) : Int)).fmod 2 = ((k / 64 % 8 / 2 % 2 : Nat) : Int) from fmod_nat _ 2, ← t 7]
    congr 1; omega
  have g3 : ((Int.fdiv (k : Int) 64).fmod 8).fmod 2 + 2 * (Int.fdiv (k : Int) 2048).fmod 2 = (((k.testBit 6).toNat + 2 * (k.testBit 11).toNat : Nat) : Int) := by
    rw [show Int.fdiv (k : Int) 64 = ((k / 64 : Nat) : Int) from f 64, show (((k / 64 : Nat) : Int)).fmod 8 = ((k / 64 % 8 : Nat) : Int) from fmod_nat _ 8, show (((k / 64 % 8 : Nat) : Int)).fmod 2 = ((k / 64 % 8 % 2 : Nat) : Int) from fmod_nat _ 2, show Int.fdiv (k : Int) 2048 = ((k / 2048 : Nat) : Int) from f 2048, show (((k / 2048 : Nat) : Int)).fmod 2 = ((k / 2048 % 2 : Nat) : Int) from fmod_nat _ 2, ← t 6, ← t 11]
    omega
  have g4 : ((Int.fdiv (k : Int) 8).fmod 8).fdiv 4 = (((k.testBit 5).toNat : Nat) : Int) := by
    rw [show Int.fdiv (k : Int) 8 = ((k / 8 : Nat) : Int) from f 8, show (((k / 8 : Nat) : Int)).fmod 8 = ((k / 8 % 8 : Nat) : Int) from fmod_nat _ 8, show (((k / 8 % 8 : Nat) : Int)).fdiv 4 = ((k / 8 % 8 / 4 : Nat) : Int) from fdiv_nat _ 4, ← t 5]
    congr 1; omega
  have g5 : (((Int.fdiv (k : Int) 8).fmod 8).fdiv 2).fmod 2 = (((k.testBit 4).toNat : Nat) : Int) := by
    rw [show Int.fdiv (k : Int) 8 = ((k / 8 : Nat) : Int) from f 8, show (((k / 8 : Nat) : Int)).fmod 8 = ((k / 8 % 8 : Nat) : Int) from fmod_nat _ 8, show (((k / 8 % 8 : Nat) : Int)).fdiv 2 = ((k / 8 % 8 / 2 : Nat) : Int) from fdiv_nat _ 2, show (((k / 8 % 8 / 2 : Nat) : Int)).fmod 2 = ((k / 8 % 8 / 2 % 2 : Nat) : Int) from fmod_nat _ 2, ← t 4]
    congr 1; omega
  have g6 : ((Int.fdiv (k : Int) 8).fmod 8).fmod 2 + 2 * (Int.fdiv (k : Int) 1024).fmod 2 = (((k.testBit 3).toNat + 2 * (k.testBit 10).toNat : Nat) : Int) := by
    rw [show Int.fdiv (k : Int) 8 = ((k / 8 : Nat) : Int) from f 8, show (((k / 8 : Nat) : Int)).fmod 8 = ((k / 8 % 8 : Nat) : Int) from fmod_nat _ 8, show (((k / 8 % 8 : Nat) : Int)).fmod 2 = ((k / 8 % 8 % 2 : Nat) : Int) from fmod_nat _ 2, show Int.fdiv (k : Int) 1024 = ((k / 1024 : Nat) : Int) from f 1024, show (((k / 1024 : Nat) : Int)).fmod 2 = ((k / 1024 % 2 : Nat) : Int) from fmod_nat _ 2, ← t 3, ← t 10]
    omega
  have g7 : ((Int.fdiv (k : Int) 1).fmod 8).fdiv 4 = (((k.testBit 2).toNat : Nat) : Int) := by
    rw [show Int.fdiv (k : Int) 1 = ((k / 1 : Nat) : Int) from f 1, show (((k / 1 : Nat) : Int)).fmod 8 = ((k / 1 % 8 : Nat) : Int) from fmod_nat _ 8, show (((k / 1 % 8 : Nat) : Int)).fdiv 4 = ((k / 1 % 8 / 4 : Nat) : Int) from fdiv_nat _ 4, ← t 2]
    congr 1; omega
  have g8 : (((Int.fdiv (k : Int) 1).fmod 8).fdiv 2).fmod 2 = (((k.testBit 1).toNat : Nat) : Int) := by
    rw [show Int.fdiv (k : Int) 1 = ((k / 1 : Nat) : Int) from f 1, show (((k / 1 : Nat) : Int)).fmod 8 = ((k / 1 % 8 : Nat) : Int) from fmod_nat _ 8, show (((k / 1 % 8 : Nat) : Int)).fdiv 2 = ((k / 1 % 8 / 2 : Nat) : Int) from fdiv_nat _ 2, show (((k / 1 % 8 / 2 : Nat) : Int)).fmod 2 = ((k / 1 % 8 / 2 % 2 : Nat) : Int) from fmod_nat _ 2, ← t 1]
    congr 1; omega
  have g9 : ((Int.fdiv (k : Int) 1).fmod 8).fmod 2 + 2 * (Int.fdiv (k : Int) 512).fmod 2 = (((k.testBit 0).toNat + 2 * (k.testBit 9).toNat : Nat) : Int) := by
    rw [show Int.fdiv (k : Int) 1 = ((k / 1 : Nat) : Int) from f 1, show (((k / 1 : Nat) : Int)).fmod 8 = ((k / 1 % 8 : Nat) : Int) from fmod_nat _ 8, show (((k / 1 % 8 : Nat) : Int)).fmod 2 = ((k / 1 % 8 % 2 : Nat) : Int) from fmod_nat _ 2, show Int.fdiv (k : Int) 512 = ((k / 512 : Nat) : Int) from f 512, show (((k / 512 : Nat) : Int)).fmod 2 = ((k / 512 % 2 : Nat) : Int) from fmod_nat _ 2, ← t 0, ← t 9]
    omega
  unfold rowS
  rw [g1, g2, g3, g4, g5, g6, g7, g8, g9, r1, it_k (show k / 4096 < 16 by omega), it_r, it_r, it_r, it_w, it_w, it_w, it_x, it_x, it_t]
  rfl
end Mine
end

section
namespace Mine
set_option maxRecDepth 100000

/-- the sign at place j from behind tells the bit -/
theorem oc_t (b c : Bool) : (Builtin.Str.occurrences (Str.ofString "xt") (chr1 (cT b c)) 0 (Str.ofString "xt").length 1).isEmpty = !b := by cases b <;> cases c <;> decide +kernel
theorem oc_w (b : Bool) : (Builtin.Str.occurrences (Str.ofString "w") (chr1 (cW b)) 0 (Str.ofString "w").length 1).isEmpty = !b := by cases b <;> decide +kernel
theorem oc_r (b : Bool) : (Builtin.Str.occurrences (Str.ofString "r") (chr1 (cR b)) 0 (Str.ofString "r").length 1).isEmpty = !b := by cases b <;> decide +kernel
theorem oc_s (b c : Bool) : (Builtin.Str.occurrences (Str.ofString "xs") (chr1 (cX b c)) 0 (Str.ofString "xs").length 1).isEmpty = !b := by cases b <;> cases c <;> decide +kernel
theorem seenT_bit {k : Nat} (h : k < 65536) : seenT (fmS (k : Int)) 0 = k.testBit 0 ∧ seenT (fmS (k : Int)) 1 = k.testBit 1 ∧ seenT (fmS (k : Int)) 2 = k.testBit 2 ∧ seenT (fmS (k : Int)) 3 = k.testBit 3 ∧ seenT (fmS (k : Int)) 4 = k.testBit 4 := by
  rw [fm_codes h]
  refine ⟨?_, ?_, ?_, ?_, ?_⟩
  · show (!(Builtin.Str.occurrences (Str.ofString "xt") (chr1 (cT (k.testBit 0) (k.testBit 9))) 0 (Str.ofString "xt").length 1).isEmpty) = _
    rw [oc_t, Bool.not_not]
  · show (!(Builtin.Str.occurrences (Str.ofString "w") (chr1 (cW (k.testBit 1))) 0 (Str.ofString "w").length 1).isEmpty) = _
    rw [oc_w, Bool.not_not]
  · show (!(Builtin.Str.occurrences (Str.ofString "r") (chr1 (cR (k.testBit 2))) 0 (Str.ofString "r").length 1).isEmpty) = _
    rw [oc_r, Bool.not_not]
  · show (!(Builtin.Str.occurrences (Str.ofString "xs") (chr1 (cX (k.testBit 3) (k.testBit 10))) 0 (Str.ofString "xs").length 1).isEmpty) = _
    rw [oc_s, Bool.not_not]
  · show (!(Builtin.Str.occurrences (Str.ofString "w") (chr1 (cW (k.testBit 4))) 0 (Str.ofString "w").length 1).isEmpty) = _
    rw [oc_w, Bool.not_not]
theorem seen_fold (x : Str) : seenV x = (seenT x 0).toNat + 2 * (seenT x 1).toNat + 4 * (seenT x 2).toNat + 8 * (seenT x 3).toNat + 16 * (seenT x 4).toNat := by
  have e : rangeKs 0 5 = [0, 1, 2, 3, 4] := by decide
  unfold seenV
  rw [e]
  simp only [List.foldl_cons, List.foldl_nil, seenG]
  cases seenT x 0 <;> cases seenT x 1 <;> cases seenT x 2 <;> cases seenT x 3 <;> cases seenT x 4 <;> decide
theorem seen_mod {k : Nat} (h : k < 65536) : seenV (fmS (k : Int)) = ((k % 32 : Nat) : Int) := by
  obtain ⟨e0, e1, e2, e3, e4⟩ := seenT_bit h
  rw [seen_fold, e0, e1, e2, e3, e4, ← tb_div k 0, ← tb_div k 1, ← tb_div k 2, ← tb_div k 3, ← tb_div k 4]
  omega
theorem lead_run {k : Nat} (h : k < 65536) : (Builtin.Str.occurrences (Str.ofString "xt") (Txt.item (fmS (k : Int)) 9) 0 (Str.ofString "xt").length 1).isEmpty = !k.testBit 0 := by
  rw [fm_codes h]
  exact oc_t (k.testBit 0) (k.testBit 9)
theorem lead_read {k : Nat} (h : k < 65536) : (Txt.item (fmS (k : Int)) 7 != Str.ofString "r") = !k.testBit 2 := by
  rw [fm_codes h]
  show (chr1 (cR (k.testBit 2)) != Str.ofString "r") = _
  cases k.testBit 2 <;> decide +kernel

theorem bitOr_nat (a b : Nat) : Builtin.bitOr (a : Int) (b : Int) = ((a ||| b : Nat) : Int) := by
  have n1 : ∀ c : Nat, Builtin.bitNot (Builtin.bitNot (c : Int)) = c := fun c => by unfold Builtin.bitNot; omega
  have n2 : ∀ c : Nat, ¬ 0 ≤ Builtin.bitNot (c : Int) := fun c => by unfold Builtin.bitNot; omega
  have e : Builtin.bitAnd (Builtin.bitNot (a : Int)) (Builtin.bitNot (b : Int)) = Builtin.bitNot ((a ||| b : Nat) : Int) := by
    unfold Builtin.bitAnd
    rw [decide_eq_false (n2 a), decide_eq_false (n2 b)]
    show Builtin.bitNot (((Builtin.bitNot (Builtin.bitNot (a : Int))).toNat ||| (Builtin.bitNot (Builtin.bitNot (b : Int))).toNat : Nat) : Int) = _
    rw [n1, n1]; rfl
  unfold Builtin.bitOr
  rw [e, n1]
theorem or_sum (a b : Nat) : (a : Int) + (b : Int) - Builtin.bitAnd (a : Int) (b : Int) = ((a ||| b : Nat) : Int) := by
  have h := bitXor_and (a : Int) (b : Int)
  unfold Builtin.bitXor at h
  rw [bitOr_nat] at h
  omega
/-- one step over the numbers -/
def stN (z y : Nat) : Nat := (z &&& 61440) + (z + (z * z ||| y)) % 4096
theorem stp_nat (z y : Nat) : stp (z : Int) (y : Int) = ((stN z y : Nat) : Int) := by
  unfold stp stN
  have e1 : Builtin.bitAnd (z : Int) 61440 = ((z &&& 61440 : Nat) : Int) := bitAnd_nat z 61440
  have e2 : Builtin.bitOr ((z : Int) * (z : Int)) (y : Int) = ((z * z ||| y : Nat) : Int) := by
    rw [← Int.natCast_mul]; exact bitOr_nat _ _
  rw [e1, e2, ← Int.natCast_add]
  have e3 : Builtin.bitAnd ((z + (z * z ||| y) : Nat) : Int) 4095 = (((z + (z * z ||| y)) &&& 4095 : Nat) : Int) := bitAnd_nat _ 4095
  rw [e3, show (z + (z * z ||| y)) &&& 4095 = (z + (z * z ||| y)) % 4096 from Nat.and_two_pow_sub_one_eq_mod _ 12]
  rfl
def wyN (x y : Nat) : Nat → Nat
  | 0 => x
  | k + 1 => stN (wyN x y k) y
theorem wyL_nat (x y : Nat) : ∀ n, wyL (x : Int) (y : Int) n = ((wyN x y n : Nat) : Int)
  | 0 => rfl
  | n + 1 => by rw [wyL, wyL_nat x y n, stp_nat]; rfl
theorem wyN_bd {x y : Nat} (h : x < 65536) (n : Nat) : wyN x y n < 65536 := by
  have b := wyL_bd (x := x) (y := y) (by omega) (by omega) n
  rw [wyL_nat] at b
  omega
theorem wyM_range (x y : Nat) : ∀ n, wyM (x : Int) (y : Int) n = (List.range (n + 1)).map fun i => ((wyN x y i : Nat) : Int)
  | 0 => rfl
  | n + 1 => by rw [wyM, wyM_range x y n, List.range_succ (n := n + 1), List.map_append, wyL_nat]; rfl
theorem step_mod (p z y : Nat) : (z + (z * z ||| y)) % 2 ^ p = (z % 2 ^ p + ((z % 2 ^ p) * (z % 2 ^ p) ||| y % 2 ^ p)) % 2 ^ p := by
  have l : (z * z ||| y) % 2 ^ p = ((z % 2 ^ p) * (z % 2 ^ p) ||| y % 2 ^ p) % 2 ^ p := by
    rw [Nat.or_mod_two_pow, Nat.or_mod_two_pow (a := z % 2 ^ p * (z % 2 ^ p)), Nat.mod_mod, Nat.mul_mod z z]
  generalize (z % 2 ^ p) * (z % 2 ^ p) ||| y % 2 ^ p = v at l ⊢
  rw [Nat.add_mod z, l]
  exact (Nat.add_mod (z % 2 ^ p) v _).symm ▸ (by rw [Nat.mod_mod])
theorem wyN_low {x y : Nat} (h : x < 65536) (n : Nat) : wyN x y (n + 1) % 4096 = (wyN x y n + (wyN x y n * wyN x y n ||| y)) % 4096 ∧ wyN x y (n + 1) / 4096 = wyN x y n / 4096 := by
  have k := kind_and (wyN_bd (y := y) h n)
  show (stN (wyN x y n) y) % 4096 = _ ∧ (stN (wyN x y n) y) / 4096 = _
  unfold stN
  rw [k]
  omega
theorem wyN_kind {x y : Nat} (h : x < 65536) : ∀ n, wyN x y n / 4096 = x / 4096
  | 0 => rfl
  | n + 1 => by rw [(wyN_low h n).2, wyN_kind h n]
theorem plR_nat {x y : Nat} (h : x < 65536) : ∀ n, plR (x : Int) (y : Int) n = ((wyN x y n % 4096 : Nat) : Int)
  | 0 => fmod_nat x 4096
  | n + 1 => by
    rw [plR, plR_nat h n, (wyN_low h n).1]
    generalize wyN x y n = z
    have e1 : ((z % 4096 : Nat) : Int) + ((z % 4096 : Nat) : Int) * ((z % 4096 : Nat) : Int) + (y : Int) - Builtin.bitAnd (((z % 4096 : Nat) : Int) * ((z % 4096 : Nat) : Int)) (y : Int) = ((z % 4096 + (z % 4096 * (z % 4096) ||| y) : Nat) : Int) := by
      have o := or_sum (z % 4096 * (z % 4096)) y
      rw [Int.natCast_mul] at o
      rw [Int.natCast_add, ← o]
      omega
    rw [e1]
    have e2 : Int.fmod ((z % 4096 + (z % 4096 * (z % 4096) ||| y) : Nat) : Int) 4096 = (((z % 4096 + (z % 4096 * (z % 4096) ||| y)) % 4096 : Nat) : Int) := fmod_nat _ 4096
    rw [e2]
    congr 1
    have s1 := step_mod 12 z y
    have s2 := step_mod 12 (z % 4096) y
    rw [show z % 4096 % 2 ^ 12 = z % 2 ^ 12 from Nat.mod_mod z 4096] at s2
    exact s2.trans s1.symm
theorem wy_pl {x y : Nat} (h : x < 65536) : ∀ n, wyM (x : Int) (y : Int) n = plM (x : Int) (y : Int) n
  | 0 => rfl
  | n + 1 => by
    rw [wyM, plM, wy_pl h n, wyL_nat, plR_nat h]
    have k := wyN_kind (y := y) h (n + 1)
    have e : Int.fmod (x : Int) 4096 = ((x % 4096 : Nat) : Int) := fmod_nat x 4096
    rw [e]
    congr 2
    omega
theorem ml_rows {x y : Int} (hx : 0 ≤ x) (hx' : x < 65536) (hy : 0 ≤ y) (_hy' : y < 65536) : (wyM x y 16).map fmS = (plM x y 16).map rowS := by
  obtain ⟨a, rfl⟩ := Int.eq_ofNat_of_zero_le hx
  obtain ⟨b, rfl⟩ := Int.eq_ofNat_of_zero_le hy
  rw [← wy_pl (by omega) 16]
  refine List.map_congr_left fun k hk => ?_
  obtain ⟨k1, k2⟩ := wyM_bd (y := b) hx hx' 16 k hk
  obtain ⟨c, rfl⟩ := Int.eq_ofNat_of_zero_le k1
  rw [fm_codes (by omega), row_codes (by omega)]
theorem codes_small {k : Nat} (h : k < 65536) : ∀ c ∈ codes k, c < 200 := by
  have q : ∀ q : Nat, q < 16 → cK q < 200 := by decide +kernel
  have q0 := q (k / 4096) (by omega)
  intro c hc
  simp only [codes, List.mem_cons, List.not_mem_nil, or_false] at hc
  rcases hc with rfl | rfl | rfl | rfl | rfl | rfl | rfl | rfl | rfl | rfl
  · exact q0
  · cases k.testBit 8 <;> decide
  · cases k.testBit 7 <;> decide
  · cases k.testBit 6 <;> cases k.testBit 11 <;> decide
  · cases k.testBit 5 <;> decide
  · cases k.testBit 4 <;> decide
  · cases k.testBit 3 <;> cases k.testBit 10 <;> decide
  · cases k.testBit 2 <;> decide
  · cases k.testBit 1 <;> decide
  · cases k.testBit 0 <;> cases k.testBit 9 <;> decide
theorem ml_ok {k : Int} (hx : 0 ≤ k) (hx' : k < 65536) : PyData.canLay0 (.str (rowS k)) = true := by
  obtain ⟨a, rfl⟩ := Int.eq_ofNat_of_zero_le hx
  have ha : a < 65536 := by omega
  rw [row_codes ha, PyData.canLay0]
  unfold PyData.strOk
  rw [List.all_toArray]
  refine List.all_eq_true.mpr fun c hc => ?_
  have := codes_small ha c hc
  exact decide_eq_true (by omega)
theorem fm_len (k : Int) : (fmS k).length = 10 := by
  unfold fmS
  rw [KT.join_ones _ (permS_one k 10), permS_len]
theorem ints_of : ∀ {ns : List Int} {ys : List Value}, ys.length = ns.length → (∀ i v, ys[i]? = some v → ∃ t : Tok, v = Value.int (ns.getD i 0) t) → IntsAre ys ns
  | [], [], _, _ => .nil
  | [], _ :: _, h, _ => by simp at h
  | _ :: _, [], h, _ => by simp at h
  | n :: ns, v :: ys, h, hv => by
    obtain ⟨t, e⟩ := hv 0 v rfl
    rw [e]
    exact .cons _ t (ints_of (by simpa using h) fun i u hu => by simpa using hv (i + 1) u (by simpa using hu))

/-- one step of the five low bits -/
def st5 (c s : Nat) : Nat := (s + (s * s ||| c)) % 32
/-- the walk of the five low bits; each state is reckoned before the next -/
def orb (c : Nat) : Nat → Nat → List Nat
  | 0, s => [s]
  | n + 1, s => s :: (match st5 c s with | 0 => orb c n 0 | m + 1 => orb c n (m + 1))
theorem orb_succ (c n s : Nat) : orb c (n + 1) s = s :: orb c n (st5 c s) := by
  rw [orb]
  cases st5 c s <;> rfl
theorem wyN_mod {x y : Nat} (h : x < 65536) (n : Nat) : wyN x y (n + 1) % 32 = st5 (y % 32) (wyN x y n % 32) := by
  have h1 := (wyN_low (y := y) h n).1
  have h2 : wyN x y (n + 1) % 32 = (wyN x y n + (wyN x y n * wyN x y n ||| y)) % 32 := by omega
  rw [h2]
  exact step_mod 5 (wyN x y n) y
theorem range_orb {x y : Nat} (h : x < 65536) : ∀ n i, (List.range (n + 1)).map (fun j => wyN x y (i + j) % 32) = orb (y % 32) n (wyN x y i % 32)
  | 0, i => rfl
  | n + 1, i => by
    rw [orb_succ, ← wyN_mod h, ← range_orb h n (i + 1), List.range_succ_eq_map, List.map_cons, List.map_map]
    congr 1
    refine List.map_congr_left fun j _ => ?_
    show wyN x y (i + (j + 1)) % 32 = wyN x y (i + 1 + j) % 32
    rw [show i + (j + 1) = i + 1 + j by omega]
/-- what the listings of the walk show -/
def shown (c s : Nat) : List Int := (orb c 16 s).map fun k : Nat => ((k : Nat) : Int)
theorem seen_shown {x y : Nat} (h : x < 65536) : (wyM (x : Int) (y : Int) 16).map (fun k => seenV (fmS k)) = shown (y % 32) (x % 32) := by
  unfold shown
  have o := range_orb (y := y) h 16 0
  rw [show wyN x y 0 = x from rfl] at o
  rw [← o, wyM_range, List.map_map, List.map_map]
  refine List.map_congr_left fun j _ => ?_
  show seenV (fmS ((wyN x y j : Nat) : Int)) = ((wyN x y (0 + j) % 32 : Nat) : Int)
  rw [seen_mod (wyN_bd h j), Nat.zero_add]
def passB (p : Int) : List Int → List Int → Bool
  | a :: r, b :: q => decide ((b - a).fmod (2 * p) = p) && passB p r q
  | [], _ => true
  | _ :: _, [] => true
theorem pass_of {p : Int} : ∀ {a b : List Int}, passB p a b = true → Pass p a b
  | [], _, _ => trivial
  | _ :: _, [], _ => trivial
  | _ :: _, _ :: _, h => by
    rw [passB, Bool.and_eq_true] at h
    exact ⟨of_decide_eq_true h.1, pass_of h.2⟩
theorem all_never : ∀ c : Nat, c < 32 → ∀ s : Nat, s < 32 → c.testBit 0 = false → ((shown c s).drop 1).map (fun k => k.fmod 2) = List.replicate 16 0 := by decide +kernel
theorem all_four : ∀ c : Nat, c < 32 → ∀ s : Nat, s < 32 → c.testBit 0 = true → c.testBit 2 = false → ((shown c s).map (fun k => k.fmod 8)).drop 4 = ((shown c s).map (fun k => k.fmod 8)).take 13 := by decide +kernel
theorem all_turns : ∀ c : Nat, c < 32 → ∀ s : Nat, s < 32 → c.testBit 0 = true → c.testBit 2 = true → ∀ k : Nat, k < 5 → passB ((2 : Int) ^ k) (shown c s) ((shown c s).drop (2 ^ k)) = true := by decide +kernel
theorem tb_mod {y i : Nat} (h : i < 5) : (y % 32).testBit i = y.testBit i := by
  rw [show (32 : Nat) = 2 ^ 5 from rfl, Nat.testBit_mod_two_pow]
  simp [h]
theorem ml_never {x y : Int} (hx : 0 ≤ x) (hx' : x < 65536) (hy : 0 ≤ y) (hy' : y < 65536) (h : (Builtin.Str.occurrences (Str.ofString "xt") (Txt.item (fmS y) 9) 0 (Str.ofString "xt").length 1).isEmpty = true) :
    (((wyM x y 16).map fun k => seenV (fmS k)).drop 1).map (fun k => k.fmod 2) = List.replicate 16 0 := by
  obtain ⟨a, rfl⟩ := Int.eq_ofNat_of_zero_le hx
  obtain ⟨b, rfl⟩ := Int.eq_ofNat_of_zero_le hy
  rw [lead_run (by omega)] at h
  rw [seen_shown (by omega)]
  exact all_never (b % 32) (by omega) (a % 32) (by omega) (by rw [tb_mod (by decide)]; simpa using h)
theorem ml_four {x y : Int} (hx : 0 ≤ x) (hx' : x < 65536) (hy : 0 ≤ y) (hy' : y < 65536) (h : (Builtin.Str.occurrences (Str.ofString "xt") (Txt.item (fmS y) 9) 0 (Str.ofString "xt").length 1).isEmpty = false) (h7 : (Txt.item (fmS y) 7 != Str.ofString "r") = true) :
    (((wyM x y 16).map fun k => seenV (fmS k)).map (fun k => k.fmod 8)).drop 4 = (((wyM x y 16).map fun k => seenV (fmS k)).map (fun k => k.fmod 8)).take 13 := by
  obtain ⟨a, rfl⟩ := Int.eq_ofNat_of_zero_le hx
  obtain ⟨b, rfl⟩ := Int.eq_ofNat_of_zero_le hy
  rw [lead_run (by omega)] at h
  rw [lead_read (by omega)] at h7
  rw [seen_shown (by omega)]
  exact all_four (b % 32) (by omega) (a % 32) (by omega) (by rw [tb_mod (by decide)]; simpa using h) (by rw [tb_mod (by decide)]; simpa using h7)
theorem ml_turns {x y : Int} (hx : 0 ≤ x) (hx' : x < 65536) (hy : 0 ≤ y) (hy' : y < 65536) (h : (Builtin.Str.occurrences (Str.ofString "xt") (Txt.item (fmS y) 9) 0 (Str.ofString "xt").length 1).isEmpty = false) (h7 : (Txt.item (fmS y) 7 != Str.ofString "r") = false) :
    ∀ k : Nat, k < 5 → Pass ((2 : Int) ^ k) ((wyM x y 16).map fun k => seenV (fmS k)) (((wyM x y 16).map fun k => seenV (fmS k)).drop (2 ^ k)) := by
  obtain ⟨a, rfl⟩ := Int.eq_ofNat_of_zero_le hx
  obtain ⟨b, rfl⟩ := Int.eq_ofNat_of_zero_le hy
  rw [lead_run (by omega)] at h
  rw [lead_read (by omega)] at h7
  rw [seen_shown (by omega)]
  exact fun k hk => pass_of (all_turns (b % 32) (by omega) (a % 32) (by omega) (by rw [tb_mod (by decide)]; simpa using h) (by rw [tb_mod (by decide)]; simpa using h7) k hk)
end Mine
end

section
namespace Mine
set_option maxRecDepth 100000
theorem strs_of {g : Int → Str} : ∀ {ns : List Int} {ys : List Value}, ys.length = ns.length → (∀ i v, ys[i]? = some v → ∃ t : Tok, v = Value.str (g (ns.getD i 0)) t) → StrsAre ys (ns.map g)
  | [], [], _, _ => .nil
  | [], _ :: _, h, _ => by simp at h
  | _ :: _, [], h, _ => by simp at h
  | n :: ns, v :: ys, h, hv => by
    obtain ⟨t, e⟩ := hv 0 v rfl
    rw [e]
    exact .cons _ t (strs_of (by simpa using h) fun i u hu => by simpa using hv (i + 1) u (by simpa using hu))
theorem plM_bd {x y : Int} (hx : 0 ≤ x) (hx' : x < 65536) : ∀ n, ∀ k ∈ plM x y n, 0 ≤ k ∧ k < 65536
  | 0, k, h => by rw [List.mem_singleton.mp h]; exact ⟨hx, hx'⟩
  | n + 1, k, h => by
    rcases List.mem_append.mp h with h | h
    · exact plM_bd hx hx' n k h
    · rw [List.mem_singleton.mp h]
      have b := plR_bd x y (n + 1)
      have e : x.fmod 4096 = x % 4096 := Int.fmod_eq_emod_of_nonneg _ (by decide)
      rw [e]
      omega
section
set_option maxHeartbeats 1000000
local macro_rules | `(tactic| k_room) => `(tactic| ktr_room)
local macro_rules | `(tactic| units_room) => `(tactic| ktr_units)
local macro_rules | `(tactic| k_units) => `(tactic| ktr_units)
local macro_rules | `(tactic| cell_enter) => `(tactic| first
  | (refine' code_def0 ?k1 ?k2 ?k3 ?k5 ?kA ?kF ?kK ?k6 ?k7 ?k8 ?k9 ?kB ?_ ?c2 ?c3 ?c4 ?c5; (case kA => exact rfl); (case kF => exact rfl); (case kK => first | exact rfl | assumption); (case k1 => k_asm); (case k2 => k_asm); (case k3 => k_asm); (case k5 => k_asm); (case k6 => k_is); (case k7 => k_is); (case k8 => ktr_room); (case k9 => exact BindsTo.of_eq rfl); (case c5 => decide); (case kB => exact locs rfl); (case c2 => exact rfl); (case c3 => exact rfl); (case c4 => exact rfl); k_whole; intro L' h' F' N' B' X' T'; (try dsimp only); (try k_lift B'); (try k_fold))
  | (refine' code_defC0 ?k1 ?k2 ?k3 ?k5 ?kA ?kF ?kK ?k6 ?k7 ?k8 ?k9 ?kB ?kD ?_ ?c2 ?c3 ?c4; (case kA => exact rfl); (case kF => exact rfl); (case kK => first | exact rfl | assumption); (case k1 => k_asm); (case k2 => k_asm); (case k3 => k_asm); (case k5 => k_asm); (case k6 => k_is); (case k7 => k_is); (case k8 => ktr_room); (case k9 => exact BindsTo.of_eq rfl); (case kB => exact rfl); (case kD => decide +kernel); (case c2 => exact rfl); (case c3 => exact rfl); (case c4 => exact rfl); k_whole; intro L' h' tk' cells' F' N' Y' B' X' T'; k_cells Y'; (try simp only [List.cons_append, List.nil_append] at N'); (try dsimp only); (try k_lift B'); (try k_fold)))
local macro_rules | `(tactic| ktr_enter) => `(tactic| first
  | (refine' code_defN ?k1 ?k2 ?k3 ?k4 ?k5 ?kA ?kF ?kK ?k6 ?k7 ?k8 ?k9 ?kB ?_ ?c2 ?c3 ?c4 ?c5; (case kA => exact rfl); (case kF => exact rfl); (case kK => first | exact rfl | assumption); (case k1 => k_asm); (case k2 => k_asm); (case k3 => k_asm); (case k4 => k_asm); (case k5 => k_asm); (case k6 => k_is); (case k7 => k_is); (case k8 => ktr_room); (case k9 => exact BindsTo.of_eq rfl); (case c5 => decide); (case kB => exact locs rfl); (case c2 => exact rfl); (case c3 => exact rfl); (case c4 => exact rfl); k_whole; intro L' h' F' N' B' X' T' l1; (try k_lt l1); (try dsimp only); (try k_lift B'); (try k_fold))
  | (refine' code_defCN ?k1 ?k2 ?k3 ?k4 ?k5 ?kA ?kF ?kK ?k6 ?k7 ?k8 ?k9 ?kB ?kD ?_ ?c2 ?c3 ?c4; (case kA => exact rfl); (case kF => exact rfl); (case kK => first | exact rfl | assumption); (case k1 => k_asm); (case k2 => k_asm); (case k3 => k_asm); (case k4 => k_asm); (case k5 => k_asm); (case k6 => k_is); (case k7 => k_is); (case k8 => ktr_room); (case k9 => exact BindsTo.of_eq rfl); (case kB => exact rfl); (case kD => decide +kernel); (case c2 => exact rfl); (case c3 => exact rfl); (case c4 => exact rfl); k_whole; intro L' h' tk' cells' F' N' Y' B' X' T' l1; (try k_lt l1); k_cells Y'; (try simp only [List.cons_append, List.nil_append] at N'); (try dsimp only); (try k_lift B'); (try k_fold)))
local macro_rules | `(tactic| walk_at "exec Assign cons ListComp") => `(tactic| k_extra "exec Assign cons ListComp")
local macro_rules | `(tactic| walk_at "eval ListComp") => `(tactic| k_extra "eval ListComp")
local macro_rules | `(tactic| walk_at "CompSrc") => `(tactic| k_extra "CompSrc")
local macro_rules | `(tactic| walk_at "CompEnd") => `(tactic| k_extra "CompEnd")
local macro_rules | `(tactic| walk_at "call ref") => `(tactic| k_extra "call ref")
local macro_rules | `(tactic| walk_at "compareOp NotEq ref ref") => `(tactic| k_extra "compareOp NotEq ref ref")
local macro_rules | `(tactic| walk_at "compareOp Eq ref ref") => `(tactic| k_extra "compareOp Eq ref ref")
local macro_rules | `(tactic| walk_at "binaryOp Mult ref int") => `(tactic| k_extra "binaryOp Mult ref int")
local macro_rules | `(tactic| walk_at "subscriptTail Name Slice ref ref") => `(tactic| k_extra "subscriptTail Name Slice ref ref")
theorem ag_end {s : Shared} {L' : Addr} {h' : Heap} {m' : Str → Option Value} {news' : List (Addr × Obj)} {ps : Array Value} {tk' : Nat} {Q : Value → Shared → Prop}
    (hret : ∀ v h' tk' ps, (∀ b o, b ≠ 107 → s.heap.get? b = some o → h'.get? b = some o) → h'.get? 107 = some (tabObj ps) → isBool true s.heap h' v → Q v { s with heap := h', toks := tk' })
    (F : Fr (hideAll s.heap (List.map (fun p => p.1) [(107, tabObj #[])])) L' h' m') (N : News (hideAll s.heap (List.map (fun p => p.1) [(107, tabObj #[])])) L' h' news') (hm : (107, tabObj ps) ∈ news') : Q (.bool true) { s with heap := h', toks := tk' } :=
  hret _ h' tk' ps (fun b o hb e => F.keep b o (hideAll_get _ e (fun q => hb (List.mem_singleton.mp q)))) (N _ hm).1 rfl
theorem agree_says (x y : Int) (t1 t2 : Tok) (hx : 0 ≤ x) (hx' : x < 65536) (hy : 0 ≤ y) (hy' : y < 65536) : SaysW 80 800 143 [.int x t1, .int y t2] (isBool true) := by
  unfold SaysW
  w_on
  k_fill
  intro w loose mean mg mb dp un gd cn cs a ccd cl outer A₀ base h₀ L m s Q E B F X N C107 T hk hd hu hret
  k_with_none
  k_with "exec Assign cons ListComp" => refine Halt.out ?_
  k_with "eval ListComp" => refine Halt.out ?_
  k_with "CompSrc" => refine Halt.out ?_
  k_with "CompEnd" => refine Halt.out ?_
  k_with "call ref" => refine Halt.out ?_
  k_with "compareOp NotEq ref ref" => refine Halt.out ?_
  k_with "compareOp Eq ref ref" => refine Halt.out ?_
  k_with "binaryOp Mult ref int" => refine Halt.out ?_
  k_with "subscriptTail Name Slice ref ref" => refine Halt.out ?_
  refine wpAny_call ?_
  k_dflt ktr_enter
  have C108 : CodeHd (hideAll s.heap (List.map (fun p => p.1) [(107, tabObj #[])])) 111 107 := C107.keeps fun b o e => hideAll_get _ (F.keep b o e) (fun q => by
    have q' : b = 107 := List.mem_singleton.mp q
    have z := (N _ (.head _)).2.2
    rw [← q', e] at z; cases z)
  k_steps
  refine Halt.mk ?_
  -- rows
  k_dflt (refine LCg.Assign_ListComp_U (F₀ := by k_asm) (by rfl) (by with_unfolding_all rfl) (by with_unfolding_all rfl) (by decide) (by rfl) (by decide) (by rfl) (by rfl) (by rfl) ?_)
  k_steps
  refine Halt.mk ?_
  k_dflt (refine' SaysW.ints (way_says x y _ _ hx hx' hy hy') ?aB ?aF ?aX ?aN ?aC ?aT ?ak ?ad ?au ?_)
  case aB => k_asm
  case aF => k_asm
  case aX => k_asm
  case aN => k_asm
  case aC => exact C108
  case aT => k_asm
  case ak => first | exact rfl | assumption
  case ad => ktr_room
  case au => ktr_units
  intro l1 us1 nn1 ps1 h1 tk1 F1 N1 hI1 ne1
  obtain ⟨ns1, hns1⟩ : ∃ ns1, ns1 = wyM x y 16 := ⟨_, rfl⟩
  have hnl1 : ns1.length = 17 := by rw [hns1, wyM_len]
  have hnb1 : ∀ k ∈ ns1, 0 ≤ k ∧ k < 65536 := by rw [hns1]; exact wyM_bd hx hx' 16
  rw [← hns1] at hI1
  k_steps
  refine Halt.mk ?_
  have hul1 := hI1.length
  rw [hnl1] at hul1
  k_dflt (refine LCg.CompSrc.ledger (by rfl) F1 N1 (.head _) (by rw [List.size_toArray, hul1]; decide) ?_)
  intro g1
  refine lc_turns (fun i v => ∃ t, v = .str (fmS (ns1.getD i 0)) t) ?b1 ?b2
  case b1 =>
    intro i v I oI C oC D m₂ ys h tk E' hi hv hC hm F2 N2 off ne
    obtain ⟨k, t, rfl, hk⟩ := IntsAre.at hI1 i v (by simpa using hv)
    obtain ⟨k1, k2⟩ := hnb1 k (List.mem_of_getElem? hk)
    have hk' : ns1.getD i 0 = k := by rw [List.getD_eq_getElem?_getD, hk]; rfl
    rw [hk']
    have off0 := off
    simp only [LCg.Off3, and_true] at off
    clear F1 N1
    k_steps
    refine Halt.mk ?_
    k_dflt (refine' Says.str (fm_says k t k1 k2) ?aB1 ?aF1 ?aX1 ?aN1 ?aT1 ?ak1 ?ad1 ?au1 ?_)
    case aB1 => k_asm
    case aF1 => k_asm
    case aX1 => k_asm
    case aN1 => k_asm
    case aT1 => k_asm
    case ak1 => first | exact rfl | assumption
    case ad1 => ktr_room
    case au1 => ktr_units
    intro t3 h3 tk3 F3 N3
    k_steps
    refine Halt.mk ?_
    (rename Fr _ _ _ _ => Fc); (rename News _ _ _ _ => Nc)
    exact LCg.CompEnd.intro Fc Nc _ (fun p hp => hp) off0 (Or.inr ⟨_, .head _, rfl, _, rfl⟩) ⟨rfl, _, rfl⟩
  case b2 =>
    intro ys hyl hys
    have hS1 : StrsAre ys (ns1.map fmS) := strs_of (by rw [hyl, List.size_toArray, hul1, hnl1]) hys
    rw [List.size_toArray, hul1] at hyl
    clear hys
    clear F1 N1
    k_steps
    refine Halt.mk ?_
    -- the law's own rows
    k_dflt (refine LCg.ListComp_U (F₀ := by k_asm) (by with_unfolding_all rfl) (by decide) (by rfl) (by decide) (by rfl) ?_)
    k_steps
    refine Halt.mk ?_
    k_dflt (refine' Says.ints (plain_says x y _ _ hx hx' hy hy') ?aB2 ?aF2 ?aX2 ?aN2 ?aT2 ?ak2 ?ad2 ?au2 ?_)
    case aB2 => k_asm
    case aF2 => k_asm
    case aX2 => k_asm
    case aN2 => k_asm
    case aT2 => k_asm
    case ak2 => first | exact rfl | assumption
    case ad2 => ktr_room
    case au2 => ktr_units
    intro l2 us2 nn2 h2 tk2 F2 N2 hI2 ne2
    obtain ⟨ns2, hns2⟩ : ∃ ns2, ns2 = plM x y 16 := ⟨_, rfl⟩
    have hnl2 : ns2.length = 17 := by rw [hns2, plM_len]
    have hnb2 : ∀ k ∈ ns2, 0 ≤ k ∧ k < 65536 := by rw [hns2]; exact plM_bd hx hx' 16
    rw [← hns2] at hI2
    k_steps
    refine Halt.mk ?_
    have hul2 := hI2.length
    rw [hnl2] at hul2
    k_dflt (refine LCg.CompSrc.ledger (by rfl) F2 N2 (.head _) (by rw [List.size_toArray, hul2]; decide) ?_)
    intro g2
    refine lc_turns (fun i v => ∃ t, v = .str (rowS (ns2.getD i 0)) t) ?b3 ?b4
    case b3 =>
      intro i v I oI C oC D m₂ ys2 h tk E' hi hv hC hm F3 N3 off ne
      obtain ⟨k, t, rfl, hk⟩ := IntsAre.at hI2 i v (by simpa using hv)
      obtain ⟨k1, k2⟩ := hnb2 k (List.mem_of_getElem? hk)
      have hk' : ns2.getD i 0 = k := by rw [List.getD_eq_getElem?_getD, hk]; rfl
      rw [hk']
      have off0 := off
      simp only [LCg.Off3, and_true] at off
      clear F2 N2
      k_steps
      refine Halt.mk ?_
      k_dflt (refine' Says.str (row_says k t k1 k2) ?aB3 ?aF3 ?aX3 ?aN3 ?aT3 ?ak3 ?ad3 ?au3 ?_)
      case aB3 => k_asm
      case aF3 => k_asm
      case aX3 => k_asm
      case aN3 => k_asm
      case aT3 => k_asm
      case ak3 => first | exact rfl | assumption
      case ad3 => ktr_room
      case au3 => ktr_units
      intro t3 h3 tk3 F4 N4
      k_steps
      refine Halt.mk ?_
      (rename Fr _ _ _ _ => Fc); (rename News _ _ _ _ => Nc)
      exact LCg.CompEnd.intro Fc Nc _ (fun p hp => hp) off0 (Or.inr ⟨_, .head _, rfl, _, rfl⟩) ⟨rfl, _, rfl⟩
    case b4 =>
      intro ys2 hyl2 hys2
      have hS2 : StrsAre ys2 (ns2.map rowS) := strs_of (by rw [hyl2, List.size_toArray, hul2, hnl2]) hys2
      rw [List.size_toArray, hul2] at hyl2
      clear hys2
      clear F2 N2
      k_steps
      refine Halt.mk ?_
      have hrow : ns1.map fmS = ns2.map rowS := by rw [hns1, hns2]; exact ml_rows hx hx' hy hy'
      have hok : ∀ a ∈ ns2.map rowS, PyData.canLay0 (.str a) = true := by
        intro a ha
        obtain ⟨k, hk, rfl⟩ := List.mem_map.mp ha
        exact ml_ok (hnb2 k hk).1 (hnb2 k hk).2
      (rename News _ _ _ _ => N5)
      k_dflt (refine ne_strs (News.isList N5 (.tail _ (.tail _ (.head _)))) (News.isList N5 (.head _)) hS1 hS2 (by rw [hrow]; exact hok) hok (by ktr_units) ?_)
      rw [decide_eq_true hrow]
      clear hS2 hrow hok
      k_steps
      refine Halt.mk ?_
      -- seen
      k_dflt (refine LCg.Assign_ListComp_U (F₀ := by k_asm) (by rfl) (by with_unfolding_all rfl) (by with_unfolding_all rfl) (by decide) (by rfl) (by decide) (by rfl) (by rfl) (by rfl) ?_)
      k_steps
      refine Halt.mk ?_
      (rename Fr _ _ _ _ => F6); (rename News _ _ _ _ => N6)
      k_dflt (refine LCg.CompSrc.ledger (by rfl) F6 N6 (.tail _ (.tail _ (.head _))) (by rw [List.size_toArray, hyl]; decide) ?_)
      intro g3
      refine lc_turns (fun i v => ∃ t, v = .int ((ns1.map fun k => seenV (fmS k)).getD i 0) t) ?b5 ?b6
      case b5 =>
        intro i v I oI C oC D m₂ ys3 h tk E' hi hv hC hm F7 N7 off ne
        obtain ⟨z, t, rfl, hz⟩ := StrsAre.item hS1 i v (by simpa using hv)
        rw [List.getElem?_map] at hz
        obtain ⟨k, hk, rfl⟩ : ∃ k, ns1[i]? = some k ∧ fmS k = z := by
          cases q : ns1[i]? with
          | none => rw [q] at hz; cases hz
          | some k => rw [q] at hz; exact ⟨k, rfl, Option.some.inj hz⟩
        have hk' : (ns1.map fun k => seenV (fmS k)).getD i 0 = seenV (fmS k) := by rw [List.getD_eq_getElem?_getD, List.getElem?_map, hk]; rfl
        rw [hk']
        have hfl := fm_len k
        generalize fmS k = z at *
        have off0 := off
        simp only [LCg.Off3, and_true] at off
        clear F6 N6
        k_steps
        refine Halt.mk ?_
        k_dflt (refine' Says.int (seen_says z t hfl) ?aB4 ?aF4 ?aX4 ?aN4 ?aT4 ?ak4 ?ad4 ?au4 ?_)
        case aB4 => k_asm
        case aF4 => k_asm
        case aX4 => k_asm
        case aN4 => k_asm
        case aT4 => k_asm
        case ak4 => first | exact rfl | assumption
        case ad4 => ktr_room
        case au4 => ktr_units
        intro t3 h3 tk3 F8 N8
        k_steps
        refine Halt.mk ?_
        (rename Fr _ _ _ _ => Fc); (rename News _ _ _ _ => Nc)
        exact LCg.CompEnd.intro Fc Nc _ (fun p hp => hp) off0 (Or.inr ⟨_, .tail _ (.tail _ (.head _)), rfl, _, rfl⟩) ⟨rfl, _, rfl⟩
      case b6 =>
        intro ys3 hyl3 hys3
        rw [List.size_toArray, hyl] at hyl3
        obtain ⟨ns3, hns3⟩ : ∃ ns3, ns3 = ns1.map (fun k => seenV (fmS k)) := ⟨_, rfl⟩
        rw [← hns3] at hys3
        have hnl3 : ns3.length = 17 := by rw [hns3, List.length_map, hnl1]
        have hI3 : IntsAre ys3 ns3 := ints_of (by rw [hyl3, hnl3]) hys3
        clear hys3
        clear F6 N6
        k_steps
        refine Halt.mk ?_
        -- leader
        k_dflt (refine' Says.str (fm_says y _ hy hy') ?aB5 ?aF5 ?aX5 ?aN5 ?aT5 ?ak5 ?ad5 ?au5 ?_)
        case aB5 => k_asm
        case aF5 => k_asm
        case aX5 => k_asm
        case aN5 => k_asm
        case aT5 => k_asm
        case ak5 => first | exact rfl | assumption
        case ad5 => ktr_room
        case au5 => ktr_units
        intro t4 h4 tk4 F9 N9
        have hld := fm_len y
        obtain ⟨ld, hldE⟩ : ∃ ld, ld = fmS y := ⟨_, rfl⟩
        rw [← hldE]
        rw [← hldE] at hld
        k_steps
        · -- others can never run
          refine Halt.mk ?_
          k_dflt (refine LCg.ListComp_U (F₀ := by k_asm) (by with_unfolding_all rfl) (by decide) (by rfl) (by decide) (by rfl) ?_)
          k_steps
          refine Halt.mk ?_
          k_dflt (refine' kmk_slice_ints (ns := ns3) (ms := ns3.drop 1) ?dF ?dN ?dl ?dp ?dq ?di ?dm ?dc ?_ ?ds ?dt ?dz)
          case dF => k_asm
          case dN => k_asm
          case dl => kmk_list
          case dp => kmk_part
          case dq => kmk_part
          case di => exact hI3
          case dm => exact kmk_from hI3 (by decide)
          case dc => rfl
          case ds => with_unfolding_all rfl
          case dt => kmk_pure
          case dz => rw [List.size_toArray, hyl3]; decide
          intro D4 ws4 h5 F10 N10 lt4 hI4 _ _
          have hl4 : ws4.length = 16 := by rw [hI4.length, List.length_drop, hnl3]
          k_steps
          refine Halt.mk ?_
          k_dflt (refine LCg.CompSrc.ledger (by rfl) F10 N10 (.head _) (by rw [List.size_toArray, hl4]; decide) ?_)
          intro g4
          refine lc_turns (fun i v => ∃ t, v = .int (((ns3.drop 1).map fun k => k.fmod 2).getD i 0) t) ?b7 ?b8
          case b7 =>
            intro i v I oI C oC D m₂ ys4 h tk E' hi hv hC hm F11 N11 off ne
            obtain ⟨k, t, rfl, hk⟩ := IntsAre.at hI4 i v (by simpa using hv)
            have hk' : ((ns3.drop 1).map fun k => k.fmod 2).getD i 0 = k.fmod 2 := by rw [List.getD_eq_getElem?_getD, List.getElem?_map, hk]; rfl
            rw [hk']
            have off0 := off
            simp only [LCg.Off3, and_true] at off
            clear F10 N10
            k_steps
            refine Halt.mk ?_
            (rename Fr _ _ _ _ => Fc); (rename News _ _ _ _ => Nc)
            exact LCg.CompEnd.intro Fc Nc _ (fun p hp => hp) off0 (Or.inr ⟨_, .head _, rfl, _, rfl⟩) ⟨rfl, _, rfl⟩
          case b8 =>
            intro ys4 hyl4 hys4
            rw [List.size_toArray, hl4] at hyl4
            have hI5 : IntsAre ys4 ((ns3.drop 1).map fun k => k.fmod 2) := ints_of (by rw [hyl4, List.length_map, List.length_drop, hnl3]) hys4
            clear hys4 F10 N10
            k_steps
            refine Halt.mk ?_
            (rename News _ _ _ _ => N12); (rename Fr _ _ _ _ => F12)
            k_dflt (refine' mul_list_is (vs := [_]) (ds := [PyData.int 0]) F12 N12 (News.isList N12 (.head _)) ?eC ?e1 ?e2 ?e3 ?_)
            case eC => exact .cons (.int _ _) .nil
            case e1 => decide
            case e2 => decide
            case e3 => exact Nat.le_of_ble_eq_true rfl
            intro h13 F13 N13 hn13 hL13 hC13
            clear F12 N12
            k_steps
            refine Halt.mk ?_
            have hI13 := IntsAre.ofCarried (ns := List.replicate 16 0) hC13
            k_dflt (refine ke_eq_ints (News.isList N13 (.tail _ (.head _))) hL13 hI5 hI13 (by ktr_units) ?_)
            rw [decide_eq_true (show (ns3.drop 1).map (fun k => k.fmod 2) = List.replicate 16 0 by rw [hns3, hns1]; exact ml_never hx hx' hy hy' (by rw [← hldE]; assumption))]
            k_steps
            exact ag_end (s := s) (Q := Q) hret F13 N13 (by k_mem)
        · refine Halt.mk ?_
          -- others
          k_dflt (refine LCg.Assign_ListComp_U (F₀ := by k_asm) (by rfl) (by with_unfolding_all rfl) (by with_unfolding_all rfl) (by decide) (by rfl) (by decide) (by rfl) (by rfl) (by rfl) ?_)
          k_steps
          refine Halt.mk ?_
          (rename Fr _ _ _ _ => F10); (rename News _ _ _ _ => N10)
          k_dflt (refine LCg.CompSrc.ledger (by rfl) F10 N10 (.head _) (by rw [List.size_toArray, hyl3]; decide) ?_)
          intro g4
          refine lc_turns (fun i v => ∃ t, v = .int ((ns3.map fun k => k.fmod 8).getD i 0) t) ?b9 ?b10
          case b9 =>
            intro i v I oI C oC D m₂ ys4 h tk E' hi hv hC hm F11 N11 off ne
            obtain ⟨k, t, rfl, hk⟩ := IntsAre.at hI3 i v (by simpa using hv)
            have hk' : (ns3.map fun k => k.fmod 8).getD i 0 = k.fmod 8 := by rw [List.getD_eq_getElem?_getD, List.getElem?_map, hk]; rfl
            rw [hk']
            have off0 := off
            simp only [LCg.Off3, and_true] at off
            clear F10 N10
            k_steps
            refine Halt.mk ?_
            (rename Fr _ _ _ _ => Fc); (rename News _ _ _ _ => Nc)
            exact LCg.CompEnd.intro Fc Nc _ (fun p hp => hp) off0 (Or.inr ⟨_, .head _, rfl, _, rfl⟩) ⟨rfl, _, rfl⟩
          case b10 =>
            intro ys4 hyl4 hys4
            rw [List.size_toArray, hyl3] at hyl4
            obtain ⟨ns4, hns4⟩ : ∃ ns4, ns4 = ns3.map (fun k => k.fmod 8) := ⟨_, rfl⟩
            rw [← hns4] at hys4
            have hnl4 : ns4.length = 17 := by rw [hns4, List.length_map, hnl3]
            have hI4 : IntsAre ys4 ns4 := ints_of (by rw [hyl4, hnl4]) hys4
            clear hys4 F10 N10
            k_steps
            · refine Halt.mk ?_
              k_dflt (refine' kmk_slice_ints (ns := ns4) (ms := ns4.drop 4) ?fF ?fN ?fl ?fp ?fq ?fi ?fm ?fc ?_ ?fs ?ft ?fz)
              case fF => k_asm
              case fN => k_asm
              case fl => kmk_list
              case fp => kmk_part
              case fq => kmk_part
              case fi => exact hI4
              case fm => exact kmk_from hI4 (by decide)
              case fc => rfl
              case fs => with_unfolding_all rfl
              case ft => kmk_pure
              case fz => rw [List.size_toArray, hyl4]; decide
              intro D6 ws6 h6 F16 N16 lt6 hI6 _ _
              k_steps
              refine Halt.mk ?_
              k_dflt (refine' kmk_slice_ints (ns := ns4) (ms := ns4.take (ns4.length - 4)) ?gF ?gN ?gl ?gp ?gq ?gi ?gm ?gc ?_ ?gs ?gt ?gz)
              case gF => k_asm
              case gN => k_asm
              case gl => kmk_list
              case gp => kmk_part
              case gq => kmk_part
              case gi => exact hI4
              case gm => exact kmk_upto_neg hI4 (by decide)
              case gc => rfl
              case gs => with_unfolding_all rfl
              case gt => kmk_pure
              case gz => rw [List.size_toArray, hyl4]; decide
              intro D7 ws7 h7 F17 N17 lt7 hI7 _ _
              clear F16 N16
              k_steps
              refine Halt.mk ?_
              k_dflt (refine ke_eq_ints (News.isList N17 (.tail _ (.head _))) (News.isList N17 (.head _)) hI6 hI7 (by ktr_units) ?_)
              rw [decide_eq_true (show ns4.drop 4 = ns4.take (ns4.length - 4) by rw [hnl4, hns4, hns3, hns1]; exact ml_four hx hx' hy hy' (by rw [← hldE]; assumption) (by rw [← hldE]; assumption))]
              k_steps
              exact ag_end (s := s) (Q := Q) hret F17 N17 (by k_mem)
            · refine Halt.mk ?_
              (rename Fr _ _ _ _ => F18); (rename News _ _ _ _ => N18)
              k_dflt (refine' SaysL.bool (turns_says _ ys3 ys3.length ns3 hI3 hnl3 ?yP) ?yB F18 ?yX N18 ?ym ?yT ?yk ?yd ?yu ?_)
              case yP => rw [hns3, hns1]; exact ml_turns hx hx' hy hy' (by rw [← hldE]; assumption) (by rw [← hldE]; assumption)
              case yB => k_asm
              case yX => k_asm
              case ym => exact .tail _ (.head _)
              case yT => k_asm
              case yk => first | exact rfl | assumption
              case yd => ktr_room
              case yu => ktr_units
              intro h19 tk19 F19 N19
              clear F18 N18
              k_steps
              exact ag_end (s := s) (Q := Q) hret F19 N19 (by k_mem)
end
end Mine
end

namespace Mine
set_option maxRecDepth 100000
section
variable {w : World} {loose : List Str} {mean : ExcName → Option Value} {mg mb : Str → Option Value} {dp un : Nat} {gd : Option (List Code)} {cn : Str} {cs : Scope} {a : Addr} {ccd : Value} {cl : List (Str × Addr)} {outer : List Env} {A₀ : Around} {base h₀ : Heap} {L : Addr} {m : Str → Option Value} {s : Shared} {Q E : Value → Shared → Prop} {news : List (Addr × Obj)} {f : Addr} {vs : List Value}
theorem SaysP.two {Pre : Heap → Prop} (S : SaysP Pre f vs isTwo) (B : Below A₀ base outer h₀) (F : Fr h₀ L s.heap m) (X : (hd.heap_39 w.params).In h₀) (N : News h₀ L s.heap news) (T : Top topProg loose mean mg mb h₀) (hk : cs.kind = .function)
    (hd : dp + 20 < recursionLimit) (hu : un + 200 < cLine) (hp : Pre s.heap) (ret : ∀ l us nn x y h' tk', 0 ≤ x → x < 65536 → 0 ≤ y → y < 65536 → Fr h₀ L h' m → News h₀ L h' ((l, W.listOf us.toArray nn) :: news) → IntsAre us [x, y] → (∀ p ∈ news, @Ne Nat p.1 l) → Q (.ref l) { s with heap := h', toks := tk' }) :
    wpAny (model PySem.Challenge.rw_ny0117_01.row.prog w) (ktrTop dp un gd cn cs L a ccd cl outer) (call (.ref f) vs) Q E s :=
  S _ _ _ _ _ _ _ _ _ _ _ _ _ _ _ _ _ _ _ _ _ _ B F X T hk hd hu hp fun v h' tk' k r => by
    obtain ⟨x, y, hx, hx', hy, hy', l, us, nn, rfl, hn, hl, hi⟩ := r
    obtain ⟨oL, _, _, hL, _⟩ := F.ns
    refine ret l us nn x y h' tk' hx hx' hy hy' (F.after k) (fun p hp => ?_) hi fun p hp => ne_of_none (N p hp).1 hn
    rcases List.mem_cons.mp hp with rfl | hp
    · refine ⟨hl, fun e => ne_of_none hL hn e.symm, ?_⟩
      cases z : h₀.get? l with
      | none => rfl
      | some o => have := F.keep _ _ z; rw [hn] at this; cases this
    · exact ⟨k _ _ (N p hp).1, (N p hp).2⟩
theorem SaysW.bool {x : Bool} {bd bu : Nat} (S : SaysW bd bu f vs (isBool x)) (B : Below A₀ base outer h₀) (F : Fr h₀ L s.heap m) (X : (hd.heap_39 w.params).In h₀) (N : News h₀ L s.heap news) (hm : (107, tabObj #[]) ∈ news) (C : CodeHd h₀ 111 107) (T : Top topProg loose mean mg mb h₀) (hk : cs.kind = .function)
    (hd : dp + bd < recursionLimit) (hu : un + bu < cLine) (ret : ∀ ps h' tk', Fr h₀ L h' m → News h₀ L h' [(107, tabObj ps)] → Q (.bool x) { s with heap := h', toks := tk' }) :
    wpAny (model PySem.Challenge.rw_ny0117_01.row.prog w) (ktrTop dp un gd cn cs L a ccd cl outer) (call (.ref f) vs) Q E s :=
  S _ _ _ _ _ _ _ _ _ _ _ _ _ _ _ _ _ _ _ _ _ _ B F X (fun p hp => N p (by rw [List.mem_singleton.mp hp]; exact hm)) C T hk hd hu fun v h' tk' ps k h7 r => by
    have r : v = .bool x := r
    subst r
    have n7 := N _ hm
    have z0 : ∀ b o, h₀.get? b = some o → b ≠ 107 := fun b o e q => by
      have := n7.2.2
      rw [← q, e] at this; cases this
    refine ret ps h' tk' ⟨F.ns.at' fun o e => k _ o (fun q => n7.2.1 q.symm) e, fun b o e => k b o (z0 b o e) (F.keep b o e), F.above⟩ fun p hp => ?_
    rw [List.mem_singleton.mp hp]
    exact ⟨h7, n7.2⟩
end
local macro_rules | `(tactic| walk_at "call ref") => `(tactic| k_extra "call ref")
end Mine
open Mine
local macro_rules | `(tactic| walk_at "call ref") => `(tactic| k_extra "call ref")
set_option maxRecDepth 100000 in
set_option maxHeartbeats 4000000 in
theorem PySem.Challenge.cw_ny0117_01_holds : PySem.Challenge.rw_ny0117_01.Holds := by
  refine hd ?_
  w_on
  k_with_none
  k_with "call ref" => refine Halt.out ?_
  k_go0
  all_goals try k_fold
  all_goals k_steps
  (rename IntsAre _ _ => hIn); (rename Heap.IsList _ _ _ => hLi); (rename List Int => nsX)
  have hlen : nsX.length ≤ 63 := by omega
  refine Halt.mk ?_
  (rename Fr _ _ _ _ => Fa1); (rename News _ _ _ _ => Na1)
  k_dflt (refine' SaysP.two (two_says _ _ _ hIn hlen) ?aB1 Fa1 ?aX1 Na1 ?aT1 ?ak1 ?ad1 ?au1 ?ap1 ?_)
  case aB1 => k_asm
  case aX1 => k_asm
  case aT1 => k_asm
  case ak1 => first | exact rfl | assumption
  case ad1 => ktr_room
  case au1 => ktr_units
  case ap1 => exact hLi.at fun o e => Fa1.keep _ o e
  intro l1 us1 nn1 x1 y1 h1 tk1 hx1 hx'1 hy1 hy'1 F1 N1 hI1 ne1
  clear Fa1 Na1
  obtain ⟨ta1, ra1, rfl, hb1⟩ := IntsAre.cons_inv hI1
  obtain ⟨tb1, rb1, rfl, hc1⟩ := IntsAre.cons_inv hb1
  have := IntsAre.nil_inv hc1
  subst this
  clear hb1 hc1
  k_steps
  refine Halt.mk ?_
  (rename Fr _ _ _ _ => Fa2); (rename News _ _ _ _ => Na2)
  k_dflt (refine' SaysP.two (two_says _ _ _ hIn hlen) ?aB2 Fa2 ?aX2 Na2 ?aT2 ?ak2 ?ad2 ?au2 ?ap2 ?_)
  case aB2 => k_asm
  case aX2 => k_asm
  case aT2 => k_asm
  case ak2 => first | exact rfl | assumption
  case ad2 => ktr_room
  case au2 => ktr_units
  case ap2 => exact hLi.at fun o e => Fa2.keep _ o e
  intro l2 us2 nn2 x2 y2 h2 tk2 hx2 hx'2 hy2 hy'2 F2 N2 hI2 ne2
  clear Fa2 Na2
  obtain ⟨ta2, ra2, rfl, hb2⟩ := IntsAre.cons_inv hI2
  obtain ⟨tb2, rb2, rfl, hc2⟩ := IntsAre.cons_inv hb2
  have := IntsAre.nil_inv hc2
  subst this
  clear hb2 hc2
  k_steps
  refine Halt.mk ?_
  (rename Fr _ _ _ _ => Fa3); (rename News _ _ _ _ => Na3)
  k_dflt (refine' SaysW.bool (agree_says x1 y2 _ _ hx1 hx'1 hy2 hy'2) ?aB3 Fa3 ?aX3 Na3 ?am3 ?aC3 ?aT3 ?ak3 ?ad3 ?au3 ?_)
  case aB3 => k_asm
  case aX3 => k_asm
  case am3 => k_mem
  case aC3 => assumption
  case aT3 => k_asm
  case ak3 => first | exact rfl | assumption
  case ad3 => ktr_room
  case au3 => ktr_units
  intro ps3 h3 tk3 F3 N3
  clear Fa3 Na3
  k_steps
