import PyProof.Rows.All
import Wide.All
import OpenK.AllK
import Wide.FinOn
import PySem.Challenge.RW_tp0020_01
open PySem PySem.W PyProof.Rows PySem.Calls
set_option Elab.async false
set_option maxRecDepth 100000
set_option linter.all false
namespace Mine
set_option maxRecDepth 100000 in
set_option maxHeartbeats 8000000 in
open_top hd for PySem.Challenge.rw_tp0020_01
/-- what a callee's base g keeps of the caller's heap H: all but the handed objects, which stand on its ledger -/
structure GOut (H g : Heap) (hid : List (Addr × Obj)) : Prop where
  old : ∀ b o, H.get? b = some o → b ∉ hid.map (·.1) → g.get? b = some o
  at' : ∀ p ∈ hid, H.get? p.1 = some p.2

section
variable {prog : Program} {w : World} {A₀ A : Around} {s : Shared} {base h₀ : Heap} {outer : List Env} {L : Addr} {m : Str → Option Value} {env : Env} {K : Frag} {p : Program} {loose : List Str} {mean : ExcName → Option Value} {mg mb : Str → Option Value}
  {R : Result → Shared → Prop} {name qual : Str} {params : Arguments} {body : List Stmt} {scope : Scope} {dV kV doc pm cdv ct oc : Value} {an od : Option Addr} {osl : Array (Option Value)} {f : Addr} {args : Args} {binds : List (Str × Value)} {news hid : List (Addr × Obj)}
theorem con_call (B : Below A₀ base outer h₀) (F : Fr h₀ L s.heap m) (X₀ : K.In h₀) (N : News h₀ L s.heap news) (T : Top p loose mean mg mb h₀) (hs : ∀ p ∈ hid, p ∈ news) (hA : A.frames = some (env :: outer)) (hf : env.frame = some L) (hke : env.scope.kind = .function)
    (ho : K.lookup f = some ⟨oc, od, .func (fnOf name qual params body scope dV kV doc pm an cdv ct), osl⟩) (hcd : codeIn K cdv qual = true) (hroom : A.depth < recursionLimit)
    (hbind : BindsTo s (fnOf name qual params body scope dV kV doc pm an cdv ct) args binds) (hloc : ∀ y ∈ binds, scope.names.lookup y.1 = some .local)
    (h : ∀ g L' h₁, Fr g L' h₁ (fun y => binds.reverse.lookup y) → News g L' h₁ hid → Below A base (env :: outer) g → K.In g → Top p loose mean mg mb g → GOut s.heap g hid → (∀ p ∈ hid, p.1 < L') →
      wpAny (model prog w) (A.deeper (envOf qual scope L' f cdv)) (execs body (envOf qual scope L' f cdv))
        (fun fl s' => R (.ok (.ret (match fl with | .ret v => v | _ => .none))) s')
        (fun e s' => wpAny (model prog w) (A.deeper (envOf qual scope L' f cdv)) (leaving (envOf qual scope L' f cdv) e) (fun _ s'' => R (.error e) s'') (fun e' s'' => R (.error e') s'') s')
        { s with heap := h₁, toks := s.toks + binds.length })
    (hco : scope.isCoroutine = false) (hgen : scope.isGenerator = false) (hk : scope.kind = .function) (hcell : ∀ x ∈ scope.names, x.2 ≠ .cell) : codeAny (model prog w) A (.call (.ref f) args) R s := by
  have N : News h₀ L s.heap hid := fun p hp => N p (hs p hp)
  obtain ⟨FG, BG, st, lv⟩ := groundX (R := R) B F N hA hf hke
  refine codeAny_call_def (fd := fnOf name qual params body scope dV kV doc pm an cdv ct) (body := body) (binds := binds) hroom ((X₀.keeps F.keep) _ _ ho) rfl (T.nolimit.keeps F.keep) (codeRec_of (X₀.keeps F.keep) hcd) rfl hbind hcell hloc (fun h₁ hns hk₁ => ?_) hco hgen hk
  exact h _ _ h₁ ⟨hns, fun b o e => hk₁ b o (of_hideAll _ e), Nat.le_of_eq (hideAll_size _ _)⟩
    (fun p hp => ⟨hk₁ _ _ (N p hp).1, Nat.ne_of_lt (Heap.lt_size (N p hp).1), hideAll_none _ (List.mem_map_of_mem hp)⟩) BG (X₀.keeps st) (T.keeps st) ⟨fun b o e n => hideAll_get _ e n, fun p hp => (N p hp).1⟩ fun p hp => Heap.lt_size (N p hp).1
theorem con_callC (B : Below A₀ base outer h₀) (F : Fr h₀ L s.heap m) (X₀ : K.In h₀) (N : News h₀ L s.heap news) (T : Top p loose mean mg mb h₀) (hs : ∀ p ∈ hid, p ∈ news) (hA : A.frames = some (env :: outer)) (hf : env.frame = some L) (hke : env.scope.kind = .function)
    (ho : K.lookup f = some ⟨oc, od, .func (fnOf name qual params body scope dV kV doc pm an cdv ct), osl⟩) (hcd : codeIn K cdv qual = true) (hroom : A.depth < recursionLimit)
    (hbind : BindsTo s (fnOf name qual params body scope dV kV doc pm an cdv ct) args binds) (hkind : (binds.all fun y => scope.names.lookup y.1 == some .local || scope.names.lookup y.1 == some .cell) = true)
    (hnd : ((cellsFrom 0 scope.names []).map (·.1)).Nodup)
    (h : ∀ g L' h₁ tk cells, Fr g L' h₁ (bindL (envOfC qual scope L' f cdv).kindOf binds fun _ => none) → News g L' h₁ (cells ++ hid) →
      CellsAre (bindC (envOfC qual scope L' f cdv).kindOf binds fun _ => none) (cellsFrom (L' + 1) scope.names []) cells → Below A base (env :: outer) g → K.In g → Top p loose mean mg mb g → GOut s.heap g hid → (∀ p ∈ hid, p.1 < L') →
      wpAny (model prog w) (A.deeper (envOfC qual scope L' f cdv)) (execs body (envOfC qual scope L' f cdv))
        (fun fl s' => R (.ok (.ret (match fl with | .ret v => v | _ => .none))) s')
        (fun e s' => wpAny (model prog w) (A.deeper (envOfC qual scope L' f cdv)) (leaving (envOfC qual scope L' f cdv) e) (fun _ s'' => R (.error e) s'') (fun e' s'' => R (.error e') s'') s')
        { s with heap := h₁, toks := tk })
    (hco : scope.isCoroutine = false) (hgen : scope.isGenerator = false) (hk : scope.kind = .function) : codeAny (model prog w) A (.call (.ref f) args) R s := by
  have N : News h₀ L s.heap hid := fun p hp => N p (hs p hp)
  obtain ⟨FG, BG, st, lv⟩ := groundX (R := R) B F N hA hf hke
  refine codeAny_call_function hroom ((X₀.keeps F.keep) _ _ ho) rfl hco hgen rfl (codeRec_of (X₀.keeps F.keep) hcd) (hbind _ _ _ _ ?_)
  refine wpAny_newFunctionEnv_cells hk (kindsX hkind _) fun env' he s' x => ?_
  subst he
  refine ⟨((T.nolimit.keeps F.keep)).keeps x.toInCall.keep, codeAny_func ?_⟩
  obtain ⟨h₁, tk, rfl, _⟩ := x.done
  have hk₁ := x.toInCall.keep
  obtain ⟨cells, NC, Y⟩ := Cl.news (h₀ := s.heap) (Nat.le_refl _) fun n c hm => ⟨x.cell n c (lookup_of_mem_nodup (cellsFrom_names scope.names 0 (s.heap.objs.size + 1) [] [] rfl ▸ hnd) hm), x.above n c hm⟩
  refine h _ s.heap.objs.size h₁ tk cells ⟨x.toInCall.ns, fun b o e => hk₁ b o (of_hideAll _ e), Nat.le_of_eq (hideAll_size _ _)⟩ (fun p hp => ?_) Y BG (X₀.keeps st) (T.keeps st) ⟨fun b o e n => hideAll_get _ e n, fun p hp => (N p hp).1⟩ fun p hp => Heap.lt_size (N p hp).1
  rcases List.mem_append.mp hp with hp | hp
  · refine ⟨(NC p hp).1, (NC p hp).2.1, ?_⟩
    cases q : (hideAll s.heap (hid.map (·.1))).get? p.1 with
    | none => rfl
    | some o => have := of_hideAll _ q; rw [(NC p hp).2.2] at this; cases this
  · exact ⟨hk₁ _ _ (N p hp).1, Nat.ne_of_lt (Heap.lt_size (N p hp).1), hideAll_none _ (List.mem_map_of_mem hp)⟩
end

noncomputable abbrev topP (mean : ExcName → Option Value) (mg mb : Str → Option Value) (h : Heap) : Prop := Top hd.view_39 (looseW hd.view_39 [Str.ofString "EXACT_TOKEN_TYPES"]) mean mg mb h
/-- a call that hands back an int | a float | a bool | a str -/
noncomputable abbrev ConV (w : World) (mean : ExcName → Option Value) (mg mb : Str → Option Value) (f : Addr) (vs : List Value) (n : Nat) (hid : List (Addr × Obj)) (post : Value → Prop) : Prop :=
  ∀ (dp un : Nat) (gd : Option (List Code)) (cn : Str) (cs : Scope) (a : Addr) (ccd : Value) (cl : List (Str × Addr)) (outer : List Env) (A₀ : Around) (base h₀ : Heap) (L : Addr) (m : Str → Option Value) (news : List (Addr × Obj)) (s : Shared) (Q E : Value → Shared → Prop),
    Below A₀ base outer h₀ → Fr h₀ L s.heap m → (hd.heap_39 w.params).In h₀ → News h₀ L s.heap news → topP mean mg mb h₀ → cs.kind = .function → (∀ p ∈ hid, p ∈ news) → dp + n < recursionLimit → un + 8 * n < cLine →
    (∀ r h' tk', Fr h₀ L h' m → News h₀ L h' news → post r → Q r { s with heap := h', toks := tk' }) →
    wpAny (model PySem.Challenge.rw_tp0020_01.row.prog w) (ktrTop dp un gd cn cs L a ccd cl outer) (call (.ref f) vs) Q E s

/-- a call that hands back a new object -/
noncomputable abbrev ConO (w : World) (mean : ExcName → Option Value) (mg mb : Str → Option Value) (f : Addr) (vs : List Value) (n : Nat) (hid : List (Addr × Obj)) (post : Obj → Prop) : Prop :=
  ∀ (dp un : Nat) (gd : Option (List Code)) (cn : Str) (cs : Scope) (a : Addr) (ccd : Value) (cl : List (Str × Addr)) (outer : List Env) (A₀ : Around) (base h₀ : Heap) (L : Addr) (m : Str → Option Value) (news : List (Addr × Obj)) (s : Shared) (Q E : Value → Shared → Prop),
    Below A₀ base outer h₀ → Fr h₀ L s.heap m → (hd.heap_39 w.params).In h₀ → News h₀ L s.heap news → topP mean mg mb h₀ → cs.kind = .function → (∀ p ∈ hid, p ∈ news) → dp + n < recursionLimit → un + 8 * n < cLine →
    (∀ l o h' tk', Fr h₀ L h' m → News h₀ L h' ((l, o) :: news) → (∀ p ∈ news, p.1 ≠ l) → post o → Q (.ref l) { s with heap := h', toks := tk' }) →
    wpAny (model PySem.Challenge.rw_tp0020_01.row.prog w) (ktrTop dp un gd cn cs L a ccd cl outer) (call (.ref f) vs) Q E s

/-- a call that hands back new objects -/
noncomputable abbrev ConN (w : World) (mean : ExcName → Option Value) (mg mb : Str → Option Value) (f : Addr) (vs : List Value) (n : Nat) (hid : List (Addr × Obj)) (post : Value → List (Addr × Obj) → Prop) : Prop :=
  ∀ (dp un : Nat) (gd : Option (List Code)) (cn : Str) (cs : Scope) (a : Addr) (ccd : Value) (cl : List (Str × Addr)) (outer : List Env) (A₀ : Around) (base h₀ : Heap) (L : Addr) (m : Str → Option Value) (news : List (Addr × Obj)) (s : Shared) (Q E : Value → Shared → Prop),
    Below A₀ base outer h₀ → Fr h₀ L s.heap m → (hd.heap_39 w.params).In h₀ → News h₀ L s.heap news → topP mean mg mb h₀ → cs.kind = .function → (∀ p ∈ hid, p ∈ news) → dp + n < recursionLimit → un + 8 * n < cLine →
    (∀ r nw h' tk', Fr h₀ L h' m → News h₀ L h' (nw ++ news) → (∀ q ∈ nw, ∀ p ∈ news, p.1 ≠ q.1) → post r nw → Q r { s with heap := h', toks := tk' }) →
    wpAny (model PySem.Challenge.rw_tp0020_01.row.prog w) (ktrTop dp un gd cn cs L a ccd cl outer) (call (.ref f) vs) Q E s

section
variable {h₀ g h' : Heap} {L L' : Addr} {m m' : Str → Option Value} {news news' hid : List (Addr × Obj)} {s : Shared} {Q : Value → Shared → Prop} {tk' : Nat}
theorem keepAll (G : GOut s.heap g hid) (F' : Fr g L' h' m') (N' : News g L' h' news') (hsub : ∀ p ∈ hid, p ∈ news') : ∀ b o, s.heap.get? b = some o → h'.get? b = some o := fun b o e => by
  by_cases q : b ∈ hid.map (·.1)
  · obtain ⟨p, hp, rfl⟩ := List.mem_map.mp q
    have := G.at' p hp
    rw [e] at this
    cases this
    exact (N' p (hsub p hp)).1
  · exact F'.keep _ _ (G.old _ _ e q)
theorem freshAll (G : GOut s.heap g hid) (N' : News g L' h' news') {p : Addr × Obj} (hp : p ∈ news') (hne : ∀ q ∈ hid, q.1 ≠ p.1) : s.heap.get? p.1 = none := by
  cases e : s.heap.get? p.1 with
  | none => rfl
  | some o =>
    have n : p.1 ∉ hid.map (·.1) := fun q => by
      obtain ⟨r, hr, e'⟩ := List.mem_map.mp q
      exact hne r hr e'
    have := G.old _ _ e n
    rw [(N' p hp).2.2] at this; cases this
theorem retV {post : Value → Prop} {r : Value} (F : Fr h₀ L s.heap m) (N : News h₀ L s.heap news) (hret : ∀ r h' tk', Fr h₀ L h' m → News h₀ L h' news → post r → Q r { s with heap := h', toks := tk' })
    (G : GOut s.heap g hid) (F' : Fr g L' h' m') (N' : News g L' h' news') (hsub : ∀ p ∈ hid, p ∈ news') (hp : post r) : Q r { s with heap := h', toks := tk' } :=
  have k := keepAll G F' N' hsub
  hret r h' tk' (F.keeps k) (N.grown k) hp
theorem retN {post : Value → List (Addr × Obj) → Prop} {r : Value} (nw : List (Addr × Obj)) (F : Fr h₀ L s.heap m) (N : News h₀ L s.heap news)
    (hret : ∀ r nw h' tk', Fr h₀ L h' m → News h₀ L h' (nw ++ news) → (∀ q ∈ nw, ∀ p ∈ news, p.1 ≠ q.1) → post r nw → Q r { s with heap := h', toks := tk' })
    (G : GOut s.heap g hid) (F' : Fr g L' h' m') (N' : News g L' h' news') (hsub : ∀ p ∈ hid, p ∈ news') (hnw : ∀ p ∈ nw, p ∈ news') (hne : ∀ p ∈ nw, ∀ q ∈ hid, q.1 ≠ p.1) (hp : post r nw) : Q r { s with heap := h', toks := tk' } := by
  have k := keepAll G F' N' hsub
  refine hret r nw h' tk' (F.keeps k) (fun p hp => ?_) (fun q hq p hp e => ?_) hp
  · rcases List.mem_append.mp hp with hp | hp
    · have z := N' p (hnw p hp)
      have fr := freshAll G N' (hnw p hp) (hne p hp)
      refine ⟨z.1, fun e => ?_, ?_⟩
      · obtain ⟨oL, _, _, hL, _⟩ := F.ns
        rw [show L = p.1 from e.symm] at hL
        rw [hL] at fr; cases fr
      · cases q : h₀.get? p.1 with
        | none => rfl
        | some o' => have := F.keep _ _ q; rw [fr] at this; cases this
    · exact N.grown k p hp
  · have fr := freshAll G N' (hnw q hq) (hne q hq)
    have := (N p hp).1
    rw [e, fr] at this; cases this
theorem retO {l : Addr} {o : Obj} {post : Obj → Prop} (F : Fr h₀ L s.heap m) (N : News h₀ L s.heap news)
    (hret : ∀ l o h' tk', Fr h₀ L h' m → News h₀ L h' ((l, o) :: news) → (∀ p ∈ news, p.1 ≠ l) → post o → Q (.ref l) { s with heap := h', toks := tk' })
    (G : GOut s.heap g hid) (F' : Fr g L' h' m') (N' : News g L' h' news') (hsub : ∀ p ∈ hid, p ∈ news') (hm : (l, o) ∈ news') (hne : ∀ q ∈ hid, q.1 ≠ l) (hp : post o) : Q (.ref l) { s with heap := h', toks := tk' } :=
  retN (post := fun r nw => ∃ o', nw = [(l, o')] ∧ r = .ref l ∧ post o') [(l, o)] F N
    (fun r nw h' tk' F N d hp => by obtain ⟨o', rfl, rfl, hp⟩ := hp; exact hret l o' h' tk' F N (fun p hp => d _ (List.mem_singleton.mpr rfl) p hp) hp)
    G F' N' hsub (fun p hp => by rw [List.mem_singleton.mp hp]; exact hm) (fun p hp q hq => by rw [List.mem_singleton.mp hp]; exact hne q hq) ⟨o, rfl, rfl, hp⟩
end
section
variable {w : World} {mean : ExcName → Option Value} {mg mb : Str → Option Value} {f : Addr} {vs : List Value} {n : Nat} {hid : List (Addr × Obj)}
  {dp un : Nat} {gd : Option (List Code)} {cn : Str} {cs : Scope} {a : Addr} {ccd : Value} {cl : List (Str × Addr)} {outer : List Env} {A₀ : Around} {base h₀ : Heap} {L : Addr} {m : Str → Option Value} {news : List (Addr × Obj)} {s : Shared} {Q E : Value → Shared → Prop}
theorem useO {post : Obj → Prop} (c : ConO w mean mg mb f vs n hid post) (B : Below A₀ base outer h₀) (F : Fr h₀ L s.heap m) (X : (hd.heap_39 w.params).In h₀) (N : News h₀ L s.heap news) (T : topP mean mg mb h₀) (hk : cs.kind = .function) (hh : ∀ p ∈ hid, p ∈ news) (hd : dp + n < recursionLimit) (hu : un + 8 * n < cLine)
    (ret : ∀ l o h' tk', Fr h₀ L h' m → News h₀ L h' ((l, o) :: news) → (∀ p ∈ news, p.1 ≠ l) → post o → Q (.ref l) { s with heap := h', toks := tk' }) :
    wpAny (model PySem.Challenge.rw_tp0020_01.row.prog w) (ktrTop dp un gd cn cs L a ccd cl outer) (call (.ref f) vs) Q E s := c _ _ _ _ _ _ _ _ _ _ _ _ _ _ _ _ _ _ B F X N T hk hh hd hu ret
theorem useV {post : Value → Prop} (c : ConV w mean mg mb f vs n hid post) (B : Below A₀ base outer h₀) (F : Fr h₀ L s.heap m) (X : (hd.heap_39 w.params).In h₀) (N : News h₀ L s.heap news) (T : topP mean mg mb h₀) (hk : cs.kind = .function) (hh : ∀ p ∈ hid, p ∈ news) (hd : dp + n < recursionLimit) (hu : un + 8 * n < cLine)
    (ret : ∀ r h' tk', Fr h₀ L h' m → News h₀ L h' news → post r → Q r { s with heap := h', toks := tk' }) :
    wpAny (model PySem.Challenge.rw_tp0020_01.row.prog w) (ktrTop dp un gd cn cs L a ccd cl outer) (call (.ref f) vs) Q E s := c _ _ _ _ _ _ _ _ _ _ _ _ _ _ _ _ _ _ B F X N T hk hh hd hu ret
theorem useN {post : Value → List (Addr × Obj) → Prop} (c : ConN w mean mg mb f vs n hid post) (B : Below A₀ base outer h₀) (F : Fr h₀ L s.heap m) (X : (hd.heap_39 w.params).In h₀) (N : News h₀ L s.heap news) (T : topP mean mg mb h₀) (hk : cs.kind = .function) (hh : ∀ p ∈ hid, p ∈ news) (hd : dp + n < recursionLimit) (hu : un + 8 * n < cLine)
    (ret : ∀ r nw h' tk', Fr h₀ L h' m → News h₀ L h' (nw ++ news) → (∀ q ∈ nw, ∀ p ∈ news, p.1 ≠ q.1) → post r nw → Q r { s with heap := h', toks := tk' }) :
    wpAny (model PySem.Challenge.rw_tp0020_01.row.prog w) (ktrTop dp un gd cn cs L a ccd cl outer) (call (.ref f) vs) Q E s := c _ _ _ _ _ _ _ _ _ _ _ _ _ _ _ _ _ _ B F X N T hk hh hd hu ret
end
theorem off_of {l : Addr} : ∀ {news : List (Addr × Obj)}, (∀ p ∈ news, p.1 ≠ l) → LCg.Off1 l news
  | [], _ => trivial
  | _ :: _, h => ⟨h _ List.mem_cons_self, off_of fun p hp => h p (List.mem_cons_of_mem _ hp)⟩
theorem letEA {M : Model} {A : Around} {body : List Stmt} {env : Env} {Q : Flow → Shared → Prop} {E : Value → Shared → Prop} {s : Shared} (h : let e9 := env; let A9 := A.deeper e9; wpAny M A9 (execs body e9) Q E s) : wpAny M (A.deeper env) (execs body env) Q E s := h
theorem noE {α : Type} {M : Model} {A : Around} {t : Sem α} {Q : α → Shared → Prop} {E : Value → Shared → Prop} {s : Shared} (h : wpAny M A t Q (fun _ _ => False) s) : wpAny M A t Q E s := wpAny_mono h (fun _ _ q => q) fun _ _ f => f.elim
theorem anyQ {M : Model} {A : Around} {t : Sem Flow} {Q : Flow → Shared → Prop} {Q0 : Value → Shared → Prop} {E : Value → Shared → Prop} {s : Shared} (hq : ∀ v s', Q0 v s' → Q (.ret v) s') (h : ∀ Q9 : Flow → Shared → Prop, (∀ v s', Q0 v s' → Q9 (.ret v) s') → wpAny M A t Q9 E s) : wpAny M A t Q E s := h Q hq
theorem anyE {α : Type} {M : Model} {A : Around} {t : Sem α} {Q : α → Shared → Prop} {E : Value → Shared → Prop} {s : Shared} (h : ∀ E' : Value → Shared → Prop, wpAny M A t Q E' s) : wpAny M A t Q E s := h E
section
variable {news : List (Addr × Obj)} {p : Addr × Obj} {l a I C D : Addr} {o : Obj}
/-- a stands on the ledger -/
noncomputable def AtL (a : Addr) (news : List (Addr × Obj)) : Prop := ∃ o, (a, o) ∈ news
theorem at_hd : AtL a ((a, o) :: news) := ⟨o, List.mem_cons_self⟩
theorem at_tl (h : AtL a news) : AtL a (p :: news) := let ⟨o, e⟩ := h; ⟨o, List.mem_cons_of_mem _ e⟩
theorem off_a (h : @Ne Addr a l) : @Ne Nat a l := h
theorem off_b (h : @Ne Addr l a) : @Ne Nat a l := fun e => h e.symm
theorem ne_lt (h : ∀ p ∈ news, p.1 < l) (hm : AtL a news) : @Ne Addr a l := let ⟨_, e⟩ := hm; Nat.ne_of_lt (h _ e)
theorem ne_c1 (h : ∀ p ∈ news, p.1 < l) (hm : AtL a news) : @Ne Addr a (l + 1) := let ⟨_, e⟩ := hm; Nat.ne_of_lt (Nat.lt_succ_of_lt (h _ e))
theorem ne_c2 (h : ∀ p ∈ news, p.1 < l) (hm : AtL a news) : @Ne Addr a (l + 1 + 1) := let ⟨_, e⟩ := hm; Nat.ne_of_lt (Nat.lt_succ_of_lt (Nat.lt_succ_of_lt (h _ e)))
theorem ne_c3 (h : ∀ p ∈ news, p.1 < l) (hm : AtL a news) : @Ne Addr a (l + 1 + 1 + 1) := let ⟨_, e⟩ := hm; Nat.ne_of_lt (Nat.lt_succ_of_lt (Nat.lt_succ_of_lt (Nat.lt_succ_of_lt (h _ e))))
theorem ne_c4 (h : ∀ p ∈ news, p.1 < l) (hm : AtL a news) : @Ne Addr a (l + 1 + 1 + 1 + 1) := let ⟨_, e⟩ := hm; Nat.ne_of_lt (Nat.lt_succ_of_lt (Nat.lt_succ_of_lt (Nat.lt_succ_of_lt (Nat.lt_succ_of_lt (h _ e)))))
theorem ne_off (h : ∀ p ∈ news, p.1 ≠ l) (hm : AtL a news) : @Ne Addr a l := let ⟨_, e⟩ := hm; h _ e
theorem ne_one (h : LCg.Off1 l news) (hm : AtL a news) : @Ne Addr a l := by
  obtain ⟨o, hm⟩ := hm
  induction news with
  | nil => exact nomatch hm
  | cons p r ih =>
    rcases List.mem_cons.mp hm with e | hm
    · have := h.1; rw [← e] at this; exact this
    · exact ih h.2 hm
theorem ne_I (h : LCg.Off3 I C D news) (hm : AtL a news) : @Ne Addr a I := let ⟨_, e⟩ := hm; (h.mem _ e).1
theorem ne_C (h : LCg.Off3 I C D news) (hm : AtL a news) : @Ne Addr a C := let ⟨_, e⟩ := hm; (h.mem _ e).2.1
theorem ne_D (h : LCg.Off3 I C D news) (hm : AtL a news) : @Ne Addr a D := let ⟨_, e⟩ := hm; (h.mem _ e).2.2
end
theorem storeX_Lm {M : Model} {A : Around} {E : Value → Shared → Prop} {s : Shared} {h₀ : Heap} {L a : Addr} {m : Str → Option Value} {news : List (Addr × Obj)} {cn x : Str} {cs : Scope} {ccd v : Value} {cl : List (Str × Addr)} {Q : Unit → Shared → Prop} (F : Fr h₀ L s.heap m) (N : News h₀ L s.heap news)
    (h : ∀ h', let m9 := fun y => if y = x then some v else m y; Fr h₀ L h' m9 → News h₀ L h' news → Q () { s with heap := h', toks := s.toks + 1 })
    (hk : cs.kind = .function := by rfl) (hx : (envX cn cs L a ccd cl).kindOf x = some .local := by rfl) : wpAny M A (storeName (envX cn cs L a ccd cl) x v) Q E s := storeX_L F N h hk hx
noncomputable def SubL (t news : List (Addr × Obj)) : Prop := ∀ p ∈ t, p ∈ news
theorem sub_rfl {t : List (Addr × Obj)} : SubL t t := fun _ h => h
theorem sub_tl {t r : List (Addr × Obj)} {p : Addr × Obj} (h : SubL t r) : SubL t (p :: r) := fun q hq => List.mem_cons_of_mem _ (h q hq)
theorem tl_lt {news t : List (Addr × Obj)} {l : Addr} (h : ∀ p ∈ news, p.1 < l) (s : SubL t news) : ∀ p ∈ t, p.1 ≠ l := fun p hp => Nat.ne_of_lt (h p (s p hp))
theorem tl_c1 {news t : List (Addr × Obj)} {l : Addr} (h : ∀ p ∈ news, p.1 < l) (s : SubL t news) : ∀ p ∈ t, p.1 ≠ l + 1 := fun p hp => Nat.ne_of_lt (Nat.lt_succ_of_lt (h p (s p hp)))
theorem tl_c2 {news t : List (Addr × Obj)} {l : Addr} (h : ∀ p ∈ news, p.1 < l) (s : SubL t news) : ∀ p ∈ t, p.1 ≠ l + 1 + 1 := fun p hp => Nat.ne_of_lt (Nat.lt_succ_of_lt (Nat.lt_succ_of_lt (h p (s p hp))))
theorem tl_c3 {news t : List (Addr × Obj)} {l : Addr} (h : ∀ p ∈ news, p.1 < l) (s : SubL t news) : ∀ p ∈ t, p.1 ≠ l + 1 + 1 + 1 := fun p hp => Nat.ne_of_lt (Nat.lt_succ_of_lt (Nat.lt_succ_of_lt (Nat.lt_succ_of_lt (h p (s p hp)))))
theorem tl_off {news t : List (Addr × Obj)} {l : Addr} (h : ∀ p ∈ news, p.1 ≠ l) (s : SubL t news) : ∀ p ∈ t, p.1 ≠ l := fun p hp => h p (s p hp)
theorem tl_one {news t : List (Addr × Obj)} {l : Addr} (h : LCg.Off1 l news) (s : SubL t news) : ∀ p ∈ t, p.1 ≠ l := fun p hp => ne_one h ⟨_, s p hp⟩
theorem tl_I {news t : List (Addr × Obj)} {I C D : Addr} (h : LCg.Off3 I C D news) (s : SubL t news) : ∀ p ∈ t, p.1 ≠ I := fun p hp => (h.mem p (s p hp)).1
theorem tl_C {news t : List (Addr × Obj)} {I C D : Addr} (h : LCg.Off3 I C D news) (s : SubL t news) : ∀ p ∈ t, p.1 ≠ C := fun p hp => (h.mem p (s p hp)).2.1
theorem tl_D {news t : List (Addr × Obj)} {I C D : Addr} (h : LCg.Off3 I C D news) (s : SubL t news) : ∀ p ∈ t, p.1 ≠ D := fun p hp => (h.mem p (s p hp)).2.2
/-- how a turn of a comprehension may end: with a value of P, the ledger as it was -/
structure CEnd (h₀ : Heap) (L : Addr) (m : Str → Option Value) (s₁ : Shared) (all : List (Addr × Obj)) (P : Value → Prop) (Q : Value → Shared → Prop) : Prop where
  go : ∀ v h' tk', Fr h₀ L h' m → News h₀ L h' all → P v → Q v { s₁ with heap := h', toks := tk' }
structure CNo (h₀ : Heap) (L : Addr) (m : Str → Option Value) (s₁ : Shared) (all : List (Addr × Obj)) (P : Prop) (Q : Shared → Prop) : Prop where
  go : ∀ h' tk', Fr h₀ L h' m → News h₀ L h' all → P → Q { s₁ with heap := h', toks := tk' }
noncomputable def IntV (k : Int) (v : Value) : Prop := ∃ t, v = .int k t
theorem intV {k : Int} {t : Tok} : IntV k (.int k t) := ⟨t, rfl⟩
theorem intVc {k : Int} {t : Tok} {c : Prop} (h : c) : c ∧ IntV k (.int k t) := ⟨h, t, rfl⟩
section
variable {prog : Program} {w : World} {A : Around} {h₀ : Heap} {L : Addr} {m : Str → Option Value} {env : Env} {ct elt : PySem.Expr} {x : Str} {scope : Scope} {cl : List (Str × Addr)} {s : Shared} {S : List (Addr × Obj) → Prop} {Fin : List Value → List (Addr × Obj) → Prop} {news : List (Addr × Obj)}
theorem kcf_listQ {vs : List Value} {ns : List Int} (g : Int → Int) (hi : IntsAre vs ns) (hS : S news)
    (turn : ∀ k t I oI C oC D oD m₂ s₁ (E' : Value → Shared → Prop) (Q9 : Value → Shared → Prop), k ∈ ns → LCg.NsObj oC m₂ → m₂ x = some (.int k t) → Fr h₀ L s₁.heap m → News h₀ L s₁.heap ((I, oI) :: (C, oC) :: (D, oD) :: news) → LCg.Off3 I C D news → (@Ne Nat I C) → (@Ne Nat I D) → (@Ne Nat C D) → KPfMark → CEnd h₀ L m s₁ ((I, oI) :: (C, oC) :: (D, oD) :: news) (IntV (g k)) Q9 →
      wpAny (model prog w) A (eval elt (compEnvC scope cl C env)) Q9 E' s₁)
    (fin : KPfDone (∀ ys, IntsAre ys (ns.map g) → Fin ys news)) : LCg.CompRest prog w A h₀ L m env elt x scope cl s S (fun i v => vs.toArray[i]? = some v) Fin vs.toArray.size 0 [] news :=
  kcf_list g hi (fun k t I oI C oC D m₂ ys h tk E' hk hC hx F N off ne mk => turn k t I oI C oC D (LCg.lst ys) m₂ { s with heap := h, toks := tk } E' _ hk hC hx F N off ne.1 ne.2.1 ne.2.2 mk
    ⟨fun v h' tk' F' N' p => LCg.CompEnd.intro F' N' news (fun p hp => hp) off hS ⟨rfl, p⟩⟩) fin
theorem kci_rangeQ {n : Nat} {a : Int} {G : List Int → Int → List Int} (c : Int → Prop) (f : Int → Int) (hy : ∀ l k, c k → G l k = l ++ [f k]) (hn : ∀ l k, ¬ c k → G l k = l) (hg : KPfGrows G) (hS : S news)
    (turn : ∀ k t I oI C oC D oD m₂ s₁ (E' : Value → Shared → Prop) (Q1 : Value → Shared → Prop) (Q2 : Shared → Prop), a ≤ k → k < a + (n : Int) → LCg.NsObj oC m₂ → m₂ x = some (.int k t) → Fr h₀ L s₁.heap m → News h₀ L s₁.heap ((I, oI) :: (C, oC) :: (D, oD) :: news) → LCg.Off3 I C D news → (@Ne Nat I C) → (@Ne Nat I D) → (@Ne Nat C D) → KPfMark →
      CEnd h₀ L m s₁ ((I, oI) :: (C, oC) :: (D, oD) :: news) (fun v => c k ∧ IntV (f k) v) Q1 → CNo h₀ L m s₁ ((I, oI) :: (C, oC) :: (D, oD) :: news) (¬ c k) Q2 →
      wpAny (model prog w) A (isTrue ct (compEnvC scope cl C env) (eval ct (compEnvC scope cl C env))) (fun b s' => if b = true then wpAny (model prog w) A (eval elt (compEnvC scope cl C env)) Q1 E' s' else Q2 s') E' s₁)
    (fin : KPfDone (∀ ys, IntsAre ys ((rangeKs a n).foldl G []) → ys.length ≤ n → Fin ys news)) : LCt.CompRestT prog w A h₀ L m env ct elt x scope cl s S (fun i v => ∃ t, v = .int (a + (i : Int)) t) Fin n 0 [] news :=
  kci_range G (fun k t I oI C oC D m₂ ys l h tk E' h1 h2 _ hC hx F N off ne mk => turn k t I oI C oC D (LCg.lst ys) m₂ { s with heap := h, toks := tk } E' _ _ h1 h2 hC hx F N off ne.1 ne.2.1 ne.2.2 mk
    ⟨fun v h' tk' F' N' p => LCg.CompEnd.intro F' N' news (fun p hp => hp) off hS ⟨rfl, f k, p.2.choose, p.2.choose_spec, hy l k p.1⟩⟩
    ⟨fun h' tk' F' N' p => LCg.CompEnd.intro F' N' news (fun p hp => hp) off hS ⟨rfl, hn l k p⟩⟩) fin hg
theorem kci_listQ {vs : List Value} {ns : List Int} {G : List Int → Int → List Int} (hi : IntsAre vs ns) (c : Int → Prop) (f : Int → Int) (hy : ∀ l k, c k → G l k = l ++ [f k]) (hn : ∀ l k, ¬ c k → G l k = l) (hg : KPfGrows G) (hS : S news)
    (turn : ∀ k t I oI C oC D oD m₂ s₁ (E' : Value → Shared → Prop) (Q1 : Value → Shared → Prop) (Q2 : Shared → Prop), k ∈ ns → LCg.NsObj oC m₂ → m₂ x = some (.int k t) → Fr h₀ L s₁.heap m → News h₀ L s₁.heap ((I, oI) :: (C, oC) :: (D, oD) :: news) → LCg.Off3 I C D news → (@Ne Nat I C) → (@Ne Nat I D) → (@Ne Nat C D) → KPfMark →
      CEnd h₀ L m s₁ ((I, oI) :: (C, oC) :: (D, oD) :: news) (fun v => c k ∧ IntV (f k) v) Q1 → CNo h₀ L m s₁ ((I, oI) :: (C, oC) :: (D, oD) :: news) (¬ c k) Q2 →
      wpAny (model prog w) A (isTrue ct (compEnvC scope cl C env) (eval ct (compEnvC scope cl C env))) (fun b s' => if b = true then wpAny (model prog w) A (eval elt (compEnvC scope cl C env)) Q1 E' s' else Q2 s') E' s₁)
    (fin : KPfDone (∀ ys, IntsAre ys (ns.foldl G []) → ys.length ≤ vs.toArray.size → Fin ys news)) : LCt.CompRestT prog w A h₀ L m env ct elt x scope cl s S (fun i v => vs.toArray[i]? = some v) Fin vs.toArray.size 0 [] news :=
  kci_list G hi (fun k t I oI C oC D m₂ ys l h tk E' h1 _ hC hx F N off ne mk => turn k t I oI C oC D (LCg.lst ys) m₂ { s with heap := h, toks := tk } E' _ _ h1 hC hx F N off ne.1 ne.2.1 ne.2.2 mk
    ⟨fun v h' tk' F' N' p => LCg.CompEnd.intro F' N' news (fun p hp => hp) off hS ⟨rfl, f k, p.2.choose, p.2.choose_spec, hy l k p.1⟩⟩
    ⟨fun h' tk' F' N' p => LCg.CompEnd.intro F' N' news (fun p hp => hp) off hS ⟨rfl, hn l k p⟩⟩) fin hg
end
/-- a list of ints -/
inductive ListIs (ns : List Int) (o : Obj) : Prop
  | mk : ∀ vs n, o = listOf vs.toArray n → IntsAre vs ns → ListIs ns o
noncomputable abbrev tup3 (x y z : UInt64) (tx ty tz : Tok) : Obj := { cls := .type "tuple", data := .seq #[.float x tx, .float y ty, .float z tz] }
/-- a tuple of three floats -/
inductive TupIs (x y z : UInt64) (o : Obj) : Prop
  | mk : ∀ tx ty tz, o = tup3 x y z tx ty tz → TupIs x y z o
noncomputable abbrev TupK (f : Nat → UInt64) (o : Obj) : Prop := TupIs (f 0) (f 1) (f 2) o
noncomputable def FltV (x : UInt64) (v : Value) : Prop := ∃ t, v = .float x t
section
variable {prog : Program} {w : World} {A : Around} {h₀ : Heap} {L : Addr} {m : Str → Option Value} {env : Env} {ct elt : PySem.Expr} {x : Str} {scope : Scope} {cl : List (Str × Addr)} {s : Shared} {S : List (Addr × Obj) → Prop} {Fin : List Value → List (Addr × Obj) → Prop} {news : List (Addr × Obj)}
theorem fl_succ {P : Nat → Value → Prop} {n i : Nat} {ys : List Value} {f : Nat → UInt64} (hP : ∀ v, P i v → ∃ t, v = .int (0 + (i : Int)) t) (hS : S news)
    (turn : ∀ t I oI C oC D oD m₂ s₁ (E' : Value → Shared → Prop) (Q9 : Value → Shared → Prop), LCg.NsObj oC m₂ → m₂ x = some (.int (0 + (i : Int)) t) → Fr h₀ L s₁.heap m → News h₀ L s₁.heap ((I, oI) :: (C, oC) :: (D, oD) :: news) → LCg.Off3 I C D news → (@Ne Nat I C) → (@Ne Nat I D) → (@Ne Nat C D) → KPfMark → CEnd h₀ L m s₁ ((I, oI) :: (C, oC) :: (D, oD) :: news) (FltV (f i)) Q9 →
      wpAny (model prog w) A (eval elt (compEnvC scope cl C env)) Q9 E' s₁)
    (h : ∀ t, LCg.CompRest prog w A h₀ L m env elt x scope cl s S P Fin n (i + 1) (ys ++ [.float (f i) t]) news) : LCg.CompRest prog w A h₀ L m env elt x scope cl s S P Fin (n + 1) i ys news :=
  LCg.CompRest.succ fun v I oI C oC D m₂ h' tk E' hv hC hx F N off ne => turn (hP v hv).choose I oI C oC D (LCg.lst ys) m₂ { s with heap := h', toks := tk } E' _ hC ((hP v hv).choose_spec ▸ hx) F N off ne.1 ne.2.1 ne.2.2 True.intro
    ⟨fun v' h2 tk2 F2 N2 p => LCg.CompEnd.intro F2 N2 news (fun p hp => hp) off hS (p.choose_spec ▸ h p.choose)⟩
theorem comp_f3 (f : Nat → UInt64) (hS : S news)
    (turn : ∀ (k : Nat) t I oI C oC D oD m₂ s₁ (E' : Value → Shared → Prop) (Q9 : Value → Shared → Prop), k < 3 → LCg.NsObj oC m₂ → m₂ x = some (.int (0 + (k : Int)) t) → Fr h₀ L s₁.heap m → News h₀ L s₁.heap ((I, oI) :: (C, oC) :: (D, oD) :: news) → LCg.Off3 I C D news → (@Ne Nat I C) → (@Ne Nat I D) → (@Ne Nat C D) → KPfMark → CEnd h₀ L m s₁ ((I, oI) :: (C, oC) :: (D, oD) :: news) (FltV (f k)) Q9 →
      wpAny (model prog w) A (eval elt (compEnvC scope cl C env)) Q9 E' s₁)
    (fin : ∀ t0 t1 t2, Fin [.float (f 0) t0, .float (f 1) t1, .float (f 2) t2] news) : LCg.CompRest prog w A h₀ L m env elt x scope cl s S (fun i v => ∃ t, v = .int (0 + (i : Int)) t) Fin 3 0 [] news :=
  fl_succ (f := f) (fun _ h => h) hS (fun t I oI C oC D oD m₂ s₁ E' Q9 => turn 0 t I oI C oC D oD m₂ s₁ E' Q9 (by decide)) fun t0 =>
  fl_succ (f := f) (fun _ h => h) hS (fun t I oI C oC D oD m₂ s₁ E' Q9 => turn 1 t I oI C oC D oD m₂ s₁ E' Q9 (by decide)) fun t1 =>
  fl_succ (f := f) (fun _ h => h) hS (fun t I oI C oC D oD m₂ s₁ E' Q9 => turn 2 t I oI C oC D oD m₂ s₁ E' Q9 (by decide)) fun t2 =>
  LCg.CompRest.zero (fin t0 t1 t2)
theorem item_tk {f : Nat → UInt64} {k : Nat} {a : Addr} {o : Obj} {u : Tok} {value slice : PySem.Expr} {Q E : Value → Shared → Prop} (N : News h₀ L s.heap news) (hm : (a, o) ∈ news) (ht : TupK f o) (hk : k < 3) (h : ∀ t, Q (.float (f k) t) s)
    (hs : subscripted slice false (.ref a) (.int (0 + (k : Int)) u) = operate [.ref a, .int (0 + (k : Int)) u] (getItem (.ref a) (.int (0 + (k : Int)) u)) := by with_unfolding_all rfl) (hg : ∀ r, letTemporaryGo value (.ref a) r = pure () := by intro _; with_unfolding_all rfl) :
    wpAny (model prog w) A (subscriptTail value slice (.ref a) (.int (0 + (k : Int)) u)) Q E s := by
  obtain ⟨t0, t1, t2, rfl⟩ := ht
  match k, hk with
  | 0, _ => exact kim_tup (l := [.float (f 0) t0, .float (f 1) t1, .float (f 2) t2]) (j := 0) N hm rfl rfl (by decide) (by decide) rfl rfl (h t0) hs hg
  | 1, _ => exact kim_tup (l := [.float (f 0) t0, .float (f 1) t1, .float (f 2) t2]) (j := 1) N hm rfl rfl (by decide) (by decide) rfl rfl (h t1) hs hg
  | 2, _ => exact kim_tup (l := [.float (f 0) t0, .float (f 1) t1, .float (f 2) t2]) (j := 2) N hm rfl rfl (by decide) (by decide) rfl rfl (h t2) hs hg
end
/-- the head of a list of ints -/
inductive IntsC (ys : List Value) (n : Int) (ns : List Int) : Prop
  | mk : ∀ t ys', ys = .int n t :: ys' → IntsAre ys' ns → IntsC ys n ns
theorem intsC {ys : List Value} {n : Int} {ns : List Int} (h : IntsAre ys (n :: ns)) : IntsC ys n ns := by
  cases h with
  | cons _ t h => exact ⟨t, _, rfl, h⟩
theorem intsN {ys : List Value} (h : IntsAre ys []) : ys = [] := by cases h; rfl
theorem ints_sz {vs : List Value} {ns : List Int} (h : IntsAre vs ns) (hl : ns.length ≤ 100) : vs.toArray.size ≤ sizeLine := by
  rw [List.size_toArray, h.length]
  exact Nat.le_trans hl (by rw [PySem.sizeLine_eq]; decide)
local macro_rules | `(tactic| walk_at $s:str) => `(tactic| k_extra $s)
theorem ints_getD {vs : List Value} {ns : List Int} (hi : IntsAre vs ns) {k : Nat} (h : k < ns.length) : ∃ t, vs[k]? = some (.int (ns.getD k 0) t) := by
  induction hi generalizing k with
  | nil => exact absurd h (Nat.not_lt_zero _)
  | cons n t _ ih =>
    cases k with
    | zero => exact ⟨t, rfl⟩
    | succ k =>
      obtain ⟨t', e⟩ := ih (Nat.lt_of_succ_lt_succ h)
      exact ⟨t', by simpa using e⟩
theorem item_ints {prog : Program} {w : World} {A : Around} {E : Value → Shared → Prop} {s : Shared} {h₀ : Heap} {L l : Addr} {news : List (Addr × Obj)} {value slice : PySem.Expr} {vs : List Value} {ns : List Int} {n : Nat} {k : Int} {u : Tok} {Q : Value → Shared → Prop}
    (N : News h₀ L s.heap news) (hm : (l, listOf vs.toArray n) ∈ news) (hi : IntsAre vs ns) (hb : 0 ≤ k ∧ k < ns.length ∧ k < 2 ^ 63) (h : ∀ t, Q (.int (ns.getD k.toNat 0) t) s)
    (hs : subscripted slice false (.ref l) (.int k u) = operate [.ref l, .int k u] (getItem (.ref l) (.int k u)) := by with_unfolding_all rfl) :
    wpAny (model prog w) A (subscriptTail value slice (.ref l) (.int k u)) Q E s := by
  obtain ⟨h0, h1, h2⟩ := hb
  obtain ⟨t, e⟩ := ints_getD hi (k := k.toNat) ((Int.toNat_lt h0).mpr h1)
  exact tail_any (N.isList hm).typeIs slot_list_getitem.lookup (wpAny_getItem_list (N.isList hm) h0 h2 (by simpa using e) (h t)) hs
theorem and_nat (a b : Nat) : Builtin.bitAnd (a : Int) (b : Int) = ((a &&& b : Nat) : Int) := by
  unfold Builtin.bitAnd
  simp
theorem and_le {a b : Int} (ha : 0 ≤ a) (hb : 0 ≤ b) : 0 ≤ Builtin.bitAnd a b ∧ Builtin.bitAnd a b ≤ a ∧ Builtin.bitAnd a b ≤ b := by
  obtain ⟨x, rfl⟩ := Int.eq_ofNat_of_zero_le ha
  obtain ⟨y, rfl⟩ := Int.eq_ofNat_of_zero_le hb
  rw [and_nat x y]
  exact ⟨Int.natCast_nonneg _, Int.ofNat_le.mpr Nat.and_le_left, Int.ofNat_le.mpr Nat.and_le_right⟩
section
variable {prog : Program} {w : World} {A : Around} {E : Value → Shared → Prop} {s : Shared} {env : Env} {x : Str} {px : Pos} {body : List Stmt} {Q : Flow → Shared → Prop} {it : Value}
noncomputable def ForRest (prog : Program) (w : World) (A : Around) (E : Value → Shared → Prop) (env : Env) (x : Str) (px : Pos) (body : List Stmt) (Q : Flow → Shared → Prop) (it : Value) (s : Shared) : Prop :=
  codeAny (model prog w) A (.forLoop (.Name x px) it body [] env) (fun r s' => match r with | .ok f => Q f s' | .error e => cameBackBy (model prog w) A env E e s') s
noncomputable def ForPost (prog : Program) (w : World) (A : Around) (E : Value → Shared → Prop) (env : Env) (x : Str) (px : Pos) (body : List Stmt) (Q : Flow → Shared → Prop) (it : Value) (f : Flow) (s : Shared) : Prop :=
  match f with
  | .next => ForRest prog w A E env x px body Q it s
  | .cont => ForRest prog w A E env x px body Q it s
  | .brk => Q .next s
  | .ret v => Q (.ret v) s
theorem for_start {iter : PySem.Expr} {pos : Pos} (h : wpAny (model prog w) A (eval iter env) (fun xv s₁ => wpAny (model prog w) A (pyIter xv) (fun it s₂ => ForRest prog w A E env x px body Q it s₂) E s₁) E s)
    (hs : ∀ x, foldedSetIterable iter env x = pure x := by intro _; rfl) : wpAny (model prog w) A (exec (.For (.Name x px) iter body [] pos) env) Q E s := wpAny_For h hs
theorem for_turn (hE : PassesOwn (model prog w) A env E)
    (h : wpAny (model prog w) A (pyNext it) (fun r s₁ => match r with
      | none => Q .next s₁
      | some v => wpAny (model prog w) A (storeName env x v) (fun _ s₂ => wpAny (model prog w) A (execs body env) (ForPost prog w A E env x px body Q it) E s₂) E s₁) E s) :
    ForRest prog w A E env x px body Q it s := by
  refine codeAny_of_tree ?_
  show wpAny _ A ((forTurn (.Name x px) it body [] env).onRaise (fun x => do noteFrame x env; theTreesLotGoes x)) _ _ s
  refine wpAny_noted ?_
  simp only [forTurn]
  refine wpAny_bind (wpAny_standAt (wpAny_bind (wpAny_onRaise (wpAny_mono h (fun r s₁ h₁ => ?_) fun e s h' => wpAny_standAt (hE e s h')))))
  cases r with
  | none => exact wpAny_pure ⟨rfl, codeAny_block (wpAny_execs_nil h₁)⟩
  | some v =>
    refine wpAny_bind (wpAny_of_eq (show letOwnedTupleGo (.Name x px) it v = pure () from rfl) ?_)
    refine wpAny_bind (wpAny_assign_Name (wpAny_mono h₁ (fun _ s₂ h₂ => wpAny_bind (wpAny_mono h₂ (fun f s₃ h₃ => ?_) hE)) hE))
    cases f with
    | next => exact wpAny_pure ⟨rfl, h₃⟩
    | cont => exact wpAny_pure ⟨rfl, h₃⟩
    | brk => exact wpAny_pure h₃
    | ret v => exact wpAny_pure h₃
variable {h₀ : Heap} {L I l : Addr} {m : Str → Option Value} {news : List (Addr × Obj)}
/-- an iterator over the list at l, i items taken -/
noncomputable def ItL (l : Addr) (i : Nat) (o : Obj) : Prop := o.cls = .type "list_iterator" ∧ o.data = .fields #[.ref l, .int i 0]
theorem iterL_start {vs : List Value} {n : Nat} {Q : Value → Shared → Prop} (F : Fr h₀ L s.heap m) (N : News h₀ L s.heap news) (hm : (l, listOf vs.toArray n) ∈ news)
    (h : ∀ I o h', Fr h₀ L h' m → News h₀ L h' ((I, o) :: news) → (∀ p ∈ news, p.1 < I) → ItL l 0 o → Q (.ref I) { s with heap := h' }) : wpAny (model prog w) A (pyIter (.ref l)) Q E s :=
  wpAny_pyIter_list (N.isList hm) (h _ _ _ (F.push _) (N.push F _) (fun p hp => Heap.lt_size (N p hp).1) ⟨rfl, rfl⟩)
theorem news_but1 {h h' : Heap} {oI oI' : Obj} (N : News h₀ L h ((I, oI) :: news)) (off : ∀ p ∈ news, p.1 ≠ I) (hk : ∀ b o, b ∉ [I] → h.get? b = some o → h'.get? b = some o) (e : h'.get? I = some oI') : News h₀ L h' ((I, oI') :: news) := fun p hp => by
  rcases List.mem_cons.mp hp with rfl | hp
  · exact ⟨e, (N _ List.mem_cons_self).2⟩
  · have z := N p (List.mem_cons_of_mem _ hp)
    exact ⟨hk _ _ (by simpa using off p hp) z.1, z.2⟩
theorem fr_but1 {h h' : Heap} {oI : Obj} (F : Fr h₀ L h m) (N : News h₀ L h ((I, oI) :: news)) (hk : ∀ b o, b ∉ [I] → h.get? b = some o → h'.get? b = some o) : Fr h₀ L h' m :=
  have z := N _ List.mem_cons_self
  LCg.fr_but F hk (Ne.symm z.2.1) z.2.2
theorem iterL_next {o : Obj} {i : Nat} {vs : List Value} {n : Nat} {v : Value} {Q : Option Value → Shared → Prop} (hh : A.handled = none) (F : Fr h₀ L s.heap m) (N : News h₀ L s.heap ((I, o) :: news)) (off : ∀ p ∈ news, p.1 ≠ I) (hm : (l, listOf vs.toArray n) ∈ news) (hI : ItL l i o)
    (hv : vs[i]? = some v) (h : ∀ o' h' tk', Fr h₀ L h' m → News h₀ L h' ((I, o') :: news) → ItL l (i + 1) o' → Q (some v) { s with heap := h', toks := tk' }) : wpAny (model prog w) A (pyNext (.ref I)) Q E s := by
  have hne : l ≠ I := off _ hm
  have W := Walks.list (prog := prog) (w := w) hh I l hne vs.toArray
  have hlt : i < vs.length := (List.getElem?_eq_some_iff.mp hv).1
  refine W.item i s Q E (by simpa using hlt) ⟨⟨o, (N _ List.mem_cons_self).1, hI.1, hI.2⟩, N.isList (List.mem_cons_of_mem _ hm)⟩ fun v' h' tk hP st hk => ?_
  have hv' : v' = v := by
    have : vs[i]? = some v' := by simpa using hP
    rw [hv] at this; exact (Option.some.inj this).symm
  subst hv'
  obtain ⟨o', e', c, d⟩ := st.1
  exact h o' h' tk (fr_but1 F N hk) (news_but1 N off hk e') ⟨c, d⟩
theorem iterL_done {o : Obj} {vs : List Value} {n : Nat} {Q : Option Value → Shared → Prop} (hh : A.handled = none) (F : Fr h₀ L s.heap m) (N : News h₀ L s.heap ((I, o) :: news)) (off : ∀ p ∈ news, p.1 ≠ I) (hm : (l, listOf vs.toArray n) ∈ news) (hI : ItL l vs.length o)
    (h : ∀ h' tk', Fr h₀ L h' m → News h₀ L h' news → Q none { s with heap := h', toks := tk' }) : wpAny (model prog w) A (pyNext (.ref I)) Q E s := by
  have hne : l ≠ I := off _ hm
  have W := Walks.list (prog := prog) (w := w) hh I l hne vs.toArray
  refine W.done s Q E (by rw [List.size_toArray]; exact ⟨⟨o, (N _ List.mem_cons_self).1, hI.1, hI.2⟩, N.isList (List.mem_cons_of_mem _ hm)⟩) fun h' tk hk => ?_
  refine h h' tk (fr_but1 F N hk) fun p hp => ?_
  have z := N p (List.mem_cons_of_mem _ hp)
  exact ⟨hk _ _ (by simpa using off p hp) z.1, z.2⟩
/-- the ledger less I -/
inductive Drops (I : Addr) : List (Addr × Obj) → List (Addr × Obj) → Prop
  | nil : Drops I [] []
  | skip {p r r'} : Drops I r r' → Drops I (p :: r) r'
  | keep {p r r'} : p.1 ≠ I → Drops I r r' → Drops I (p :: r) (p :: r')
theorem Drops.sub {I : Addr} {l r : List (Addr × Obj)} (D : Drops I l r) : ∀ p ∈ r, p ∈ l ∧ p.1 ≠ I := by
  induction D with
  | nil => intro p hp; cases hp
  | skip _ ih => intro p hp; exact ⟨List.mem_cons_of_mem _ (ih p hp).1, (ih p hp).2⟩
  | keep h _ ih =>
    intro p hp
    rcases List.mem_cons.mp hp with rfl | hp
    · exact ⟨List.mem_cons_self, h⟩
    · exact ⟨List.mem_cons_of_mem _ (ih p hp).1, (ih p hp).2⟩
theorem newsU {h h' : Heap} {o o' : Obj} {g : Obj → List (Addr × Obj)} (N : News h₀ L h news) (U : UpdF I o news g) (hk : ∀ b o, b ∉ [I] → h.get? b = some o → h'.get? b = some o) (e : h'.get? I = some o') : News h₀ L h' (g o') := by
  obtain ⟨pre, post, rfl, hg, h1, h2⟩ := U.split
  rw [hg]
  intro p hp
  rcases List.mem_append.mp hp with hp | hp
  · have z := N p (List.mem_append_left _ hp)
    exact ⟨hk _ _ (by simpa using h1 p hp) z.1, z.2⟩
  · rcases List.mem_cons.mp hp with rfl | hp
    · have z := N (I, o) (List.mem_append_right _ List.mem_cons_self)
      exact ⟨e, z.2⟩
    · have z := N p (List.mem_append_right _ (List.mem_cons_of_mem _ hp))
      exact ⟨hk _ _ (by simpa using h2 p hp) z.1, z.2⟩
theorem updF_mem {o : Obj} {g : Obj → List (Addr × Obj)} (U : UpdF I o news g) : (I, o) ∈ news := by
  obtain ⟨pre, post, rfl, _, _, _⟩ := U.split
  exact List.mem_append_right _ List.mem_cons_self
theorem updF_ne {o x : Obj} {b : Addr} {g : Obj → List (Addr × Obj)} (U : UpdF I o news g) (hm : (b, x) ∈ news) (hx : x ≠ o) : b ≠ I := by
  obtain ⟨pre, post, rfl, _, h1, h2⟩ := U.split
  rcases List.mem_append.mp hm with hp | hp
  · exact h1 _ hp
  · rcases List.mem_cons.mp hp with e | hp
    · cases e; exact absurd rfl hx
    · exact h2 _ hp
theorem iterL_nextU {o : Obj} {g : Obj → List (Addr × Obj)} {i : Nat} {vs : List Value} {n : Nat} {v : Value} {Q : Option Value → Shared → Prop} (hh : A.handled = none) (F : Fr h₀ L s.heap m) (N : News h₀ L s.heap news) (U : UpdF I o news g) (hI : ItL l i o) (hm : (l, listOf vs.toArray n) ∈ news)
    (hv : vs[i]? = some v) (h : ∀ o' h' tk', Fr h₀ L h' m → News h₀ L h' (g o') → ItL l (i + 1) o' → Q (some v) { s with heap := h', toks := tk' }) : wpAny (model prog w) A (pyNext (.ref I)) Q E s := by
  have hne : l ≠ I := updF_ne U hm fun e => by have h9 := hI.1; rw [← e] at h9; exact absurd (Value.type.inj h9) (by decide)
  have hmI := N _ (updF_mem U)
  have W := Walks.list (prog := prog) (w := w) hh I l hne vs.toArray
  have hlt : i < vs.length := (List.getElem?_eq_some_iff.mp hv).1
  refine W.item i s Q E (by simpa using hlt) ⟨⟨o, hmI.1, hI.1, hI.2⟩, N.isList hm⟩ fun v' h' tk hP st hk => ?_
  have hv' : v' = v := by
    have : vs[i]? = some v' := by simpa using hP
    rw [hv] at this; exact (Option.some.inj this).symm
  subst hv'
  obtain ⟨o', e', c, d⟩ := st.1
  exact h o' h' tk (LCg.fr_but F hk (Ne.symm hmI.2.1) hmI.2.2) (newsU N U hk e') ⟨c, d⟩
theorem iterL_doneU {o : Obj} {g : Obj → List (Addr × Obj)} {rest : List (Addr × Obj)} {i : Nat} {vs : List Value} {n : Nat} {Q : Option Value → Shared → Prop} (hh : A.handled = none) (F : Fr h₀ L s.heap m) (N : News h₀ L s.heap news) (U : UpdF I o news g) (hI : ItL l i o) (hm : (l, listOf vs.toArray n) ∈ news) (hi : i = vs.length)
    (D : Drops I news rest) (h : ∀ h' tk', Fr h₀ L h' m → News h₀ L h' rest → Q none { s with heap := h', toks := tk' }) : wpAny (model prog w) A (pyNext (.ref I)) Q E s := by
  subst hi
  have hne : l ≠ I := updF_ne U hm fun e => by have h9 := hI.1; rw [← e] at h9; exact absurd (Value.type.inj h9) (by decide)
  have hmI := N _ (updF_mem U)
  have W := Walks.list (prog := prog) (w := w) hh I l hne vs.toArray
  refine W.done s Q E (by rw [List.size_toArray]; exact ⟨⟨o, hmI.1, hI.1, hI.2⟩, N.isList hm⟩) fun h' tk hk => ?_
  refine h h' tk (LCg.fr_but F hk (Ne.symm hmI.2.1) hmI.2.2) fun p hp => ?_
  have d := D.sub p hp
  have z := N p d.1
  exact ⟨hk _ _ (by simpa using d.2) z.1, z.2⟩
/-- a range's iterator: the next number, how many are left -/
theorem iterR_start {a b : Int} {t u v : Tok} {r : Addr} {n : Nat} {Q : Value → Shared → Prop} (F : Fr h₀ L s.heap m) (N : News h₀ L s.heap news) (hr : IsRange s.heap r a b 1 t u v) (hs : Builtin.Range.small a b 1 = true) (hn : Builtin.Range.rangeSize a b 1 = ((n : Nat) : Int))
    (h : ∀ I h', Fr h₀ L h' m → News h₀ L h' ((I, itR a n) :: news) → (∀ p ∈ news, p.1 < I) → Q (.ref I) { s with heap := h' }) : wpAny (model prog w) A (pyIter (.ref r)) Q E s :=
  wpAny_pyIter_range hr hs (by rw [hn]; exact h _ _ (F.push _) (N.push F _) fun p hp => Heap.lt_size (N p hp).1)
theorem iterR_next {a : Int} {n : Nat} {Q : Option Value → Shared → Prop} (hh : A.handled = none) (F : Fr h₀ L s.heap m) (N : News h₀ L s.heap ((I, itR a ((n + 1 : Nat) : Int)) :: news)) (off : ∀ p ∈ news, p.1 ≠ I)
    (h : ∀ t h' tk', Fr h₀ L h' m → News h₀ L h' ((I, itR (a + 1) (n : Int)) :: news) → Q (some (.int a t)) { s with heap := h', toks := tk' }) : wpAny (model prog w) A (pyNext (.ref I)) Q E s := by
  have W := LCg.range_walks (prog := prog) (w := w) (I := I) hh a (n + 1)
  refine W.item 0 s Q E (Nat.succ_pos _) (by
    show s.heap.get? I = some _
    rw [(N _ List.mem_cons_self).1]; simp [itR]) fun v' h' tk hP st hk => ?_
  obtain ⟨t, rfl⟩ := hP
  have e' : h'.get? I = some (itR (a + 1) (n : Int)) := by
    have : h'.get? I = some _ := st
    rw [this]
    simp [itR]
  have z := h t h' tk (fr_but1 F N hk) (news_but1 N off hk e')
  simpa using z
theorem iterR_done {a : Int} {Q : Option Value → Shared → Prop} (hh : A.handled = none) (F : Fr h₀ L s.heap m) (N : News h₀ L s.heap ((I, itR a 0) :: news)) (off : ∀ p ∈ news, p.1 ≠ I)
    (h : ∀ h' tk', Fr h₀ L h' m → News h₀ L h' news → Q none { s with heap := h', toks := tk' }) : wpAny (model prog w) A (pyNext (.ref I)) Q E s := by
  have W := LCg.range_walks (prog := prog) (w := w) (I := I) hh a 0
  refine W.done s Q E (by
    show s.heap.get? I = some _
    rw [(N _ List.mem_cons_self).1]; simp [itR]) fun h' tk hk => ?_
  refine h h' tk (fr_but1 F N hk) fun p hp => ?_
  have z := N p (List.mem_cons_of_mem _ hp)
  exact ⟨hk _ _ (by simpa using off p hp) z.1, z.2⟩
/-- a turn's end under forL_ind -/
noncomputable def TurnE (h₀ : Heap) (L I : Addr) (o : Obj) (J : (Str → Option Value) → List (Addr × Obj) → Prop) (s : Shared) (f : Flow) (s₃ : Shared) : Prop :=
  f = .next ∧ ∃ h' tk' m' nw', s₃ = { s with heap := h', toks := tk' } ∧ Fr h₀ L h' m' ∧ News h₀ L h' ((I, o) :: nw') ∧ (∀ p ∈ nw', p.1 ≠ I) ∧ J m' nw'
theorem TurnE.mk {o : Obj} {J : (Str → Option Value) → List (Addr × Obj) → Prop} {h' : Heap} {tk' : Nat} {m' : Str → Option Value} {all : List (Addr × Obj)} (nw' : List (Addr × Obj)) (F : Fr h₀ L h' m') (N : News h₀ L h' all) (sub : ∀ p ∈ (I, o) :: nw', p ∈ all) (off : ∀ p ∈ nw', p.1 ≠ I) (j : J m' nw') :
    TurnE h₀ L I o J s .next { s with heap := h', toks := tk' } := ⟨rfl, h', tk', m', nw', rfl, F, fun p hp => N p (sub p hp), off, j⟩
/-- how a turn of a loop may end -/
structure LEnd (h₀ : Heap) (L I : Addr) (o : Obj) (J : (Str → Option Value) → List (Addr × Obj) → Prop) (s₁ : Shared) (Q : Flow → Shared → Prop) : Prop where
  go : ∀ f s', TurnE h₀ L I o J s₁ f s' → Q f s'
theorem LEnd.fin {o : Obj} {J : (Str → Option Value) → List (Addr × Obj) → Prop} {s₁ : Shared} {Q : Flow → Shared → Prop} (H : LEnd h₀ L I o J s₁ Q) {h' : Heap} {tk' : Nat} {m' : Str → Option Value} {all : List (Addr × Obj)} (nw' : List (Addr × Obj)) (F : Fr h₀ L h' m') (N : News h₀ L h' all) (sub : ∀ p ∈ (I, o) :: nw', p ∈ all) (off : ∀ p ∈ nw', p.1 ≠ I) (j : J m' nw') :
    Q .next { s₁ with heap := h', toks := tk' } := H.go _ _ (TurnE.mk nw' F N sub off j)
structure WEnd (h₀ : Heap) (L : Addr) (J : (Str → Option Value) → List (Addr × Obj) → Prop) (s₁ : Shared) (Q : Flow → Shared → Prop) : Prop where
  go : ∀ m' nw' h' tk', Fr h₀ L h' m' → News h₀ L h' nw' → J m' nw' → Q .next { s₁ with heap := h', toks := tk' }
structure WTest (h₀ : Heap) (L : Addr) (m : Str → Option Value) (nw : List (Addr × Obj)) (s₁ : Shared) (v : Bool) (Q : Bool → Shared → Prop) : Prop where
  go : ∀ h' tk', Fr h₀ L h' m → News h₀ L h' nw → Q v { s₁ with heap := h', toks := tk' }
theorem whl_indN {test : PySem.Expr} {orelse : List Stmt} {k : Nat} {m₀ : Str → Option Value} {nw₀ : List (Addr × Obj)} (J : Nat → (Str → Option Value) → List (Addr × Obj) → Prop) (K : Nat) (hE : PassesOwn (model prog w) A env E)
    (test' : ∀ i m nw s₁ Q1, i ≤ K → J i m nw → Fr h₀ L s₁.heap m → News h₀ L s₁.heap nw → WTest h₀ L m nw s₁ (decide (i < K)) Q1 → wpAny (model prog w) A (isTrue test env (eval test env)) Q1 E s₁)
    (body' : ∀ i m nw s₁ Q9, i < K → J i m nw → Fr h₀ L s₁.heap m → News h₀ L s₁.heap nw → WEnd h₀ L (J (i + 1)) s₁ Q9 → wpAny (model prog w) A (execs body env) Q9 E s₁)
    (fin : ∀ m nw h tk, J K m nw → Fr h₀ L h m → News h₀ L h nw → wpAny (model prog w) A (execs orelse env) Q E { s with heap := h, toks := tk })
    (hj : J 0 m₀ nw₀) (F : Fr h₀ L s.heap m₀) (N : News h₀ L s.heap nw₀) : WhlRest prog w A E env test body orelse Q k s := by
  have key : ∀ d i m nw h tk, i + d = K → J i m nw → Fr h₀ L h m → News h₀ L h nw → WhlRest prog w A E env test body orelse Q (k + 1) { s with heap := h, toks := tk } := by
    intro d
    induction d with
    | zero =>
      intro i m nw h tk e j F N
      have e : i = K := e
      subst e
      refine whl_turn hE (test' i m nw { s with heap := h, toks := tk } _ (Nat.le_refl _) j F N ⟨fun h' tk' F' N' => ?_⟩)
      rw [decide_eq_false (Nat.lt_irrefl i)]
      exact fin m nw h' tk' j F' N'
    | succ d ih =>
      intro i m nw h tk e j F N
      have lt : i < K := by omega
      refine whl_turn hE (test' i m nw { s with heap := h, toks := tk } _ (Nat.le_of_lt lt) j F N ⟨fun h' tk' F' N' => ?_⟩)
      rw [decide_eq_true lt]
      exact body' i m nw { s with heap := h', toks := tk' } _ lt j F' N' ⟨fun m2 nw2 h2 tk2 F2 N2 j2 => ih (i + 1) m2 nw2 h2 tk2 (by omega) j2 F2 N2⟩
  exact key K 0 m₀ nw₀ s.heap s.toks (Nat.zero_add K) hj F N
theorem forL_ind {vs : List Value} {n : Nat} (J : Nat → (Str → Option Value) → List (Addr × Obj) → Prop) (hE : PassesOwn (model prog w) A env E) (hh : A.handled = none)
    (hl : ∀ i m nw, J i m nw → (l, listOf vs.toArray n) ∈ nw)
    (step : ∀ i v m₁ nw I o s₁ Q9, vs[i]? = some v → J i m₁ nw → Fr h₀ L s₁.heap m₁ → News h₀ L s₁.heap ((I, o) :: nw) → (∀ p ∈ nw, p.1 ≠ I) → o.cls = .type "list_iterator" → LEnd h₀ L I o (J (i + 1)) s₁ Q9 →
      wpAny (model prog w) A (storeName env x v) (fun _ s₂ => wpAny (model prog w) A (execs body env) Q9 E s₂) E s₁)
    (fin : ∀ m₁ nw h tk, J vs.length m₁ nw → Fr h₀ L h m₁ → News h₀ L h nw → Q .next { s with heap := h, toks := tk }) :
    ∀ (k i : Nat) (m₁ : Str → Option Value) (nw : List (Addr × Obj)) (o : Obj) (h : Heap) (tk : Nat), i + k = vs.length → J i m₁ nw → Fr h₀ L h m₁ → News h₀ L h ((I, o) :: nw) → (∀ p ∈ nw, p.1 ≠ I) → ItL l i o →
      ForRest prog w A E env x px body Q (.ref I) { s with heap := h, toks := tk } := by
  intro k
  induction k with
  | zero =>
    intro i m₁ nw o h tk hi j F N off hI
    have hi' : i = vs.length := by omega
    subst hi'
    exact for_turn hE (iterL_done hh F N off (hl _ _ _ j) hI fun h' tk' F' N' => fin m₁ nw h' tk' j F' N')
  | succ k ih =>
    intro i m₁ nw o h tk hi j F N off hI
    have hlt : i < vs.length := by omega
    refine for_turn hE (iterL_next hh F N off (hl _ _ _ j) hI (List.getElem?_eq_getElem hlt) fun o' h' tk' F' N' hI' => ?_)
    refine wpAny_mono (step i _ m₁ nw I o' { s with heap := h', toks := tk' } _ (List.getElem?_eq_getElem hlt) j F' N' off hI'.1 ⟨fun _ _ x => x⟩) (fun _ s₂ h₂ => wpAny_mono h₂ (fun f s₃ h₃ => ?_) fun _ _ e => e) fun _ _ e => e
    obtain ⟨rfl, h₃', tk₃, m₃, nw₃, rfl, F₃, N₃, off₃, j₃⟩ := h₃
    exact ih (i + 1) m₃ nw₃ o' h₃' tk₃ (by omega) j₃ F₃ N₃ off₃ hI'
theorem forR_ind {a : Int} {n : Nat} (J : Nat → (Str → Option Value) → List (Addr × Obj) → Prop) (hE : PassesOwn (model prog w) A env E) (hh : A.handled = none)
    (step : ∀ i t m₁ nw I o s₁ Q9, i < n → J i m₁ nw → Fr h₀ L s₁.heap m₁ → News h₀ L s₁.heap ((I, o) :: nw) → (∀ p ∈ nw, p.1 ≠ I) → LEnd h₀ L I o (J (i + 1)) s₁ Q9 →
      wpAny (model prog w) A (storeName env x (.int (a + (i : Int)) t)) (fun _ s₂ => wpAny (model prog w) A (execs body env) Q9 E s₂) E s₁)
    (fin : ∀ m₁ nw h tk, J n m₁ nw → Fr h₀ L h m₁ → News h₀ L h nw → Q .next { s with heap := h, toks := tk }) :
    ∀ (k i : Nat) (m₁ : Str → Option Value) (nw : List (Addr × Obj)) (h : Heap) (tk : Nat), i + k = n → J i m₁ nw → Fr h₀ L h m₁ → News h₀ L h ((I, itR (a + (i : Int)) (k : Int)) :: nw) → (∀ p ∈ nw, p.1 ≠ I) →
      ForRest prog w A E env x px body Q (.ref I) { s with heap := h, toks := tk } := by
  intro k
  induction k with
  | zero =>
    intro i m₁ nw h tk hi j F N off
    have hi' : i = n := by omega
    subst hi'
    exact for_turn hE (iterR_done hh F N off fun h' tk' F' N' => fin m₁ nw h' tk' j F' N')
  | succ k ih =>
    intro i m₁ nw h tk hi j F N off
    refine for_turn hE (iterR_next hh F N off fun t h' tk' F' N' => ?_)
    refine wpAny_mono (step i t m₁ nw I _ { s with heap := h', toks := tk' } _ (by omega) j F' N' off ⟨fun _ _ x => x⟩) (fun _ s₂ h₂ => wpAny_mono h₂ (fun f s₃ h₃ => ?_) fun _ _ e => e) fun _ _ e => e
    obtain ⟨rfl, h₃', tk₃, m₃, nw₃, rfl, F₃, N₃, off₃, j₃⟩ := h₃
    have e : a + ((i + 1 : Nat) : Int) = a + (i : Int) + 1 := by omega
    exact ih (i + 1) m₃ nw₃ h₃' tk₃ (by omega) j₃ F₃ (by rw [e]; exact N₃) off₃
end
section
variable {prog : Program} {w : World} {A : Around} {E : Value → Shared → Prop} {s : Shared} {h₀ : Heap} {L l l' : Addr} {m : Str → Option Value} {news : List (Addr × Obj)} {vs vs' : List Value} {ns ns' : List Int} {n n' : Nat} {Q : Value → Shared → Prop}
theorem newList_I (F : Fr h₀ L s.heap m) (N : News h₀ L s.heap news) (hi : IntsAre vs ns)
    (h : ∀ l h' vs', IntsAre vs' ns → Fr h₀ L h' m → News h₀ L h' ((l, listOf vs'.toArray 0) :: news) → (∀ p ∈ news, p.1 < l) → Q (.ref l) { s with heap := h' }) (hsz : vs.length ≤ sizeLine) : wpAny (model prog w) A (newList vs) Q E s :=
  newList_K F N (fun l h' F' N' o => h l h' vs hi F' N' o) hsz
theorem len_I (N : News h₀ L s.heap news) (hm : (l, listOf vs.toArray n) ∈ news) (hi : IntsAre vs ns) (hfit : ns.length < 2 ^ 62) (h : ∀ t tk, Q (.int ns.length t) { s with toks := tk }) : wpAny (model prog w) A (call (.builtin "len") [.ref l]) Q E s :=
  len_ints_fit (N.isList hm) hi hfit (h _ _)
theorem add_I (F : Fr h₀ L s.heap m) (N : News h₀ L s.heap news) (hm : (l, listOf vs.toArray n) ∈ news) (hm' : (l', listOf vs'.toArray n') ∈ news) (hi : IntsAre vs ns) (hi' : IntsAre vs' ns') (hsz : ns.length + ns'.length ≤ sizeLine)
    (h : ∀ l h' us, IntsAre us (ns ++ ns') → Fr h₀ L h' m → News h₀ L h' ((l, listOf us.toArray 0) :: news) → (∀ p ∈ news, p.1 < l) → Q (.ref l) { s with heap := h' }) : wpAny (model prog w) A (binaryOp .Add (.ref l) (.ref l')) Q E s :=
  add_lists_ints (hsz := hsz) (vs := vs) (ws := vs') F N (N.isList hm) (N.isList hm') hi hi' fun h' F' N' hj => h _ h' _ hj F' N' fun p hp => Heap.lt_size (N p hp).1
end
local macro_rules | `(tactic| k_lt $h:ident) => `(tactic| skip)
local macro_rules | `(tactic| k_steps) => `(tactic| k_extra "K_STEPS")
local macro_rules | `(tactic| k_mem) => `(tactic| k_extra "K_MEM")
local macro_rules | `(tactic| k_all) => `(tactic| k_extra "K_ALL")
local macro_rules | `(tactic| k_ne) => `(tactic| k_extra "K_NE")
section
variable {prog : Program} {w : World} {A₀ A : Around} {s : Shared} {base h₀ : Heap} {outer : List Env} {L : Addr} {m : Str → Option Value} {env : Env} {K : Frag} {p : Program} {loose : List Str} {mean : ExcName → Option Value} {mg mb : Str → Option Value}
  {R : Result → Shared → Prop} {name qual : Str} {params : Arguments} {body : List Stmt} {scope : Scope} {dV kV doc pm cdv ct oc : Value} {an od : Option Addr} {osl : Array (Option Value)} {f : Addr} {args : Args} {binds : List (Str × Value)} {news hid : List (Addr × Obj)}
theorem con_callM (m₀ : Str → Option Value) (B : Below A₀ base outer h₀) (F : Fr h₀ L s.heap m) (X₀ : K.In h₀) (N : News h₀ L s.heap news) (T : Top p loose mean mg mb h₀) (hs : ∀ p ∈ hid, p ∈ news) (hA : A.frames = some (env :: outer)) (hf : env.frame = some L) (hke : env.scope.kind = .function)
    (ho : K.lookup f = some ⟨oc, od, .func (fnOf name qual params body scope dV kV doc pm an cdv ct), osl⟩) (hcd : codeIn K cdv qual = true) (hroom : A.depth < recursionLimit)
    (hbind : BindsTo s (fnOf name qual params body scope dV kV doc pm an cdv ct) args binds) (hloc : ∀ y ∈ binds, scope.names.lookup y.1 = some .local) (hm₀ : (fun y => binds.reverse.lookup y) = m₀)
    (h : ∀ g L' h₁, Fr g L' h₁ m₀ → News g L' h₁ hid → Below A base (env :: outer) g → K.In g → Top p loose mean mg mb g → GOut s.heap g hid → (∀ p ∈ hid, p.1 < L') →
      wpAny (model prog w) (A.deeper (envOf qual scope L' f cdv)) (execs body (envOf qual scope L' f cdv))
        (fun fl s' => R (.ok (.ret (match fl with | .ret v => v | _ => .none))) s')
        (fun e s' => wpAny (model prog w) (A.deeper (envOf qual scope L' f cdv)) (leaving (envOf qual scope L' f cdv) e) (fun _ s'' => R (.error e) s'') (fun e' s'' => R (.error e') s'') s')
        { s with heap := h₁, toks := s.toks + binds.length })
    (hco : scope.isCoroutine = false) (hgen : scope.isGenerator = false) (hk : scope.kind = .function) (hcell : ∀ x ∈ scope.names, x.2 ≠ .cell) : codeAny (model prog w) A (.call (.ref f) args) R s := by
  subst hm₀
  exact con_call B F X₀ N T hs hA hf hke ho hcd hroom hbind hloc h hco hgen hk hcell
theorem con_callCM (m₀ c₀ : Str → Option Value) (B : Below A₀ base outer h₀) (F : Fr h₀ L s.heap m) (X₀ : K.In h₀) (N : News h₀ L s.heap news) (T : Top p loose mean mg mb h₀) (hs : ∀ p ∈ hid, p ∈ news) (hA : A.frames = some (env :: outer)) (hf : env.frame = some L) (hke : env.scope.kind = .function)
    (ho : K.lookup f = some ⟨oc, od, .func (fnOf name qual params body scope dV kV doc pm an cdv ct), osl⟩) (hcd : codeIn K cdv qual = true) (hroom : A.depth < recursionLimit)
    (hbind : BindsTo s (fnOf name qual params body scope dV kV doc pm an cdv ct) args binds) (hkind : (binds.all fun y => scope.names.lookup y.1 == some .local || scope.names.lookup y.1 == some .cell) = true)
    (hnd : ((cellsFrom 0 scope.names []).map (·.1)).Nodup) (hm₀ : ∀ L', bindL (envOfC qual scope L' f cdv).kindOf binds (fun _ => none) = m₀) (hc₀ : ∀ L', bindC (envOfC qual scope L' f cdv).kindOf binds (fun _ => none) = c₀)
    (h : ∀ g L' h₁ tk cells, Fr g L' h₁ m₀ → News g L' h₁ (cells ++ hid) →
      CellsAre c₀ (cellsFrom (L' + 1) scope.names []) cells → Below A base (env :: outer) g → K.In g → Top p loose mean mg mb g → GOut s.heap g hid → (∀ p ∈ hid, p.1 < L') →
      wpAny (model prog w) (A.deeper (envOfC qual scope L' f cdv)) (execs body (envOfC qual scope L' f cdv))
        (fun fl s' => R (.ok (.ret (match fl with | .ret v => v | _ => .none))) s')
        (fun e s' => wpAny (model prog w) (A.deeper (envOfC qual scope L' f cdv)) (leaving (envOfC qual scope L' f cdv) e) (fun _ s'' => R (.error e) s'') (fun e' s'' => R (.error e') s'') s')
        { s with heap := h₁, toks := tk })
    (hco : scope.isCoroutine = false) (hgen : scope.isGenerator = false) (hk : scope.kind = .function) : codeAny (model prog w) A (.call (.ref f) args) R s := by
  exact con_callC B F X₀ N T hs hA hf hke ho hcd hroom hbind hkind hnd (fun g L' h₁ tk cells F' N' Y => h g L' h₁ tk cells (hm₀ L' ▸ F') N' (hc₀ L' ▸ Y)) hco hgen hk
end
noncomputable def lookM : List (Str × Value) → Str → Option Value
  | [], _ => none
  | (x, v) :: r, y => if y = x then some v else lookM r y
theorem lookM_eq : ∀ (l : List (Str × Value)), (fun y => l.lookup y) = lookM l
  | [] => rfl
  | (x, v) :: r => funext fun y => by
    have ih := congrFun (lookM_eq r) y
    by_cases h : y = x
    · subst h; simp [List.lookup, lookM]
    · have hb : (y == x) = false := by simpa using h
      simp only [List.lookup, hb, lookM, if_neg h]; exact ih
inductive RowAt (vs : List Value) (r : List Int) (news : List (Addr × Obj)) (k : Nat) : Prop
  | mk : ∀ a v n, vs[k]? = some (.ref a) → (a, listOf v.toArray n) ∈ news → IntsAre v r → RowAt vs r news k
noncomputable def RowsIn (vs : List Value) (R : Nat → List Int) (news : List (Addr × Obj)) : Prop := ∀ k, k < 5 → RowAt vs (R k) news k
theorem RowsIn.mono {vs : List Value} {R R' : Nat → List Int} {news news' : List (Addr × Obj)} (h : RowsIn vs R news) (e : ∀ k, k < 5 → R k = R' k) (sub : ∀ p ∈ news, p ∈ news') : RowsIn vs R' news' := fun k hk =>
  let ⟨a, v, n, h1, h2, h3⟩ := h k hk
  ⟨a, v, n, h1, sub _ h2, e k hk ▸ h3⟩
theorem item_val {prog : Program} {w : World} {A : Around} {E : Value → Shared → Prop} {s : Shared} {h₀ : Heap} {L l : Addr} {news : List (Addr × Obj)} {value slice : PySem.Expr} {vs : List Value} {n : Nat} {k : Int} {u : Tok} {v : Value} {Q : Value → Shared → Prop}
    (N : News h₀ L s.heap news) (hm : (l, listOf vs.toArray n) ∈ news) (h0 : 0 ≤ k) (h2 : k < 2 ^ 63) (hv : vs[k.toNat]? = some v) (h : Q v s)
    (hs : subscripted slice false (.ref l) (.int k u) = operate [.ref l, .int k u] (getItem (.ref l) (.int k u)) := by with_unfolding_all rfl) :
    wpAny (model prog w) A (subscriptTail value slice (.ref l) (.int k u)) Q E s :=
  tail_any (N.isList hm).typeIs slot_list_getitem.lookup (wpAny_getItem_list (N.isList hm) h0 h2 (by simpa using hv) h) hs
theorem item_row {prog : Program} {w : World} {A : Around} {E : Value → Shared → Prop} {s : Shared} {h₀ : Heap} {L l : Addr} {news nws : List (Addr × Obj)} {value slice : PySem.Expr} {vs : List Value} {R : Nat → List Int} {n : Nat} {k : Int} {u : Tok} {Q : Value → Shared → Prop}
    (N : News h₀ L s.heap news) (hm : (l, listOf vs.toArray n) ∈ news) (hR : RowsIn vs R nws) (hb : 0 ≤ k ∧ k < 5) (h : ∀ a v n, (a, listOf v.toArray n) ∈ nws → IntsAre v (R k.toNat) → Q (.ref a) s)
    (hs : subscripted slice false (.ref l) (.int k u) = operate [.ref l, .int k u] (getItem (.ref l) (.int k u)) := by with_unfolding_all rfl) :
    wpAny (model prog w) A (subscriptTail value slice (.ref l) (.int k u)) Q E s := by
  obtain ⟨a, v, n', e, hm', hi⟩ := hR k.toNat (by omega)
  exact item_val N hm hb.1 (by omega) e (h a v n' hm' hi) hs
theorem rowsIn5 {a0 a1 a2 a3 a4 : Addr} {n0 n1 n2 n3 n4 : Nat} {v0 v1 v2 v3 v4 : List Value} {R : Nat → List Int} {nws : List (Addr × Obj)} (i0 : IntsAre v0 (R 0)) (i1 : IntsAre v1 (R 1)) (i2 : IntsAre v2 (R 2)) (i3 : IntsAre v3 (R 3)) (i4 : IntsAre v4 (R 4))
    (m0 : (a0, listOf v0.toArray n0) ∈ nws) (m1 : (a1, listOf v1.toArray n1) ∈ nws) (m2 : (a2, listOf v2.toArray n2) ∈ nws) (m3 : (a3, listOf v3.toArray n3) ∈ nws) (m4 : (a4, listOf v4.toArray n4) ∈ nws) :
    RowsIn [.ref a0, .ref a1, .ref a2, .ref a3, .ref a4] R nws := by
  intro k hk
  match k, hk with
  | 0, _ => exact ⟨_, _, _, rfl, m0, i0⟩
  | 1, _ => exact ⟨_, _, _, rfl, m1, i1⟩
  | 2, _ => exact ⟨_, _, _, rfl, m2, i2⟩
  | 3, _ => exact ⟨_, _, _, rfl, m3, i3⟩
  | 4, _ => exact ⟨_, _, _, rfl, m4, i4⟩
noncomputable def Stop5 (pz5 : Prop) : Prop := pz5
theorem stop5 {pz5 : Prop} (h : Stop5 pz5) : pz5 := h
noncomputable def accS : Nat → Str
  | 0 => Str.ofString ""
  | j + 1 => accS j ++ Str.ofString "\""
noncomputable def resS (n : Nat) : Str := if n % 2 = 0 then accS (n / 2) ++ Str.ofString "k" else accS (n / 2)
structure PS (S : Str) (n : Nat) : Prop where
  le : n ≤ 6
  pre : (Txt.slice S none (some 3) != Str.ofString "257") = false
  quo : (Txt.slice S (some 3) (some 5) != Str.ofString " \"") = false
  len : S.length = n + 6
  mark : ∀ i : Nat, i < n → Txt.item S (5 + (i : Int)) = Str.ofString "\""
  fin : Txt.item S (5 + (n : Int)) = Str.ofString "k"
section
variable {prog : Program} {w : World} {A : Around} {E : Value → Shared → Prop} {s : Shared} {x y : Str} {t u : Tok} {Q : Value → Shared → Prop} {k : Bool}
theorem ne_known (hk : (x != y) = k) (h : Q (.bool k) s) : wpAny (model prog w) A (compareOp .NotEq (.str x t) (.str y u)) Q E s := ne_str (by rw [hk]; exact h)
theorem eqs_known (hk : (x == y) = k) (h : Q (.bool k) s) : wpAny (model prog w) A (compareOp .Eq (.str x t) (.str y u)) Q E s := eq_str (by rw [hk]; exact h)
theorem len_S {n : Nat} (hl : x.length = n + 6) (hn : n ≤ 6) (h : ∀ t tk, Q (.int ((n : Int) + 6) t) { s with toks := tk }) : wpAny (model prog w) A (call (.builtin "len") [.str x t]) Q E s := SBL.len (by rw [hl]; omega) (by
  have e : (x.length : Int) = (n : Int) + 6 := by rw [hl]; omega
  rw [e]; exact h _ _)
theorem item_S {S : Str} {n j : Nat} {i : Int} {value slice : PySem.Expr} {c : Str} (hl : S.length = n + 6) (hn : n ≤ 6) (e : i = 5 + (j : Int)) (hj : j ≤ n) (hc : Txt.item S (5 + (j : Int)) = c) (h : ∀ t tk, Q (.str c t) { s with toks := tk })
    (hs : subscripted slice false (.str S t) (.int i u) = operate [.str S t, .int i u] (getItem (.str S t) (.int i u)) := by with_unfolding_all rfl)
    (ht : ∀ r, letTemporaryGo value (.str S t) r = pure () := by intro _; with_unfolding_all rfl) : wpAny (model prog w) A (subscriptTail value slice (.str S t) (.int i u)) Q E s := by
  refine item_str ?_ ?_ ?_ (fun _ => ?_) hs ht
  · have h1 : 0 ≤ i := by omega
    have h2 : i < 100 := by omega
    unfold fitsSsize
    rw [decide_eq_false (by omega), decide_eq_false (by omega)]; rfl
  · rw [hl]; omega
  · rw [hl]; omega
  · rw [e, hc]; exact h _ _
theorem lt_known {a b : Int} (hk : decide (a < b) = k) (h : Q (.bool k) s) : wpAny (model prog w) A (compareOp .Lt (.int a t) (.int b u)) Q E s := lt_int (by rw [hk]; exact h)
theorem ge_known {a b : Int} (hk : decide (a ≥ b) = k) (h : Q (.bool k) s) : wpAny (model prog w) A (compareOp .GtE (.int a t) (.int b u)) Q E s := ge_int (by rw [hk]; exact h)
end
theorem whl_ind {prog : Program} {w : World} {A : Around} {E : Value → Shared → Prop} {s : Shared} {env : Env} {test : PySem.Expr} {body orelse : List Stmt} {Q : Flow → Shared → Prop} {k : Nat} {h₀ : Heap} {L : Addr} {m₀ : Str → Option Value} (J : Nat → (Str → Option Value) → Prop) (N : Nat) (hj : J 0 m₀) (F : Fr h₀ L s.heap m₀)
    (step : ∀ i m h tk, i ≤ N → J i m → Fr h₀ L h m → (∀ m' h' tk', i < N → J (i + 1) m' → Fr h₀ L h' m' → WhlRest prog w A E env test body orelse Q k { s with heap := h', toks := tk' }) → WhlRest prog w A E env test body orelse Q (k + 1) { s with heap := h, toks := tk }) :
    WhlRest prog w A E env test body orelse Q (k + 1) s := by
  have key : ∀ d i m h tk, i + d = N → J i m → Fr h₀ L h m → WhlRest prog w A E env test body orelse Q (k + 1) { s with heap := h, toks := tk } := by
    intro d
    induction d with
    | zero => exact fun i m h tk e j f => step i m h tk (by omega) j f fun _ _ _ lt _ _ => absurd lt (by omega)
    | succ d ih => exact fun i m h tk e j f => step i m h tk (by omega) j f fun m' h' tk' _ j' f' => ih (i + 1) m' h' tk' (by omega) j' f'
  exact key N 0 m₀ s.heap s.toks (by omega) hj F
noncomputable def pM (S : Str) (n j : Nat) (t1 tn ti td : Tok) (c : Option Value) : Str → Option Value := fun y => if y = Str.ofString "dirname" then some (.str (accS j) td) else if y = Str.ofString "i" then some (.int (5 + ((2 * j : Nat) : Int)) ti) else if y = Str.ofString "c" then c else if y = Str.ofString "n" then some (.int ((n : Int) + 6) tn) else if y = Str.ofString "resp" then some (.str S t1) else none
theorem pM_start (S : Str) (n : Nat) (t1 tn ti td : Tok) : (fun y => if y = Str.ofString "n" then some (Value.int ((n : Int) + 6) tn) else if y = Str.ofString "i" then some (Value.int 5 ti) else if y = Str.ofString "dirname" then some (Value.str (Str.ofString "") td) else if y = Str.ofString "resp" then some (Value.str S t1) else none) = pM S n 0 t1 tn ti td none := funext fun y => by
  unfold pM
  by_cases h1 : y = Str.ofString "dirname"
  · subst h1; rfl
  · by_cases h2 : y = Str.ofString "i"
    · subst h2; rfl
    · by_cases h3 : y = Str.ofString "c"
      · subst h3; rfl
      · simp only [if_neg h1, if_neg h2, if_neg h3]
inductive pJ (S : Str) (n : Nat) (t1 : Tok) (j : Nat) (m : Str → Option Value) : Prop
  | mk : ∀ tn ti td c, (m = pM S n j t1 tn ti td c) → pJ S n t1 j m
theorem acc_len : ∀ j, (accS j).length = j
  | 0 => rfl
  | j + 1 => by
    show (accS j ++ Str.ofString "\"").length = j + 1
    rw [Str.length_append, acc_len j]; rfl
theorem acc_sz {j : Nat} {c : Str} (h : j ≤ 6) (hc : c.length = 1 := by decide +kernel) : (accS j).length + c.length ≤ sizeLine := by
  rw [acc_len, hc, sizeLine_eq]; omega
theorem pM_upd1 (S : Str) (n j : Nat) (t1 tn ti td : Tok) (c : Option Value) (i1 i2 : Int) (u1 u2 td' : Tok) (c' : Value) (e : i1 = 5 + ((2 * (j + 1) : Nat) : Int)) : (fun y => if y = Str.ofString "dirname" then some (Value.str (accS j ++ Str.ofString "\"") td') else if y = Str.ofString "i" then some (Value.int i1 u1) else if y = Str.ofString "i" then some (Value.int i2 u2) else if y = Str.ofString "c" then some c' else pM S n j t1 tn ti td c y) = pM S n (j + 1) t1 tn u1 td' (some c') := funext fun y => by
  subst e
  unfold pM
  by_cases h1 : y = Str.ofString "dirname"
  · simp only [if_pos h1]; rfl
  · by_cases h2 : y = Str.ofString "i"
    · simp only [if_neg h1, if_pos h2]
    · by_cases h3 : y = Str.ofString "c"
      · simp only [if_neg h1, if_neg h2, if_pos h3]
      · simp only [if_neg h1, if_neg h2, if_neg h3]
set_option maxHeartbeats 4000000 in
theorem parseS_con (w : World) (mean : ExcName → Option Value) (mg mb : Str → Option Value) (S : Str) (n : Nat) (t1 : Tok) (hS : PS S n) :
    ConV w mean mg mb 74 [.str S t1] 1 [] (fun r => ∃ t, r = .str (resS n) t) := by
  obtain ⟨hle, hpre, hquo, hlen, hmark, hfin⟩ := hS
  have hsz : S.length ≤ sizeLine := by rw [hlen, sizeLine_eq]; omega
  w_on
  k_with_none
  k_with "K_STEPS" => (repeat' (first | (k_unfold; (try dsimp only)) | (k_end; wrow_close) | walk1 | (dsimp only; walk1) | (leave1; walk_say "STEP leave1"; try dsimp only) | ((try dsimp only); refine' CEnd.go ?eH _ _ _ ?eF ?eN ?eP; (case eH => with_reducible assumption); (case eF => k_asm); (case eN => k_asm); (case eP => (first | exact intV | exact intVc (by with_reducible assumption) | k_extra "END9"))) | ((try dsimp only); refine' CNo.go ?eH _ _ ?eF ?eN ?eP; (case eH => with_reducible assumption); (case eF => k_asm); (case eN => k_asm); (case eP => (first | with_reducible assumption | k_extra "NO9"))) | (k_extra "STEP9") | fail "no step"))
  k_with "K_MEM" => ((with_reducible ((repeat (first | exact List.mem_cons_self | refine List.mem_cons_of_mem _ ?_ | assumption)); done)))
  k_with "K_ALL" => (first | exact List.forall_mem_nil _ | (with_reducible assumption) | (refine List.forall_mem_cons.mpr ⟨by k_ne, ?_⟩; k_all) | (refine tl_lt (by with_reducible assumption) ?_; (repeat (first | exact sub_rfl | refine sub_tl ?_)); done) | (refine tl_off (by with_reducible assumption) ?_; (repeat (first | exact sub_rfl | refine sub_tl ?_)); done) | (refine tl_one (by with_reducible assumption) ?_; (repeat (first | exact sub_rfl | refine sub_tl ?_)); done) | (refine tl_I (by with_reducible assumption) ?_; (repeat (first | exact sub_rfl | refine sub_tl ?_)); done) | (refine tl_C (by with_reducible assumption) ?_; (repeat (first | exact sub_rfl | refine sub_tl ?_)); done) | (refine tl_D (by with_reducible assumption) ?_; (repeat (first | exact sub_rfl | refine sub_tl ?_)); done) | (refine tl_c1 (by with_reducible assumption) ?_; (repeat (first | exact sub_rfl | refine sub_tl ?_)); done) | (refine tl_c2 (by with_reducible assumption) ?_; (repeat (first | exact sub_rfl | refine sub_tl ?_)); done) | (refine tl_c3 (by with_reducible assumption) ?_; (repeat (first | exact sub_rfl | refine sub_tl ?_)); done))
  k_with "K_NE" => ((refine neN ?_; (try dsimp only); first | with_reducible assumption | (refine Ne.symm ?_; with_reducible assumption) | exact Nat.ne_of_lt (by with_reducible assumption) | exact Nat.ne_of_gt (by with_reducible assumption) | (refine off_a ?_; first | (refine ne_lt (by with_reducible assumption) ?_; (repeat (first | exact at_hd | refine at_tl ?_)); done) | (refine ne_off (by with_reducible assumption) ?_; (repeat (first | exact at_hd | refine at_tl ?_)); done) | (refine ne_one (by with_reducible assumption) ?_; (repeat (first | exact at_hd | refine at_tl ?_)); done) | (refine ne_I (by with_reducible assumption) ?_; (repeat (first | exact at_hd | refine at_tl ?_)); done) | (refine ne_C (by with_reducible assumption) ?_; (repeat (first | exact at_hd | refine at_tl ?_)); done) | (refine ne_D (by with_reducible assumption) ?_; (repeat (first | exact at_hd | refine at_tl ?_)); done)) | (refine off_a ?_; first | (refine ne_c1 (by with_reducible assumption) ?_; (repeat (first | exact at_hd | refine at_tl ?_)); done) | (refine ne_c2 (by with_reducible assumption) ?_; (repeat (first | exact at_hd | refine at_tl ?_)); done) | (refine ne_c3 (by with_reducible assumption) ?_; (repeat (first | exact at_hd | refine at_tl ?_)); done) | (refine ne_c4 (by with_reducible assumption) ?_; (repeat (first | exact at_hd | refine at_tl ?_)); done)) | (refine off_b ?_; first | (refine ne_c1 (by with_reducible assumption) ?_; (repeat (first | exact at_hd | refine at_tl ?_)); done) | (refine ne_c2 (by with_reducible assumption) ?_; (repeat (first | exact at_hd | refine at_tl ?_)); done) | (refine ne_c3 (by with_reducible assumption) ?_; (repeat (first | exact at_hd | refine at_tl ?_)); done) | (refine ne_c4 (by with_reducible assumption) ?_; (repeat (first | exact at_hd | refine at_tl ?_)); done)) | (refine off_b ?_; first | (refine ne_lt (by with_reducible assumption) ?_; (repeat (first | exact at_hd | refine at_tl ?_)); done) | (refine ne_off (by with_reducible assumption) ?_; (repeat (first | exact at_hd | refine at_tl ?_)); done) | (refine ne_one (by with_reducible assumption) ?_; (repeat (first | exact at_hd | refine at_tl ?_)); done) | (refine ne_I (by with_reducible assumption) ?_; (repeat (first | exact at_hd | refine at_tl ?_)); done) | (refine ne_C (by with_reducible assumption) ?_; (repeat (first | exact at_hd | refine at_tl ?_)); done) | (refine ne_D (by with_reducible assumption) ?_; (repeat (first | exact at_hd | refine at_tl ?_)); done)) | omega))
  k_with "WhlRest" => (first
    | ((fail_if_success (with_reducible show WhlRest _ _ _ _ _ _ _ _ _ 7 _)); (refine stop5 ?_)))
  k_with "subscriptTail Name Slice str ref" => (first
    | ((with_reducible show wpAny _ _ (subscriptTail _ (PySem.Expr.Slice (some _) (some _) none _) _ _) _ _ _); (with_reducible rename Fr _ _ _ _ => F'); (refine slice_str_ss (hsz := ?hsz) (s := ⟨_, _, _, _, _⟩) F' ?_); (case hsz => with_reducible assumption); intro _ _ _ _)
    | ((with_reducible show wpAny _ _ (subscriptTail _ (PySem.Expr.Slice none (some _) none _) _ _) _ _ _); (with_reducible rename Fr _ _ _ _ => F'); (refine slice_str_ns (hsz := ?hsz) (s := ⟨_, _, _, _, _⟩) F' ?_); (case hsz => with_reducible assumption); intro _ _ _ _))
  k_with "compareOp NotEq str str" => (first
    | (refine ne_known (by first | with_reducible assumption | decide +kernel) ?_))
  k_with "compareOp Eq str str" => (first
    | (refine eqs_known (by decide +kernel) ?_))
  k_with "compareOp Lt int int" => (first
    | (refine lt_known (by first | with_reducible assumption | exact decide_eq_true (by omega) | exact decide_eq_false (by omega)) ?_))
  k_with "compareOp GtE int int" => (first
    | (refine ge_known (by first | with_reducible assumption | exact decide_eq_true (by omega) | exact decide_eq_false (by omega)) ?_))
  k_with "call builtin:len" => (first
    | (refine len_S (by with_reducible assumption) (by with_reducible assumption) ?_; intro t' tk'))
  k_with "subscriptTail Name Name str int" => (first
    | (k_extra "Item5"))
  k_with "binaryOp Add str str" => (first
    | (k_dflt (refine PyProof.Rows.add_str (hsz := ?hz) ?_; (case hz => exact acc_sz (by omega))); intro t' tk'))
  unfold ConV
  k_fill
  intro dp un gd cn cs a ccd cl outer A₀ base h₀ L m news s Q E B F X N T hk hhid hd hu hret
  refine wpAny_call ?_
  k_dflt (refine' con_callM (fun y => if y = Str.ofString "resp" then some (.str S t1) else none) ?k1 ?k2 ?k3 ?k4 ?k5 ?kH ?kA ?kF ?kK ?k6 ?k7 ?k8 ?k9 ?kB ?km ?_ ?c2 ?c3 ?c4 ?c5; (case kA => exact rfl); (case kF => exact rfl); (case kK => assumption); (case k1 => assumption); (case k2 => assumption); (case k3 => assumption); (case k4 => assumption); (case k5 => assumption); (case kH => assumption); (case k6 => k_is); (case k7 => k_is); (case k8 => ktr_room); (case k9 => exact BindsTo.of_eq rfl); (case c5 => decide); (case kB => exact locs rfl); (case km => exact (lookM_eq _).trans (by with_unfolding_all rfl)); (case c2 => exact rfl); (case c3 => exact rfl); (case c4 => exact rfl); k_whole; intro g' L' h' F' N' B' X' T' G' l1'; (refine anyQ (Q0 := Q) ?hq9 ?_; (case hq9 => (intro v9 s9 h9; exact h9)); intro Q9 hQ9); (refine noE ?_); (refine letEA ?_); (intro e9 A9); (try dsimp only); (try k_fold))
  k_steps
  unfold Stop5
  k_dflt (refine' whl_ind (k := 6) (pJ S n t1) (n / 2) ?hj (by k_asm) ?step)
  case hj => exact ⟨_, _, _, none, pM_start _ _ _ _ _ _⟩
  case step =>
    intro j m1 h tk hj hJ F1 IH
    obtain ⟨tn, ti, td, c, rfl⟩ := hJ
    have N1 : News g' L' h [] := fun p hp => nomatch hp
    refine whl_turn PassesOwn.never ?_
    k_with "Item5" => (first
      | ((refine' item_S hlen hle ?ze ?zj hA ?_; (case ze => omega); (case zj => omega)); intro t5 tk5)
      | ((refine' item_S hlen hle ?ze ?zj hB ?_; (case ze => omega); (case zj => omega)); intro t5 tk5))
    by_cases h2 : 2 * j < n
    · have hA := hmark (2 * j) h2
      by_cases h3 : 2 * j + 1 < n
      · have hB := hmark (2 * j + 1) h3
        k_steps
        unfold Stop5
        refine' IH _ _ _ (by omega) ?jj ?ff
        case ff => k_asm
        case jj => exact ⟨_, _, _, _, pM_upd1 _ _ _ _ _ _ _ _ _ _ _ _ _ _ (by omega)⟩
      · have e : 2 * j + 1 = n := by omega
        have hB : Txt.item S (5 + ((2 * j + 1 : Nat) : Int)) = Str.ofString "k" := by rw [e]; exact hfin
        k_steps
        (try dsimp only)
        k_steps
        (try refine hQ9 _ _ ?_); (try dsimp only); (try k_unfold); (try dsimp only)
        ((try refine hQ9 _ _ ?_); refine' retV F N hret G' ?yf ?yn ?ys ?yp; (case yf => k_asm); (case yn => k_asm); (case ys => kcf_all))
        exact ⟨td, by unfold resS; rw [if_neg (by omega), show n / 2 = j by omega]⟩
    · have e : 2 * j = n := by omega
      have hA : Txt.item S (5 + ((2 * j : Nat) : Int)) = Str.ofString "k" := by rw [e]; exact hfin
      have hB := hA
      k_steps
      unfold Stop5
      refine whl_turn PassesOwn.never ?_
      k_steps
      (try dsimp only)
      k_steps
      (try refine hQ9 _ _ ?_); (try dsimp only); (try k_unfold); (try dsimp only)
      ((try refine hQ9 _ _ ?_); refine' retV F N hret G' ?zf ?zn ?zs ?zp; (case zf => k_asm); (case zn => k_asm); (case zs => kcf_all))
      exact ⟨_, by unfold resS; rw [if_pos (by omega), show n / 2 = j by omega]⟩
noncomputable def qS (n : Nat) : Str := Txt.mul (Str.ofString "\"") n
noncomputable def aS (n : Nat) : Str := Str.ofString "257 \"" ++ qS n
noncomputable def wS (n : Nat) : Str := aS n ++ Str.ofString "k"
theorem ps_all : ∀ n, n < 7 → (Txt.slice (wS n) none (some 3) != Str.ofString "257") = false ∧ (Txt.slice (wS n) (some 3) (some 5) != Str.ofString " \"") = false ∧ (wS n).length = n + 6 ∧ (∀ i : Nat, i < n → Txt.item (wS n) (5 + (i : Int)) = Str.ofString "\"") ∧ Txt.item (wS n) (5 + (n : Int)) = Str.ofString "k" := by decide +kernel
theorem parseM_con (w : World) (mean : ExcName → Option Value) (mg mb : Str → Option Value) (n : Nat) (t1 : Tok) (hn : n < 7) : ConV w mean mg mb 74 [.str (wS n) t1] 1 [] (fun r => ∃ t, r = .str (resS n) t) :=
  have h := ps_all n hn
  parseS_con w mean mg mb _ _ t1 ⟨Nat.le_of_lt_succ hn, h.1, h.2.1, h.2.2.1, h.2.2.2.1, h.2.2.2.2⟩
theorem len_all : ∀ n, n < 7 → (qS n).length ≤ 6 ∧ (aS n).length ≤ 11 ∧ (resS n).length ≤ 7 := by decide +kernel
/-- the last sign of what is read, and the parity of the marks -/
inductive Par9 (n : Nat) (q : Int) : Prop
  | yes : (Txt.slice (resS n) (some (-1)) none != Str.ofString "k") = true → q = 1 → Par9 n q
  | no : (Txt.slice (resS n) (some (-1)) none != Str.ofString "k") = false → q = 0 → Par9 n q
theorem par_all : ∀ n, n < 7 → (Txt.slice (resS n) (some (-1)) none != Str.ofString "k") = (Int.fmod n 2 == 1) ∧ ((Int.fmod n 2 == 1) = false → Int.fmod n 2 = 0) := by decide +kernel
theorem par9 {n : Nat} {q : Int} (hn : n < 7) (hq : q = Int.fmod n 2) : Par9 n q := by
  subst hq
  have h := par_all n hn
  cases e : (Int.fmod n 2 == 1)
  · exact .no (h.1.trans e) (h.2 e)
  · exact .yes (h.1.trans e) (eq_of_beq e)
section
variable {prog : Program} {w : World} {A : Around} {E : Value → Shared → Prop} {s : Shared} {t u : Tok} {Q : Value → Shared → Prop} {n : Nat}
theorem mul_q {x : Int} (hx : x = (n : Int)) (hn : n < 7) (h : ∀ t' k, Q (.str (qS n) t') { s with toks := k }) : wpAny (model prog w) A (binaryOp .Mult (.str (Str.ofString "\"") t) (.int x u)) Q E s := by
  subst hx
  exact SB.mul (mulOk_of 16 1048576 (by decide +kernel) (by omega) (by omega) (by decide) (by decide)) h
theorem sz_line {a : Nat} (h : a ≤ 100) : a ≤ sizeLine := Nat.le_trans h (by rw [sizeLine_eq]; decide)
theorem add_q (hn : n < 7) (h : ∀ t' k, Q (.str (aS n) t') { s with toks := k }) : wpAny (model prog w) A (binaryOp .Add (.str (Str.ofString "257 \"") t) (.str (qS n) u)) Q E s :=
  PyProof.Rows.add_str h (sz_line (Nat.add_le_add (show (Str.ofString "257 \"").length ≤ 94 by decide +kernel) (len_all n hn).1))
theorem add_k (hn : n < 7) (h : ∀ t' k, Q (.str (wS n) t') { s with toks := k }) : wpAny (model prog w) A (binaryOp .Add (.str (aS n) t) (.str (Str.ofString "k") u)) Q E s :=
  PyProof.Rows.add_str h (sz_line (Nat.le_trans (Nat.add_le_add (len_all n hn).2.1 (show (Str.ofString "k").length ≤ 1 by decide +kernel)) (by decide)))
end
noncomputable def ltF (v c : UInt64) : UInt64 := if (Float64.cmp v c == some Ordering.lt) = true then c else v
noncomputable def gtF (v c : UInt64) : UInt64 := if (Float64.cmp v c == some Ordering.gt) = true then c else v
theorem same_m {h₀ h' : Heap} {L : Addr} {m : Str → Option Value} {x : Str} {v : Value} (hm : m x = some v) (F : Fr h₀ L h' m) : Fr h₀ L h' (fun y => if y = x then some v else m y) := by
  have e : (fun y => if y = x then some v else m y) = m := funext fun y => by
    by_cases h : y = x
    · rw [if_pos h, h, hm]
    · rw [if_neg h]
  rw [e]; exact F
theorem clamp_lt {prog : Program} {w : World} {A : Around} {E : Value → Shared → Prop} {s : Shared} {h₀ : Heap} {L a : Addr} {m : Str → Option Value} {news : List (Addr × Obj)} {cn x : Str} {cs : Scope} {ccd : Value} {cl : List (Str × Addr)} {v c : UInt64} {t : Tok} {Q : Flow → Shared → Prop} {p1 p2 p3 p4 p5 p6 p7 : Pos} {k1 k2}
    (F : Fr h₀ L s.heap m) (N : News h₀ L s.heap news) (hm : m x = some (.float v t)) (hk : cs.kind = .function) (hx : (envX cn cs L a ccd cl).kindOf x = some .local) (hd : (x == ("__debug__" : Str)) = false)
    (h : ∀ h' t' tk', let m9 := fun y => if y = x then some (.float (ltF v c) t') else m y; Fr h₀ L h' m9 → News h₀ L h' news → Q .next { s with heap := h', toks := tk' }) :
    wpAny (model prog w) A (exec (.If (.Compare (.Name x p1) [.Lt] [.Constant (.float c) k1 p2] p3) [.Assign [.Name x p4] (.Constant (.float c) k2 p5) p6] [] p7) (envX cn cs L a ccd cl)) Q E s := by
  refine wpAny_If (wpAny_isTrue_Compare1 (nameX_L F hm (PySem.wpAny_Constant_float (AutoFloatOps.lt_0 (wpAny_truthy_bool ?_))) hk hx hd))
  cases hc : (Float64.cmp v c == some Ordering.lt) with
  | true =>
    have e : ltF v c = c := if_pos hc
    exact wpAny_execs_cons (wpAny_Assign_Name (PySem.wpAny_Constant_float (storeX_L F N (fun h' F' N' => wpAny_execs_nil (h h' _ _ (by rw [e]; exact F') N')) hk hx)))
  | false =>
    have e : ltF v c = v := if_neg (by rw [hc]; decide)
    refine wpAny_execs_nil (h _ t _ ?_ N)
    rw [e]
    exact same_m hm F
theorem clamp_gt {prog : Program} {w : World} {A : Around} {E : Value → Shared → Prop} {s : Shared} {h₀ : Heap} {L a : Addr} {m : Str → Option Value} {news : List (Addr × Obj)} {cn x : Str} {cs : Scope} {ccd : Value} {cl : List (Str × Addr)} {v c : UInt64} {t : Tok} {Q : Flow → Shared → Prop} {p1 p2 p3 p4 p5 p6 p7 : Pos} {k1 k2}
    (F : Fr h₀ L s.heap m) (N : News h₀ L s.heap news) (hm : m x = some (.float v t)) (hk : cs.kind = .function) (hx : (envX cn cs L a ccd cl).kindOf x = some .local) (hd : (x == ("__debug__" : Str)) = false)
    (h : ∀ h' t' tk', let m9 := fun y => if y = x then some (.float (gtF v c) t') else m y; Fr h₀ L h' m9 → News h₀ L h' news → Q .next { s with heap := h', toks := tk' }) :
    wpAny (model prog w) A (exec (.If (.Compare (.Name x p1) [.Gt] [.Constant (.float c) k1 p2] p3) [.Assign [.Name x p4] (.Constant (.float c) k2 p5) p6] [] p7) (envX cn cs L a ccd cl)) Q E s := by
  refine wpAny_If (wpAny_isTrue_Compare1 (nameX_L F hm (PySem.wpAny_Constant_float (AutoFloatOps.gt_0 (wpAny_truthy_bool ?_))) hk hx hd))
  cases hc : (Float64.cmp v c == some Ordering.gt) with
  | true =>
    have e : gtF v c = c := if_pos hc
    exact wpAny_execs_cons (wpAny_Assign_Name (PySem.wpAny_Constant_float (storeX_L F N (fun h' F' N' => wpAny_execs_nil (h h' _ _ (by rw [e]; exact F') N')) hk hx)))
  | false =>
    have e : gtF v c = v := if_neg (by rw [hc]; decide)
    refine wpAny_execs_nil (h _ t _ ?_ N)
    rw [e]
    exact same_m hm F
noncomputable def yF (r g b : Int) : UInt64 := Float64.add (Float64.add (Float64.mul 4599075939470750515 (Float64.ofInt r)) (Float64.mul 4603489467105573601 (Float64.ofInt g))) (Float64.mul 4592590756007337001 (Float64.ofInt b))
noncomputable def iF (r g b : Int) : UInt64 := Float64.sub (Float64.mul 4604840546993784750 (Float64.sub (Float64.ofInt r) (yF r g b))) (Float64.mul 4598535507515466056 (Float64.sub (Float64.ofInt b) (yF r g b)))
noncomputable def qF (r g b : Int) : UInt64 := Float64.add (Float64.mul 4602318531202457272 (Float64.sub (Float64.ofInt r) (yF r g b))) (Float64.mul 4601057523306793533 (Float64.sub (Float64.ofInt b) (yF r g b)))
theorem small01 {r : Int} (h : r = 0 ∨ r = 1) : r.natAbs < 2 ^ 1023 := by
  rcases h with rfl | rfl <;> decide +kernel
set_option maxHeartbeats 4000000 in
theorem yiq_con (w : World) (mean : ExcName → Option Value) (mg mb : Str → Option Value) (r g b : Int) (t1 t2 t3 : Tok) (hr : r = 0 ∨ r = 1) (hg : g = 0 ∨ g = 1) (hb : b = 0 ∨ b = 1) :
    ConO w mean mg mb 21 [.int r t1, .int g t2, .int b t3] 1 [] (TupIs (yF r g b) (iF r g b) (qF r g b)) := by
  w_on
  k_with_none
  k_with "K_STEPS" => (repeat' (first | (k_unfold; (try dsimp only)) | (k_end; wrow_close) | walk1 | (dsimp only; walk1) | (leave1; walk_say "STEP leave1"; try dsimp only) | ((try dsimp only); refine' CEnd.go ?eH _ _ _ ?eF ?eN ?eP; (case eH => with_reducible assumption); (case eF => k_asm); (case eN => k_asm); (case eP => (first | exact intV | exact intVc (by with_reducible assumption) | k_extra "END9"))) | ((try dsimp only); refine' CNo.go ?eH _ _ ?eF ?eN ?eP; (case eH => with_reducible assumption); (case eF => k_asm); (case eN => k_asm); (case eP => (first | with_reducible assumption | k_extra "NO9"))) | (k_extra "STEP9") | fail "no step"))
  k_with "K_MEM" => ((with_reducible ((repeat (first | exact List.mem_cons_self | refine List.mem_cons_of_mem _ ?_ | assumption)); done)))
  k_with "K_ALL" => (first | exact List.forall_mem_nil _ | (with_reducible assumption) | (refine List.forall_mem_cons.mpr ⟨by k_ne, ?_⟩; k_all) | (refine tl_lt (by with_reducible assumption) ?_; (repeat (first | exact sub_rfl | refine sub_tl ?_)); done) | (refine tl_off (by with_reducible assumption) ?_; (repeat (first | exact sub_rfl | refine sub_tl ?_)); done) | (refine tl_one (by with_reducible assumption) ?_; (repeat (first | exact sub_rfl | refine sub_tl ?_)); done) | (refine tl_I (by with_reducible assumption) ?_; (repeat (first | exact sub_rfl | refine sub_tl ?_)); done) | (refine tl_C (by with_reducible assumption) ?_; (repeat (first | exact sub_rfl | refine sub_tl ?_)); done) | (refine tl_D (by with_reducible assumption) ?_; (repeat (first | exact sub_rfl | refine sub_tl ?_)); done) | (refine tl_c1 (by with_reducible assumption) ?_; (repeat (first | exact sub_rfl | refine sub_tl ?_)); done) | (refine tl_c2 (by with_reducible assumption) ?_; (repeat (first | exact sub_rfl | refine sub_tl ?_)); done) | (refine tl_c3 (by with_reducible assumption) ?_; (repeat (first | exact sub_rfl | refine sub_tl ?_)); done))
  k_with "K_NE" => ((refine neN ?_; (try dsimp only); first | with_reducible assumption | (refine Ne.symm ?_; with_reducible assumption) | exact Nat.ne_of_lt (by with_reducible assumption) | exact Nat.ne_of_gt (by with_reducible assumption) | (refine off_a ?_; first | (refine ne_lt (by with_reducible assumption) ?_; (repeat (first | exact at_hd | refine at_tl ?_)); done) | (refine ne_off (by with_reducible assumption) ?_; (repeat (first | exact at_hd | refine at_tl ?_)); done) | (refine ne_one (by with_reducible assumption) ?_; (repeat (first | exact at_hd | refine at_tl ?_)); done) | (refine ne_I (by with_reducible assumption) ?_; (repeat (first | exact at_hd | refine at_tl ?_)); done) | (refine ne_C (by with_reducible assumption) ?_; (repeat (first | exact at_hd | refine at_tl ?_)); done) | (refine ne_D (by with_reducible assumption) ?_; (repeat (first | exact at_hd | refine at_tl ?_)); done)) | (refine off_a ?_; first | (refine ne_c1 (by with_reducible assumption) ?_; (repeat (first | exact at_hd | refine at_tl ?_)); done) | (refine ne_c2 (by with_reducible assumption) ?_; (repeat (first | exact at_hd | refine at_tl ?_)); done) | (refine ne_c3 (by with_reducible assumption) ?_; (repeat (first | exact at_hd | refine at_tl ?_)); done) | (refine ne_c4 (by with_reducible assumption) ?_; (repeat (first | exact at_hd | refine at_tl ?_)); done)) | (refine off_b ?_; first | (refine ne_c1 (by with_reducible assumption) ?_; (repeat (first | exact at_hd | refine at_tl ?_)); done) | (refine ne_c2 (by with_reducible assumption) ?_; (repeat (first | exact at_hd | refine at_tl ?_)); done) | (refine ne_c3 (by with_reducible assumption) ?_; (repeat (first | exact at_hd | refine at_tl ?_)); done) | (refine ne_c4 (by with_reducible assumption) ?_; (repeat (first | exact at_hd | refine at_tl ?_)); done)) | (refine off_b ?_; first | (refine ne_lt (by with_reducible assumption) ?_; (repeat (first | exact at_hd | refine at_tl ?_)); done) | (refine ne_off (by with_reducible assumption) ?_; (repeat (first | exact at_hd | refine at_tl ?_)); done) | (refine ne_one (by with_reducible assumption) ?_; (repeat (first | exact at_hd | refine at_tl ?_)); done) | (refine ne_I (by with_reducible assumption) ?_; (repeat (first | exact at_hd | refine at_tl ?_)); done) | (refine ne_C (by with_reducible assumption) ?_; (repeat (first | exact at_hd | refine at_tl ?_)); done) | (refine ne_D (by with_reducible assumption) ?_; (repeat (first | exact at_hd | refine at_tl ?_)); done)) | omega))
  k_with "binaryOp Mult float int" => (first
    | ((with_reducible refine mul_fi_fits (small01 (by with_reducible assumption)) ?_); (try dsimp only)))
  k_with "binaryOp Sub int float" => (first
    | ((with_reducible refine sub_if_fits (small01 (by with_reducible assumption)) ?_); (try dsimp only)))
  k_with "exec If" => (first
    | (first
    | ((with_reducible show wpAny _ _ (exec (Stmt.If (Expr.Compare _ [CmpOp.Lt] _ _) _ _ _) _) _ _ _); k_dflt (refine' clamp_lt ?F ?N ?m rfl ?x ?d ?_; (case F => k_asm); (case N => k_asm); (case m => exact rfl); (case x => exact rfl); (case d => decide)); (intro h' t' tk' m' F' N'); (try k_sweep))
    | ((with_reducible show wpAny _ _ (exec (Stmt.If (Expr.Compare _ [CmpOp.Gt] _ _) _ _ _) _) _ _ _); k_dflt (refine' clamp_gt ?F ?N ?m rfl ?x ?d ?_; (case F => k_asm); (case N => k_asm); (case m => exact rfl); (case x => exact rfl); (case d => decide)); (intro h' t' tk' m' F' N'); (try k_sweep))))
  unfold ConO
  k_fill
  intro dp un gd cn cs a ccd cl outer A₀ base h₀ L m news s Q E B F X N T hk hhid hd hu hret
  refine wpAny_call ?_
  k_dflt (refine' con_call ?k1 ?k2 ?k3 ?k4 ?k5 ?kH ?kA ?kF ?kK ?k6 ?k7 ?k8 ?k9 ?kB ?_ ?c2 ?c3 ?c4 ?c5; (case kA => exact rfl); (case kF => exact rfl); (case kK => assumption); (case k1 => assumption); (case k2 => assumption); (case k3 => assumption); (case k4 => assumption); (case k5 => assumption); (case kH => assumption); (case k6 => k_is); (case k7 => k_is); (case k8 => ktr_room); (case k9 => exact BindsTo.of_eq rfl); (case c5 => decide); (case kB => exact locs rfl); (case c2 => exact rfl); (case c3 => exact rfl); (case c4 => exact rfl); k_whole; intro g' L' h' F' N' B' X' T' G' l1'; (refine anyQ (Q0 := Q) ?hq9 ?_; (case hq9 => (intro v9 s9 h9; exact h9)); intro Q9 hQ9); (refine noE ?_); (refine letEA ?_); (intro e9 A9); (try dsimp only); (try k_fold))
  k_steps
  (try refine hQ9 _ _ ?_); (try dsimp only); (try k_unfold); (try dsimp only)
  ((try refine hQ9 _ _ ?_); refine' retO F N hret G' ?zf ?zn ?zs ?zm ?ze ?zp; (case zf => k_asm); (case zn => k_asm); (case zs => kcf_all); (case zm => k_mem); (case ze => first | assumption | k_all))
  exact ⟨_, _, _, rfl⟩
noncomputable def rF (y i q : UInt64) : UInt64 := gtF (ltF (Float64.add (Float64.add y (Float64.mul 4606703976345377586 i)) (Float64.mul 4603791717925830846 q)) 0) 4607182418800017408
noncomputable def gF (y i q : UInt64) : UInt64 := gtF (ltF (Float64.sub (Float64.sub y (Float64.mul 4598621754083818298 i)) (Float64.mul 4603901015759978483 q)) 0) 4607182418800017408
noncomputable def bF (y i q : UInt64) : UInt64 := gtF (ltF (Float64.add (Float64.sub y (Float64.mul 4607671262177584182 i)) (Float64.mul 4610375502138591871 q)) 0) 4607182418800017408
set_option maxHeartbeats 4000000 in
theorem rgb_con (w : World) (mean : ExcName → Option Value) (mg mb : Str → Option Value) (y i q : UInt64) (t1 t2 t3 : Tok) :
    ConO w mean mg mb 28 [.float y t1, .float i t2, .float q t3] 1 [] (TupIs (rF y i q) (gF y i q) (bF y i q)) := by
  w_on
  k_with_none
  k_with "K_STEPS" => (repeat' (first | (k_unfold; (try dsimp only)) | (k_end; wrow_close) | walk1 | (dsimp only; walk1) | (leave1; walk_say "STEP leave1"; try dsimp only) | ((try dsimp only); refine' CEnd.go ?eH _ _ _ ?eF ?eN ?eP; (case eH => with_reducible assumption); (case eF => k_asm); (case eN => k_asm); (case eP => (first | exact intV | exact intVc (by with_reducible assumption) | k_extra "END9"))) | ((try dsimp only); refine' CNo.go ?eH _ _ ?eF ?eN ?eP; (case eH => with_reducible assumption); (case eF => k_asm); (case eN => k_asm); (case eP => (first | with_reducible assumption | k_extra "NO9"))) | (k_extra "STEP9") | fail "no step"))
  k_with "K_MEM" => ((with_reducible ((repeat (first | exact List.mem_cons_self | refine List.mem_cons_of_mem _ ?_ | assumption)); done)))
  k_with "K_ALL" => (first | exact List.forall_mem_nil _ | (with_reducible assumption) | (refine List.forall_mem_cons.mpr ⟨by k_ne, ?_⟩; k_all) | (refine tl_lt (by with_reducible assumption) ?_; (repeat (first | exact sub_rfl | refine sub_tl ?_)); done) | (refine tl_off (by with_reducible assumption) ?_; (repeat (first | exact sub_rfl | refine sub_tl ?_)); done) | (refine tl_one (by with_reducible assumption) ?_; (repeat (first | exact sub_rfl | refine sub_tl ?_)); done) | (refine tl_I (by with_reducible assumption) ?_; (repeat (first | exact sub_rfl | refine sub_tl ?_)); done) | (refine tl_C (by with_reducible assumption) ?_; (repeat (first | exact sub_rfl | refine sub_tl ?_)); done) | (refine tl_D (by with_reducible assumption) ?_; (repeat (first | exact sub_rfl | refine sub_tl ?_)); done) | (refine tl_c1 (by with_reducible assumption) ?_; (repeat (first | exact sub_rfl | refine sub_tl ?_)); done) | (refine tl_c2 (by with_reducible assumption) ?_; (repeat (first | exact sub_rfl | refine sub_tl ?_)); done) | (refine tl_c3 (by with_reducible assumption) ?_; (repeat (first | exact sub_rfl | refine sub_tl ?_)); done))
  k_with "K_NE" => ((refine neN ?_; (try dsimp only); first | with_reducible assumption | (refine Ne.symm ?_; with_reducible assumption) | exact Nat.ne_of_lt (by with_reducible assumption) | exact Nat.ne_of_gt (by with_reducible assumption) | (refine off_a ?_; first | (refine ne_lt (by with_reducible assumption) ?_; (repeat (first | exact at_hd | refine at_tl ?_)); done) | (refine ne_off (by with_reducible assumption) ?_; (repeat (first | exact at_hd | refine at_tl ?_)); done) | (refine ne_one (by with_reducible assumption) ?_; (repeat (first | exact at_hd | refine at_tl ?_)); done) | (refine ne_I (by with_reducible assumption) ?_; (repeat (first | exact at_hd | refine at_tl ?_)); done) | (refine ne_C (by with_reducible assumption) ?_; (repeat (first | exact at_hd | refine at_tl ?_)); done) | (refine ne_D (by with_reducible assumption) ?_; (repeat (first | exact at_hd | refine at_tl ?_)); done)) | (refine off_a ?_; first | (refine ne_c1 (by with_reducible assumption) ?_; (repeat (first | exact at_hd | refine at_tl ?_)); done) | (refine ne_c2 (by with_reducible assumption) ?_; (repeat (first | exact at_hd | refine at_tl ?_)); done) | (refine ne_c3 (by with_reducible assumption) ?_; (repeat (first | exact at_hd | refine at_tl ?_)); done) | (refine ne_c4 (by with_reducible assumption) ?_; (repeat (first | exact at_hd | refine at_tl ?_)); done)) | (refine off_b ?_; first | (refine ne_c1 (by with_reducible assumption) ?_; (repeat (first | exact at_hd | refine at_tl ?_)); done) | (refine ne_c2 (by with_reducible assumption) ?_; (repeat (first | exact at_hd | refine at_tl ?_)); done) | (refine ne_c3 (by with_reducible assumption) ?_; (repeat (first | exact at_hd | refine at_tl ?_)); done) | (refine ne_c4 (by with_reducible assumption) ?_; (repeat (first | exact at_hd | refine at_tl ?_)); done)) | (refine off_b ?_; first | (refine ne_lt (by with_reducible assumption) ?_; (repeat (first | exact at_hd | refine at_tl ?_)); done) | (refine ne_off (by with_reducible assumption) ?_; (repeat (first | exact at_hd | refine at_tl ?_)); done) | (refine ne_one (by with_reducible assumption) ?_; (repeat (first | exact at_hd | refine at_tl ?_)); done) | (refine ne_I (by with_reducible assumption) ?_; (repeat (first | exact at_hd | refine at_tl ?_)); done) | (refine ne_C (by with_reducible assumption) ?_; (repeat (first | exact at_hd | refine at_tl ?_)); done) | (refine ne_D (by with_reducible assumption) ?_; (repeat (first | exact at_hd | refine at_tl ?_)); done)) | omega))
  k_with "binaryOp Mult float int" => (first
    | ((with_reducible refine mul_fi_fits (small01 (by with_reducible assumption)) ?_); (try dsimp only)))
  k_with "binaryOp Sub int float" => (first
    | ((with_reducible refine sub_if_fits (small01 (by with_reducible assumption)) ?_); (try dsimp only)))
  k_with "exec If" => (first
    | (first
    | ((with_reducible show wpAny _ _ (exec (Stmt.If (Expr.Compare _ [CmpOp.Lt] _ _) _ _ _) _) _ _ _); k_dflt (refine' clamp_lt ?F ?N ?m rfl ?x ?d ?_; (case F => k_asm); (case N => k_asm); (case m => exact rfl); (case x => exact rfl); (case d => decide)); (intro h' t' tk' m' F' N'); (try k_sweep))
    | ((with_reducible show wpAny _ _ (exec (Stmt.If (Expr.Compare _ [CmpOp.Gt] _ _) _ _ _) _) _ _ _); k_dflt (refine' clamp_gt ?F ?N ?m rfl ?x ?d ?_; (case F => k_asm); (case N => k_asm); (case m => exact rfl); (case x => exact rfl); (case d => decide)); (intro h' t' tk' m' F' N'); (try k_sweep))))
  unfold ConO
  k_fill
  intro dp un gd cn cs a ccd cl outer A₀ base h₀ L m news s Q E B F X N T hk hhid hd hu hret
  refine wpAny_call ?_
  k_dflt (refine' con_call ?k1 ?k2 ?k3 ?k4 ?k5 ?kH ?kA ?kF ?kK ?k6 ?k7 ?k8 ?k9 ?kB ?_ ?c2 ?c3 ?c4 ?c5; (case kA => exact rfl); (case kF => exact rfl); (case kK => assumption); (case k1 => assumption); (case k2 => assumption); (case k3 => assumption); (case k4 => assumption); (case k5 => assumption); (case kH => assumption); (case k6 => k_is); (case k7 => k_is); (case k8 => ktr_room); (case k9 => exact BindsTo.of_eq rfl); (case c5 => decide); (case kB => exact locs rfl); (case c2 => exact rfl); (case c3 => exact rfl); (case c4 => exact rfl); k_whole; intro g' L' h' F' N' B' X' T' G' l1'; (refine anyQ (Q0 := Q) ?hq9 ?_; (case hq9 => (intro v9 s9 h9; exact h9)); intro Q9 hQ9); (refine noE ?_); (refine letEA ?_); (intro e9 A9); (try dsimp only); (try k_fold))
  k_steps
  (try refine hQ9 _ _ ?_); (try dsimp only); (try k_unfold); (try dsimp only)
  ((try refine hQ9 _ _ ?_); refine' retO F N hret G' ?zf ?zn ?zs ?zm ?ze ?zp; (case zf => k_asm); (case zn => k_asm); (case zs => kcf_all); (case zm => k_mem); (case ze => first | assumption | k_all))
  exact ⟨_, _, _, rfl⟩
noncomputable def rndF (x : UInt64) : Int := Flt.toInt Float64.nearestOf x
noncomputable abbrev sum3 (f1 f2 f3 : Nat → UInt64) (k : Nat) : UInt64 := Float64.sub (Float64.add (f1 k) (f2 k)) (f3 k)
structure FinF (f : Nat → UInt64) : Prop where
  r : Float64.isFinite (rF (f 0) (f 1) (f 2)) = true
  g : Float64.isFinite (gF (f 0) (f 1) (f 2)) = true
  b : Float64.isFinite (bF (f 0) (f 1) (f 2)) = true
noncomputable def rndS (f : Nat → UInt64) : Int := rndF (rF (f 0) (f 1) (f 2)) + rndF (gF (f 0) (f 1) (f 2)) + rndF (bF (f 0) (f 1) (f 2))
set_option maxHeartbeats 4000000 in
theorem shared_con (w : World) (mean : ExcName → Option Value) (mg mb : Str → Option Value) (a1 a2 a3 : Addr) (o1 o2 o3 : Obj) (f1 f2 f3 : Nat → UInt64) (TT : List (Addr × Obj)) (m1 : (a1, o1) ∈ TT) (m2 : (a2, o2) ∈ TT) (m3 : (a3, o3) ∈ TT) (h1 : TupK f1 o1) (h2 : TupK f2 o2) (h3 : TupK f3 o3) (hf : FinF (sum3 f1 f2 f3)) :
    ConV w mean mg mb 99 [.ref a1, .ref a2, .ref a3] 2 TT (fun r => ∃ t, r = .int (rndS (sum3 f1 f2 f3)) t) := by
  obtain ⟨hr, hg, hb⟩ := hf
  w_on
  k_with_none
  k_with "K_STEPS" => (repeat' (first | (k_unfold; (try dsimp only)) | (k_end; wrow_close) | walk1 | (dsimp only; walk1) | (leave1; walk_say "STEP leave1"; try dsimp only) | ((try dsimp only); refine' CEnd.go ?eH _ _ _ ?eF ?eN ?eP; (case eH => with_reducible assumption); (case eF => k_asm); (case eN => k_asm); (case eP => (first | exact intV | exact intVc (by with_reducible assumption) | k_extra "END9"))) | ((try dsimp only); refine' CNo.go ?eH _ _ ?eF ?eN ?eP; (case eH => with_reducible assumption); (case eF => k_asm); (case eN => k_asm); (case eP => (first | with_reducible assumption | k_extra "NO9"))) | (k_extra "STEP9") | fail "no step"))
  k_with "K_MEM" => ((with_reducible ((repeat (first | exact List.mem_cons_self | refine List.mem_cons_of_mem _ ?_ | assumption)); done)))
  k_with "K_ALL" => (first | exact List.forall_mem_nil _ | (with_reducible assumption) | (refine List.forall_mem_cons.mpr ⟨by k_ne, ?_⟩; k_all) | (refine tl_lt (by with_reducible assumption) ?_; (repeat (first | exact sub_rfl | refine sub_tl ?_)); done) | (refine tl_off (by with_reducible assumption) ?_; (repeat (first | exact sub_rfl | refine sub_tl ?_)); done) | (refine tl_one (by with_reducible assumption) ?_; (repeat (first | exact sub_rfl | refine sub_tl ?_)); done) | (refine tl_I (by with_reducible assumption) ?_; (repeat (first | exact sub_rfl | refine sub_tl ?_)); done) | (refine tl_C (by with_reducible assumption) ?_; (repeat (first | exact sub_rfl | refine sub_tl ?_)); done) | (refine tl_D (by with_reducible assumption) ?_; (repeat (first | exact sub_rfl | refine sub_tl ?_)); done) | (refine tl_c1 (by with_reducible assumption) ?_; (repeat (first | exact sub_rfl | refine sub_tl ?_)); done) | (refine tl_c2 (by with_reducible assumption) ?_; (repeat (first | exact sub_rfl | refine sub_tl ?_)); done) | (refine tl_c3 (by with_reducible assumption) ?_; (repeat (first | exact sub_rfl | refine sub_tl ?_)); done))
  k_with "K_NE" => ((refine neN ?_; (try dsimp only); first | with_reducible assumption | (refine Ne.symm ?_; with_reducible assumption) | exact Nat.ne_of_lt (by with_reducible assumption) | exact Nat.ne_of_gt (by with_reducible assumption) | (refine off_a ?_; first | (refine ne_lt (by with_reducible assumption) ?_; (repeat (first | exact at_hd | refine at_tl ?_)); done) | (refine ne_off (by with_reducible assumption) ?_; (repeat (first | exact at_hd | refine at_tl ?_)); done) | (refine ne_one (by with_reducible assumption) ?_; (repeat (first | exact at_hd | refine at_tl ?_)); done) | (refine ne_I (by with_reducible assumption) ?_; (repeat (first | exact at_hd | refine at_tl ?_)); done) | (refine ne_C (by with_reducible assumption) ?_; (repeat (first | exact at_hd | refine at_tl ?_)); done) | (refine ne_D (by with_reducible assumption) ?_; (repeat (first | exact at_hd | refine at_tl ?_)); done)) | (refine off_a ?_; first | (refine ne_c1 (by with_reducible assumption) ?_; (repeat (first | exact at_hd | refine at_tl ?_)); done) | (refine ne_c2 (by with_reducible assumption) ?_; (repeat (first | exact at_hd | refine at_tl ?_)); done) | (refine ne_c3 (by with_reducible assumption) ?_; (repeat (first | exact at_hd | refine at_tl ?_)); done) | (refine ne_c4 (by with_reducible assumption) ?_; (repeat (first | exact at_hd | refine at_tl ?_)); done)) | (refine off_b ?_; first | (refine ne_c1 (by with_reducible assumption) ?_; (repeat (first | exact at_hd | refine at_tl ?_)); done) | (refine ne_c2 (by with_reducible assumption) ?_; (repeat (first | exact at_hd | refine at_tl ?_)); done) | (refine ne_c3 (by with_reducible assumption) ?_; (repeat (first | exact at_hd | refine at_tl ?_)); done) | (refine ne_c4 (by with_reducible assumption) ?_; (repeat (first | exact at_hd | refine at_tl ?_)); done)) | (refine off_b ?_; first | (refine ne_lt (by with_reducible assumption) ?_; (repeat (first | exact at_hd | refine at_tl ?_)); done) | (refine ne_off (by with_reducible assumption) ?_; (repeat (first | exact at_hd | refine at_tl ?_)); done) | (refine ne_one (by with_reducible assumption) ?_; (repeat (first | exact at_hd | refine at_tl ?_)); done) | (refine ne_I (by with_reducible assumption) ?_; (repeat (first | exact at_hd | refine at_tl ?_)); done) | (refine ne_C (by with_reducible assumption) ?_; (repeat (first | exact at_hd | refine at_tl ?_)); done) | (refine ne_D (by with_reducible assumption) ?_; (repeat (first | exact at_hd | refine at_tl ?_)); done)) | omega))
  k_with "storeName" => (first
    | (k_here; k_dflt (refine' storeX_Lm ?F ?N ?_ ?a ?b; (case a => rfl); (case b => rfl); (case F => k_asm); (case N => k_asm)); intro h' m' F' N'; (try k_sweep)))
  k_with "FinE" => (first
    | ((unfold LCg.FinE); intro D' h' tk' F' N' o1'; (try simp only [List.nil_append, List.cons_append] at N'); (try k_sweep); (try dsimp only)))
  k_with "FinA" => (first
    | ((unfold LCg.FinA); intro D' h' tk' F' N' o1'; (try simp only [List.nil_append, List.cons_append] at N'); (try k_sweep); (try dsimp only)))
  k_with "call ref" => (first
    | (k_extra "MyCall"))
  k_with "CompSrc" => (first
    | (k_extra "MySrc"))
  k_with "CompSrcT" => (first
    | (k_extra "MySrcT"))
  k_with "subscriptTail Name Name ref int" => (first
    | (k_here; k_dflt (refine' item_tk ?zN ?zm ?zt ?zk ?_; (case zN => k_asm); (case zm => k_mem); (case zt => assumption); (case zk => with_reducible assumption)); intro t'))
  unfold ConV
  k_fill
  intro dp un gd cn cs a ccd cl outer A₀ base h₀ L m news s Q E B F X N T hk hhid hd hu hret
  k_with "MyCall" => (k_dflt (refine' useO (rgb_con w mean mg mb _ _ _ _ _ _) ?k1 ?k2 ?k3 ?k4 ?k5 ?kK ?kH ?k8 ?k9 ?_; (case k1 => assumption); (case k2 => k_asm); (case k3 => k_asm); (case k4 => k_asm); (case k5 => k_asm); (case kK => first | exact rfl | assumption); (case kH => kcf_all); (case k8 => ktr_room); (case k9 => ktr_units); (intro l9 o9 h9 tk9 F9 N9 d9 hp9); (obtain ⟨ty9, ti9, tq9, rfl⟩ := hp9); (try skip); (try k_sweep); (try dsimp only); (try k_fold)))
  k_with "END9" => exact ⟨_, rfl⟩
  k_with "MySrc" => (k_dflt (refine LCg.CompSrc.range (by rfl) (by k_asm) (by k_asm) (by assumption) (by first | decide | rfl) (by first | rfl | decide) (by first | size_fits | exact Nat.le_of_ble_eq_true rfl) ?_; intro g'; (refine' comp_f3 (sum3 f1 f2 f3) True.intro (fun k' t' I' oI' C' oC' D' oD' m' s' E' Q1' hk' hC' hx' F' N' off' n1' n2' n3' hMark' eY' => ?_) (fun t0' t1' t2' => ?_))))
  refine wpAny_call ?_
  k_dflt (refine' con_callC ?k1 ?k2 ?k3 ?k4 ?k5 ?kH ?kA ?kF ?kK ?k6 ?k7 ?k8 ?k9 ?kB ?kD ?_ ?c2 ?c3 ?c4; (case kA => exact rfl); (case kF => exact rfl); (case kK => assumption); (case k1 => assumption); (case k2 => assumption); (case k3 => assumption); (case k4 => assumption); (case k5 => assumption); (case kH => assumption); (case k6 => k_is); (case k7 => k_is); (case k8 => ktr_room); (case k9 => exact BindsTo.of_eq rfl); (case kB => exact rfl); (case kD => decide +kernel); (case c2 => exact rfl); (case c3 => exact rfl); (case c4 => exact rfl); k_whole; intro g' L' h' tk' cells' F' N' Y' B' X' T' G' l1'; (refine anyQ (Q0 := Q) ?hq9 ?_; (case hq9 => (intro v9 s9 h9; exact h9)); intro Q9 hQ9); (refine noE ?_); (refine letEA ?_); (intro e9 A9); k_cells Y'; (try simp only [List.cons_append, List.nil_append] at N'); (try dsimp only); (try k_fold))
  k_steps
  (try refine hQ9 _ _ ?_); (try dsimp only); (try k_unfold); (try dsimp only)
  ((try refine hQ9 _ _ ?_); refine' retV F N hret G' ?zf ?zn ?zs ?zp; (case zf => k_asm); (case zn => k_asm); (case zs => kcf_all))
  exact ⟨_, rfl⟩
noncomputable def onesI : Nat → List Int
  | 0 => [0]
  | i + 1 => onesI i ++ (onesI i).map (fun n => n + 1)
theorem onesI_len : ∀ i, (onesI i).length = 2 ^ i
  | 0 => rfl
  | i + 1 => by
    show (onesI i ++ (onesI i).map (fun n => n + 1)).length = 2 ^ (i + 1)
    rw [List.length_append, List.length_map, onesI_len i, Nat.pow_succ, Nat.mul_two]
theorem onesI_lt {i K : Nat} : decide (((onesI i).length : Int) < ((2 ^ K : Nat) : Int)) = decide (i < K) := by
  rw [onesI_len]
  refine decide_eq_decide.mpr ?_
  rw [Int.ofNat_lt]
  exact Nat.pow_lt_pow_iff_right (by decide)
theorem onesI_le {i : Nat} (h : i ≤ 5) : (onesI i).length ≤ 32 := by
  rw [onesI_len]; exact Nat.pow_le_pow_right (by decide) h
noncomputable def onesM (top : Int) (t : Tok) (lp : Addr) : Str → Option Value := fun y => if y = Str.ofString "ones" then some (.ref lp) else if y = Str.ofString "top" then some (.int top t) else none
theorem onesM_upd (top : Int) (t : Tok) (lp l' : Addr) : (fun y => if y = Str.ofString "ones" then some (Value.ref l') else onesM top t lp y) = onesM top t l' := funext fun y => by
  unfold onesM
  by_cases h : y = Str.ofString "ones"
  · rw [if_pos h, if_pos h]
  · rw [if_neg h, if_neg h, if_neg h]
inductive onesJ (top : Int) (t : Tok) (i : Nat) (m : Str → Option Value) (nw : List (Addr × Obj)) : Prop
  | mk : ∀ lp vl n, (m = onesM top t lp) → (IntsAre vl (onesI i)) → (nw = [(lp, listOf vl.toArray n)]) → onesJ top t i m nw
set_option maxHeartbeats 2000000 in
theorem ones_con (w : World) (mean : ExcName → Option Value) (mg mb : Str → Option Value) (K : Nat) (t1 : Tok) (hK : K ≤ 5) :
    ConO w mean mg mb 109 [.int ((2 ^ K : Nat) : Int) t1] 1 [] (ListIs (onesI K)) := by
  w_on
  k_with_none
  k_with "K_STEPS" => (repeat' (first | (k_unfold; (try dsimp only)) | (k_end; wrow_close) | walk1 | (dsimp only; walk1) | (leave1; walk_say "STEP leave1"; try dsimp only) | ((try dsimp only); refine' CEnd.go ?eH _ _ _ ?eF ?eN ?eP; (case eH => with_reducible assumption); (case eF => k_asm); (case eN => k_asm); (case eP => (first | exact intV | exact intVc (by with_reducible assumption) | k_extra "END9"))) | ((try dsimp only); refine' CNo.go ?eH _ _ ?eF ?eN ?eP; (case eH => with_reducible assumption); (case eF => k_asm); (case eN => k_asm); (case eP => (first | with_reducible assumption | k_extra "NO9"))) | (k_extra "STEP9") | fail "no step"))
  k_with "K_MEM" => ((with_reducible ((repeat (first | exact List.mem_cons_self | refine List.mem_cons_of_mem _ ?_ | assumption)); done)))
  k_with "K_ALL" => (first | exact List.forall_mem_nil _ | (with_reducible assumption) | (refine List.forall_mem_cons.mpr ⟨by k_ne, ?_⟩; k_all) | (refine tl_lt (by with_reducible assumption) ?_; (repeat (first | exact sub_rfl | refine sub_tl ?_)); done) | (refine tl_off (by with_reducible assumption) ?_; (repeat (first | exact sub_rfl | refine sub_tl ?_)); done) | (refine tl_one (by with_reducible assumption) ?_; (repeat (first | exact sub_rfl | refine sub_tl ?_)); done) | (refine tl_I (by with_reducible assumption) ?_; (repeat (first | exact sub_rfl | refine sub_tl ?_)); done) | (refine tl_C (by with_reducible assumption) ?_; (repeat (first | exact sub_rfl | refine sub_tl ?_)); done) | (refine tl_D (by with_reducible assumption) ?_; (repeat (first | exact sub_rfl | refine sub_tl ?_)); done) | (refine tl_c1 (by with_reducible assumption) ?_; (repeat (first | exact sub_rfl | refine sub_tl ?_)); done) | (refine tl_c2 (by with_reducible assumption) ?_; (repeat (first | exact sub_rfl | refine sub_tl ?_)); done) | (refine tl_c3 (by with_reducible assumption) ?_; (repeat (first | exact sub_rfl | refine sub_tl ?_)); done))
  k_with "K_NE" => ((refine neN ?_; (try dsimp only); first | with_reducible assumption | (refine Ne.symm ?_; with_reducible assumption) | exact Nat.ne_of_lt (by with_reducible assumption) | exact Nat.ne_of_gt (by with_reducible assumption) | (refine off_a ?_; first | (refine ne_lt (by with_reducible assumption) ?_; (repeat (first | exact at_hd | refine at_tl ?_)); done) | (refine ne_off (by with_reducible assumption) ?_; (repeat (first | exact at_hd | refine at_tl ?_)); done) | (refine ne_one (by with_reducible assumption) ?_; (repeat (first | exact at_hd | refine at_tl ?_)); done) | (refine ne_I (by with_reducible assumption) ?_; (repeat (first | exact at_hd | refine at_tl ?_)); done) | (refine ne_C (by with_reducible assumption) ?_; (repeat (first | exact at_hd | refine at_tl ?_)); done) | (refine ne_D (by with_reducible assumption) ?_; (repeat (first | exact at_hd | refine at_tl ?_)); done)) | (refine off_a ?_; first | (refine ne_c1 (by with_reducible assumption) ?_; (repeat (first | exact at_hd | refine at_tl ?_)); done) | (refine ne_c2 (by with_reducible assumption) ?_; (repeat (first | exact at_hd | refine at_tl ?_)); done) | (refine ne_c3 (by with_reducible assumption) ?_; (repeat (first | exact at_hd | refine at_tl ?_)); done) | (refine ne_c4 (by with_reducible assumption) ?_; (repeat (first | exact at_hd | refine at_tl ?_)); done)) | (refine off_b ?_; first | (refine ne_c1 (by with_reducible assumption) ?_; (repeat (first | exact at_hd | refine at_tl ?_)); done) | (refine ne_c2 (by with_reducible assumption) ?_; (repeat (first | exact at_hd | refine at_tl ?_)); done) | (refine ne_c3 (by with_reducible assumption) ?_; (repeat (first | exact at_hd | refine at_tl ?_)); done) | (refine ne_c4 (by with_reducible assumption) ?_; (repeat (first | exact at_hd | refine at_tl ?_)); done)) | (refine off_b ?_; first | (refine ne_lt (by with_reducible assumption) ?_; (repeat (first | exact at_hd | refine at_tl ?_)); done) | (refine ne_off (by with_reducible assumption) ?_; (repeat (first | exact at_hd | refine at_tl ?_)); done) | (refine ne_one (by with_reducible assumption) ?_; (repeat (first | exact at_hd | refine at_tl ?_)); done) | (refine ne_I (by with_reducible assumption) ?_; (repeat (first | exact at_hd | refine at_tl ?_)); done) | (refine ne_C (by with_reducible assumption) ?_; (repeat (first | exact at_hd | refine at_tl ?_)); done) | (refine ne_D (by with_reducible assumption) ?_; (repeat (first | exact at_hd | refine at_tl ?_)); done)) | omega))
  k_with "storeName" => (first
    | (k_here; k_dflt (refine' storeX_Lm ?F ?N ?_ ?a ?b; (case a => rfl); (case b => rfl); (case F => k_asm); (case N => k_asm)); intro h' m' F' N'; (try k_sweep)))
  k_with "FinE" => (first
    | ((unfold LCg.FinE); intro D' h' tk' F' N' o1'; (try simp only [List.nil_append, List.cons_append] at N'); (try k_sweep); (try dsimp only)))
  k_with "FinA" => (first
    | ((unfold LCg.FinA); intro D' h' tk' F' N' o1'; (try simp only [List.nil_append, List.cons_append] at N'); (try k_sweep); (try dsimp only)))
  k_with "call ref" => (first
    | (k_extra "MyCall"))
  k_with "CompSrc" => (first
    | (k_here; k_dflt (refine LCg.CompSrc.ledger (by rfl) (by k_asm) (by k_asm) (by k_mem) (by exact ints_sz (by assumption) (Nat.le_trans (by with_reducible assumption) (by decide))) ?_; intro g'; (refine' kcf_listQ _ (by assumption) ?zS (fun k' t' I' oI' C' oC' D' oD' m' s' E' Q1' hk' hC' hx' F' N' off' n1' n2' n3' hMark' eY' => ?_) ?_); (case zS => first | exact True.intro | assumption | exact Or.inr ⟨_, by k_mem, rfl, _, rfl⟩); kcf_last))
    | (k_extra "MySrc"))
  k_with "CompSrcT" => (first
    | (k_extra "MySrcT"))
  k_with "exec While Compare cons nil" => (first
    | (k_here; k_dflt (refine whl_start 100 ?_)))
  k_with "newList" => (first
    | (k_here; k_dflt (refine' newList_I ?zF ?zN ?zi ?_ ?zz; (case zF => k_asm); (case zN => k_asm); (case zi => (repeat' constructor)); (case zz => exact Nat.le_of_ble_eq_true rfl); (intro l' h' vs' hi' F' N' l1'); (try k_lt l1'); (try k_sweep))))
  k_with "call builtin:len" => (first
    | (k_here; k_dflt (refine' len_I ?zN ?zm ?zi ?zf ?_; (case zN => k_asm); (case zm => k_mem); (case zi => assumption); (case zf => first | decide | (simp only [List.length_append, List.length_map, List.length_cons, List.length_nil]; omega)); (intro t' tk'))))
  k_with "binaryOp Add ref ref" => (first
    | (k_here; k_dflt (refine' add_I ?zF ?zN ?zm ?zp ?zi ?zj ?zz ?_; (case zF => k_asm); (case zN => k_asm); (case zm => k_mem); (case zp => k_mem); (case zi => assumption); (case zj => assumption); (case zz => (rw [PySem.sizeLine_eq]; simp only [List.length_append, List.length_map, List.length_cons, List.length_nil]; first | done | decide | omega)); (intro l' h' vs' hi' F' N' l1'); (try k_lt l1'); (try k_sweep))))
  k_with "compareOp Lt int int" => (first
    | (refine lt_known (by with_reducible assumption) ?_))
  k_with "WhlRest" => (first
    | (refine stop5 ?_))
  unfold ConO
  k_fill
  intro dp un gd cn cs a ccd cl outer A₀ base h₀ L m news s Q E B F X N T hk hhid hd hu hret
  refine wpAny_call ?_
  k_dflt (refine' con_callM (fun y => if y = Str.ofString "top" then some (.int ((2 ^ K : Nat) : Int) t1) else none) ?k1 ?k2 ?k3 ?k4 ?k5 ?kH ?kA ?kF ?kK ?k6 ?k7 ?k8 ?k9 ?kB ?km ?_ ?c2 ?c3 ?c4 ?c5; (case kA => exact rfl); (case kF => exact rfl); (case kK => assumption); (case k1 => assumption); (case k2 => assumption); (case k3 => assumption); (case k4 => assumption); (case k5 => assumption); (case kH => assumption); (case k6 => k_is); (case k7 => k_is); (case k8 => ktr_room); (case k9 => exact BindsTo.of_eq rfl); (case c5 => decide); (case kB => exact locs rfl); (case km => exact (lookM_eq _).trans (by with_unfolding_all rfl)); (case c2 => exact rfl); (case c3 => exact rfl); (case c4 => exact rfl); k_whole; intro g' L' h' F' N' B' X' T' G' l1'; (refine anyQ (Q0 := Q) ?hq9 ?_; (case hq9 => (intro v9 s9 h9; exact h9)); intro Q9 hQ9); (refine noE ?_); (refine letEA ?_); (intro e9 A9); (try dsimp only); (try k_fold))
  k_steps
  unfold Stop5
  k_dflt (refine' whl_indN (onesJ ((2 ^ K : Nat) : Int) t1) K ?hE ?hT ?hB ?hfin ?hj ?hF ?hN)
  case hE => first | exact PassesOwn.never | passes_own | with_unfolding_all passes_own
  case hF => k_asm
  case hN => k_asm
  case hj => exact ⟨_, _, _, rfl, (by assumption), rfl⟩
  case hfin =>
    intro m1 nw h tk hj F1 N1
    obtain ⟨lp, vl, n9, rfl, hi9, rfl⟩ := hj
    (try dsimp only)
    k_steps
    (try refine hQ9 _ _ ?_); (try dsimp only); (try k_unfold); (try dsimp only)
    ((try refine hQ9 _ _ ?_); refine' retO F N hret G' ?zf ?zn ?zs ?zm ?ze ?zp; (case zf => k_asm); (case zn => k_asm); (case zs => kcf_all); (case zm => k_mem); (case ze => first | assumption | k_all))
    exact ⟨_, _, rfl, hi9⟩
  case hT =>
    intro i m1 nw s1 Q8 hi hj F1 N1 hQ8
    obtain ⟨lp, vl, n9, rfl, hi9, rfl⟩ := hj
    have hlt := onesI_lt (i := i) (K := K)
    have hle := onesI_le (Nat.le_trans hi hK)
    k_steps
    exact hQ8.go _ _ (by k_asm) (by k_asm)
  case hB =>
    intro i m1 nw s1 Q8 hi hj F1 N1 hQ8
    obtain ⟨lp, vl, n9, rfl, hi9, rfl⟩ := hj
    have hle := onesI_le (Nat.le_of_lt (Nat.lt_of_lt_of_le hi hK))
    k_steps
    exact hQ8.go _ _ _ _ (by k_asm) (fun p hp => (show News _ _ _ _ by k_asm) p (by rw [List.mem_singleton.mp hp]; exact List.mem_cons_self)) ⟨_, _, _, onesM_upd _ _ _ _, (by assumption), rfl⟩
noncomputable abbrev onesL8 : List Int := [0, 1, 1, 2, 1, 2, 2, 3]
theorem ones8_con (w : World) (mean : ExcName → Option Value) (mg mb : Str → Option Value) (t1 : Tok) : ConO w mean mg mb 109 [.int 8 t1] 1 [] (ListIs onesL8) := ones_con w mean mg mb 3 t1 (by decide)
noncomputable abbrev onesL32 : List Int := [0, 1, 1, 2, 1, 2, 2, 3, 1, 2, 2, 3, 2, 3, 3, 4, 1, 2, 2, 3, 2, 3, 3, 4, 2, 3, 3, 4, 3, 4, 4, 5]
theorem ones32_con (w : World) (mean : ExcName → Option Value) (mg mb : Str → Option Value) (t1 : Tok) : ConO w mean mg mb 109 [.int 32 t1] 1 [] (ListIs onesL32) := ones_con w mean mg mb 5 t1 (Nat.le_refl 5)
theorem qd_bound {v x : Int} (hv : 0 ≤ v ∧ v < 64) (hx : 0 ≤ x ∧ x < 64) : 0 ≤ Builtin.bitAnd (v.fmod 8) (x.fdiv 8) ∧ Builtin.bitAnd (v.fmod 8) (x.fdiv 8) < (onesL8.length : Int) ∧ Builtin.bitAnd (v.fmod 8) (x.fdiv 8) < 2 ^ 63 :=
  have h4 := and_le (Int.fmod_nonneg hv.1 (b := 8) (by decide)) (Int.fdiv_nonneg hx.1 (b := 8) (by decide))
  have h5 := Int.lt_of_le_of_lt h4.2.1 (Int.fmod_lt_of_pos v (b := 8) (by decide))
  ⟨h4.1, h5, Int.lt_trans h5 (by decide)⟩
noncomputable def qdue (v x : Int) : Int := Int.fmod (onesL8.getD (Builtin.bitAnd (v.fmod 8) (x.fdiv 8)).toNat 0 + onesL8.getD (Builtin.bitAnd (x.fmod 8) (v.fdiv 8)).toNat 0) 2
set_option maxHeartbeats 4000000 in
theorem qdue_con (w : World) (mean : ExcName → Option Value) (mg mb : Str → Option Value) (v x : Int) (t1 t2 : Tok) (hv : 0 ≤ v ∧ v < 64) (hx : 0 ≤ x ∧ x < 64) :
    ConV w mean mg mb 116 [.int v t1, .int x t2] 2 [] (fun r => ∃ t, r = .int (qdue v x) t) := by
  w_on
  k_with_none
  k_with "K_STEPS" => (repeat' (first | (k_unfold; (try dsimp only)) | (k_end; wrow_close) | walk1 | (dsimp only; walk1) | (leave1; walk_say "STEP leave1"; try dsimp only) | ((try dsimp only); refine' CEnd.go ?eH _ _ _ ?eF ?eN ?eP; (case eH => with_reducible assumption); (case eF => k_asm); (case eN => k_asm); (case eP => (first | exact intV | exact intVc (by with_reducible assumption) | k_extra "END9"))) | ((try dsimp only); refine' CNo.go ?eH _ _ ?eF ?eN ?eP; (case eH => with_reducible assumption); (case eF => k_asm); (case eN => k_asm); (case eP => (first | with_reducible assumption | k_extra "NO9"))) | (k_extra "STEP9") | fail "no step"))
  k_with "K_MEM" => ((with_reducible ((repeat (first | exact List.mem_cons_self | refine List.mem_cons_of_mem _ ?_ | assumption)); done)))
  k_with "K_ALL" => (first | exact List.forall_mem_nil _ | (with_reducible assumption) | (refine List.forall_mem_cons.mpr ⟨by k_ne, ?_⟩; k_all) | (refine tl_lt (by with_reducible assumption) ?_; (repeat (first | exact sub_rfl | refine sub_tl ?_)); done) | (refine tl_off (by with_reducible assumption) ?_; (repeat (first | exact sub_rfl | refine sub_tl ?_)); done) | (refine tl_one (by with_reducible assumption) ?_; (repeat (first | exact sub_rfl | refine sub_tl ?_)); done) | (refine tl_I (by with_reducible assumption) ?_; (repeat (first | exact sub_rfl | refine sub_tl ?_)); done) | (refine tl_C (by with_reducible assumption) ?_; (repeat (first | exact sub_rfl | refine sub_tl ?_)); done) | (refine tl_D (by with_reducible assumption) ?_; (repeat (first | exact sub_rfl | refine sub_tl ?_)); done) | (refine tl_c1 (by with_reducible assumption) ?_; (repeat (first | exact sub_rfl | refine sub_tl ?_)); done) | (refine tl_c2 (by with_reducible assumption) ?_; (repeat (first | exact sub_rfl | refine sub_tl ?_)); done) | (refine tl_c3 (by with_reducible assumption) ?_; (repeat (first | exact sub_rfl | refine sub_tl ?_)); done))
  k_with "K_NE" => ((refine neN ?_; (try dsimp only); first | with_reducible assumption | (refine Ne.symm ?_; with_reducible assumption) | exact Nat.ne_of_lt (by with_reducible assumption) | exact Nat.ne_of_gt (by with_reducible assumption) | (refine off_a ?_; first | (refine ne_lt (by with_reducible assumption) ?_; (repeat (first | exact at_hd | refine at_tl ?_)); done) | (refine ne_off (by with_reducible assumption) ?_; (repeat (first | exact at_hd | refine at_tl ?_)); done) | (refine ne_one (by with_reducible assumption) ?_; (repeat (first | exact at_hd | refine at_tl ?_)); done) | (refine ne_I (by with_reducible assumption) ?_; (repeat (first | exact at_hd | refine at_tl ?_)); done) | (refine ne_C (by with_reducible assumption) ?_; (repeat (first | exact at_hd | refine at_tl ?_)); done) | (refine ne_D (by with_reducible assumption) ?_; (repeat (first | exact at_hd | refine at_tl ?_)); done)) | (refine off_a ?_; first | (refine ne_c1 (by with_reducible assumption) ?_; (repeat (first | exact at_hd | refine at_tl ?_)); done) | (refine ne_c2 (by with_reducible assumption) ?_; (repeat (first | exact at_hd | refine at_tl ?_)); done) | (refine ne_c3 (by with_reducible assumption) ?_; (repeat (first | exact at_hd | refine at_tl ?_)); done) | (refine ne_c4 (by with_reducible assumption) ?_; (repeat (first | exact at_hd | refine at_tl ?_)); done)) | (refine off_b ?_; first | (refine ne_c1 (by with_reducible assumption) ?_; (repeat (first | exact at_hd | refine at_tl ?_)); done) | (refine ne_c2 (by with_reducible assumption) ?_; (repeat (first | exact at_hd | refine at_tl ?_)); done) | (refine ne_c3 (by with_reducible assumption) ?_; (repeat (first | exact at_hd | refine at_tl ?_)); done) | (refine ne_c4 (by with_reducible assumption) ?_; (repeat (first | exact at_hd | refine at_tl ?_)); done)) | (refine off_b ?_; first | (refine ne_lt (by with_reducible assumption) ?_; (repeat (first | exact at_hd | refine at_tl ?_)); done) | (refine ne_off (by with_reducible assumption) ?_; (repeat (first | exact at_hd | refine at_tl ?_)); done) | (refine ne_one (by with_reducible assumption) ?_; (repeat (first | exact at_hd | refine at_tl ?_)); done) | (refine ne_I (by with_reducible assumption) ?_; (repeat (first | exact at_hd | refine at_tl ?_)); done) | (refine ne_C (by with_reducible assumption) ?_; (repeat (first | exact at_hd | refine at_tl ?_)); done) | (refine ne_D (by with_reducible assumption) ?_; (repeat (first | exact at_hd | refine at_tl ?_)); done)) | omega))
  k_with "storeName" => (first
    | (k_here; k_dflt (refine' storeX_Lm ?F ?N ?_ ?a ?b; (case a => rfl); (case b => rfl); (case F => k_asm); (case N => k_asm)); intro h' m' F' N'; (try k_sweep)))
  k_with "FinE" => (first
    | ((unfold LCg.FinE); intro D' h' tk' F' N' o1'; (try simp only [List.nil_append, List.cons_append] at N'); (try k_sweep); (try dsimp only)))
  k_with "FinA" => (first
    | ((unfold LCg.FinA); intro D' h' tk' F' N' o1'; (try simp only [List.nil_append, List.cons_append] at N'); (try k_sweep); (try dsimp only)))
  k_with "call ref" => (first
    | (k_extra "MyCall"))
  k_with "CompSrc" => (first
    | (k_extra "MySrc"))
  k_with "CompSrcT" => (first
    | (k_extra "MySrcT"))
  k_with "subscriptTail Name BinOp ref int" => (first
    | (k_here; k_dflt (refine' item_ints ?zN ?zm ?zi ?zb ?_; (case zN => k_asm); (case zm => k_mem); (case zi => assumption); (case zb => k_extra "MyBound"); intro t')))
  unfold ConV
  k_fill
  intro dp un gd cn cs a ccd cl outer A₀ base h₀ L m news s Q E B F X N T hk hhid hd hu hret
  k_with "MyCall" => (k_dflt (refine' useO (ones8_con w mean mg mb _) ?k1 ?k2 ?k3 ?k4 ?k5 ?kK ?kH ?k8 ?k9 ?_; (case k1 => assumption); (case k2 => k_asm); (case k3 => k_asm); (case k4 => k_asm); (case k5 => k_asm); (case kK => first | exact rfl | assumption); (case kH => kcf_all); (case k8 => ktr_room); (case k9 => ktr_units); (intro l9 o9 h9 tk9 F9 N9 d9 hp9); (obtain ⟨vs9, n9, rfl, hi9⟩ := hp9); (try skip); (try k_sweep); (try dsimp only); (try k_fold)))
  k_with "MyBound" => first | exact qd_bound hv hx | exact qd_bound hx hv
  refine wpAny_call ?_
  k_dflt (refine' con_call ?k1 ?k2 ?k3 ?k4 ?k5 ?kH ?kA ?kF ?kK ?k6 ?k7 ?k8 ?k9 ?kB ?_ ?c2 ?c3 ?c4 ?c5; (case kA => exact rfl); (case kF => exact rfl); (case kK => assumption); (case k1 => assumption); (case k2 => assumption); (case k3 => assumption); (case k4 => assumption); (case k5 => assumption); (case kH => assumption); (case k6 => k_is); (case k7 => k_is); (case k8 => ktr_room); (case k9 => exact BindsTo.of_eq rfl); (case c5 => decide); (case kB => exact locs rfl); (case c2 => exact rfl); (case c3 => exact rfl); (case c4 => exact rfl); k_whole; intro g' L' h' F' N' B' X' T' G' l1'; (refine anyQ (Q0 := Q) ?hq9 ?_; (case hq9 => (intro v9 s9 h9; exact h9)); intro Q9 hQ9); (refine noE ?_); (refine letEA ?_); (intro e9 A9); (try dsimp only); (try k_fold))
  k_steps
  (try refine hQ9 _ _ ?_); (try dsimp only); (try k_unfold); (try dsimp only)
  ((try refine hQ9 _ _ ?_); refine' retV F N hret G' ?zf ?zn ?zs ?zp; (case zf => k_asm); (case zn => k_asm); (case zs => kcf_all))
  exact ⟨_, rfl⟩
noncomputable def g3 (a b c : UInt64) : Nat → UInt64
  | 0 => a
  | 1 => b
  | _ => c
noncomputable def loF (u : Int) : Nat → UInt64 := g3 (yF (Int.fmod u 2) (Int.fmod (Int.fdiv u 2) 2) (Int.fmod (Int.fdiv u 4) 2)) (iF (Int.fmod u 2) (Int.fmod (Int.fdiv u 2) 2) (Int.fmod (Int.fdiv u 4) 2)) (qF (Int.fmod u 2) (Int.fmod (Int.fdiv u 2) 2) (Int.fmod (Int.fdiv u 4) 2))
noncomputable def hiF (u : Int) : Nat → UInt64 := g3 (yF (Int.fmod (Int.fdiv u 8) 2) (Int.fmod (Int.fdiv u 16) 2) (Int.fdiv u 32)) (iF (Int.fmod (Int.fdiv u 8) 2) (Int.fmod (Int.fdiv u 16) 2) (Int.fdiv u 32)) (qF (Int.fmod (Int.fdiv u 8) 2) (Int.fmod (Int.fdiv u 16) 2) (Int.fdiv u 32))
noncomputable def whF : Nat → UInt64 := g3 (yF 1 1 1) (iF 1 1 1) (qF 1 1 1)
noncomputable def loP (u : Int) (o : Obj) : Prop := TupK (loF u) o
noncomputable def hiP (u : Int) (o : Obj) : Prop := TupK (hiF u) o
noncomputable def whP (o : Obj) : Prop := TupK whF o
noncomputable abbrev sumF (y1 y2 y3 : UInt64) : UInt64 := Float64.sub (Float64.add y1 y2) y3
noncomputable def pc (u v : Int) : Int := onesL8.getD (Builtin.bitAnd (Int.fmod u 8) (Int.fdiv v 8)).toNat 0
noncomputable abbrev ShGood (a b c d e f k : Int) : Prop :=
  Float64.isFinite (rF (sumF (yF a b c) (yF d e f) (yF 1 1 1)) (sumF (iF a b c) (iF d e f) (iF 1 1 1)) (sumF (qF a b c) (qF d e f) (qF 1 1 1))) = true ∧
  Float64.isFinite (gF (sumF (yF a b c) (yF d e f) (yF 1 1 1)) (sumF (iF a b c) (iF d e f) (iF 1 1 1)) (sumF (qF a b c) (qF d e f) (qF 1 1 1))) = true ∧
  Float64.isFinite (bF (sumF (yF a b c) (yF d e f) (yF 1 1 1)) (sumF (iF a b c) (iF d e f) (iF 1 1 1)) (sumF (qF a b c) (qF d e f) (qF 1 1 1))) = true ∧
  rndF (rF (sumF (yF a b c) (yF d e f) (yF 1 1 1)) (sumF (iF a b c) (iF d e f) (iF 1 1 1)) (sumF (qF a b c) (qF d e f) (qF 1 1 1))) + rndF (gF (sumF (yF a b c) (yF d e f) (yF 1 1 1)) (sumF (iF a b c) (iF d e f) (iF 1 1 1)) (sumF (qF a b c) (qF d e f) (qF 1 1 1))) + rndF (bF (sumF (yF a b c) (yF d e f) (yF 1 1 1)) (sumF (iF a b c) (iF d e f) (iF 1 1 1)) (sumF (qF a b c) (qF d e f) (qF 1 1 1))) = k
set_option maxHeartbeats 4000000 in
theorem sh64 : ∀ p : Nat, p < 8 → ∀ q : Nat, q < 8 → ShGood (Int.fmod p 2) (Int.fmod (Int.fdiv p 2) 2) (Int.fdiv p 4) (Int.fmod q 2) (Int.fmod (Int.fdiv q 2) 2) (Int.fdiv q 4) (onesL8.getD (Builtin.bitAnd p q).toNat 0) := by
  decide +kernel
theorem nat_of {u : Int} {n : Nat} (h : 0 ≤ u ∧ u < n) : ∃ k : Nat, u = (k : Int) ∧ k < n := by
  obtain ⟨k, rfl⟩ := Int.eq_ofNat_of_zero_le h.1
  exact ⟨k, rfl, by omega⟩
theorem lo_bits : ∀ n : Nat, n < 64 → ∃ p : Nat, p < 8 ∧ Int.fmod (n : Int) 8 = p ∧ Int.fmod (n : Int) 2 = Int.fmod p 2 ∧ Int.fmod (Int.fdiv (n : Int) 2) 2 = Int.fmod (Int.fdiv p 2) 2 ∧ Int.fmod (Int.fdiv (n : Int) 4) 2 = Int.fdiv p 4 := by
  have h : ∀ n : Nat, n < 64 → (Int.fmod (n : Int) 8).toNat < 8 ∧ Int.fmod (n : Int) 8 = ((Int.fmod (n : Int) 8).toNat : Int) ∧ Int.fmod (n : Int) 2 = Int.fmod ((Int.fmod (n : Int) 8).toNat : Int) 2 ∧ Int.fmod (Int.fdiv (n : Int) 2) 2 = Int.fmod (Int.fdiv ((Int.fmod (n : Int) 8).toNat : Int) 2) 2 ∧ Int.fmod (Int.fdiv (n : Int) 4) 2 = Int.fdiv ((Int.fmod (n : Int) 8).toNat : Int) 4 := by decide +kernel
  exact fun n hn => ⟨_, h n hn⟩
theorem hi_bits : ∀ n : Nat, n < 64 → ∃ q : Nat, q < 8 ∧ Int.fdiv (n : Int) 8 = q ∧ Int.fmod (Int.fdiv (n : Int) 8) 2 = Int.fmod q 2 ∧ Int.fmod (Int.fdiv (n : Int) 16) 2 = Int.fmod (Int.fdiv q 2) 2 ∧ Int.fdiv (n : Int) 32 = Int.fdiv q 4 := by
  have h : ∀ n : Nat, n < 64 → (Int.fdiv (n : Int) 8).toNat < 8 ∧ Int.fdiv (n : Int) 8 = ((Int.fdiv (n : Int) 8).toNat : Int) ∧ Int.fmod (Int.fdiv (n : Int) 8) 2 = Int.fmod ((Int.fdiv (n : Int) 8).toNat : Int) 2 ∧ Int.fmod (Int.fdiv (n : Int) 16) 2 = Int.fmod (Int.fdiv ((Int.fdiv (n : Int) 8).toNat : Int) 2) 2 ∧ Int.fdiv (n : Int) 32 = Int.fdiv ((Int.fdiv (n : Int) 8).toNat : Int) 4 := by decide +kernel
  exact fun n hn => ⟨_, h n hn⟩
theorem sh_good {u v : Int} (hu : 0 ≤ u ∧ u < 64) (hv : 0 ≤ v ∧ v < 64) : ShGood (Int.fmod u 2) (Int.fmod (Int.fdiv u 2) 2) (Int.fmod (Int.fdiv u 4) 2) (Int.fmod (Int.fdiv v 8) 2) (Int.fmod (Int.fdiv v 16) 2) (Int.fdiv v 32) (pc u v) := by
  obtain ⟨n, rfl, hn⟩ := nat_of (n := 64) hu
  obtain ⟨k, rfl, hk⟩ := nat_of (n := 64) hv
  obtain ⟨p, hp, e0, e1, e2, e3⟩ := lo_bits n hn
  obtain ⟨q, hq, f0, f1, f2, f3⟩ := hi_bits k hk
  unfold pc
  rw [e1, e2, e3, f1, f2, f3, e0, f0]
  exact sh64 p hp q hq
theorem shared2_con (w : World) (mean : ExcName → Option Value) (mg mb : Str → Option Value) {a1 a2 a3 : Addr} {o1 o2 o3 : Obj} {u v : Int} {TT : List (Addr × Obj)} (hu : 0 ≤ u ∧ u < 64) (hv : 0 ≤ v ∧ v < 64) (m1 : (a1, o1) ∈ TT) (m2 : (a2, o2) ∈ TT) (m3 : (a3, o3) ∈ TT) (h1 : loP u o1) (h2 : hiP v o2) (h3 : whP o3) :
    ConV w mean mg mb 99 [.ref a1, .ref a2, .ref a3] 2 TT (fun r => ∃ t, r = .int (pc u v) t) := by
  obtain ⟨g1, g2, g3, g4⟩ := sh_good hu hv
  have c := shared_con w mean mg mb a1 a2 a3 o1 o2 o3 (loF u) (hiF v) whF TT m1 m2 m3 h1 h2 h3 ⟨g1, g2, g3⟩
  rw [show rndS (sum3 (loF u) (hiF v) whF) = pc u v from g4] at c
  exact c
theorem pc_b : ∀ p : Nat, p < 8 → ∀ q : Nat, q < 8 → 0 ≤ onesL8.getD (Builtin.bitAnd p q).toNat 0 ∧ onesL8.getD (Builtin.bitAnd p q).toNat 0 ≤ 3 := by decide +kernel
theorem pc_bound {u v : Int} (hu : 0 ≤ u ∧ u < 64) (hv : 0 ≤ v ∧ v < 64) : 0 ≤ pc u v ∧ pc u v ≤ 3 := by
  obtain ⟨n, rfl, hn⟩ := nat_of (n := 64) hu
  obtain ⟨k, rfl, hk⟩ := nat_of (n := 64) hv
  obtain ⟨p, hp, e0, _⟩ := lo_bits n hn
  obtain ⟨q, hq, f0, _⟩ := hi_bits k hk
  unfold pc
  rw [e0, f0]
  exact pc_b p hp q hq
theorem marks7 {u v : Int} (hu : 0 ≤ u ∧ u < 64) (hv : 0 ≤ v ∧ v < 64) : pc u v + pc v u = ((pc u v + pc v u).toNat : Int) ∧ (pc u v + pc v u).toNat < 7 := by
  have h1 := pc_bound hu hv
  have h2 := pc_bound hv hu
  have h0 := Int.add_nonneg h1.1 h2.1
  exact ⟨(Int.toNat_of_nonneg h0).symm, (Int.toNat_lt h0).mpr (Int.lt_of_le_of_lt (Int.add_le_add h1.2 h2.2) (by decide))⟩
theorem qdue_pc (u v : Int) : qdue u v = Int.fmod (pc u v + pc v u) 2 := rfl
theorem qdue_symm (u v : Int) : qdue u v = qdue v u := by rw [qdue_pc, qdue_pc, Int.add_comm]
theorem qdue_diag (u : Int) : qdue u u = 0 := by
  rw [qdue_pc, ← Int.two_mul]; exact Int.mul_fmod_right 2 _
theorem qdue_01 (u v : Int) : 0 ≤ qdue u v ∧ qdue u v ≤ 1 := by
  have h1 := Int.fmod_nonneg_of_pos (pc u v + pc v u) (b := 2) (by decide)
  have h2 := Int.fmod_lt_of_pos (pc u v + pc v u) (b := 2) (by decide)
  rw [qdue_pc]; omega
theorem bit2 (x : Int) : Int.fmod x 2 = 0 ∨ Int.fmod x 2 = 1 := by
  have h1 := Int.fmod_nonneg_of_pos x (b := 2) (by decide)
  have h2 := Int.fmod_lt_of_pos x (b := 2) (by decide)
  omega
theorem bit32 {x : Int} (h : 0 ≤ x ∧ x < 64) : Int.fdiv x 32 = 0 ∨ Int.fdiv x 32 = 1 := by
  obtain ⟨n, rfl, hn⟩ := nat_of (n := 64) h
  exact (show ∀ n : Nat, n < 64 → Int.fdiv (n : Int) 32 = 0 ∨ Int.fdiv (n : Int) 32 = 1 by decide +kernel) n hn
theorem lo_con (w : World) (mean : ExcName → Option Value) (mg mb : Str → Option Value) (x : Int) (t1 t2 t3 : Tok) :
    ConO w mean mg mb 21 [.int (Int.fmod x 2) t1, .int (Int.fmod (Int.fdiv x 2) 2) t2, .int (Int.fmod (Int.fdiv x 4) 2) t3] 1 [] (loP x) :=
  yiq_con w mean mg mb _ _ _ t1 t2 t3 (bit2 _) (bit2 _) (bit2 _)
theorem hi_con (w : World) (mean : ExcName → Option Value) (mg mb : Str → Option Value) (x : Int) (t1 t2 t3 : Tok) (h : 0 ≤ x ∧ x < 64) :
    ConO w mean mg mb 21 [.int (Int.fmod (Int.fdiv x 8) 2) t1, .int (Int.fmod (Int.fdiv x 16) 2) t2, .int (Int.fdiv x 32) t3] 1 [] (hiP x) :=
  yiq_con w mean mg mb _ _ _ t1 t2 t3 (bit2 _) (bit2 _) (bit32 h)
theorem wh_con (w : World) (mean : ExcName → Option Value) (mg mb : Str → Option Value) (t1 t2 t3 : Tok) :
    ConO w mean mg mb 21 [.int 1 t1, .int 1 t2, .int 1 t3] 1 [] whP :=
  yiq_con w mean mg mb _ _ _ t1 t2 t3 (.inr rfl) (.inr rfl) (.inr rfl)
section
variable {prog : Program} {w : World} {A : Around} {h₀ : Heap} {L : Addr} {m : Str → Option Value} {env : Env} {elt : PySem.Expr} {x : Str} {scope : Scope} {cl : List (Str × Addr)} {s : Shared} {S : List (Addr × Obj) → Prop} {Fin : List Value → List (Addr × Obj) → Prop} {news : List (Addr × Obj)}
/-- how a turn may end that hands back a new object -/
structure NwEnd (h₀ : Heap) (L : Addr) (m : Str → Option Value) (s₁ : Shared) (I : Addr) (oI : Obj) (C : Addr) (oC : Obj) (D : Addr) (oD : Obj) (nw : List (Addr × Obj)) (P : Obj → Prop) (Q : Value → Shared → Prop) : Prop where
  go : ∀ l o h' tk' all, Fr h₀ L h' m → News h₀ L h' all → (∀ p ∈ (I, oI) :: (C, oC) :: (D, oD) :: (l, o) :: nw, p ∈ all) → (∀ p ∈ (I, oI) :: (C, oC) :: (D, oD) :: nw, p.1 ≠ l) → P o → Q (.ref l) { s₁ with heap := h', toks := tk' }
/-- a turn that hands back a new object, whatever the ledger -/
noncomputable def NewTurn (prog : Program) (w : World) (A : Around) (h₀ : Heap) (L : Addr) (m : Str → Option Value) (env : Env) (elt : PySem.Expr) (x : Str) (scope : Scope) (cl : List (Str × Addr)) (news : List (Addr × Obj)) (Pf : Int → Obj → Prop) : Prop :=
  ∀ k t I oI C oC D oD m₂ nw s₁ (E' : Value → Shared → Prop) (Q9 : Value → Shared → Prop), (0 ≤ k ∧ k < 64) → LCg.NsObj oC m₂ → m₂ x = some (.int k t) → Fr h₀ L s₁.heap m → News h₀ L s₁.heap ((I, oI) :: (C, oC) :: (D, oD) :: nw) → LCg.Off3 I C D nw → (@Ne Nat I C) → (@Ne Nat I D) → (@Ne Nat C D) → (∀ p ∈ news, p ∈ nw) → NwEnd h₀ L m s₁ I oI C oC D oD nw (Pf k) Q9 →
    wpAny (model prog w) A (eval elt (compEnvC scope cl C env)) Q9 E' s₁
theorem new_succ {Pf : Int → Obj → Prop} {k : Int} {t : Tok} {P : Nat → Value → Prop} {n i : Nat} {ys : List Value} {nw : List (Addr × Obj)} (hS : ∀ nw', (∀ p ∈ news, p ∈ nw') → S nw') (turn : NewTurn prog w A h₀ L m env elt x scope cl news Pf) (hk : 0 ≤ k ∧ k < 64) (hP : ∀ v, P i v → v = .int k t) (sub : ∀ p ∈ news, p ∈ nw)
    (h : ∀ l o, Pf k o → (∀ p ∈ nw, p.1 ≠ l) → (∀ p ∈ news, p ∈ (l, o) :: nw) → LCg.CompRest prog w A h₀ L m env elt x scope cl s S P Fin n (i + 1) (ys ++ [.ref l]) ((l, o) :: nw)) :
    LCg.CompRest prog w A h₀ L m env elt x scope cl s S P Fin (n + 1) i ys nw :=
  LCg.CompRest.succ fun v I oI C oC D m₂ h' tk E' hv hC hx F N off ne => turn k t I oI C oC D (LCg.lst ys) m₂ nw { s with heap := h', toks := tk } E' _ hk hC (hP v hv ▸ hx) F N off ne.1 ne.2.1 ne.2.2 sub
    ⟨fun l o h2 tk2 all F2 N2 sub2 d p => LCg.CompEnd.intro F2 N2 ((l, o) :: nw) sub2 ⟨⟨Ne.symm (d _ List.mem_cons_self), Ne.symm (d _ (List.mem_cons_of_mem _ List.mem_cons_self)), Ne.symm (d _ (List.mem_cons_of_mem _ (List.mem_cons_of_mem _ List.mem_cons_self)))⟩, off⟩ (hS _ fun q hq => List.mem_cons_of_mem _ (sub q hq))
      (h l o p (fun q hq => d q (List.mem_cons_of_mem _ (List.mem_cons_of_mem _ (List.mem_cons_of_mem _ hq)))) fun q hq => List.mem_cons_of_mem _ (sub q hq))⟩
theorem comp_new5 (Pf : Int → Obj → Prop) {x0 x1 x2 x3 x4 : Int} {t0 t1 t2 t3 t4 : Tok} (h0 : 0 ≤ x0 ∧ x0 < 64) (h1 : 0 ≤ x1 ∧ x1 < 64) (h2 : 0 ≤ x2 ∧ x2 < 64) (h3 : 0 ≤ x3 ∧ x3 < 64) (h4 : 0 ≤ x4 ∧ x4 < 64)
    (hS : ∀ nw', (∀ p ∈ news, p ∈ nw') → S nw') (turn : NewTurn prog w A h₀ L m env elt x scope cl news Pf)
    (fin : ∀ l0 o0 l1 o1 l2 o2 l3 o3 l4 o4, Pf x0 o0 → Pf x1 o1 → Pf x2 o2 → Pf x3 o3 → Pf x4 o4 → (∀ p ∈ news, p.1 ≠ l0) → (∀ p ∈ (l0, o0) :: news, p.1 ≠ l1) → (∀ p ∈ (l1, o1) :: (l0, o0) :: news, p.1 ≠ l2) → (∀ p ∈ (l2, o2) :: (l1, o1) :: (l0, o0) :: news, p.1 ≠ l3) → (∀ p ∈ (l3, o3) :: (l2, o2) :: (l1, o1) :: (l0, o0) :: news, p.1 ≠ l4) →
      Fin [.ref l0, .ref l1, .ref l2, .ref l3, .ref l4] ((l4, o4) :: (l3, o3) :: (l2, o2) :: (l1, o1) :: (l0, o0) :: news)) :
    LCg.CompRest prog w A h₀ L m env elt x scope cl s S (fun i v => #[Value.int x0 t0, .int x1 t1, .int x2 t2, .int x3 t3, .int x4 t4][i]? = some v) Fin 5 0 [] news :=
  new_succ (n := 4) hS turn h0 (fun _ hv => (Option.some.inj hv).symm) (fun _ h => h) fun l0 o0 p0 d0 u0 =>
  new_succ (n := 3) hS turn h1 (fun _ hv => (Option.some.inj hv).symm) u0 fun l1 o1 p1 d1 u1 =>
  new_succ (n := 2) hS turn h2 (fun _ hv => (Option.some.inj hv).symm) u1 fun l2 o2 p2 d2 u2 =>
  new_succ (n := 1) hS turn h3 (fun _ hv => (Option.some.inj hv).symm) u2 fun l3 o3 p3 d3 u3 =>
  new_succ (n := 0) hS turn h4 (fun _ hv => (Option.some.inj hv).symm) u3 fun l4 o4 p4 d4 _ =>
  LCg.CompRest.zero (fin l0 o0 l1 o1 l2 o2 l3 o3 l4 o4 p0 p1 p2 p3 p4 d0 d1 d2 d3 d4)
end
noncomputable def zeP (_ : Int) (o : Obj) : Prop := ListIs [0, 0, 0, 0, 0] o
noncomputable def TupOk (Pf : Int → Obj → Prop) (X : Nat → Int) (ys : List Value) (nw : List (Addr × Obj)) : Prop := ∀ k, k < 5 → ∃ a o, ys[k]? = some (.ref a) ∧ (a, o) ∈ nw ∧ Pf (X k) o
theorem TupOk.mono {Pf : Int → Obj → Prop} {X : Nat → Int} {ys : List Value} {nw nw' : List (Addr × Obj)} (h : TupOk Pf X ys nw) (sub : ∀ p ∈ nw, p ∈ nw') : TupOk Pf X ys nw' := fun k hk =>
  let ⟨a, o, e, hm, p⟩ := h k hk
  ⟨a, o, e, sub _ hm, p⟩
noncomputable abbrev five (x0 x1 x2 x3 x4 : Int) : Nat → Int := fun k => [x0, x1, x2, x3, x4].getD k 0
/-- five rows, in the order of B, on top of a ledger -/
noncomputable def rowsL (B : Nat → Addr) (V : Nat → List Value) (nn : Nat → Nat) (tail : List (Addr × Obj)) : List (Addr × Obj) :=
  (B 4, listOf (V 4).toArray (nn 4)) :: (B 3, listOf (V 3).toArray (nn 3)) :: (B 2, listOf (V 2).toArray (nn 2)) :: (B 1, listOf (V 1).toArray (nn 1)) :: (B 0, listOf (V 0).toArray (nn 0)) :: tail
theorem rowsL_tail {B : Nat → Addr} {V : Nat → List Value} {nn : Nat → Nat} {tail : List (Addr × Obj)} {p : Addr × Obj} (h : p ∈ tail) : p ∈ rowsL B V nn tail :=
  List.mem_cons_of_mem _ (List.mem_cons_of_mem _ (List.mem_cons_of_mem _ (List.mem_cons_of_mem _ (List.mem_cons_of_mem _ h))))
theorem rowsL_at {B : Nat → Addr} {V : Nat → List Value} {nn : Nat → Nat} {tail : List (Addr × Obj)} {k : Nat} (h : k < 5) : (B k, listOf (V k).toArray (nn k)) ∈ rowsL B V nn tail := by
  match k, h with
  | 0, _ => exact List.mem_cons_of_mem _ (List.mem_cons_of_mem _ (List.mem_cons_of_mem _ (List.mem_cons_of_mem _ List.mem_cons_self)))
  | 1, _ => exact List.mem_cons_of_mem _ (List.mem_cons_of_mem _ (List.mem_cons_of_mem _ List.mem_cons_self))
  | 2, _ => exact List.mem_cons_of_mem _ (List.mem_cons_of_mem _ List.mem_cons_self)
  | 3, _ => exact List.mem_cons_of_mem _ List.mem_cons_self
  | 4, _ => exact List.mem_cons_self
theorem rowsL_eq (B : Nat → Addr) (V : Nat → List Value) (nn : Nat → Nat) (t : List (Addr × Obj)) : rowsL B V nn t = rowsL B V nn [] ++ t := rfl
theorem rowsL_grow {B : Nat → Addr} {V : Nat → List Value} {nn : Nat → Nat} {tail : List (Addr × Obj)} {p : Addr × Obj} (h : p ∈ rowsL B V nn []) : p ∈ rowsL B V nn tail := by
  rw [rowsL_eq]; exact List.mem_append_left _ h
theorem rowsL_all {B : Nat → Addr} {V : Nat → List Value} {nn : Nat → Nat} {tail : List (Addr × Obj)} {P : Addr → Prop} (hB : ∀ k, k < 5 → P (B k)) (ht : ∀ p ∈ tail, P p.1) : ∀ p ∈ rowsL B V nn tail, P p.1 := by
  intro p hp
  unfold rowsL at hp
  simp only [List.mem_cons] at hp
  rcases hp with rfl | rfl | rfl | rfl | rfl | hp
  · exact hB 4 (by decide)
  · exact hB 3 (by decide)
  · exact hB 2 (by decide)
  · exact hB 1 (by decide)
  · exact hB 0 (by decide)
  · exact ht p hp
theorem rowsL_B {B : Nat → Addr} {V : Nat → List Value} {nn : Nat → Nat} {tail : List (Addr × Obj)} {P : Addr → Prop} (h : ∀ p ∈ rowsL B V nn tail, P p.1) : ∀ k, k < 5 → P (B k) := fun _ hk => h _ (rowsL_at hk)
section
variable {prog : Program} {w : World} {A : Around} {h₀ : Heap} {L : Addr} {m : Str → Option Value} {env : Env} {elt : PySem.Expr} {x : Str} {scope : Scope} {cl : List (Str × Addr)} {s : Shared} {S : List (Addr × Obj) → Prop} {Fin : List Value → List (Addr × Obj) → Prop} {news : List (Addr × Obj)}
theorem comp_tup (Pf : Int → Obj → Prop) {X : Nat → Int} {vs : List Value} {t0 t1 t2 t3 t4 : Tok} (hv : vs = [.int (X 0) t0, .int (X 1) t1, .int (X 2) t2, .int (X 3) t3, .int (X 4) t4]) (hX : ∀ k, k < 5 → 0 ≤ X k ∧ X k < 64)
    (hS : ∀ nw', (∀ p ∈ news, p ∈ nw') → S nw') (turn : NewTurn prog w A h₀ L m env elt x scope cl news Pf)
    (fin : ∀ ys nw, (∀ p ∈ news, p ∈ nw) → TupOk Pf X ys nw → Fin ys nw) :
    LCg.CompRest prog w A h₀ L m env elt x scope cl s S (fun i v => vs.toArray[i]? = some v) Fin vs.toArray.size 0 [] news := by
  subst hv
  exact comp_new5 Pf (hX 0 (by decide)) (hX 1 (by decide)) (hX 2 (by decide)) (hX 3 (by decide)) (hX 4 (by decide)) hS turn fun l0 o0 l1 o1 l2 o2 l3 o3 l4 o4 p0 p1 p2 p3 p4 _ _ _ _ _ => fin _ _ (fun p hp => List.mem_cons_of_mem _ (List.mem_cons_of_mem _ (List.mem_cons_of_mem _ (List.mem_cons_of_mem _ (List.mem_cons_of_mem _ hp))))) fun k hk => by
    match k, hk with
    | 0, _ => exact ⟨l0, o0, rfl, .tail _ (.tail _ (.tail _ (.tail _ (.head _)))), p0⟩
    | 1, _ => exact ⟨l1, o1, rfl, .tail _ (.tail _ (.tail _ (.head _))), p1⟩
    | 2, _ => exact ⟨l2, o2, rfl, .tail _ (.tail _ (.head _)), p2⟩
    | 3, _ => exact ⟨l3, o3, rfl, .tail _ (.head _), p3⟩
    | 4, _ => exact ⟨l4, o4, rfl, .head _, p4⟩
theorem comp_rows {X : Nat → Int} {vs : List Value} {t0 t1 t2 t3 t4 : Tok} (hv : vs = [.int (X 0) t0, .int (X 1) t1, .int (X 2) t2, .int (X 3) t3, .int (X 4) t4]) (hX : ∀ k, k < 5 → 0 ≤ X k ∧ X k < 64)
    (hS : ∀ nw', (∀ p ∈ news, p ∈ nw') → S nw') (turn : NewTurn prog w A h₀ L m env elt x scope cl news zeP)
    (fin : ∀ B V nn, (∀ j, j < 5 → IntsAre (V j) [0, 0, 0, 0, 0]) → (∀ j k, j < 5 → k < 5 → B j = B k → j = k) → (∀ k, k < 5 → ∀ p ∈ news, p.1 ≠ B k) → Fin [.ref (B 0), .ref (B 1), .ref (B 2), .ref (B 3), .ref (B 4)] (rowsL B V nn news)) :
    LCg.CompRest prog w A h₀ L m env elt x scope cl s S (fun i v => vs.toArray[i]? = some v) Fin vs.toArray.size 0 [] news := by
  subst hv
  exact comp_new5 zeP (hX 0 (by decide)) (hX 1 (by decide)) (hX 2 (by decide)) (hX 3 (by decide)) (hX 4 (by decide)) hS turn fun l0 o0 l1 o1 l2 o2 l3 o3 l4 o4 p0 p1 p2 p3 p4 d0 d1 d2 d3 d4 => by
    obtain ⟨v0, n0, rfl, i0⟩ := p0
    obtain ⟨v1, n1, rfl, i1⟩ := p1
    obtain ⟨v2, n2, rfl, i2⟩ := p2
    obtain ⟨v3, n3, rfl, i3⟩ := p3
    obtain ⟨v4, n4, rfl, i4⟩ := p4
    have e01 : l0 ≠ l1 := d1 _ List.mem_cons_self
    have e02 : l0 ≠ l2 := d2 _ (List.mem_cons_of_mem _ List.mem_cons_self)
    have e12 : l1 ≠ l2 := d2 _ List.mem_cons_self
    have e03 : l0 ≠ l3 := d3 _ (List.mem_cons_of_mem _ (List.mem_cons_of_mem _ List.mem_cons_self))
    have e13 : l1 ≠ l3 := d3 _ (List.mem_cons_of_mem _ List.mem_cons_self)
    have e23 : l2 ≠ l3 := d3 _ List.mem_cons_self
    have e04 : l0 ≠ l4 := d4 _ (List.mem_cons_of_mem _ (List.mem_cons_of_mem _ (List.mem_cons_of_mem _ List.mem_cons_self)))
    have e14 : l1 ≠ l4 := d4 _ (List.mem_cons_of_mem _ (List.mem_cons_of_mem _ List.mem_cons_self))
    have e24 : l2 ≠ l4 := d4 _ (List.mem_cons_of_mem _ List.mem_cons_self)
    have e34 : l3 ≠ l4 := d4 _ List.mem_cons_self
    refine fin (fun k => match k with | 0 => l0 | 1 => l1 | 2 => l2 | 3 => l3 | _ => l4) (fun k => match k with | 0 => v0 | 1 => v1 | 2 => v2 | 3 => v3 | _ => v4) (fun k => match k with | 0 => n0 | 1 => n1 | 2 => n2 | 3 => n3 | _ => n4) ?_ ?_ ?_
    · intro j hj
      match j, hj with
      | 0, _ => exact i0
      | 1, _ => exact i1
      | 2, _ => exact i2
      | 3, _ => exact i3
      | 4, _ => exact i4
    · intro j k hj hk
      match j, hj with
      | 0, _ =>
        match k, hk with
        | 0, _ => exact fun _ => rfl
        | 1, _ => exact fun e => absurd e e01
        | 2, _ => exact fun e => absurd e e02
        | 3, _ => exact fun e => absurd e e03
        | 4, _ => exact fun e => absurd e e04
      | 1, _ =>
        match k, hk with
        | 0, _ => exact fun e => absurd e (Ne.symm e01)
        | 1, _ => exact fun _ => rfl
        | 2, _ => exact fun e => absurd e e12
        | 3, _ => exact fun e => absurd e e13
        | 4, _ => exact fun e => absurd e e14
      | 2, _ =>
        match k, hk with
        | 0, _ => exact fun e => absurd e (Ne.symm e02)
        | 1, _ => exact fun e => absurd e (Ne.symm e12)
        | 2, _ => exact fun _ => rfl
        | 3, _ => exact fun e => absurd e e23
        | 4, _ => exact fun e => absurd e e24
      | 3, _ =>
        match k, hk with
        | 0, _ => exact fun e => absurd e (Ne.symm e03)
        | 1, _ => exact fun e => absurd e (Ne.symm e13)
        | 2, _ => exact fun e => absurd e (Ne.symm e23)
        | 3, _ => exact fun _ => rfl
        | 4, _ => exact fun e => absurd e e34
      | 4, _ =>
        match k, hk with
        | 0, _ => exact fun e => absurd e (Ne.symm e04)
        | 1, _ => exact fun e => absurd e (Ne.symm e14)
        | 2, _ => exact fun e => absurd e (Ne.symm e24)
        | 3, _ => exact fun e => absurd e (Ne.symm e34)
        | 4, _ => exact fun _ => rfl
    · intro k hk p hp
      match k, hk with
      | 0, _ => exact d0 p hp
      | 1, _ => exact d1 p (by simp [hp])
      | 2, _ => exact d2 p (by simp [hp])
      | 3, _ => exact d3 p (by simp [hp])
      | 4, _ => exact d4 p (by simp [hp])
variable {E : Value → Shared → Prop}
theorem item_tup {Pf : Int → Obj → Prop} {X : Nat → Int} {l : Addr} {nws : List (Addr × Obj)} {value slice : PySem.Expr} {vs : List Value} {n : Nat} {k : Int} {u : Tok} {Q : Value → Shared → Prop}
    (N : News h₀ L s.heap news) (hm : (l, listOf vs.toArray n) ∈ news) (hT : TupOk Pf X vs nws) (hb : 0 ≤ k ∧ k < 5) (h : ∀ a o, (a, o) ∈ nws → Pf (X k.toNat) o → Q (.ref a) s)
    (hs : subscripted slice false (.ref l) (.int k u) = operate [.ref l, .int k u] (getItem (.ref l) (.int k u)) := by with_unfolding_all rfl) :
    wpAny (model prog w) A (subscriptTail value slice (.ref l) (.int k u)) Q E s := by
  obtain ⟨a, o, e, hm', hp⟩ := hT k.toNat (by omega)
  exact item_val N hm hb.1 (by omega) e (h a o hm' hp) hs
theorem item_B {B : Nat → Addr} {l : Addr} {value slice : PySem.Expr} {n : Nat} {k : Int} {u : Tok} {Q : Value → Shared → Prop}
    (N : News h₀ L s.heap news) (hm : (l, listOf [.ref (B 0), .ref (B 1), .ref (B 2), .ref (B 3), .ref (B 4)].toArray n) ∈ news) (hb : 0 ≤ k ∧ k < 5) (h : Q (.ref (B k.toNat)) s)
    (hs : subscripted slice false (.ref l) (.int k u) = operate [.ref l, .int k u] (getItem (.ref l) (.int k u)) := by with_unfolding_all rfl) :
    wpAny (model prog w) A (subscriptTail value slice (.ref l) (.int k u)) Q E s := by
  refine item_val N hm hb.1 (by omega) ?_ h hs
  have hk : k.toNat < 5 := by omega
  generalize k.toNat = j at hk ⊢
  match j, hk with
  | 0, _ => rfl
  | 1, _ => rfl
  | 2, _ => rfl
  | 3, _ => rfl
  | 4, _ => rfl
noncomputable def setV (V : Nat → List Value) (a : Nat) (q : List Value) : Nat → List Value := fun j => if j = a then q else V j
noncomputable def setR (R : Nat → List Int) (a b : Nat) (x : Int) : Nat → List Int := fun j => if j = a then (R j).set b x else R j
theorem ints_set {vs : List Value} {ns : List Int} (h : IntsAre vs ns) : ∀ (b : Nat) (x : Int) (t : Tok), IntsAre (vs.set b (.int x t)) (ns.set b x) := by
  induction h with
  | nil => intro b x t; exact .nil
  | cons n t _ ih =>
    intro b x u
    cases b with
    | zero => exact .cons x u (by assumption)
    | succ b => exact .cons n t (ih b x u)
theorem rowsL_upd {B : Nat → Addr} {V : Nat → List Value} {nn : Nat → Nat} {tail : List (Addr × Obj)} {I : Addr} {o : Obj} (hI : ∀ k, k < 5 → B k ≠ I) (inj : ∀ j k, j < 5 → k < 5 → B j = B k → j = k) (off : ∀ k, k < 5 → ∀ p ∈ tail, p.1 ≠ B k) {a : Nat} (ha : a < 5) (q : List Value) :
    ∃ pre post, (I, o) :: rowsL B V nn tail = pre ++ (B a, listOf (V a).toArray (nn a)) :: post ∧ (I, o) :: rowsL B (setV V a q) nn tail = pre ++ (B a, listOf q.toArray (nn a)) :: post ∧ (∀ p ∈ pre, p.1 ≠ B a) ∧ (∀ p ∈ post, p.1 ≠ B a) := by
  have hn : ∀ j, j < 5 → j ≠ a → B j ≠ B a := fun j hj hne e => hne (inj j a hj ha e)
  match a, ha with
  | 4, h => exact ⟨[(I, o)], _, rfl, rfl, (fun p hp => by simp at hp; rw [hp]; exact Ne.symm (hI 4 h)), fun p hp => by
      simp only [List.mem_cons] at hp
      rcases hp with rfl | rfl | rfl | rfl | hp
      · exact hn 3 (by decide) (by decide)
      · exact hn 2 (by decide) (by decide)
      · exact hn 1 (by decide) (by decide)
      · exact hn 0 (by decide) (by decide)
      · exact off 4 h p hp⟩
  | 3, h => exact ⟨[(I, o), _], _, rfl, rfl, (fun p hp => by
      simp only [List.mem_cons, List.not_mem_nil, or_false] at hp
      rcases hp with rfl | rfl
      · exact Ne.symm (hI 3 h)
      · exact hn 4 (by decide) (by decide)), fun p hp => by
      simp only [List.mem_cons] at hp
      rcases hp with rfl | rfl | rfl | hp
      · exact hn 2 (by decide) (by decide)
      · exact hn 1 (by decide) (by decide)
      · exact hn 0 (by decide) (by decide)
      · exact off 3 h p hp⟩
  | 2, h => exact ⟨[(I, o), _, _], _, rfl, rfl, (fun p hp => by
      simp only [List.mem_cons, List.not_mem_nil, or_false] at hp
      rcases hp with rfl | rfl | rfl
      · exact Ne.symm (hI 2 h)
      · exact hn 4 (by decide) (by decide)
      · exact hn 3 (by decide) (by decide)), fun p hp => by
      simp only [List.mem_cons] at hp
      rcases hp with rfl | rfl | hp
      · exact hn 1 (by decide) (by decide)
      · exact hn 0 (by decide) (by decide)
      · exact off 2 h p hp⟩
  | 1, h => exact ⟨[(I, o), _, _, _], _, rfl, rfl, (fun p hp => by
      simp only [List.mem_cons, List.not_mem_nil, or_false] at hp
      rcases hp with rfl | rfl | rfl | rfl
      · exact Ne.symm (hI 1 h)
      · exact hn 4 (by decide) (by decide)
      · exact hn 3 (by decide) (by decide)
      · exact hn 2 (by decide) (by decide)), fun p hp => by
      simp only [List.mem_cons] at hp
      rcases hp with rfl | hp
      · exact hn 0 (by decide) (by decide)
      · exact off 1 h p hp⟩
  | 0, h => exact ⟨[(I, o), _, _, _, _], _, rfl, rfl, (fun p hp => by
      simp only [List.mem_cons, List.not_mem_nil, or_false] at hp
      rcases hp with rfl | rfl | rfl | rfl | rfl
      · exact Ne.symm (hI 0 h)
      · exact hn 4 (by decide) (by decide)
      · exact hn 3 (by decide) (by decide)
      · exact hn 2 (by decide) (by decide)
      · exact hn 1 (by decide) (by decide)), fun p hp => off 0 h p hp⟩
theorem set_row {B : Nat → Addr} {V : Nat → List Value} {nn : Nat → Nat} {tail : List (Addr × Obj)} {I : Addr} {o : Obj} {R : Nat → List Int} {ka kb : Int} {t tv : Tok} {x : Int} {Q : Unit → Shared → Prop} (F : Fr h₀ L s.heap m) (N : News h₀ L s.heap ((I, o) :: rowsL B V nn tail))
    (hI : ∀ k, k < 5 → B k ≠ I) (inj : ∀ j k, j < 5 → k < 5 → B j = B k → j = k) (off : ∀ k, k < 5 → ∀ p ∈ tail, p.1 ≠ B k) (hV : ∀ j, j < 5 → IntsAre (V j) (R j)) (hR : ∀ j, j < 5 → (R j).length = 5) (ha : 0 ≤ ka ∧ ka < 5) (hb : 0 ≤ kb ∧ kb < 5)
    (h : ∀ V' h', Fr h₀ L h' m → News h₀ L h' ((I, o) :: rowsL B V' nn tail) → (∀ j, j < 5 → IntsAre (V' j) (setR R ka.toNat kb.toNat x j)) → Q () { s with heap := h' }) :
    wpAny (model prog w) A (setItem (.ref (B ka.toNat)) (.int kb t) (.int x tv)) Q E s := by
  have ha' : ka.toNat < 5 := by omega
  obtain ⟨pre, post, e1, e2, hp, hq⟩ := rowsL_upd (nn := nn) (V := V) (o := o) hI inj off ha' ((V ka.toNat).set kb.toNat (.int x tv))
  have N1 : News h₀ L s.heap (pre ++ (B ka.toNat, listOf (V ka.toNat).toArray (nn ka.toNat)) :: post) := e1 ▸ N
  have z := N1 (B ka.toNat, listOf (V ka.toNat).toArray (nn ka.toNat)) (List.mem_append.mpr (.inr (.head _)))
  have hl : (V ka.toNat).length = 5 := by rw [(hV _ ha').length]; exact hR _ ha'
  refine ki_setAt z.1 hb.1 (by omega) (by rw [List.size_toArray, hl]; omega) (h _ _ (F.change (Heap.SameBut.update ..) z.2.1 z.2.2) (e2 ▸ ki_turn _ N1 hp hq ?_ ?_) fun j hj => ?_)
  · unfold setV setR
    by_cases e : j = ka.toNat
    · rw [if_pos e, if_pos e, e]; exact ints_set (hV _ ha') _ _ _
    · rw [if_neg e, if_neg e]; exact hV j hj
  · show (V ka.toNat).toArray.setIfInBounds kb.toNat (.int x tv) = ((V ka.toNat).set kb.toNat (.int x tv)).toArray
    simp
  · simp
end
theorem off1_mem {D : Addr} : ∀ {l : List (Addr × Obj)}, LCg.Off1 D l → ∀ p ∈ l, p.1 ≠ D
  | [], _, _, h => nomatch h
  | _ :: _, x, p, h => by
    rcases List.mem_cons.mp h with rfl | h
    · exact x.1
    · exact off1_mem x.2 p h
theorem news_sub {h₀ h : Heap} {L : Addr} {l l' : List (Addr × Obj)} (N : News h₀ L h l) (sub : ∀ p ∈ l', p ∈ l) : News h₀ L h l' := fun p hp => N p (sub p hp)
theorem perm1 {B : Nat → Addr} {V : Nat → List Value} {nn : Nat → Nat} {t : List (Addr × Obj)} {x y : Addr × Obj} : ∀ p ∈ x :: rowsL B V nn (y :: t), p ∈ x :: y :: rowsL B V nn t := by
  intro p hp
  rcases List.mem_cons.mp hp with rfl | hp
  · exact List.mem_cons_self
  · rw [rowsL_eq] at hp ⊢
    rcases List.mem_append.mp hp with hp | hp
    · exact List.mem_cons_of_mem _ (List.mem_cons_of_mem _ (List.mem_append_left _ hp))
    · rcases List.mem_cons.mp hp with rfl | hp
      · exact List.mem_cons_of_mem _ List.mem_cons_self
      · exact List.mem_cons_of_mem _ (List.mem_cons_of_mem _ (List.mem_append_right _ hp))
theorem perm2 {B : Nat → Addr} {V : Nat → List Value} {nn : Nat → Nat} {t : List (Addr × Obj)} {x : Addr × Obj} : ∀ p ∈ x :: rowsL B V nn t, p ∈ rowsL B V nn (x :: t) := by
  intro p hp
  rw [rowsL_eq] at hp ⊢
  rcases List.mem_cons.mp hp with rfl | hp
  · exact List.mem_append_right _ List.mem_cons_self
  · rcases List.mem_append.mp hp with hp | hp
    · exact List.mem_append_left _ hp
    · exact List.mem_append_right _ (List.mem_cons_of_mem _ hp)
theorem perm3 {B : Nat → Addr} {V : Nat → List Value} {nn : Nat → Nat} {t : List (Addr × Obj)} {x : Addr × Obj} : ∀ p ∈ rowsL B V nn (x :: t), p ∈ x :: rowsL B V nn t := by
  intro p hp
  rw [rowsL_eq] at hp ⊢
  rcases List.mem_append.mp hp with hp | hp
  · exact List.mem_cons_of_mem _ (List.mem_append_left _ hp)
  · rcases List.mem_cons.mp hp with rfl | hp
    · exact List.mem_cons_self
    · exact List.mem_cons_of_mem _ (List.mem_append_right _ hp)
theorem small_i {i : Nat} (h : i < 5) : Builtin.Range.small 0 (i : Int) 1 = true := by
  match i, h with
  | 0, _ => decide
  | 1, _ => decide
  | 2, _ => decide
  | 3, _ => decide
  | 4, _ => decide
theorem size_i {i : Nat} (h : i < 5) : Builtin.Range.rangeSize 0 (i : Int) 1 = ((i : Nat) : Int) := by
  match i, h with
  | 0, _ => decide
  | 1, _ => decide
  | 2, _ => decide
  | 3, _ => decide
  | 4, _ => decide
theorem forR0 {prog : Program} {w : World} {A : Around} {E : Value → Shared → Prop} {s : Shared} {env : Env} {x : Str} {px : Pos} {body : List Stmt} {Q : Flow → Shared → Prop} {h₀ : Heap} {L I : Addr} {n : Nat} (J : Nat → (Str → Option Value) → List (Addr × Obj) → Prop) (hE : PassesOwn (model prog w) A env E) (hh : A.handled = none)
    (step : ∀ (i : Nat) t m₁ nw I o s₁ Q9, i < n → J i m₁ nw → Fr h₀ L s₁.heap m₁ → News h₀ L s₁.heap ((I, o) :: nw) → (∀ p ∈ nw, p.1 ≠ I) → LEnd h₀ L I o (J (i + 1)) s₁ Q9 →
      wpAny (model prog w) A (storeName env x (.int (i : Int) t)) (fun _ s₂ => wpAny (model prog w) A (execs body env) Q9 E s₂) E s₁)
    (fin : ∀ m₁ nw h tk, J n m₁ nw → Fr h₀ L h m₁ → News h₀ L h nw → Q .next { s with heap := h, toks := tk })
    (m₁ : Str → Option Value) (nw : List (Addr × Obj)) (h : Heap) (tk : Nat) (j : J 0 m₁ nw) (F : Fr h₀ L h m₁) (N : News h₀ L h ((I, itR 0 (n : Int)) :: nw)) (off : ∀ p ∈ nw, p.1 ≠ I) :
      ForRest prog w A E env x px body Q (.ref I) { s with heap := h, toks := tk } :=
  forR_ind (a := 0) J hE hh (fun i t m₁ nw I o s₁ Q9 hi j F N off H => by rw [Int.zero_add]; exact step i t m₁ nw I o s₁ Q9 hi j F N off H) fin n 0 m₁ nw h tk (Nat.zero_add n) j F N off
noncomputable def qM (m0 : Str → Option Value) (ma mb mm : Option Value) : Str → Option Value := fun y => if y = Str.ofString "marks" then mm else if y = Str.ofString "b" then mb else if y = Str.ofString "a" then ma else m0 y
theorem qM_none (m0 : Str → Option Value) (h1 : m0 (Str.ofString "marks") = none) (h2 : m0 (Str.ofString "b") = none) (h3 : m0 (Str.ofString "a") = none) : m0 = qM m0 none none none := funext fun y => by
  unfold qM
  by_cases e1 : y = Str.ofString "marks"
  · rw [if_pos e1, e1, h1]
  · rw [if_neg e1]
    by_cases e2 : y = Str.ofString "b"
    · rw [if_pos e2, e2, h2]
    · rw [if_neg e2]
      by_cases e3 : y = Str.ofString "a"
      · rw [if_pos e3, e3, h3]
      · rw [if_neg e3]
theorem qM_a (m0 : Str → Option Value) (ma mb mm : Option Value) (v : Value) : (fun y => if y = Str.ofString "a" then some v else qM m0 ma mb mm y) = qM m0 (some v) mb mm := funext fun y => by
  unfold qM
  by_cases e3 : y = Str.ofString "a"
  · subst e3; rfl
  · rw [if_neg e3, if_neg e3, if_neg e3]
theorem qM_bm (m0 : Str → Option Value) (ma mb mm : Option Value) (v u : Value) : (fun y => if y = Str.ofString "marks" then some u else if y = Str.ofString "b" then some v else qM m0 ma mb mm y) = qM m0 ma (some v) (some u) := funext fun y => by
  unfold qM
  by_cases e1 : y = Str.ofString "marks"
  · simp only [if_pos e1]
  · simp only [if_neg e1]
    by_cases e2 : y = Str.ofString "b"
    · simp only [if_pos e2]
    · simp only [if_neg e2]
section
variable {prog : Program} {w : World} {A : Around} {E : Value → Shared → Prop} {s : Shared} {h₀ : Heap} {L : Addr} {m : Str → Option Value} {news : List (Addr × Obj)}
theorem item_tupN {Pf : Int → Obj → Prop} {X : Nat → Int} {l : Addr} {nws : List (Addr × Obj)} {value slice : PySem.Expr} {vs : List Value} {n : Nat} {k : Nat} {u : Tok} {Q : Value → Shared → Prop}
    (N : News h₀ L s.heap news) (hm : (l, listOf vs.toArray n) ∈ news) (hT : TupOk Pf X vs nws) (hb : k < 5) (h : ∀ a o, (a, o) ∈ nws → Pf (X k) o → Q (.ref a) s)
    (hs : subscripted slice false (.ref l) (.int (k : Int) u) = operate [.ref l, .int (k : Int) u] (getItem (.ref l) (.int (k : Int) u)) := by with_unfolding_all rfl) :
    wpAny (model prog w) A (subscriptTail value slice (.ref l) (.int (k : Int) u)) Q E s := item_tup N hm hT ⟨by omega, by omega⟩ h hs
theorem item_BN {B : Nat → Addr} {l : Addr} {value slice : PySem.Expr} {n : Nat} {k : Nat} {u : Tok} {Q : Value → Shared → Prop}
    (N : News h₀ L s.heap news) (hm : (l, listOf [.ref (B 0), .ref (B 1), .ref (B 2), .ref (B 3), .ref (B 4)].toArray n) ∈ news) (hb : k < 5) (h : Q (.ref (B k)) s)
    (hs : subscripted slice false (.ref l) (.int (k : Int) u) = operate [.ref l, .int (k : Int) u] (getItem (.ref l) (.int (k : Int) u)) := by with_unfolding_all rfl) :
    wpAny (model prog w) A (subscriptTail value slice (.ref l) (.int (k : Int) u)) Q E s := item_B N hm ⟨by omega, by omega⟩ h hs
theorem set_rowN {B : Nat → Addr} {V : Nat → List Value} {nn : Nat → Nat} {tail : List (Addr × Obj)} {I : Addr} {o : Obj} {R : Nat → List Int} {ka kb : Nat} {t tv : Tok} {x : Int} {Q : Unit → Shared → Prop} (F : Fr h₀ L s.heap m) (N : News h₀ L s.heap ((I, o) :: rowsL B V nn tail))
    (hI : ∀ k, k < 5 → B k ≠ I) (inj : ∀ j k, j < 5 → k < 5 → B j = B k → j = k) (off : ∀ k, k < 5 → ∀ p ∈ tail, p.1 ≠ B k) (hV : ∀ j, j < 5 → IntsAre (V j) (R j)) (hR : ∀ j, j < 5 → (R j).length = 5) (ha : ka < 5) (hb : kb < 5)
    (h : ∀ V' h', Fr h₀ L h' m → News h₀ L h' ((I, o) :: rowsL B V' nn tail) → (∀ j, j < 5 → IntsAre (V' j) (setR R ka kb x j)) → Q () { s with heap := h' }) :
    wpAny (model prog w) A (setItem (.ref (B ka)) (.int (kb : Int) t) (.int x tv)) Q E s :=
  set_row (ka := (ka : Int)) (kb := (kb : Int)) F N hI inj off hV hR ⟨by omega, by omega⟩ ⟨by omega, by omega⟩ h
theorem setR_len {R : Nat → List Int} {a b : Nat} {x : Int} (h : ∀ j, j < 5 → (R j).length = 5) : ∀ j, j < 5 → (setR R a b x j).length = 5 := fun j hj => by
  unfold setR
  split
  · rw [List.length_set]; exact h j hj
  · exact h j hj
end
/-- the rows after the turns (a, 0) .. (a, b - 1) -/
noncomputable def MM (X : Nat → Int) (a b j k : Nat) : Int := if (j < a ∧ k < a) ∨ (j = a ∧ k < b) ∨ (k = a ∧ j < b) then qdue (X j) (X k) else 0
noncomputable def rowM (M : Nat → Nat → Int) (j : Nat) : List Int := [M j 0, M j 1, M j 2, M j 3, M j 4]
theorem rowM_len (M : Nat → Nat → Int) (j : Nat) : (rowM M j).length = 5 := rfl
theorem rowM_set (M : Nat → Nat → Int) (j b : Nat) (x : Int) (hb : b < 5) : (rowM M j).set b x = rowM (fun j' k => if k = b then x else M j' k) j := by
  match b, hb with
  | 0, _ => rfl
  | 1, _ => rfl
  | 2, _ => rfl
  | 3, _ => rfl
  | 4, _ => rfl
theorem setR_rowM (M : Nat → Nat → Int) (a b : Nat) (x : Int) (hb : b < 5) : setR (rowM M) a b x = rowM (fun j k => if j = a ∧ k = b then x else M j k) := funext fun j => by
  unfold setR
  by_cases h : j = a
  · rw [if_pos h, rowM_set M j b x hb]
    simp only [rowM, h, true_and]
  · rw [if_neg h]
    simp only [rowM, h, false_and, if_false]
noncomputable abbrev CM (a b j k : Nat) : Prop := (j < a ∧ k < a) ∨ (j = a ∧ k < b) ∨ (k = a ∧ j < b)
theorem CM_next {a b j k : Nat} : CM a (b + 1) j k ↔ (CM a b j k ∨ (j = a ∧ k = b) ∨ (j = b ∧ k = a)) := by
  constructor
  · rintro (h | ⟨h, h'⟩ | ⟨h, h'⟩)
    · exact .inl (.inl h)
    · exact (Nat.lt_or_eq_of_le (Nat.le_of_lt_succ h')).elim (fun q => .inl (.inr (.inl ⟨h, q⟩))) (fun q => .inr (.inl ⟨h, q⟩))
    · exact (Nat.lt_or_eq_of_le (Nat.le_of_lt_succ h')).elim (fun q => .inl (.inr (.inr ⟨h, q⟩))) (fun q => .inr (.inr ⟨q, h⟩))
  · rintro ((h | ⟨h, h'⟩ | ⟨h, h'⟩) | ⟨h, h'⟩ | ⟨h, h'⟩)
    · exact .inl h
    · exact .inr (.inl ⟨h, Nat.lt_succ_of_lt h'⟩)
    · exact .inr (.inr ⟨h, Nat.lt_succ_of_lt h'⟩)
    · exact .inr (.inl ⟨h, h' ▸ Nat.lt_succ_self _⟩)
    · exact .inr (.inr ⟨h', h ▸ Nat.lt_succ_self _⟩)
theorem CM_roll {a j k : Nat} : CM (a + 1) 0 j k ↔ (CM a a j k ∨ (j = a ∧ k = a)) := by
  constructor
  · rintro (⟨h, h'⟩ | ⟨_, h⟩ | ⟨_, h⟩)
    · rcases Nat.lt_or_eq_of_le (Nat.le_of_lt_succ h) with h | h <;> rcases Nat.lt_or_eq_of_le (Nat.le_of_lt_succ h') with h' | h'
      · exact .inl (.inl ⟨h, h'⟩)
      · exact .inl (.inr (.inr ⟨h', h⟩))
      · exact .inl (.inr (.inl ⟨h, h'⟩))
      · exact .inr ⟨h, h'⟩
    · exact absurd h (Nat.not_lt_zero _)
    · exact absurd h (Nat.not_lt_zero _)
  · rintro ((⟨h, h'⟩ | ⟨h, h'⟩ | ⟨h, h'⟩) | ⟨h, h'⟩)
    · exact .inl ⟨Nat.lt_succ_of_lt h, Nat.lt_succ_of_lt h'⟩
    · exact .inl ⟨h ▸ Nat.lt_succ_self _, Nat.lt_succ_of_lt h'⟩
    · exact .inl ⟨Nat.lt_succ_of_lt h', h ▸ Nat.lt_succ_self _⟩
    · exact .inl ⟨h ▸ Nat.lt_succ_self _, h' ▸ Nat.lt_succ_self _⟩
theorem CM_ba {a b : Nat} (h : b < a) : ¬ CM a b b a := by
  rintro (⟨_, q⟩ | ⟨q, _⟩ | ⟨_, q⟩)
  · exact Nat.lt_irrefl _ q
  · exact Nat.ne_of_lt h q
  · exact Nat.lt_irrefl _ q
theorem CM_ab {a b : Nat} (h : b < a) : ¬ CM a b a b := by
  rintro (⟨q, _⟩ | ⟨_, q⟩ | ⟨q, _⟩)
  · exact Nat.lt_irrefl _ q
  · exact Nat.lt_irrefl _ q
  · exact Nat.ne_of_lt h q
theorem CM_aa {a : Nat} : ¬ CM a a a a := by
  rintro (⟨q, _⟩ | ⟨_, q⟩ | ⟨_, q⟩) <;> exact Nat.lt_irrefl _ q
theorem MM_pos {X : Nat → Int} {a b j k : Nat} (h : CM a b j k) : MM X a b j k = qdue (X j) (X k) := if_pos h
theorem MM_neg {X : Nat → Int} {a b j k : Nat} (h : ¬ CM a b j k) : MM X a b j k = 0 := if_neg h
theorem MM_yes (X : Nat → Int) {a b : Nat} (h : b < a) (ha : a < 5) (hq : qdue (X a) (X b) = 1) : setR (setR (rowM (MM X a b)) a b 1) b a 1 = rowM (MM X a (b + 1)) := by
  rw [setR_rowM _ _ _ _ (by omega), setR_rowM _ _ _ _ (by omega)]
  congr 1
  funext j k
  have hq' : qdue (X b) (X a) = 1 := by rw [qdue_symm]; exact hq
  by_cases h1 : j = b ∧ k = a
  · rw [if_pos h1, MM_pos (CM_next.mpr (.inr (.inr h1))), h1.1, h1.2, hq']
  · rw [if_neg h1]
    by_cases h2 : j = a ∧ k = b
    · rw [if_pos h2, MM_pos (CM_next.mpr (.inr (.inl h2))), h2.1, h2.2, hq]
    · rw [if_neg h2]
      by_cases h3 : CM a b j k
      · rw [MM_pos h3, MM_pos (CM_next.mpr (.inl h3))]
      · rw [MM_neg h3, MM_neg fun q => (CM_next.mp q).elim h3 fun q => q.elim h2 h1]
theorem MM_no (X : Nat → Int) {a b : Nat} (h : b < a) (hq : qdue (X a) (X b) = 0) : MM X a b = MM X a (b + 1) := by
  funext j k
  have hq' : qdue (X b) (X a) = 0 := by rw [qdue_symm]; exact hq
  by_cases h1 : j = b ∧ k = a
  · rw [MM_pos (CM_next.mpr (.inr (.inr h1))), h1.1, h1.2, MM_neg (CM_ba h), hq']
  · by_cases h2 : j = a ∧ k = b
    · rw [MM_pos (CM_next.mpr (.inr (.inl h2))), h2.1, h2.2, MM_neg (CM_ab h), hq]
    · by_cases h3 : CM a b j k
      · rw [MM_pos h3, MM_pos (CM_next.mpr (.inl h3))]
      · rw [MM_neg h3, MM_neg fun q => (CM_next.mp q).elim h3 fun q => q.elim h2 h1]
theorem MM_next (X : Nat → Int) (a : Nat) : MM X a a = MM X (a + 1) 0 := by
  funext j k
  by_cases h1 : j = a ∧ k = a
  · rw [MM_pos (CM_roll.mpr (.inr h1)), h1.1, h1.2, MM_neg CM_aa, qdue_diag]
  · by_cases h3 : CM a a j k
    · rw [MM_pos h3, MM_pos (CM_roll.mpr (.inl h3))]
    · rw [MM_neg h3, MM_neg fun q => (CM_roll.mp q).elim h3 h1]
theorem MM_zero (X : Nat → Int) (j : Nat) : rowM (MM X 0 0) j = [0, 0, 0, 0, 0] := by
  have h : ∀ k, MM X 0 0 j k = 0 := fun k => by unfold MM; rw [if_neg (by omega)]
  unfold rowM
  rw [h, h, h, h, h]
inductive qJ (B : Nat → Addr) (nn : Nat → Nat) (m0 : Str → Option Value) (T : List (Addr × Obj)) (X : Nat → Int) (i : Nat) (m : Str → Option Value) (nw : List (Addr × Obj)) : Prop
  | mk : ∀ ma mb mm V, (m = qM m0 ma mb mm) → (nw = rowsL B V nn T) → (∀ j, j < 5 → IntsAre (V j) (rowM (MM X i 0) j)) → qJ B nn m0 T X i m nw
inductive qK (B : Nat → Addr) (nn : Nat → Nat) (m0 : Str → Option Value) (ma : Option Value) (T : List (Addr × Obj)) (X : Nat → Int) (i b : Nat) (m : Str → Option Value) (nw : List (Addr × Obj)) : Prop
  | mk : ∀ mb mm V, (m = qM m0 ma mb mm) → (nw = rowsL B V nn T) → (∀ j, j < 5 → IntsAre (V j) (rowM (MM X i b) j)) → qK B nn m0 ma T X i b m nw
theorem turnQ {h₀ h' : Heap} {L I : Addr} {o : Obj} {s : Shared} {Q9 : Flow → Shared → Prop} {B : Nat → Addr} {V V' : Nat → List Value} {nn : Nat → Nat} {m0 m' : Str → Option Value} {ma mb mm : Option Value} {T : List (Addr × Obj)} {X : Nat → Int} {R : Nat → List Int} {i b : Nat} {tk' : Nat} (H : LEnd h₀ L I o (qK B nn m0 ma T X i (b + 1)) s Q9)
    (F : Fr h₀ L h' m') (N : News h₀ L h' ((I, o) :: rowsL B V' nn T)) (hV' : ∀ j, j < 5 → IntsAre (V' j) (R j)) (off : ∀ p ∈ rowsL B V nn T, p.1 ≠ I) (hm : m' = qM m0 ma mb mm) (hR : R = rowM (MM X i (b + 1))) :
    Q9 .next { s with heap := h', toks := tk' } :=
  LEnd.fin H (rowsL B V' nn T) F N (fun _ h => h) (rowsL_all (P := fun b => b ≠ I) (rowsL_B (P := fun b => b ≠ I) off) fun p hp => off p (rowsL_tail hp)) ⟨mb, mm, V', hm, rfl, fun j hj => hR ▸ hV' j hj⟩
noncomputable def qM0 (DC DB DA l9 wd : Addr) : Str → Option Value := fun z => if z = Str.ofString "rows" then some (.ref DC) else if z = Str.ofString "second" then some (.ref DB) else if z = Str.ofString "first" then some (.ref DA) else if z = Str.ofString "white" then some (.ref l9) else if z = Str.ofString "words" then some (.ref wd) else none
theorem MM_full (X : Nat → Int) {j : Nat} (hj : j < 5) : rowM (MM X 5 0) j = [qdue (X j) (X 0), qdue (X j) (X 1), qdue (X j) (X 2), qdue (X j) (X 3), qdue (X j) (X 4)] := by
  have h : ∀ k, k < 5 → MM X 5 0 j k = qdue (X j) (X k) := fun k hk => MM_pos (.inl ⟨hj, hk⟩)
  unfold rowM
  rw [h 0 (by decide), h 1 (by decide), h 2 (by decide), h 3 (by decide), h 4 (by decide)]
/-- what _law_quarrels hands back: five rows, somewhere on the new ledger -/
inductive QPost (X : Nat → Int) (r : Value) (nw : List (Addr × Obj)) : Prop
  | mk : ∀ l vs n, r = .ref l → (l, listOf vs.toArray n) ∈ nw → vs.length = 5 → RowsIn vs (rowM (MM X 5 0)) nw → QPost X r nw
theorem rowsIn_B {B : Nat → Addr} {V : Nat → List Value} {nn : Nat → Nat} {R : Nat → List Int} {x : Addr × Obj} (h : ∀ j, j < 5 → IntsAre (V j) (R j)) : RowsIn [.ref (B 0), .ref (B 1), .ref (B 2), .ref (B 3), .ref (B 4)] R (x :: rowsL B V nn []) := fun k hk =>
  ⟨B k, V k, nn k, by
    match k, hk with
    | 0, _ => rfl
    | 1, _ => rfl
    | 2, _ => rfl
    | 3, _ => rfl
    | 4, _ => rfl, List.mem_cons_of_mem _ (rowsL_at hk), h k hk⟩
section
variable {prog : Program} {w : World} {A : Around} {E : Value → Shared → Prop} {s : Shared} {h₀ : Heap} {L : Addr} {m : Str → Option Value} {env : Env} {elt iter : PySem.Expr} {x y d0 : Str} {px pos : Pos} {scope : Scope} {cl : List (Str × Addr)} {news : List (Addr × Obj)}
/-- the frame of a comprehension whose name is a cell, at K -/
noncomputable def cellEnv (scope : Scope) (cl : List (Str × Addr)) (x : Str) (C K : Addr) (env : Env) : Env :=
  { scope := relabel scope env, locals := C, globals := env.globals, cells := (x, K) :: cl, qual := env.qual, func := none, code := env.code, frame := env.frame, builtins := env.builtins }
noncomputable def CellOut (h₀ : Heap) (L : Addr) (m : Str → Option Value) (s : Shared) (all : List (Addr × Obj)) (P : Obj → Prop) (v : Value) (s' : Shared) : Prop :=
  ∃ l o h' tk', v = .ref l ∧ s' = { s with heap := h', toks := tk' } ∧ Fr h₀ L h' m ∧ News h₀ L h' ((l, o) :: all) ∧ (∀ p ∈ all, p.1 ≠ l) ∧ P o
theorem CellOut.mk {l : Addr} {o : Obj} {h' : Heap} {tk' : Nat} {all : List (Addr × Obj)} {P : Obj → Prop} (F : Fr h₀ L h' m) (N : News h₀ L h' ((l, o) :: all)) (d : LCg.Off1 l all) (p : P o) : CellOut h₀ L m s all P (.ref l) { s with heap := h', toks := tk' } :=
  ⟨l, o, h', tk', rfl, rfl, F, N, off1_mem d, p⟩
structure CellEnd (h₀ : Heap) (L : Addr) (m : Str → Option Value) (s₁ : Shared) (all : List (Addr × Obj)) (P : Obj → Prop) (Q : Value → Shared → Prop) : Prop where
  go : ∀ l o h' tk', Fr h₀ L h' m → News h₀ L h' ((l, o) :: all) → LCg.Off1 l all → P o → Q (.ref l) { s₁ with heap := h', toks := tk' }
noncomputable def CellTurn (prog : Program) (w : World) (A : Around) (h₀ : Heap) (L : Addr) (m : Str → Option Value) (env : Env) (elt : PySem.Expr) (x : Str) (scope : Scope) (cl : List (Str × Addr)) (news : List (Addr × Obj)) (Pf : Int → Obj → Prop) : Prop :=
  ∀ k t I oI C oC K oK D oD nw s₁ (E' : Value → Shared → Prop) (Q9 : Value → Shared → Prop), (0 ≤ k ∧ k < 64) → oK.data = .cell (some (.int k t)) → Fr h₀ L s₁.heap m → News h₀ L s₁.heap ((I, oI) :: (C, oC) :: (K, oK) :: (D, oD) :: nw) →
    (∀ p ∈ nw, p.1 ≠ I) → (∀ p ∈ nw, p.1 ≠ C) → (∀ p ∈ nw, p.1 ≠ K) → (∀ p ∈ nw, p.1 ≠ D) → (@Ne Nat I C) → (@Ne Nat I K) → (@Ne Nat I D) → (@Ne Nat C K) → (@Ne Nat C D) → (@Ne Nat K D) → (∀ p ∈ news, p ∈ nw) → CellEnd h₀ L m s₁ ((I, oI) :: (C, oC) :: (K, oK) :: (D, oD) :: nw) (Pf k) Q9 →
    wpAny (model prog w) A (eval elt (cellEnv scope cl x C K env)) Q9 E' s₁
/-- the rows that the turns have laid, newest first -/
noncomputable def RowsP (Pf : Int → Obj → Prop) (news : List (Addr × Obj)) : List Int → List (Addr × Obj) → Prop
  | [], os => os = []
  | k :: ks, os => ∃ l o r, os = (l, o) :: r ∧ Pf k o ∧ (∀ p ∈ news, p.1 ≠ l) ∧ RowsP Pf news ks r
noncomputable def refsOf (os : List (Addr × Obj)) : List Value := os.reverse.map fun p => .ref p.1
inductive CellSrc (prog : Program) (w : World) (A : Around) (h₀ : Heap) (L : Addr) (m : Str → Option Value) (env : Env) (elt : PySem.Expr) (x : Str) (scope : Scope) (cl : List (Str × Addr)) (Q : Value → Shared → Prop) : Value → Shared → Prop
  | mk {ax : Addr} {n : Nat} {news : List (Addr × Obj)} {its : List Value} {xs : List Int} {s₁ : Shared} (Pf : Int → Obj → Prop) (hh : A.handled = none) (F : Fr h₀ L s₁.heap m) (N : News h₀ L s₁.heap news) (hm : (ax, listOf its.toArray n) ∈ news) (hi : IntsAre its xs) (hsm : its.length ≤ sizeLine) (hb : ∀ k ∈ xs, 0 ≤ k ∧ k < 64)
    (turn : CellTurn prog w A h₀ L m env elt x scope cl news Pf)
    (fin : ∀ os D h' tk', RowsP Pf news xs.reverse os → (∀ p ∈ news, p.1 ≠ D) →
      Fr h₀ L h' m → News h₀ L h' ((D, LCg.lst (refsOf os)) :: (os ++ news)) → Q (.ref D) { s₁ with heap := h', toks := tk' }) : CellSrc prog w A h₀ L m env elt x scope cl Q (.ref ax) s₁
theorem cell_name {M : Model} {C K c : Addr} {o : Obj} {n : Str} {p : Pos} {v : Value} {Q : Value → Shared → Prop} (N : News h₀ L s.heap news) (hc : ((x, K) :: cl).lookup n = some c) (hm : (c, o) ∈ news) (hd : o.data = .cell (some v)) (h : Q v s)
    (hk : (cellEnv scope cl x C K env).scope.kind = .function) (hx : (cellEnv scope cl x C K env).kindOf n = some .cell) (hb : (n == ("__debug__" : Str)) = false) : wpAny M A (eval (.Name n p) (cellEnv scope cl x C K env)) Q E s :=
  wpAny_Name (wpAny_loadName_cell hk hx hc ⟨o, N.get hm, hd⟩ h) hb
theorem ints_at : ∀ {vs : List Value} {ns : List Int}, IntsAre vs ns → ∀ {i : Nat} {v : Value}, vs[i]? = some v → ∃ k t, ns[i]? = some k ∧ v = .int k t
  | _, _, .nil, _, _, h => by simp at h
  | _, _, .cons k t r, 0, _, h => by cases h; exact ⟨k, t, rfl, rfl⟩
  | _, _, .cons k t r, i + 1, _, h => ints_at r (i := i) (by simpa using h)
theorem rowsP_len {Pf : Int → Obj → Prop} {news : List (Addr × Obj)} : ∀ {ks : List Int} {os : List (Addr × Obj)}, RowsP Pf news ks os → os.length = ks.length
  | [], os, h => by rw [show os = [] from h]; rfl
  | k :: ks, os, h => by
    obtain ⟨l, o, r, rfl, _, _, hr⟩ := h
    rw [List.length_cons, List.length_cons, rowsP_len hr]
theorem refsOf_cons (l : Addr) (o : Obj) (r : List (Addr × Obj)) : refsOf ((l, o) :: r) = refsOf r ++ [.ref l] := by
  unfold refsOf; rw [List.reverse_cons, List.map_append]; rfl
inductive LoopI (h₀ : Heap) (L : Addr) (m : Str → Option Value) (I C K D ax : Addr) (its : List Value) (xs : List Int) (news : List (Addr × Obj)) (Pf : Int → Obj → Prop) (sz : Shared) : Nat → Shared → Prop
  | mk (h' : Heap) (tk i : Nat) (os : List (Addr × Obj)) (m' : Str → Option Value) (v' : Option Value) (hle : i ≤ xs.length) (hst : h'.IsListIter I ax i ∧ h'.IsList ax its.toArray) (F : Fr h₀ L h' m) (hn : h'.Ns C m') (hc : h'.IsCell K v') (N : News h₀ L h' ((D, LCg.lst (refsOf os)) :: (os ++ news)))
    (pI : ∀ p ∈ os, p.1 ≠ I) (pC : ∀ p ∈ os, p.1 ≠ C) (pK : ∀ p ∈ os, p.1 ≠ K) (pD : ∀ p ∈ os, p.1 ≠ D) (hR : RowsP Pf news (xs.take i).reverse os) : LoopI h₀ L m I C K D ax its xs news Pf sz (xs.length + 1 - i) { sz with heap := h', toks := tk }
theorem loop_C {I D C K ax : Addr} {its : List Value} {xs : List Int} {n : Nat} {news : List (Addr × Obj)} {Pf : Int → Obj → Prop} {sz : Shared} {RR : Result → Shared → Prop} {h₁ : Heap} {tk₁ : Nat} {m₁ : Str → Option Value} {v₁ : Option Value}
    (hh : A.handled = none) (hIx : ax ≠ I) (hi : IntsAre its xs) (hsm : its.length ≤ sizeLine) (hax : (ax, listOf its.toArray n) ∈ news) (hk : (cellEnv scope cl x C K env).scope.kind = .function) (hx : (cellEnv scope cl x C K env).kindOf x = some .cell)
    (hb : ∀ k ∈ xs, 0 ≤ k ∧ k < 64) (nIC : I ≠ C) (nIK : I ≠ K) (nID : I ≠ D) (nCK : C ≠ K) (nCD : C ≠ D) (nKD : K ≠ D)
    (oI : ∀ p ∈ news, p.1 ≠ I) (oC : ∀ p ∈ news, p.1 ≠ C) (oK : ∀ p ∈ news, p.1 ≠ K) (oD : ∀ p ∈ news, p.1 ≠ D) (fI : h₀.get? I = none) (fC : h₀.get? C = none) (fK : h₀.get? K = none) (fD : h₀.get? D = none)
    (lI : L ≠ I) (lC : L ≠ C) (lK : L ≠ K) (lD : L ≠ D) (turn : CellTurn prog w A h₀ L m env elt x scope cl news Pf) (hst : h₁.IsListIter I ax 0 ∧ h₁.IsList ax its.toArray)
    (F : Fr h₀ L h₁ m) (hN : h₁.Ns C m₁) (hK : h₁.IsCell K v₁) (N : News h₀ L h₁ ((D, LCg.lst []) :: news))
    (hRR : ∀ os h tk m', Fr h₀ L h m → News h₀ L h ((D, LCg.lst (refsOf os)) :: (os ++ news)) → h.Ns C m' → (∀ p ∈ os, p.1 ≠ C) → RowsP Pf news xs.reverse os → RR (.ok .next) { sz with heap := h, toks := tk }) :
    codeAny (model prog w) A (.compLoop (.ListComp elt [⟨.Name x px, iter, [], 0⟩] scope pos) 0 (.ref I) (.ref D) (cellEnv scope cl x C K env)) RR { sz with heap := h₁, toks := tk₁ } := by
  have W := Walks.list (prog := prog) (w := w) hh I ax hIx its.toArray
  have hsz : its.toArray.size = xs.length := by rw [List.size_toArray, hi.length]
  refine codeAny_compLoop_tests (LoopI h₀ L m I C K D ax its xs news Pf sz) ?_ (xs.length + 1)
    (LoopI.mk h₁ _ 0 [] _ _ (Nat.zero_le _) hst F hN hK N (fun _ h => nomatch h) (fun _ h => nomatch h) (fun _ h => nomatch h) (fun _ h => nomatch h) rfl)
  rintro k s' ⟨h', tk, i, os, m', v', hle, hst', F', hn', hc', N', pI, pC, pK, pD, hR⟩
  have app : ∀ {Z : Addr}, (∀ p ∈ os, p.1 ≠ Z) → (∀ p ∈ news, p.1 ≠ Z) → ∀ p ∈ os ++ news, p.1 ≠ Z := fun h1 h2 p hp => (List.mem_append.mp hp).elim (h1 p) (h2 p)
  have aI := app pI oI
  have aC := app pC oC
  have aK := app pK oK
  have aD := app pD oD
  have NI : ∀ h₂ : Heap, (∀ b o, b ∉ [I] → h'.get? b = some o → h₂.get? b = some o) → News h₀ L h₂ ((D, LCg.lst (refsOf os)) :: (os ++ news)) := fun h₂ hk₂ => LCg.news_but N' hk₂ fun p hp => by
    rcases List.mem_cons.mp hp with rfl | hp
    · exact Ne.symm nID
    · exact aI p hp
  by_cases hlt : i < xs.length
  · refine W.item i _ _ _ (hsz ▸ hlt) hst' fun v h₂ tk₂ hPv hst₂ hk₂ => ?_
    obtain ⟨t, rfl⟩ : ∃ t, v = .int xs[i] t := by
      obtain ⟨kv, t, e1, e2⟩ := ints_at hi (i := i) (by simpa using hPv)
      rw [List.getElem?_eq_getElem hlt] at e1
      cases e1
      exact ⟨t, e2⟩
    have F₂ := LCg.fr_but F' hk₂ lI fI
    have N₂ := NI h₂ hk₂
    have hn₂ : h₂.Ns C m' := hn'.at' fun o e => hk₂ _ o (by simpa using Ne.symm nIC) e
    have hc₂ : h₂.IsCell K v' := by obtain ⟨o, e, d⟩ := hc'; exact ⟨o, hk₂ _ o (by simpa using Ne.symm nIK) e, d⟩
    refine wpAny_assign_Name (wpAny_storeName_cell hk hx (List.lookup_cons_self) hc₂ fun h₃ hc₃ hs₃ => ?_)
    refine wpAny_tests_nil ?_
    simp only [if_true]
    have hst₃ : h₃.IsListIter I ax (i + 1) ∧ h₃.IsList ax its.toArray := W.frame _ _ _ hst₂ fun b hb o e => hs₃.extBut b o (fun q => by
      subst q
      rcases List.mem_cons.mp hb with e | e
      · exact nIK e.symm
      · exact oK _ hax (List.mem_singleton.mp e).symm) e
    obtain ⟨oI', heI, _⟩ := id hst₃.1
    obtain ⟨oC', heC, hoC⟩ := LCg.ns_obj (hn₂.sameBut hs₃ nCK)
    obtain ⟨oK', heK, hdK⟩ := id hc₃
    have F₃ : Fr h₀ L h₃ m := F₂.change hs₃ (Ne.symm lK) fK
    have N₃ : News h₀ L h₃ ((I, oI') :: (C, oC') :: (K, oK') :: (D, LCg.lst (refsOf os)) :: (os ++ news)) := fun p hp => by
      rcases List.mem_cons.mp hp with rfl | hp
      · exact ⟨heI, Ne.symm lI, fI⟩
      rcases List.mem_cons.mp hp with rfl | hp
      · exact ⟨heC, Ne.symm lC, fC⟩
      rcases List.mem_cons.mp hp with rfl | hp
      · exact ⟨heK, Ne.symm lK, fK⟩
      have z := N₂ p hp
      refine ⟨hs₃.extBut _ _ ?_ z.1, z.2⟩
      rcases List.mem_cons.mp hp with rfl | hp
      · exact Ne.symm nKD
      · exact aK p hp
    refine wpAny_mono (turn xs[i] t I oI' C oC' K oK' D (LCg.lst (refsOf os)) (os ++ news) { sz with heap := h₃, toks := tk₂ } _ (CellOut h₀ L m { sz with heap := h₃, toks := tk₂ } ((I, oI') :: (C, oC') :: (K, oK') :: (D, LCg.lst (refsOf os)) :: (os ++ news)) (Pf xs[i])) (hb _ (List.getElem_mem hlt)) hdK F₃ N₃ aI aC aK aD nIC nIK nID nCK nCD nKD (fun p hp => List.mem_append_right _ hp) ⟨fun _ _ _ _ F N d p => CellOut.mk F N d p⟩) (fun y s₄ h₄ => ?_) fun _ _ e => e
    obtain ⟨l, o, h₄, tk₄, rfl, rfl, F₄, N₄, off₄, hP⟩ := h₄
    have zI := (N₄ (I, oI') (List.mem_cons_of_mem _ List.mem_cons_self)).1
    have zC := (N₄ (C, oC') (List.mem_cons_of_mem _ (List.mem_cons_of_mem _ List.mem_cons_self))).1
    have zK := (N₄ (K, oK') (List.mem_cons_of_mem _ (List.mem_cons_of_mem _ (List.mem_cons_of_mem _ List.mem_cons_self)))).1
    have zD := (N₄ (D, LCg.lst (refsOf os)) (List.mem_cons_of_mem _ (List.mem_cons_of_mem _ (List.mem_cons_of_mem _ (List.mem_cons_of_mem _ List.mem_cons_self))))).1
    have eI : I ≠ l := off₄ (I, oI') List.mem_cons_self
    have eC : C ≠ l := off₄ (C, oC') (List.mem_cons_of_mem _ List.mem_cons_self)
    have eK : K ≠ l := off₄ (K, oK') (List.mem_cons_of_mem _ (List.mem_cons_of_mem _ List.mem_cons_self))
    have eD : D ≠ l := off₄ (D, LCg.lst (refsOf os)) (List.mem_cons_of_mem _ (List.mem_cons_of_mem _ (List.mem_cons_of_mem _ List.mem_cons_self)))
    have N₄' : News h₀ L h₄ (((l, o) :: os) ++ news) := fun p hp => by
      rcases List.mem_cons.mp hp with rfl | hp
      · exact N₄ _ List.mem_cons_self
      · exact N₄ _ (List.mem_cons_of_mem _ (List.mem_cons_of_mem _ (List.mem_cons_of_mem _ (List.mem_cons_of_mem _ (List.mem_cons_of_mem _ hp)))))
    have hst₄ : h₄.IsListIter I ax (i + 1) ∧ h₄.IsList ax its.toArray := LCg.list_st _ _ _ _ _ hst₃ heI zI F₄.keep N₄' (.inr ⟨_, List.mem_append_right _ hax, rfl, _, rfl⟩)
    have hlen : (refsOf os).toArray.size ≤ sizeLine := by
      have e := rowsP_len hR
      rw [List.length_reverse, List.length_take] at e
      rw [List.size_toArray]; unfold refsOf
      rw [List.length_map, List.length_reverse, e]
      exact Nat.le_trans (Nat.min_le_right _ _) (hi.length ▸ hsm)
    refine append_at (hsz := hlen) zD fun h₅ hs₅ hD₅ => ?_
    refine ⟨xs.length + 1 - (i + 1), by omega, LoopI.mk h₅ tk₄ (i + 1) ((l, o) :: os) _ _ hlt (W.frame _ _ _ hst₄ fun b hb o' e => hs₅.extBut b o' (fun q => by
      subst q
      rcases List.mem_cons.mp hb with e | e
      · exact nID e.symm
      · exact oD _ hax (List.mem_singleton.mp e).symm) e) (F₄.change hs₅ (Ne.symm lD) fD) ((hoC.ns zC).sameBut hs₅ nCD) ((show h₄.IsCell K _ from ⟨_, zK, hdK⟩).sameBut hs₅ nKD) (fun p hp => ?_) ?_ ?_ ?_ ?_ ?_⟩
    · rcases List.mem_cons.mp hp with rfl | hp
      · exact ⟨hD₅.trans (congrArg some ((LCg.lst_snoc _ _).trans (congrArg LCg.lst (refsOf_cons l o os).symm))), Ne.symm lD, fD⟩
      · have z := N₄' p hp
        refine ⟨hs₅.extBut _ _ ?_ z.1, z.2⟩
        rcases List.mem_cons.mp hp with rfl | hp
        · exact Ne.symm eD
        · exact aD p hp
    · exact List.forall_mem_cons.mpr ⟨Ne.symm eI, pI⟩
    · exact List.forall_mem_cons.mpr ⟨Ne.symm eC, pC⟩
    · exact List.forall_mem_cons.mpr ⟨Ne.symm eK, pK⟩
    · exact List.forall_mem_cons.mpr ⟨Ne.symm eD, pD⟩
    · rw [List.take_succ, List.getElem?_eq_getElem hlt, List.reverse_append]
      exact ⟨l, o, os, rfl, hP, fun p hp => off₄ p (List.mem_cons_of_mem _ (List.mem_cons_of_mem _ (List.mem_cons_of_mem _ (List.mem_cons_of_mem _ (List.mem_append_right _ hp))))), hR⟩
  · obtain rfl : i = xs.length := Nat.le_antisymm hle (Nat.not_lt.mp hlt)
    refine W.done _ _ _ (by rw [hsz]; exact hst') fun h₂ tk₂ hk₂ => ?_
    rw [List.take_length] at hR
    exact hRR os h₂ tk₂ m' (LCg.fr_but F' hk₂ lI fI) (NI h₂ hk₂) (hn'.at' fun o e => hk₂ _ o (by simpa using Ne.symm nIC) e) pC hR
theorem env_C {M : Model} {globals : Addr} {qual : Str} {Q : Env → Shared → Prop} (hn : scope.names = [(d0, .local), (x, .cell), (y, .free)])
    (h : Q { scope := scope, locals := s.heap.objs.size, globals := globals, cells := (x, s.heap.objs.size + 1) :: cl, qual := qual, func := none, code := env.code, frame := env.frame, builtins := env.builtins }
      { s with heap := (s.heap.push { cls := .type "dict", data := .dict #[] }).push { cls := .type "cell", data := .cell none } }) :
    wpAny M A (newFunctionEnv scope globals cl [] qual none .none (some env)) Q E s := by
  simp only [newFunctionEnv, Option.isSome_some, if_true]
  refine wpAny_bind (wpAny_alloc ?_)
  refine wpAny_bind (wpAny_layCells _ (fun name kind cells => by cases hkc : kind == NameKind.cell <;> simp [hkc]) _ _ _ _ ?_)
  rw [hn]
  rw [show ({ s with heap := s.heap.push { cls := .type "dict", data := .dict #[] } } : Shared).heap.objs.size = s.heap.objs.size + 1 from Heap.size_push ..]
  exact wpAny_bind (wpAny_pure (wpAny_pure h))
theorem listcomp_C {Q : Value → Shared → Prop} (F₀ : Fr h₀ L s.heap m) (hclos : closureFor scope env = pure cl) (hn : scope.names = [(d0, .local), (x, .cell), (y, .free)]) (hkind : scope.kind = .function) (hd : d0 ≠ x)
    (h : wpAny (model prog w) A (eval iter env) (CellSrc prog w A h₀ L m env elt x scope cl Q) E s)
    (hs : ∀ x, foldedSetIterable iter env x = pure x := by intro _; rfl) :
    wpAny (model prog w) A (eval (.ListComp elt [⟨.Name x px, iter, [], 0⟩] scope pos) env) Q E s := by
  rw [eval_ListComp]
  have hnames : ∀ z ∈ scope.names, z.2 = .local → scope.names.lookup z.1 = some .local := by
    rw [hn]
    intro z hz hl
    rcases List.mem_cons.mp hz with rfl | hz
    · exact List.lookup_cons_self
    · simp only [List.mem_cons, List.not_mem_nil, or_false] at hz
      rcases hz with rfl | rfl <;> cases hl
  have hx : (relabel scope env).names.lookup x = some .cell := by
    have e : (relabel scope env).names = (d0, .local) :: (x, .cell) :: (if (NameKind.free == .free && env.scope.kind == .function && env.kindOf y == some .cell) then (y, .cell) else (y, .free)) :: [] := by
      unfold relabel
      rw [hn]
      rfl
    rw [e, List.lookup_cons, show (x == d0) = false from beq_eq_false_iff_ne.mpr (Ne.symm hd)]
    exact List.lookup_cons_self
  refine wpAny_comprehension_free (use := none) rfl hs hclos hkind hnames (wpAny_mono h (fun xv s₁ h₁ => ?_) fun _ _ e => e)
  rcases h₁ with @⟨ax, n, news, its, xs, _, Pf, hh, F, N, hm, hi, hsm, hb, turn, fin⟩
  have hl : s₁.heap.IsList ax _ := N.isList hm
  have hlt : ax < s₁.heap.objs.size := Heap.lt_size (N _ hm).1
  refine wpAny_pyIter_list hl ?_
  refine wpAny_newObj_type (env_C hn ?_)
  generalize hg1 : s₁.heap.push { cls := .type "list_iterator", data := .fields #[.ref ax, .int 0 0] } = g1
  have z1 : g1.objs.size = s₁.heap.objs.size + 1 := by rw [← hg1, Heap.size_push]
  generalize hg2 : g1.push { cls := .type "list", dict := none, data := .seq ([] : List Value).toArray } = g2
  have z2 : g2.objs.size = s₁.heap.objs.size + 1 + 1 := by rw [← hg2, Heap.size_push, z1]
  generalize hg3 : g2.push { cls := .type "dict", data := .dict #[] } = g3
  have z3 : g3.objs.size = s₁.heap.objs.size + 1 + 1 + 1 := by rw [← hg3, Heap.size_push, z2]
  generalize hg4 : g3.push { cls := .type "cell", data := .cell none } = g4
  have u4 : ∀ b o, g3.get? b = some o → g4.get? b = some o := fun b o e => hg4 ▸ Heap.get?_push_of_some _ e
  have u3 : ∀ b o, g2.get? b = some o → g4.get? b = some o := fun b o e => u4 b o (hg3 ▸ Heap.get?_push_of_some _ e)
  have u2 : ∀ b o, g1.get? b = some o → g4.get? b = some o := fun b o e => u3 b o (hg2 ▸ Heap.get?_push_of_some _ e)
  have u1 : ∀ b o, s₁.heap.get? b = some o → g4.get? b = some o := fun b o e => u2 b o (hg1 ▸ Heap.get?_push_of_some _ e)
  dsimp only
  rw [z1, z2]
  have fresh : ∀ a, s₁.heap.objs.size ≤ a → h₀.get? a = none := fun a ha => Heap.get?_none_of_le (Nat.le_trans (Nat.le_of_lt (Nat.lt_of_le_of_lt F.above F.ns.lt)) ha)
  have off : ∀ a, s₁.heap.objs.size ≤ a → ∀ p ∈ news, p.1 ≠ a := fun a ha p hp => Nat.ne_of_lt (Nat.lt_of_lt_of_le (Heap.lt_size (N p hp).1) ha)
  have offL : ∀ a, s₁.heap.objs.size ≤ a → L ≠ a := fun a ha => Nat.ne_of_lt (Nat.lt_of_lt_of_le F.ns.lt ha)
  have hI : g4.IsListIter s₁.heap.objs.size ax 0 := ⟨_, u2 _ _ (by rw [← hg1]; exact Heap.get?_push_size _ rfl), rfl, rfl⟩
  have hD : g4.get? (s₁.heap.objs.size + 1) = some (LCg.lst []) := by
    rw [← z1]; refine u3 _ _ ?_; rw [← hg2]; exact Heap.get?_push_size _ rfl
  have hC : g4.Ns (s₁.heap.objs.size + 1 + 1) (fun _ => none) := (z2 ▸ hg3 ▸ Heap.Ns.new g2 (.type "dict") : g3.Ns (s₁.heap.objs.size + 1 + 1) (fun _ => none)).keeps u4
  have hK : g4.IsCell (s₁.heap.objs.size + 1 + 1 + 1) none := by
    rw [← z3, ← hg4]; exact ⟨_, Heap.get?_push_size _ rfl, rfl⟩
  have hst : g4.IsListIter s₁.heap.objs.size ax 0 ∧ g4.IsList ax its.toArray := ⟨hI, (N.grown u1).isList hm⟩
  have n1 : @Ne Nat s₁.heap.objs.size (s₁.heap.objs.size + 1 + 1) := by omega
  have n2 : @Ne Nat s₁.heap.objs.size (s₁.heap.objs.size + 1 + 1 + 1) := by omega
  have n3 : @Ne Nat s₁.heap.objs.size (s₁.heap.objs.size + 1) := by omega
  have n4 : @Ne Nat (s₁.heap.objs.size + 1 + 1) (s₁.heap.objs.size + 1 + 1 + 1) := by omega
  have n5 : @Ne Nat (s₁.heap.objs.size + 1 + 1) (s₁.heap.objs.size + 1) := by omega
  have n6 : @Ne Nat (s₁.heap.objs.size + 1 + 1 + 1) (s₁.heap.objs.size + 1) := by omega
  have loop : ∀ tk, codeAny (model prog w) A (.compLoop (.ListComp elt [⟨.Name x px, iter, [], 0⟩] scope pos) 0 (.ref s₁.heap.objs.size) (.ref (s₁.heap.objs.size + 1)) (cellEnv scope cl x (s₁.heap.objs.size + 1 + 1) (s₁.heap.objs.size + 1 + 1 + 1) env))
      (compPost (model prog w) A E none Q (.ref (s₁.heap.objs.size + 1)) (s₁.heap.objs.size + 1 + 1)) { s₁ with heap := g4, toks := tk } := fun tk => by
    refine loop_C (sz := { s₁ with heap := g4 }) hh (Nat.ne_of_lt hlt) hi hsm hm hkind hx hb n1 n2 n3 n4 n5 n6
      (off _ (Nat.le_refl _)) (off _ (by omega)) (off _ (by omega)) (off _ (by omega)) (fresh _ (Nat.le_refl _)) (fresh _ (by omega)) (fresh _ (by omega)) (fresh _ (by omega)) (offL _ (Nat.le_refl _)) (offL _ (by omega)) (offL _ (by omega)) (offL _ (by omega))
      turn hst (F.keeps u1) hC hK (fun p hp => ?_) ?_
    · rcases List.mem_cons.mp hp with rfl | hp
      · exact ⟨hD, Ne.symm (offL _ (by omega)), fresh _ (by omega)⟩
      · exact (N.grown u1) p hp
    · intro os h tk' m' F' N' hn' pC hR
      refine ⟨m', hn', fun h'' hs'' => fin os _ h'' tk' hR (off _ (by omega)) (F'.change hs'' (Ne.symm (offL _ (by omega))) (fresh _ (by omega))) (fun p hp => ?_)⟩
      have z := N' p hp
      refine ⟨hs''.extBut _ _ ?_ z.1, z.2⟩
      rcases List.mem_cons.mp hp with rfl | hp
      · show s₁.heap.objs.size + 1 ≠ s₁.heap.objs.size + 1 + 1
        omega
      · rcases List.mem_append.mp hp with hp | hp
        · exact pC p hp
        · exact off _ (by omega) p hp
  exact codeAny_compStart_list (loop _) ((Walks.list (prog := prog) (w := w) hh _ ax (Nat.ne_of_lt hlt) _).self 0 _ _ _ hst (loop _))
end
theorem rows5 {Pf : Int → Obj → Prop} {news os : List (Addr × Obj)} {x0 x1 x2 x3 x4 : Int} {P : List (Addr × Obj) → Prop} (h : RowsP Pf news [x4, x3, x2, x1, x0] os)
    (k : ∀ l0 o0 l1 o1 l2 o2 l3 o3 l4 o4, Pf x0 o0 → Pf x1 o1 → Pf x2 o2 → Pf x3 o3 → Pf x4 o4 → (∀ p ∈ news, p.1 ≠ l0) → (∀ p ∈ news, p.1 ≠ l1) → (∀ p ∈ news, p.1 ≠ l2) → (∀ p ∈ news, p.1 ≠ l3) → (∀ p ∈ news, p.1 ≠ l4) → P [(l4, o4), (l3, o3), (l2, o2), (l1, o1), (l0, o0)]) : P os := by
  obtain ⟨l4, o4, r4, rfl, p4, q4, h⟩ := h
  obtain ⟨l3, o3, r3, rfl, p3, q3, h⟩ := h
  obtain ⟨l2, o2, r2, rfl, p2, q2, h⟩ := h
  obtain ⟨l1, o1, r1, rfl, p1, q1, h⟩ := h
  obtain ⟨l0, o0, r0, rfl, p0, q0, h⟩ := h
  obtain rfl : r0 = [] := h
  exact k _ _ _ _ _ _ _ _ _ _ p0 p1 p2 p3 p4 q0 q1 q2 q3 q4
noncomputable def dueR (X : Nat → Int) (j : Nat) : List Int := [qdue (X j) (X 0), qdue (X j) (X 1), qdue (X j) (X 2), qdue (X j) (X 3), qdue (X j) (X 4)]
noncomputable def dueL (X : Nat → Int) (k : Int) (o : Obj) : Prop := ListIs [qdue k (X 0), qdue k (X 1), qdue k (X 2), qdue k (X 3), qdue k (X 4)] o
inductive DueRows (X : Nat → Int) (news os : List (Addr × Obj)) : Prop
  | mk : (refsOf os).length = 5 → RowsIn (refsOf os) (dueR X) os → (∀ q ∈ os, ∀ p ∈ news, p.1 ≠ q.1) → DueRows X news os
theorem rowsP_in {X : Nat → Int} {news os : List (Addr × Obj)} (h : RowsP (dueL X) news [X 4, X 3, X 2, X 1, X 0] os) : DueRows X news os := by
  refine rows5 (P := DueRows X news) h fun l0 o0 l1 o1 l2 o2 l3 o3 l4 o4 p0 p1 p2 p3 p4 q0 q1 q2 q3 q4 => ?_
  obtain ⟨v0, n0, rfl, i0⟩ := p0
  obtain ⟨v1, n1, rfl, i1⟩ := p1
  obtain ⟨v2, n2, rfl, i2⟩ := p2
  obtain ⟨v3, n3, rfl, i3⟩ := p3
  obtain ⟨v4, n4, rfl, i4⟩ := p4
  refine ⟨rfl, rowsIn5 (R := dueR X) i0 i1 i2 i3 i4 (.tail _ (.tail _ (.tail _ (.tail _ (.head _))))) (.tail _ (.tail _ (.tail _ (.head _)))) (.tail _ (.tail _ (.head _))) (.tail _ (.head _)) (.head _), ?_⟩
  exact List.forall_mem_cons.mpr ⟨q4, List.forall_mem_cons.mpr ⟨q3, List.forall_mem_cons.mpr ⟨q2, List.forall_mem_cons.mpr ⟨q1, List.forall_mem_cons.mpr ⟨q0, List.forall_mem_nil _⟩⟩⟩⟩⟩
theorem arg3 {bt : Nat → Nat → Bool} {a b c v : Value} {l1 l2 : Bool} (h1 : bt 1 0 = l1) (h2 : bt 2 (if l1 then 1 else 0) = l2) (hP : (#[a, b, c] : Array Value)[argBest bt 2]? = some v) : v = if l2 then c else if l1 then b else a := by
  have e1 : argBest bt 1 = if l1 then 1 else 0 := by
    show (if bt 1 0 then 1 else 0) = _
    rw [h1]
  have e2 : argBest bt 2 = if l2 then 2 else (if l1 then 1 else 0) := by
    show (if bt 2 (argBest bt 1) then 2 else argBest bt 1) = _
    rw [e1, h2]
  rw [e2] at hP
  cases l1 <;> cases l2 <;> exact (Option.some.inj hP).symm
open Flt in
theorem max_three_num {prog : Program} {w : World} {A : Around} {E : Value → Shared → Prop} {s : Shared} {Q : Value → Shared → Prop} {a b c : Value} (hh : A.handled = none) (ha : NumV a) (hb : NumV b) (hc : NumV c)
    (h : ∀ h' tk, (∀ c o, s.heap.get? c = some o → h'.get? c = some o) → Q (if ltV (if ltV a b then b else a) c then c else if ltV a b then b else a) { s with heap := h', toks := tk }) :
    wpAny (model prog w) A (call (.builtin "max") [a, b, c]) Q E s := by
  have hT : (s.heap.push { cls := .type "tuple", data := .seq #[a, b, c] }).IsTuple s.heap.objs.size #[a, b, c] := ⟨_, Heap.get?_push_size _ rfl, rfl, 0, rfl⟩
  refine call_max_three (wpAny_pyIter_tuple hT ?_)
  have hsz : (s.heap.push { cls := .type "tuple", data := .seq #[a, b, c] }).objs.size = s.heap.objs.size + 1 := Heap.size_push ..
  refine ⟨_, [_, s.heap.objs.size], [_], _, _, _, _, rfl, Walks.tuple (A := A.in1) hh _ s.heap.objs.size (by rw [hsz]; exact Nat.ne_of_lt (Nat.lt_succ_self _)) #[a, b, c],
    ⟨⟨_, Heap.get?_push_size _ rfl, rfl, rfl⟩, hT.push _⟩, fun c hc => ?_, by simp, cmpOf_gt #[a, b, c] (by simp [ha, hb, hc]), fun v h' tk hP hk => ?_⟩
  · show c < ((s.heap.push _).push _).objs.size
    rw [Heap.size_push, hsz]
    rcases List.mem_cons.mp hc with rfl | hc
    · rw [hsz]; exact Nat.lt_succ_self _
    · rcases List.mem_cons.mp hc with rfl | hc
      · exact Nat.lt_succ_of_lt (Nat.lt_succ_self _)
      · cases hc
  · have hold : ∀ c o, s.heap.get? c = some o → h'.get? c = some o := fun c o e => by
      refine hk c o (fun hm => ?_) (Heap.get?_push_of_some _ (Heap.get?_push_of_some _ e))
      rcases List.mem_cons.mp hm with e1 | hm
      · have := Heap.lt_size e; rw [e1, hsz] at this; exact Nat.lt_irrefl _ (Nat.lt_of_succ_lt this)
      · cases hm
    have := h h' tk hold
    have hv : v = if ltV (if ltV a b then b else a) c then c else if ltV a b then b else a := by
      exact arg3 (l1 := ltV a b) (l2 := ltV (if ltV a b then b else a) c) rfl (by cases ltV a b <;> rfl) hP
    rw [hv]; exact this
open Flt in
theorem min_three_num {prog : Program} {w : World} {A : Around} {E : Value → Shared → Prop} {s : Shared} {Q : Value → Shared → Prop} {a b c : Value} (hh : A.handled = none) (ha : NumV a) (hb : NumV b) (hc : NumV c)
    (h : ∀ h' tk, (∀ c o, s.heap.get? c = some o → h'.get? c = some o) → Q (if ltV c (if ltV b a then b else a) then c else if ltV b a then b else a) { s with heap := h', toks := tk }) :
    wpAny (model prog w) A (call (.builtin "min") [a, b, c]) Q E s := by
  have hT : (s.heap.push { cls := .type "tuple", data := .seq #[a, b, c] }).IsTuple s.heap.objs.size #[a, b, c] := ⟨_, Heap.get?_push_size _ rfl, rfl, 0, rfl⟩
  refine call_min_three (wpAny_pyIter_tuple hT ?_)
  have hsz : (s.heap.push { cls := .type "tuple", data := .seq #[a, b, c] }).objs.size = s.heap.objs.size + 1 := Heap.size_push ..
  refine ⟨_, [_, s.heap.objs.size], [_], _, _, _, _, rfl, Walks.tuple (A := A.in1) hh _ s.heap.objs.size (by rw [hsz]; exact Nat.ne_of_lt (Nat.lt_succ_self _)) #[a, b, c],
    ⟨⟨_, Heap.get?_push_size _ rfl, rfl, rfl⟩, hT.push _⟩, fun c hc => ?_, by simp, cmpOf_lt #[a, b, c] (by simp [ha, hb, hc]), fun v h' tk hP hk => ?_⟩
  · show c < ((s.heap.push _).push _).objs.size
    rw [Heap.size_push, hsz]
    rcases List.mem_cons.mp hc with rfl | hc
    · rw [hsz]; exact Nat.lt_succ_self _
    · rcases List.mem_cons.mp hc with rfl | hc
      · exact Nat.lt_succ_of_lt (Nat.lt_succ_self _)
      · cases hc
  · have hold : ∀ c o, s.heap.get? c = some o → h'.get? c = some o := fun c o e => by
      refine hk c o (fun hm => ?_) (Heap.get?_push_of_some _ (Heap.get?_push_of_some _ e))
      rcases List.mem_cons.mp hm with e1 | hm
      · have := Heap.lt_size e; rw [e1, hsz] at this; exact Nat.lt_irrefl _ (Nat.lt_of_succ_lt this)
      · cases hm
    have := h h' tk hold
    have hv : v = if ltV c (if ltV b a then b else a) then c else if ltV b a then b else a := by
      exact arg3 (l1 := ltV b a) (l2 := ltV c (if ltV b a then b else a)) rfl (by cases ltV b a <;> rfl) hP
    rw [hv]; exact this
theorem max3 {prog : Program} {w : World} {A : Around} {E : Value → Shared → Prop} {s : Shared} {Q : Value → Shared → Prop} {x y z : UInt64} {t u v : Tok} {h₀ : Heap} {L : Addr} {m : Str → Option Value} {news : List (Addr × Obj)}
    (hh : A.handled = none) (F : Fr h₀ L s.heap m) (N : News h₀ L s.heap news) {b1 b2 : Bool} (e1 : (Float64.cmp x y == some .lt) = b1) (e2 : (Float64.cmp (if b1 then y else x) z == some .lt) = b2)
    (h : ∀ h' tk t', Fr h₀ L h' m → News h₀ L h' news → Q (.float (if b2 then z else if b1 then y else x) t') { s with heap := h', toks := tk }) :
    wpAny (model prog w) A (call (.builtin "max") [.float x t, .float y u, .float z v]) Q E s := by
  refine max_three_num hh (.float x t) (.float y u) (.float z v) fun h' tk k => ?_
  have F' := F.keeps k
  have N' := N.grown k
  have e1' : Flt.ltV (.float x t) (.float y u) = b1 := e1
  rw [e1']
  cases b1 with
  | true =>
    have e2' : Flt.ltV (.float y u) (.float z v) = b2 := e2
    simp only [if_true, e2']
    cases b2 with
    | true => exact h h' tk v F' N'
    | false => exact h h' tk u F' N'
  | false =>
    have e2' : Flt.ltV (.float x t) (.float z v) = b2 := e2
    simp only [Bool.false_eq_true, if_false, e2']
    cases b2 with
    | true => exact h h' tk v F' N'
    | false => exact h h' tk t F' N'
theorem min3 {prog : Program} {w : World} {A : Around} {E : Value → Shared → Prop} {s : Shared} {Q : Value → Shared → Prop} {x y z : UInt64} {t u v : Tok} {h₀ : Heap} {L : Addr} {m : Str → Option Value} {news : List (Addr × Obj)}
    (hh : A.handled = none) (F : Fr h₀ L s.heap m) (N : News h₀ L s.heap news) {b1 b2 : Bool} (e1 : (Float64.cmp y x == some .lt) = b1) (e2 : (Float64.cmp z (if b1 then y else x) == some .lt) = b2)
    (h : ∀ h' tk t', Fr h₀ L h' m → News h₀ L h' news → Q (.float (if b2 then z else if b1 then y else x) t') { s with heap := h', toks := tk }) :
    wpAny (model prog w) A (call (.builtin "min") [.float x t, .float y u, .float z v]) Q E s := by
  refine min_three_num hh (.float x t) (.float y u) (.float z v) fun h' tk k => ?_
  have F' := F.keeps k
  have N' := N.grown k
  have e1' : Flt.ltV (.float y u) (.float x t) = b1 := e1
  rw [e1']
  cases b1 with
  | true =>
    have e2' : Flt.ltV (.float z v) (.float y u) = b2 := e2
    simp only [if_true, e2']
    cases b2 with
    | true => exact h h' tk v F' N'
    | false => exact h h' tk u F' N'
  | false =>
    have e2' : Flt.ltV (.float z v) (.float x t) = b2 := e2
    simp only [Bool.false_eq_true, if_false, e2']
    cases b2 with
    | true => exact h h' tk v F' N'
    | false => exact h h' tk t F' N'
inductive Tup0 (b : Bool) (o : Obj) : Prop
  | mk : ∀ y i q ty ti tq, o = tup3 y i q ty ti tq → (Float64.cmp y 0 == some Ordering.eq) = b → Tup0 b o
set_option maxHeartbeats 4000000 in
theorem tohsv0_con (w : World) (mean : ExcName → Option Value) (mg mb : Str → Option Value) (t1 t2 t3 : Tok) :
    ConO w mean mg mb 35 [.float 4607182418800017408 t1, .float 0 t2, .float 0 t3] 1 [] (Tup0 true) := by
  w_on
  k_with_none
  k_with "K_STEPS" => (repeat' (first | (k_unfold; (try dsimp only)) | (k_end; wrow_close) | walk1 | (dsimp only; walk1) | (leave1; walk_say "STEP leave1"; try dsimp only) | ((try dsimp only); refine' CEnd.go ?eH _ _ _ ?eF ?eN ?eP; (case eH => with_reducible assumption); (case eF => k_asm); (case eN => k_asm); (case eP => (first | exact intV | exact intVc (by with_reducible assumption) | k_extra "END9"))) | ((try dsimp only); refine' CNo.go ?eH _ _ ?eF ?eN ?eP; (case eH => with_reducible assumption); (case eF => k_asm); (case eN => k_asm); (case eP => (first | with_reducible assumption | k_extra "NO9"))) | (k_extra "STEP9") | fail "no step"))
  k_with "K_MEM" => ((with_reducible ((repeat (first | exact List.mem_cons_self | refine List.mem_cons_of_mem _ ?_ | assumption)); done)))
  k_with "K_ALL" => (first | exact List.forall_mem_nil _ | (with_reducible assumption) | (refine List.forall_mem_cons.mpr ⟨by k_ne, ?_⟩; k_all) | (refine tl_lt (by with_reducible assumption) ?_; (repeat (first | exact sub_rfl | refine sub_tl ?_)); done) | (refine tl_off (by with_reducible assumption) ?_; (repeat (first | exact sub_rfl | refine sub_tl ?_)); done) | (refine tl_one (by with_reducible assumption) ?_; (repeat (first | exact sub_rfl | refine sub_tl ?_)); done) | (refine tl_I (by with_reducible assumption) ?_; (repeat (first | exact sub_rfl | refine sub_tl ?_)); done) | (refine tl_C (by with_reducible assumption) ?_; (repeat (first | exact sub_rfl | refine sub_tl ?_)); done) | (refine tl_D (by with_reducible assumption) ?_; (repeat (first | exact sub_rfl | refine sub_tl ?_)); done) | (refine tl_c1 (by with_reducible assumption) ?_; (repeat (first | exact sub_rfl | refine sub_tl ?_)); done) | (refine tl_c2 (by with_reducible assumption) ?_; (repeat (first | exact sub_rfl | refine sub_tl ?_)); done) | (refine tl_c3 (by with_reducible assumption) ?_; (repeat (first | exact sub_rfl | refine sub_tl ?_)); done))
  k_with "K_NE" => ((refine neN ?_; (try dsimp only); first | with_reducible assumption | (refine Ne.symm ?_; with_reducible assumption) | exact Nat.ne_of_lt (by with_reducible assumption) | exact Nat.ne_of_gt (by with_reducible assumption) | (refine off_a ?_; first | (refine ne_lt (by with_reducible assumption) ?_; (repeat (first | exact at_hd | refine at_tl ?_)); done) | (refine ne_off (by with_reducible assumption) ?_; (repeat (first | exact at_hd | refine at_tl ?_)); done) | (refine ne_one (by with_reducible assumption) ?_; (repeat (first | exact at_hd | refine at_tl ?_)); done) | (refine ne_I (by with_reducible assumption) ?_; (repeat (first | exact at_hd | refine at_tl ?_)); done) | (refine ne_C (by with_reducible assumption) ?_; (repeat (first | exact at_hd | refine at_tl ?_)); done) | (refine ne_D (by with_reducible assumption) ?_; (repeat (first | exact at_hd | refine at_tl ?_)); done)) | (refine off_a ?_; first | (refine ne_c1 (by with_reducible assumption) ?_; (repeat (first | exact at_hd | refine at_tl ?_)); done) | (refine ne_c2 (by with_reducible assumption) ?_; (repeat (first | exact at_hd | refine at_tl ?_)); done) | (refine ne_c3 (by with_reducible assumption) ?_; (repeat (first | exact at_hd | refine at_tl ?_)); done) | (refine ne_c4 (by with_reducible assumption) ?_; (repeat (first | exact at_hd | refine at_tl ?_)); done)) | (refine off_b ?_; first | (refine ne_c1 (by with_reducible assumption) ?_; (repeat (first | exact at_hd | refine at_tl ?_)); done) | (refine ne_c2 (by with_reducible assumption) ?_; (repeat (first | exact at_hd | refine at_tl ?_)); done) | (refine ne_c3 (by with_reducible assumption) ?_; (repeat (first | exact at_hd | refine at_tl ?_)); done) | (refine ne_c4 (by with_reducible assumption) ?_; (repeat (first | exact at_hd | refine at_tl ?_)); done)) | (refine off_b ?_; first | (refine ne_lt (by with_reducible assumption) ?_; (repeat (first | exact at_hd | refine at_tl ?_)); done) | (refine ne_off (by with_reducible assumption) ?_; (repeat (first | exact at_hd | refine at_tl ?_)); done) | (refine ne_one (by with_reducible assumption) ?_; (repeat (first | exact at_hd | refine at_tl ?_)); done) | (refine ne_I (by with_reducible assumption) ?_; (repeat (first | exact at_hd | refine at_tl ?_)); done) | (refine ne_C (by with_reducible assumption) ?_; (repeat (first | exact at_hd | refine at_tl ?_)); done) | (refine ne_D (by with_reducible assumption) ?_; (repeat (first | exact at_hd | refine at_tl ?_)); done)) | omega))
  k_with "storeName" => (first
    | (k_here; k_dflt (refine' storeX_Lm ?F ?N ?_ ?a ?b; (case a => rfl); (case b => rfl); (case F => k_asm); (case N => k_asm)); intro h' m' F' N'; (try k_sweep)))
  k_with "FinE" => (first
    | ((unfold LCg.FinE); intro D' h' tk' F' N' o1'; (try simp only [List.nil_append, List.cons_append] at N'); (try k_sweep); (try dsimp only)))
  k_with "FinA" => (first
    | ((unfold LCg.FinA); intro D' h' tk' F' N' o1'; (try simp only [List.nil_append, List.cons_append] at N'); (try k_sweep); (try dsimp only)))
  k_with "call ref" => (first
    | (k_extra "MyCall"))
  k_with "CompSrc" => (first
    | (k_extra "MySrc"))
  k_with "CompSrcT" => (first
    | (k_extra "MySrcT"))
  k_with "ite" => (first
    | (k_closed; k_dflt (first | refine ite_pos (by decide +kernel) ?_ | refine ite_neg (by decide +kernel) ?_)))
  k_with "call builtin:max" => (first
    | (k_here; k_dflt (refine' max3 rfl ?zF ?zN ?z1 ?z2 ?_; (case zF => k_asm); (case zN => k_asm); (case z1 => k_extra "max1"); (case z2 => k_extra "max2"); (intro h' tk' t' F' N'); (try k_sweep); (try simp only [if_true, if_false, Bool.false_eq_true]))))
  k_with "call builtin:min" => (first
    | (k_here; k_dflt (refine' min3 rfl ?zF ?zN ?z1 ?z2 ?_; (case zF => k_asm); (case zN => k_asm); (case z1 => k_extra "min1"); (case z2 => k_extra "min2"); (intro h' tk' t' F' N'); (try k_sweep); (try simp only [if_true, if_false, Bool.false_eq_true]))))
  unfold ConO
  k_fill
  intro dp un gd cn cs a ccd cl outer A₀ base h₀ L m news s Q E B F X N T hk hhid hd hu hret
  k_with "max1" => exact (show _ = false by decide +kernel)
  k_with "max2" => exact (show _ = false by decide +kernel)
  k_with "min1" => exact (show _ = true by decide +kernel)
  k_with "min2" => exact (show _ = false by decide +kernel)
  refine wpAny_call ?_
  k_dflt (refine' con_call ?k1 ?k2 ?k3 ?k4 ?k5 ?kH ?kA ?kF ?kK ?k6 ?k7 ?k8 ?k9 ?kB ?_ ?c2 ?c3 ?c4 ?c5; (case kA => exact rfl); (case kF => exact rfl); (case kK => assumption); (case k1 => assumption); (case k2 => assumption); (case k3 => assumption); (case k4 => assumption); (case k5 => assumption); (case kH => assumption); (case k6 => k_is); (case k7 => k_is); (case k8 => ktr_room); (case k9 => exact BindsTo.of_eq rfl); (case c5 => decide); (case kB => exact locs rfl); (case c2 => exact rfl); (case c3 => exact rfl); (case c4 => exact rfl); k_whole; intro g' L' h' F' N' B' X' T' G' l1'; (refine anyQ (Q0 := Q) ?hq9 ?_; (case hq9 => (intro v9 s9 h9; exact h9)); intro Q9 hQ9); (refine noE ?_); (refine letEA ?_); (intro e9 A9); (try dsimp only); (try k_fold))
  k_steps
  (try refine hQ9 _ _ ?_); (try dsimp only); (try k_unfold); (try dsimp only)
  ((try refine hQ9 _ _ ?_); refine' retO F N hret G' ?zf ?zn ?zs ?zm ?ze ?zp; (case zf => k_asm); (case zn => k_asm); (case zs => kcf_all); (case zm => k_mem); (case ze => first | assumption | k_all))
  exact ⟨_, _, _, _, _, _, rfl, by decide +kernel⟩
set_option maxHeartbeats 4000000 in
theorem tohsv1_con (w : World) (mean : ExcName → Option Value) (mg mb : Str → Option Value) (t1 t2 t3 : Tok) :
    ConO w mean mg mb 35 [.float 0 t1, .float 4607182418800017408 t2, .float 4607182418800017408 t3] 1 [] (Tup0 false) := by
  w_on
  k_with_none
  k_with "K_STEPS" => (repeat' (first | (k_unfold; (try dsimp only)) | (k_end; wrow_close) | walk1 | (dsimp only; walk1) | (leave1; walk_say "STEP leave1"; try dsimp only) | ((try dsimp only); refine' CEnd.go ?eH _ _ _ ?eF ?eN ?eP; (case eH => with_reducible assumption); (case eF => k_asm); (case eN => k_asm); (case eP => (first | exact intV | exact intVc (by with_reducible assumption) | k_extra "END9"))) | ((try dsimp only); refine' CNo.go ?eH _ _ ?eF ?eN ?eP; (case eH => with_reducible assumption); (case eF => k_asm); (case eN => k_asm); (case eP => (first | with_reducible assumption | k_extra "NO9"))) | (k_extra "STEP9") | fail "no step"))
  k_with "K_MEM" => ((with_reducible ((repeat (first | exact List.mem_cons_self | refine List.mem_cons_of_mem _ ?_ | assumption)); done)))
  k_with "K_ALL" => (first | exact List.forall_mem_nil _ | (with_reducible assumption) | (refine List.forall_mem_cons.mpr ⟨by k_ne, ?_⟩; k_all) | (refine tl_lt (by with_reducible assumption) ?_; (repeat (first | exact sub_rfl | refine sub_tl ?_)); done) | (refine tl_off (by with_reducible assumption) ?_; (repeat (first | exact sub_rfl | refine sub_tl ?_)); done) | (refine tl_one (by with_reducible assumption) ?_; (repeat (first | exact sub_rfl | refine sub_tl ?_)); done) | (refine tl_I (by with_reducible assumption) ?_; (repeat (first | exact sub_rfl | refine sub_tl ?_)); done) | (refine tl_C (by with_reducible assumption) ?_; (repeat (first | exact sub_rfl | refine sub_tl ?_)); done) | (refine tl_D (by with_reducible assumption) ?_; (repeat (first | exact sub_rfl | refine sub_tl ?_)); done) | (refine tl_c1 (by with_reducible assumption) ?_; (repeat (first | exact sub_rfl | refine sub_tl ?_)); done) | (refine tl_c2 (by with_reducible assumption) ?_; (repeat (first | exact sub_rfl | refine sub_tl ?_)); done) | (refine tl_c3 (by with_reducible assumption) ?_; (repeat (first | exact sub_rfl | refine sub_tl ?_)); done))
  k_with "K_NE" => ((refine neN ?_; (try dsimp only); first | with_reducible assumption | (refine Ne.symm ?_; with_reducible assumption) | exact Nat.ne_of_lt (by with_reducible assumption) | exact Nat.ne_of_gt (by with_reducible assumption) | (refine off_a ?_; first | (refine ne_lt (by with_reducible assumption) ?_; (repeat (first | exact at_hd | refine at_tl ?_)); done) | (refine ne_off (by with_reducible assumption) ?_; (repeat (first | exact at_hd | refine at_tl ?_)); done) | (refine ne_one (by with_reducible assumption) ?_; (repeat (first | exact at_hd | refine at_tl ?_)); done) | (refine ne_I (by with_reducible assumption) ?_; (repeat (first | exact at_hd | refine at_tl ?_)); done) | (refine ne_C (by with_reducible assumption) ?_; (repeat (first | exact at_hd | refine at_tl ?_)); done) | (refine ne_D (by with_reducible assumption) ?_; (repeat (first | exact at_hd | refine at_tl ?_)); done)) | (refine off_a ?_; first | (refine ne_c1 (by with_reducible assumption) ?_; (repeat (first | exact at_hd | refine at_tl ?_)); done) | (refine ne_c2 (by with_reducible assumption) ?_; (repeat (first | exact at_hd | refine at_tl ?_)); done) | (refine ne_c3 (by with_reducible assumption) ?_; (repeat (first | exact at_hd | refine at_tl ?_)); done) | (refine ne_c4 (by with_reducible assumption) ?_; (repeat (first | exact at_hd | refine at_tl ?_)); done)) | (refine off_b ?_; first | (refine ne_c1 (by with_reducible assumption) ?_; (repeat (first | exact at_hd | refine at_tl ?_)); done) | (refine ne_c2 (by with_reducible assumption) ?_; (repeat (first | exact at_hd | refine at_tl ?_)); done) | (refine ne_c3 (by with_reducible assumption) ?_; (repeat (first | exact at_hd | refine at_tl ?_)); done) | (refine ne_c4 (by with_reducible assumption) ?_; (repeat (first | exact at_hd | refine at_tl ?_)); done)) | (refine off_b ?_; first | (refine ne_lt (by with_reducible assumption) ?_; (repeat (first | exact at_hd | refine at_tl ?_)); done) | (refine ne_off (by with_reducible assumption) ?_; (repeat (first | exact at_hd | refine at_tl ?_)); done) | (refine ne_one (by with_reducible assumption) ?_; (repeat (first | exact at_hd | refine at_tl ?_)); done) | (refine ne_I (by with_reducible assumption) ?_; (repeat (first | exact at_hd | refine at_tl ?_)); done) | (refine ne_C (by with_reducible assumption) ?_; (repeat (first | exact at_hd | refine at_tl ?_)); done) | (refine ne_D (by with_reducible assumption) ?_; (repeat (first | exact at_hd | refine at_tl ?_)); done)) | omega))
  k_with "storeName" => (first
    | (k_here; k_dflt (refine' storeX_Lm ?F ?N ?_ ?a ?b; (case a => rfl); (case b => rfl); (case F => k_asm); (case N => k_asm)); intro h' m' F' N'; (try k_sweep)))
  k_with "FinE" => (first
    | ((unfold LCg.FinE); intro D' h' tk' F' N' o1'; (try simp only [List.nil_append, List.cons_append] at N'); (try k_sweep); (try dsimp only)))
  k_with "FinA" => (first
    | ((unfold LCg.FinA); intro D' h' tk' F' N' o1'; (try simp only [List.nil_append, List.cons_append] at N'); (try k_sweep); (try dsimp only)))
  k_with "call ref" => (first
    | (k_extra "MyCall"))
  k_with "CompSrc" => (first
    | (k_extra "MySrc"))
  k_with "CompSrcT" => (first
    | (k_extra "MySrcT"))
  k_with "ite" => (first
    | (k_closed; k_dflt (first | refine ite_pos (by decide +kernel) ?_ | refine ite_neg (by decide +kernel) ?_)))
  k_with "call builtin:max" => (first
    | (k_here; k_dflt (refine' max3 rfl ?zF ?zN ?z1 ?z2 ?_; (case zF => k_asm); (case zN => k_asm); (case z1 => k_extra "max1"); (case z2 => k_extra "max2"); (intro h' tk' t' F' N'); (try k_sweep); (try simp only [if_true, if_false, Bool.false_eq_true]))))
  k_with "call builtin:min" => (first
    | (k_here; k_dflt (refine' min3 rfl ?zF ?zN ?z1 ?z2 ?_; (case zF => k_asm); (case zN => k_asm); (case z1 => k_extra "min1"); (case z2 => k_extra "min2"); (intro h' tk' t' F' N'); (try k_sweep); (try simp only [if_true, if_false, Bool.false_eq_true]))))
  unfold ConO
  k_fill
  intro dp un gd cn cs a ccd cl outer A₀ base h₀ L m news s Q E B F X N T hk hhid hd hu hret
  k_with "max1" => exact (show _ = true by decide +kernel)
  k_with "max2" => exact (show _ = false by decide +kernel)
  k_with "min1" => exact (show _ = false by decide +kernel)
  k_with "min2" => exact (show _ = false by decide +kernel)
  refine wpAny_call ?_
  k_dflt (refine' con_call ?k1 ?k2 ?k3 ?k4 ?k5 ?kH ?kA ?kF ?kK ?k6 ?k7 ?k8 ?k9 ?kB ?_ ?c2 ?c3 ?c4 ?c5; (case kA => exact rfl); (case kF => exact rfl); (case kK => assumption); (case k1 => assumption); (case k2 => assumption); (case k3 => assumption); (case k4 => assumption); (case k5 => assumption); (case kH => assumption); (case k6 => k_is); (case k7 => k_is); (case k8 => ktr_room); (case k9 => exact BindsTo.of_eq rfl); (case c5 => decide); (case kB => exact locs rfl); (case c2 => exact rfl); (case c3 => exact rfl); (case c4 => exact rfl); k_whole; intro g' L' h' F' N' B' X' T' G' l1'; (refine anyQ (Q0 := Q) ?hq9 ?_; (case hq9 => (intro v9 s9 h9; exact h9)); intro Q9 hQ9); (refine noE ?_); (refine letEA ?_); (intro e9 A9); (try dsimp only); (try k_fold))
  k_steps
  (try refine hQ9 _ _ ?_); (try dsimp only); (try k_unfold); (try dsimp only)
  ((try refine hQ9 _ _ ?_); refine' retO F N hret G' ?zf ?zn ?zs ?zm ?ze ?zp; (case zf => k_asm); (case zn => k_asm); (case zs => kcf_all); (case zm => k_mem); (case ze => first | assumption | k_all))
  exact ⟨_, _, _, _, _, _, rfl, by decide +kernel⟩
/-- h is k/2: six times h is n, without a rest -/
structure HalfIs (h : UInt64) (n r : Int) : Prop where
  fin : Float64.isFinite (Float64.mul h 4618441417868443648) = true
  int : Flt.toInt Float64.truncOf (Float64.mul h 4618441417868443648) = n
  sub : Float64.sub (Float64.mul h 4618441417868443648) (Float64.ofInt n) = 0
  small : n.natAbs < 100
  rem : n.fmod 6 = r
section
variable {prog : Program} {w : World} {A : Around} {E : Value → Shared → Prop} {s : Shared} {Q : Value → Shared → Prop} {h : UInt64} {n r : Int} {t u : Tok}
theorem int_half (hA : A.handled = none) (H : HalfIs h n r) (k : Q (.int n s.toks) { s with toks := s.toks + 1 }) : wpAny (model prog w) A (call (.type "int") [.float (Float64.mul h 4618441417868443648) t]) Q E s := by
  have hf := H.fin
  have hi := H.int
  rcases Flt.three (Float64.mul h 4618441417868443648) with ⟨hd, c⟩ | ⟨_, hd, c⟩ | ⟨sg, m, e, hd, c⟩
  · rw [show Float64.isFinite _ = _ from rfl] at hf; unfold Float64.isFinite at hf; rw [hd] at hf; cases hf
  · unfold Float64.isFinite at hf; rw [hd] at hf; cases hf
  · rw [Flt.toInt_fin hd] at hi
    exact call_int_float hd (by rw [hi]; exact k)
theorem sub_half (H : HalfIs h n r) (k : Q (.float 0 s.toks) { s with toks := s.toks + 1 }) : wpAny (model prog w) A (binaryOp .Sub (.float (Float64.mul h 4618441417868443648) t) (.int n u)) Q E s :=
  sub_fi_fits (Nat.lt_of_lt_of_le H.small (by decide +kernel)) (by rw [H.sub]; exact k)
theorem mod_half (H : HalfIs h n r) (k : Q (.int r s.toks) { s with toks := s.toks + 1 }) : wpAny (model prog w) A (binaryOp .Mod (.int n t) (.int 6 u)) Q E s :=
  mod_int' (by decide) (by rw [H.rem]; exact k)
end
set_option maxHeartbeats 4000000 in
theorem hsvE_con (w : World) (mean : ExcName → Option Value) (mg mb : Str → Option Value) (h : UInt64) (n : Int) (t1 t2 t3 : Tok) (hh : HalfIs h n 0) :
    ConO w mean mg mb 42 [.float h t1, .float 4607182418800017408 t2, .float 4607182418800017408 t3] 1 [] (TupIs 4607182418800017408 0 0) := by
  w_on
  k_with_none
  k_with "K_STEPS" => (repeat' (first | (k_unfold; (try dsimp only)) | (k_end; wrow_close) | walk1 | (dsimp only; walk1) | (leave1; walk_say "STEP leave1"; try dsimp only) | ((try dsimp only); refine' CEnd.go ?eH _ _ _ ?eF ?eN ?eP; (case eH => with_reducible assumption); (case eF => k_asm); (case eN => k_asm); (case eP => (first | exact intV | exact intVc (by with_reducible assumption) | k_extra "END9"))) | ((try dsimp only); refine' CNo.go ?eH _ _ ?eF ?eN ?eP; (case eH => with_reducible assumption); (case eF => k_asm); (case eN => k_asm); (case eP => (first | with_reducible assumption | k_extra "NO9"))) | (k_extra "STEP9") | fail "no step"))
  k_with "K_MEM" => ((with_reducible ((repeat (first | exact List.mem_cons_self | refine List.mem_cons_of_mem _ ?_ | assumption)); done)))
  k_with "K_ALL" => (first | exact List.forall_mem_nil _ | (with_reducible assumption) | (refine List.forall_mem_cons.mpr ⟨by k_ne, ?_⟩; k_all) | (refine tl_lt (by with_reducible assumption) ?_; (repeat (first | exact sub_rfl | refine sub_tl ?_)); done) | (refine tl_off (by with_reducible assumption) ?_; (repeat (first | exact sub_rfl | refine sub_tl ?_)); done) | (refine tl_one (by with_reducible assumption) ?_; (repeat (first | exact sub_rfl | refine sub_tl ?_)); done) | (refine tl_I (by with_reducible assumption) ?_; (repeat (first | exact sub_rfl | refine sub_tl ?_)); done) | (refine tl_C (by with_reducible assumption) ?_; (repeat (first | exact sub_rfl | refine sub_tl ?_)); done) | (refine tl_D (by with_reducible assumption) ?_; (repeat (first | exact sub_rfl | refine sub_tl ?_)); done) | (refine tl_c1 (by with_reducible assumption) ?_; (repeat (first | exact sub_rfl | refine sub_tl ?_)); done) | (refine tl_c2 (by with_reducible assumption) ?_; (repeat (first | exact sub_rfl | refine sub_tl ?_)); done) | (refine tl_c3 (by with_reducible assumption) ?_; (repeat (first | exact sub_rfl | refine sub_tl ?_)); done))
  k_with "K_NE" => ((refine neN ?_; (try dsimp only); first | with_reducible assumption | (refine Ne.symm ?_; with_reducible assumption) | exact Nat.ne_of_lt (by with_reducible assumption) | exact Nat.ne_of_gt (by with_reducible assumption) | (refine off_a ?_; first | (refine ne_lt (by with_reducible assumption) ?_; (repeat (first | exact at_hd | refine at_tl ?_)); done) | (refine ne_off (by with_reducible assumption) ?_; (repeat (first | exact at_hd | refine at_tl ?_)); done) | (refine ne_one (by with_reducible assumption) ?_; (repeat (first | exact at_hd | refine at_tl ?_)); done) | (refine ne_I (by with_reducible assumption) ?_; (repeat (first | exact at_hd | refine at_tl ?_)); done) | (refine ne_C (by with_reducible assumption) ?_; (repeat (first | exact at_hd | refine at_tl ?_)); done) | (refine ne_D (by with_reducible assumption) ?_; (repeat (first | exact at_hd | refine at_tl ?_)); done)) | (refine off_a ?_; first | (refine ne_c1 (by with_reducible assumption) ?_; (repeat (first | exact at_hd | refine at_tl ?_)); done) | (refine ne_c2 (by with_reducible assumption) ?_; (repeat (first | exact at_hd | refine at_tl ?_)); done) | (refine ne_c3 (by with_reducible assumption) ?_; (repeat (first | exact at_hd | refine at_tl ?_)); done) | (refine ne_c4 (by with_reducible assumption) ?_; (repeat (first | exact at_hd | refine at_tl ?_)); done)) | (refine off_b ?_; first | (refine ne_c1 (by with_reducible assumption) ?_; (repeat (first | exact at_hd | refine at_tl ?_)); done) | (refine ne_c2 (by with_reducible assumption) ?_; (repeat (first | exact at_hd | refine at_tl ?_)); done) | (refine ne_c3 (by with_reducible assumption) ?_; (repeat (first | exact at_hd | refine at_tl ?_)); done) | (refine ne_c4 (by with_reducible assumption) ?_; (repeat (first | exact at_hd | refine at_tl ?_)); done)) | (refine off_b ?_; first | (refine ne_lt (by with_reducible assumption) ?_; (repeat (first | exact at_hd | refine at_tl ?_)); done) | (refine ne_off (by with_reducible assumption) ?_; (repeat (first | exact at_hd | refine at_tl ?_)); done) | (refine ne_one (by with_reducible assumption) ?_; (repeat (first | exact at_hd | refine at_tl ?_)); done) | (refine ne_I (by with_reducible assumption) ?_; (repeat (first | exact at_hd | refine at_tl ?_)); done) | (refine ne_C (by with_reducible assumption) ?_; (repeat (first | exact at_hd | refine at_tl ?_)); done) | (refine ne_D (by with_reducible assumption) ?_; (repeat (first | exact at_hd | refine at_tl ?_)); done)) | omega))
  k_with "storeName" => (first
    | (k_here; k_dflt (refine' storeX_Lm ?F ?N ?_ ?a ?b; (case a => rfl); (case b => rfl); (case F => k_asm); (case N => k_asm)); intro h' m' F' N'; (try k_sweep)))
  k_with "FinE" => (first
    | ((unfold LCg.FinE); intro D' h' tk' F' N' o1'; (try simp only [List.nil_append, List.cons_append] at N'); (try k_sweep); (try dsimp only)))
  k_with "FinA" => (first
    | ((unfold LCg.FinA); intro D' h' tk' F' N' o1'; (try simp only [List.nil_append, List.cons_append] at N'); (try k_sweep); (try dsimp only)))
  k_with "call ref" => (first
    | (k_extra "MyCall"))
  k_with "CompSrc" => (first
    | (k_extra "MySrc"))
  k_with "CompSrcT" => (first
    | (k_extra "MySrcT"))
  k_with "ite" => (first
    | (k_closed; k_dflt (first | refine ite_pos (by decide +kernel) ?_ | refine ite_neg (by decide +kernel) ?_)))
  k_with "call type:int" => (first
    | (refine' int_half rfl ?zk ?_; (case zk => with_reducible assumption); (try dsimp only)))
  k_with "binaryOp Sub float int" => (first
    | (refine' sub_half ?zk ?_; (case zk => with_reducible assumption); (try dsimp only)))
  k_with "binaryOp Mod int int" => (first
    | (refine' mod_half ?zk ?_; (case zk => with_reducible assumption); (try dsimp only)))
  unfold ConO
  k_fill
  intro dp un gd cn cs a ccd cl outer A₀ base h₀ L m news s Q E B F X N T hk hhid hd hu hret
  refine wpAny_call ?_
  k_dflt (refine' con_call ?k1 ?k2 ?k3 ?k4 ?k5 ?kH ?kA ?kF ?kK ?k6 ?k7 ?k8 ?k9 ?kB ?_ ?c2 ?c3 ?c4 ?c5; (case kA => exact rfl); (case kF => exact rfl); (case kK => assumption); (case k1 => assumption); (case k2 => assumption); (case k3 => assumption); (case k4 => assumption); (case k5 => assumption); (case kH => assumption); (case k6 => k_is); (case k7 => k_is); (case k8 => ktr_room); (case k9 => exact BindsTo.of_eq rfl); (case c5 => decide); (case kB => exact locs rfl); (case c2 => exact rfl); (case c3 => exact rfl); (case c4 => exact rfl); k_whole; intro g' L' h' F' N' B' X' T' G' l1'; (refine anyQ (Q0 := Q) ?hq9 ?_; (case hq9 => (intro v9 s9 h9; exact h9)); intro Q9 hQ9); (refine noE ?_); (refine letEA ?_); (intro e9 A9); (try dsimp only); (try k_fold))
  k_steps
  (try refine hQ9 _ _ ?_); (try dsimp only); (try k_unfold); (try dsimp only)
  ((try refine hQ9 _ _ ?_); refine' retO F N hret G' ?zf ?zn ?zs ?zm ?ze ?zp; (case zf => k_asm); (case zn => k_asm); (case zs => kcf_all); (case zm => k_mem); (case ze => first | assumption | k_all))
  exact ⟨_, _, _, by with_unfolding_all rfl⟩
set_option maxHeartbeats 4000000 in
theorem hsvO_con (w : World) (mean : ExcName → Option Value) (mg mb : Str → Option Value) (h : UInt64) (n : Int) (t1 t2 t3 : Tok) (hh : HalfIs h n 3) :
    ConO w mean mg mb 42 [.float h t1, .float 4607182418800017408 t2, .float 4607182418800017408 t3] 1 [] (TupIs 0 4607182418800017408 4607182418800017408) := by
  w_on
  k_with_none
  k_with "K_STEPS" => (repeat' (first | (k_unfold; (try dsimp only)) | (k_end; wrow_close) | walk1 | (dsimp only; walk1) | (leave1; walk_say "STEP leave1"; try dsimp only) | ((try dsimp only); refine' CEnd.go ?eH _ _ _ ?eF ?eN ?eP; (case eH => with_reducible assumption); (case eF => k_asm); (case eN => k_asm); (case eP => (first | exact intV | exact intVc (by with_reducible assumption) | k_extra "END9"))) | ((try dsimp only); refine' CNo.go ?eH _ _ ?eF ?eN ?eP; (case eH => with_reducible assumption); (case eF => k_asm); (case eN => k_asm); (case eP => (first | with_reducible assumption | k_extra "NO9"))) | (k_extra "STEP9") | fail "no step"))
  k_with "K_MEM" => ((with_reducible ((repeat (first | exact List.mem_cons_self | refine List.mem_cons_of_mem _ ?_ | assumption)); done)))
  k_with "K_ALL" => (first | exact List.forall_mem_nil _ | (with_reducible assumption) | (refine List.forall_mem_cons.mpr ⟨by k_ne, ?_⟩; k_all) | (refine tl_lt (by with_reducible assumption) ?_; (repeat (first | exact sub_rfl | refine sub_tl ?_)); done) | (refine tl_off (by with_reducible assumption) ?_; (repeat (first | exact sub_rfl | refine sub_tl ?_)); done) | (refine tl_one (by with_reducible assumption) ?_; (repeat (first | exact sub_rfl | refine sub_tl ?_)); done) | (refine tl_I (by with_reducible assumption) ?_; (repeat (first | exact sub_rfl | refine sub_tl ?_)); done) | (refine tl_C (by with_reducible assumption) ?_; (repeat (first | exact sub_rfl | refine sub_tl ?_)); done) | (refine tl_D (by with_reducible assumption) ?_; (repeat (first | exact sub_rfl | refine sub_tl ?_)); done) | (refine tl_c1 (by with_reducible assumption) ?_; (repeat (first | exact sub_rfl | refine sub_tl ?_)); done) | (refine tl_c2 (by with_reducible assumption) ?_; (repeat (first | exact sub_rfl | refine sub_tl ?_)); done) | (refine tl_c3 (by with_reducible assumption) ?_; (repeat (first | exact sub_rfl | refine sub_tl ?_)); done))
  k_with "K_NE" => ((refine neN ?_; (try dsimp only); first | with_reducible assumption | (refine Ne.symm ?_; with_reducible assumption) | exact Nat.ne_of_lt (by with_reducible assumption) | exact Nat.ne_of_gt (by with_reducible assumption) | (refine off_a ?_; first | (refine ne_lt (by with_reducible assumption) ?_; (repeat (first | exact at_hd | refine at_tl ?_)); done) | (refine ne_off (by with_reducible assumption) ?_; (repeat (first | exact at_hd | refine at_tl ?_)); done) | (refine ne_one (by with_reducible assumption) ?_; (repeat (first | exact at_hd | refine at_tl ?_)); done) | (refine ne_I (by with_reducible assumption) ?_; (repeat (first | exact at_hd | refine at_tl ?_)); done) | (refine ne_C (by with_reducible assumption) ?_; (repeat (first | exact at_hd | refine at_tl ?_)); done) | (refine ne_D (by with_reducible assumption) ?_; (repeat (first | exact at_hd | refine at_tl ?_)); done)) | (refine off_a ?_; first | (refine ne_c1 (by with_reducible assumption) ?_; (repeat (first | exact at_hd | refine at_tl ?_)); done) | (refine ne_c2 (by with_reducible assumption) ?_; (repeat (first | exact at_hd | refine at_tl ?_)); done) | (refine ne_c3 (by with_reducible assumption) ?_; (repeat (first | exact at_hd | refine at_tl ?_)); done) | (refine ne_c4 (by with_reducible assumption) ?_; (repeat (first | exact at_hd | refine at_tl ?_)); done)) | (refine off_b ?_; first | (refine ne_c1 (by with_reducible assumption) ?_; (repeat (first | exact at_hd | refine at_tl ?_)); done) | (refine ne_c2 (by with_reducible assumption) ?_; (repeat (first | exact at_hd | refine at_tl ?_)); done) | (refine ne_c3 (by with_reducible assumption) ?_; (repeat (first | exact at_hd | refine at_tl ?_)); done) | (refine ne_c4 (by with_reducible assumption) ?_; (repeat (first | exact at_hd | refine at_tl ?_)); done)) | (refine off_b ?_; first | (refine ne_lt (by with_reducible assumption) ?_; (repeat (first | exact at_hd | refine at_tl ?_)); done) | (refine ne_off (by with_reducible assumption) ?_; (repeat (first | exact at_hd | refine at_tl ?_)); done) | (refine ne_one (by with_reducible assumption) ?_; (repeat (first | exact at_hd | refine at_tl ?_)); done) | (refine ne_I (by with_reducible assumption) ?_; (repeat (first | exact at_hd | refine at_tl ?_)); done) | (refine ne_C (by with_reducible assumption) ?_; (repeat (first | exact at_hd | refine at_tl ?_)); done) | (refine ne_D (by with_reducible assumption) ?_; (repeat (first | exact at_hd | refine at_tl ?_)); done)) | omega))
  k_with "storeName" => (first
    | (k_here; k_dflt (refine' storeX_Lm ?F ?N ?_ ?a ?b; (case a => rfl); (case b => rfl); (case F => k_asm); (case N => k_asm)); intro h' m' F' N'; (try k_sweep)))
  k_with "FinE" => (first
    | ((unfold LCg.FinE); intro D' h' tk' F' N' o1'; (try simp only [List.nil_append, List.cons_append] at N'); (try k_sweep); (try dsimp only)))
  k_with "FinA" => (first
    | ((unfold LCg.FinA); intro D' h' tk' F' N' o1'; (try simp only [List.nil_append, List.cons_append] at N'); (try k_sweep); (try dsimp only)))
  k_with "call ref" => (first
    | (k_extra "MyCall"))
  k_with "CompSrc" => (first
    | (k_extra "MySrc"))
  k_with "CompSrcT" => (first
    | (k_extra "MySrcT"))
  k_with "ite" => (first
    | (k_closed; k_dflt (first | refine ite_pos (by decide +kernel) ?_ | refine ite_neg (by decide +kernel) ?_)))
  k_with "call type:int" => (first
    | (refine' int_half rfl ?zk ?_; (case zk => with_reducible assumption); (try dsimp only)))
  k_with "binaryOp Sub float int" => (first
    | (refine' sub_half ?zk ?_; (case zk => with_reducible assumption); (try dsimp only)))
  k_with "binaryOp Mod int int" => (first
    | (refine' mod_half ?zk ?_; (case zk => with_reducible assumption); (try dsimp only)))
  unfold ConO
  k_fill
  intro dp un gd cn cs a ccd cl outer A₀ base h₀ L m news s Q E B F X N T hk hhid hd hu hret
  refine wpAny_call ?_
  k_dflt (refine' con_call ?k1 ?k2 ?k3 ?k4 ?k5 ?kH ?kA ?kF ?kK ?k6 ?k7 ?k8 ?k9 ?kB ?_ ?c2 ?c3 ?c4 ?c5; (case kA => exact rfl); (case kF => exact rfl); (case kK => assumption); (case k1 => assumption); (case k2 => assumption); (case k3 => assumption); (case k4 => assumption); (case k5 => assumption); (case kH => assumption); (case k6 => k_is); (case k7 => k_is); (case k8 => ktr_room); (case k9 => exact BindsTo.of_eq rfl); (case c5 => decide); (case kB => exact locs rfl); (case c2 => exact rfl); (case c3 => exact rfl); (case c4 => exact rfl); k_whole; intro g' L' h' F' N' B' X' T' G' l1'; (refine anyQ (Q0 := Q) ?hq9 ?_; (case hq9 => (intro v9 s9 h9; exact h9)); intro Q9 hQ9); (refine noE ?_); (refine letEA ?_); (intro e9 A9); (try dsimp only); (try k_fold))
  k_steps
  (try refine hQ9 _ _ ?_); (try dsimp only); (try k_unfold); (try dsimp only)
  ((try refine hQ9 _ _ ?_); refine' retO F N hret G' ?zf ?zn ?zs ?zm ?ze ?zp; (case zf => k_asm); (case zn => k_asm); (case zs => kcf_all); (case zm => k_mem); (case ze => first | assumption | k_all))
  exact ⟨_, _, _, by with_unfolding_all rfl⟩
theorem eq_known {prog : Program} {w : World} {A : Around} {E : Value → Shared → Prop} {s : Shared} {Q : Value → Shared → Prop} {a b : UInt64} {t u : Tok} {k : Bool} (hk : (Float64.cmp a b == some Ordering.eq) = k) (h : Q (.bool k) s) :
    wpAny (model prog w) A (compareOp .Eq (.float a t) (.float b u)) Q E s := AutoFloatOps.eq_0 (by rw [hk]; exact h)
noncomputable def evenB (i : Nat) : Bool := i % 2 == 0
noncomputable def fx (i : Nat) : UInt64 := if evenB i = true then 4607182418800017408 else 0
noncomputable def fy (i : Nat) : UInt64 := if evenB i = true then 0 else 4607182418800017408
noncomputable def half (i : Nat) : UInt64 := Float64.ofFrac false i 2
theorem half_all : ∀ i, i < 6 → Float64.isFinite (Float64.mul (half i) 4618441417868443648) = true ∧ Flt.toInt Float64.truncOf (Float64.mul (half i) 4618441417868443648) = 3 * (i : Int) ∧ Float64.sub (Float64.mul (half i) 4618441417868443648) (Float64.ofInt (3 * (i : Int))) = 0 ∧ (3 * (i : Int)).natAbs < 100 ∧ (3 * (i : Int)).fmod 6 = (if evenB i = true then 0 else 3) := by decide +kernel
theorem half_h {i : Nat} (hi : i < 6) : HalfIs (half i) (3 * i) (if evenB i = true then 0 else 3) :=
  have h := half_all i hi
  ⟨h.1, h.2.1, h.2.2.1, h.2.2.2.1, h.2.2.2.2⟩
theorem hsvk_con (w : World) (mean : ExcName → Option Value) (mg mb : Str → Option Value) (i : Nat) (t1 t2 t3 : Tok) (hi : i < 6) :
    ConO w mean mg mb 42 [.float (half i) t1, .float 4607182418800017408 t2, .float 4607182418800017408 t3] 1 [] (TupIs (fx i) (fy i) (fy i)) := by
  have H := half_h hi
  unfold fx fy
  cases h : evenB i <;> rw [h] at H
  · exact hsvO_con w mean mg mb _ _ t1 t2 t3 H
  · exact hsvE_con w mean mg mb _ _ t1 t2 t3 H
theorem tohsvk_con (w : World) (mean : ExcName → Option Value) (mg mb : Str → Option Value) (i : Nat) (t1 t2 t3 : Tok) :
    ConO w mean mg mb 35 [.float (fx i) t1, .float (fy i) t2, .float (fy i) t3] 1 [] (Tup0 (evenB i)) := by
  unfold fx fy
  cases h : evenB i
  · exact tohsv1_con w mean mg mb t1 t2 t3
  · exact tohsv0_con w mean mg mb t1 t2 t3
theorem div_half {prog : Program} {w : World} {A : Around} {E : Value → Shared → Prop} {s : Shared} {t u : Tok} {Q : Value → Shared → Prop} {i : Nat} (hA : A.handled = none) (hi : i < 6) (h : Q (.float (half i) s.toks) { s with toks := s.toks + 1 }) : wpAny (model prog w) A (binaryOp .Div (.int (0 + (i : Int)) t) (.int 2 u)) Q E s := by
  refine Flt.div_ii_fits hA ?_ (fun e => absurd e (by decide)) fun _ _ => ?_
  · rw [Int.zero_add, Int.natAbs_natCast]
    exact Nat.lt_of_lt_of_le hi (by decide +kernel)
  · have e : Float64.ofFrac (decide ((0 : Int) + (i : Int) < 0) != decide ((2 : Int) < 0)) ((0 : Int) + (i : Int)).natAbs ((2 : Int).natAbs) = half i := by
      rw [Int.zero_add, Int.natAbs_natCast, decide_eq_false (show ¬ ((i : Int) < 0) by omega)]; rfl
    rw [e]; exact h
noncomputable def redsM (lp : Addr) (k r g b h : Option Value) : Str → Option Value := fun y => if y = Str.ofString "hue" then h else if y = Str.ofString "b" then b else if y = Str.ofString "g" then g else if y = Str.ofString "r" then r else if y = Str.ofString "k" then k else if y = Str.ofString "reds" then some (.ref lp) else none
theorem upd5 {α : Type} {c1 c2 c3 c4 c5 c6 : Prop} [i1 : Decidable c1] [i2 : Decidable c2] [i3 : Decidable c3] [i4 : Decidable c4] [i5 : Decidable c5] [i6 : Decidable c6] (a b c d e a' b' c' d' e' z n : α) :
    (if c1 then a else if c2 then b else if c3 then c else if c4 then d else if c5 then e else if c1 then a' else if c2 then b' else if c3 then c' else if c4 then d' else if c5 then e' else if c6 then z else n) = (if c1 then a else if c2 then b else if c3 then c else if c4 then d else if c5 then e else if c6 then z else n) := by
  cases i1 with
  | isTrue _ => rfl
  | isFalse _ =>
  cases i2 with
  | isTrue _ => rfl
  | isFalse _ =>
  cases i3 with
  | isTrue _ => rfl
  | isFalse _ =>
  cases i4 with
  | isTrue _ => rfl
  | isFalse _ =>
  cases i5 with
  | isTrue _ => rfl
  | isFalse _ => rfl
theorem redsM_upd (lp : Addr) (k r g b h : Option Value) (k' r' g' b' h' : Value) : (fun y => if y = Str.ofString "hue" then some h' else if y = Str.ofString "b" then some b' else if y = Str.ofString "g" then some g' else if y = Str.ofString "r" then some r' else if y = Str.ofString "k" then some k' else redsM lp k r g b h y) = redsM lp (some k') (some r') (some g') (some b') (some h') := funext fun y => upd5 _ _ _ _ _ _ _ _ _ _ _ _
theorem redsM_none (lp : Addr) : (fun y => if y = Str.ofString "reds" then some (Value.ref lp) else none) = redsM lp none none none none none := funext fun y => by
  unfold redsM
  by_cases h1 : y = Str.ofString "hue"
  · subst h1; rfl
  · by_cases h2 : y = Str.ofString "b"
    · subst h2; rfl
    · by_cases h3 : y = Str.ofString "g"
      · subst h3; rfl
      · by_cases h4 : y = Str.ofString "r"
        · subst h4; rfl
        · by_cases h5 : y = Str.ofString "k"
          · subst h5; rfl
          · rw [if_neg h1, if_neg h2, if_neg h3, if_neg h4, if_neg h5]
noncomputable def redsL (i : Nat) : List Value := (List.range i).map fun k => .bool (evenB k)
inductive redsJ (i : Nat) (m : Str → Option Value) (nw : List (Addr × Obj)) : Prop
  | mk : ∀ lp n k r g b h, (m = redsM lp k r g b h) → (nw = [(lp, listOf (redsL i).toArray n)]) → redsJ i m nw
set_option maxHeartbeats 2000000 in
theorem reds_con (w : World) (mean : ExcName → Option Value) (mg mb : Str → Option Value) :
    ConO w mean mg mb 128 [] 2 []
      (fun o => ∃ n, o = listOf #[.bool true, .bool false, .bool true, .bool false, .bool true, .bool false] n) := by
  w_on
  k_with_none
  k_with "K_STEPS" => (repeat' (first | (k_unfold; (try dsimp only)) | (k_end; wrow_close) | walk1 | (dsimp only; walk1) | (leave1; walk_say "STEP leave1"; try dsimp only) | ((try dsimp only); refine' CEnd.go ?eH _ _ _ ?eF ?eN ?eP; (case eH => with_reducible assumption); (case eF => k_asm); (case eN => k_asm); (case eP => (first | exact intV | exact intVc (by with_reducible assumption) | k_extra "END9"))) | ((try dsimp only); refine' CNo.go ?eH _ _ ?eF ?eN ?eP; (case eH => with_reducible assumption); (case eF => k_asm); (case eN => k_asm); (case eP => (first | with_reducible assumption | k_extra "NO9"))) | (k_extra "STEP9") | fail "no step"))
  k_with "K_MEM" => ((with_reducible ((repeat (first | exact List.mem_cons_self | refine List.mem_cons_of_mem _ ?_ | assumption)); done)))
  k_with "K_ALL" => (first | exact List.forall_mem_nil _ | (with_reducible assumption) | (refine List.forall_mem_cons.mpr ⟨by k_ne, ?_⟩; k_all) | (refine tl_lt (by with_reducible assumption) ?_; (repeat (first | exact sub_rfl | refine sub_tl ?_)); done) | (refine tl_off (by with_reducible assumption) ?_; (repeat (first | exact sub_rfl | refine sub_tl ?_)); done) | (refine tl_one (by with_reducible assumption) ?_; (repeat (first | exact sub_rfl | refine sub_tl ?_)); done) | (refine tl_I (by with_reducible assumption) ?_; (repeat (first | exact sub_rfl | refine sub_tl ?_)); done) | (refine tl_C (by with_reducible assumption) ?_; (repeat (first | exact sub_rfl | refine sub_tl ?_)); done) | (refine tl_D (by with_reducible assumption) ?_; (repeat (first | exact sub_rfl | refine sub_tl ?_)); done) | (refine tl_c1 (by with_reducible assumption) ?_; (repeat (first | exact sub_rfl | refine sub_tl ?_)); done) | (refine tl_c2 (by with_reducible assumption) ?_; (repeat (first | exact sub_rfl | refine sub_tl ?_)); done) | (refine tl_c3 (by with_reducible assumption) ?_; (repeat (first | exact sub_rfl | refine sub_tl ?_)); done))
  k_with "K_NE" => ((refine neN ?_; (try dsimp only); first | with_reducible assumption | (refine Ne.symm ?_; with_reducible assumption) | exact Nat.ne_of_lt (by with_reducible assumption) | exact Nat.ne_of_gt (by with_reducible assumption) | (refine off_a ?_; first | (refine ne_lt (by with_reducible assumption) ?_; (repeat (first | exact at_hd | refine at_tl ?_)); done) | (refine ne_off (by with_reducible assumption) ?_; (repeat (first | exact at_hd | refine at_tl ?_)); done) | (refine ne_one (by with_reducible assumption) ?_; (repeat (first | exact at_hd | refine at_tl ?_)); done) | (refine ne_I (by with_reducible assumption) ?_; (repeat (first | exact at_hd | refine at_tl ?_)); done) | (refine ne_C (by with_reducible assumption) ?_; (repeat (first | exact at_hd | refine at_tl ?_)); done) | (refine ne_D (by with_reducible assumption) ?_; (repeat (first | exact at_hd | refine at_tl ?_)); done)) | (refine off_a ?_; first | (refine ne_c1 (by with_reducible assumption) ?_; (repeat (first | exact at_hd | refine at_tl ?_)); done) | (refine ne_c2 (by with_reducible assumption) ?_; (repeat (first | exact at_hd | refine at_tl ?_)); done) | (refine ne_c3 (by with_reducible assumption) ?_; (repeat (first | exact at_hd | refine at_tl ?_)); done) | (refine ne_c4 (by with_reducible assumption) ?_; (repeat (first | exact at_hd | refine at_tl ?_)); done)) | (refine off_b ?_; first | (refine ne_c1 (by with_reducible assumption) ?_; (repeat (first | exact at_hd | refine at_tl ?_)); done) | (refine ne_c2 (by with_reducible assumption) ?_; (repeat (first | exact at_hd | refine at_tl ?_)); done) | (refine ne_c3 (by with_reducible assumption) ?_; (repeat (first | exact at_hd | refine at_tl ?_)); done) | (refine ne_c4 (by with_reducible assumption) ?_; (repeat (first | exact at_hd | refine at_tl ?_)); done)) | (refine off_b ?_; first | (refine ne_lt (by with_reducible assumption) ?_; (repeat (first | exact at_hd | refine at_tl ?_)); done) | (refine ne_off (by with_reducible assumption) ?_; (repeat (first | exact at_hd | refine at_tl ?_)); done) | (refine ne_one (by with_reducible assumption) ?_; (repeat (first | exact at_hd | refine at_tl ?_)); done) | (refine ne_I (by with_reducible assumption) ?_; (repeat (first | exact at_hd | refine at_tl ?_)); done) | (refine ne_C (by with_reducible assumption) ?_; (repeat (first | exact at_hd | refine at_tl ?_)); done) | (refine ne_D (by with_reducible assumption) ?_; (repeat (first | exact at_hd | refine at_tl ?_)); done)) | omega))
  k_with "storeName" => (first
    | (k_here; k_dflt (refine' storeX_Lm ?F ?N ?_ ?a ?b; (case a => rfl); (case b => rfl); (case F => k_asm); (case N => k_asm)); intro h' m' F' N'; (try k_sweep)))
  k_with "FinE" => (first
    | ((unfold LCg.FinE); intro D' h' tk' F' N' o1'; (try simp only [List.nil_append, List.cons_append] at N'); (try k_sweep); (try dsimp only)))
  k_with "FinA" => (first
    | ((unfold LCg.FinA); intro D' h' tk' F' N' o1'; (try simp only [List.nil_append, List.cons_append] at N'); (try k_sweep); (try dsimp only)))
  k_with "call ref" => (first
    | (k_extra "MyCall"))
  k_with "CompSrc" => (first
    | (k_extra "MySrc"))
  k_with "CompSrcT" => (first
    | (k_extra "MySrcT"))
  k_with "exec For Name Name cons nil" => (first
    | (k_here; k_dflt (refine for_start ?_)))
  k_with "pyIter ref" => (first
    | (k_here; k_dflt (refine' iterR_start ?zF ?zN ?zr ?zs ?zn ?_; (case zF => k_asm); (case zN => k_asm); (case zr => with_reducible assumption); (case zs => first | decide | rfl | exact small_i (by assumption)); (case zn => first | exact rfl | decide | exact size_i (by assumption)); (intro I' h' F' N' l1'); (try k_lt l1'); (try k_sweep)))
    | (k_here; k_dflt (refine' iterL_start ?zF ?zN ?zm ?_; (case zF => k_asm); (case zN => k_asm); (case zm => k_mem); (intro I' o' h' F' N' l1' hI'); (try k_lt l1'); (try k_sweep))))
  k_with "exec For Name Call cons nil" => (first
    | (k_here; k_dflt (refine for_start ?_)))
  k_with "ForRest" => (first
    | (k_extra "MyFor"))
  k_with "ForPost" => (first
    | (dsimp only [ForPost]))
  k_with "call builtin:list.append" => (first
    | (k_here; k_dflt (show wpAny _ _ (call (Value.builtin "list.append") [Value.ref _, _]) _ _ _); k_dflt (refine' append_K ?k1 ?k2 ?k3 ?_ ?z; (case k1 => k_asm); (case k2 => k_asm); (case k3 => k_upd); (case z => first | with_reducible assumption | size_fits); k_whole); intro h' F' N'; (try k_sweep)))
  k_with "compareOp Eq float float" => (first
    | (refine' eq_known ?zk ?_; (case zk => with_reducible assumption); (try dsimp only)))
  k_with "binaryOp Div int int" => (first
    | (refine' div_half rfl ?zk ?_; (case zk => with_reducible assumption)))
  unfold ConO
  k_fill
  intro dp un gd cn cs a ccd cl outer A₀ base h₀ L m news s Q E B F X N T hk hhid hd hu hret
  k_with "MyCall" => (first
    | (k_dflt (refine' useO (hsvk_con w mean mg mb _ _ _ _ ?hh) ?k1 ?k2 ?k3 ?k4 ?k5 ?kK ?kH ?k8 ?k9 ?_; (case hh => with_reducible assumption); (case k1 => assumption); (case k2 => k_asm); (case k3 => k_asm); (case k4 => k_asm); (case k5 => k_asm); (case kK => first | exact rfl | assumption); (case kH => kcf_all); (case k8 => ktr_room); (case k9 => ktr_units); (intro l9 o9 h9 tk9 F9 N9 d9 hp9); (obtain ⟨tx9, ty9, tz9, rfl⟩ := hp9); (try skip); (try k_sweep); (try dsimp only); (try k_fold)))
    | (k_dflt (refine' useO (tohsvk_con w mean mg mb _ _ _ _) ?k1 ?k2 ?k3 ?k4 ?k5 ?kK ?kH ?k8 ?k9 ?_; (case k1 => assumption); (case k2 => k_asm); (case k3 => k_asm); (case k4 => k_asm); (case k5 => k_asm); (case kK => first | exact rfl | assumption); (case kH => kcf_all); (case k8 => ktr_room); (case k9 => ktr_units); (intro l9 o9 h9 tk9 F9 N9 d9 hp9); (obtain ⟨y9, i9, q9, ty9, ti9, tq9, rfl, hq9⟩ := hp9); (try skip); (try k_sweep); (try dsimp only); (try k_fold))))
  refine wpAny_call ?_
  k_dflt (refine' con_callM (fun _ => none) ?k1 ?k2 ?k3 ?k4 ?k5 ?kH ?kA ?kF ?kK ?k6 ?k7 ?k8 ?k9 ?kB ?km ?_ ?c2 ?c3 ?c4 ?c5; (case kA => exact rfl); (case kF => exact rfl); (case kK => assumption); (case k1 => assumption); (case k2 => assumption); (case k3 => assumption); (case k4 => assumption); (case k5 => assumption); (case kH => assumption); (case k6 => k_is); (case k7 => k_is); (case k8 => ktr_room); (case k9 => exact BindsTo.of_eq rfl); (case c5 => decide); (case kB => exact locs rfl); (case km => exact (lookM_eq _).trans (by with_unfolding_all rfl)); (case c2 => exact rfl); (case c3 => exact rfl); (case c4 => exact rfl); k_whole; intro g' L' h' F' N' B' X' T' G' l1'; (refine anyQ (Q0 := Q) ?hq9 ?_; (case hq9 => (intro v9 s9 h9; exact h9)); intro Q9 hQ9); (refine noE ?_); (refine letEA ?_); (intro e9 A9); (try dsimp only); (try k_fold))
  k_steps
  k_dflt (refine' forR_ind (a := 0) redsJ ?hE rfl ?hstep ?hfin 6 0 _ _ _ _ rfl ?hj ?hF ?hN ?hoff)
  case hE => first | exact PassesOwn.never | passes_own | with_unfolding_all passes_own
  case hF => k_asm
  case hN => k_asm
  case hoff => k_all
  case hj => exact ⟨_, _, none, none, none, none, none, redsM_none _, rfl⟩
  case hfin =>
    intro m1 nw h tk hj F1 N1
    obtain ⟨lp, n, k, r, g, b, hh, rfl, rfl⟩ := hj
    k_steps
    (try refine hQ9 _ _ ?_); (try dsimp only); (try k_unfold); (try dsimp only)
    ((try refine hQ9 _ _ ?_); refine' retO F N hret G' ?zf ?zn ?zs ?zm ?ze ?zp; (case zf => k_asm); (case zn => k_asm); (case zs => kcf_all); (case zm => k_mem); (case ze => first | assumption | k_all))
    exact ⟨n, rfl⟩
  case hstep =>
    intro i t m1 nw I o s1 Q8 hi6 hj F1 N1 off3 hQ8
    obtain ⟨lp, n, k, r, g, b, hh, rfl, rfl⟩ := hj
    have hsz : (redsL i).toArray.size ≤ sizeLine := by
      rw [List.size_toArray, sizeLine_eq]; unfold redsL; rw [List.length_map, List.length_range]; omega
    k_steps
    (try dsimp only)
    k_dflt (refine' LEnd.fin hQ8 [(lp, listOf ((redsL i).toArray.push _) _)] ?tF ?tN ?tS ?tO ?tJ)
    case tF => k_asm
    case tN => k_asm
    case tS => (repeat' (first | exact List.forall_mem_nil _ | refine List.forall_mem_cons.mpr ⟨?_, ?_⟩ | exact List.mem_cons_self | refine List.mem_cons_of_mem _ ?_))
    case tO => k_all
    case tJ => exact ⟨lp, _, _, _, _, _, _, redsM_upd _ _ _ _ _ _ _ _ _ _ _, congrArg (fun a => [(lp, listOf a _)]) ((List.push_toArray _ _).trans (congrArg List.toArray (by unfold redsL; rw [List.range_succ, List.map_append]; rfl)))⟩
noncomputable abbrev redsA : Array Value := #[.bool true, .bool false, .bool true, .bool false, .bool true, .bool false]
noncomputable def redB (k : Int) : Bool := [true, false, true, false, true, false].getD k.toNat false
noncomputable abbrev disB (x t : Int) : Bool := redB (onesL32.getD (Builtin.bitAnd x t).toNat 0)
noncomputable def filtG (x : Int) (l : List Int) (t : Int) : List Int := if disB x t = true then l else l ++ [t]
theorem filtG_no {x t : Int} {l : List Int} (h : disB x t = true) : filtG x l t = l := if_pos h
theorem filtG_yes {x t : Int} {l : List Int} (h : disB x t = false) : filtG x l t = l ++ [t] := if_neg (by rw [h]; decide)
theorem filtG_grows (x : Int) : KPfGrows (filtG x) := fun l k => by
  unfold filtG
  split
  · exact Nat.le_succ _
  · simp
noncomputable def keptOf (lf : List Int) (start step : Int) : Nat → List Int
  | 0 => []
  | i + 1 => if (keptOf lf start step i).foldl (filtG (lf.getD (Int.fmod (start + step * (0 + (i : Int))) 32).toNat 0)) [] = [] then keptOf lf start step i ++ [Int.fmod (start + step * (0 + (i : Int))) 32] else keptOf lf start step i
theorem keptOf_len (lf : List Int) (start step : Int) : ∀ i, (keptOf lf start step i).length ≤ i
  | 0 => Nat.le_refl _
  | i + 1 => by
    have := keptOf_len lf start step i
    unfold keptOf
    split
    · rw [List.length_append]; exact Nat.succ_le_succ this
    · omega
theorem keptOf_mem (lf : List Int) (start step : Int) : ∀ i, ∀ t ∈ keptOf lf start step i, 0 ≤ t ∧ t < 32
  | 0 => fun t h => absurd h List.not_mem_nil
  | i + 1 => by
    have ih := keptOf_mem lf start step i
    unfold keptOf
    split
    · intro t ht
      rcases List.mem_append.mp ht with h | h
      · exact ih t h
      · rw [List.mem_singleton.mp h]; exact ⟨Int.fmod_nonneg_of_pos _ (by decide), Int.fmod_lt_of_pos _ (by decide)⟩
    · exact ih
theorem fb {x : Int} {lf : List Int} (h : lf.length = 32) : 0 ≤ Int.fmod x 32 ∧ Int.fmod x 32 < lf.length ∧ Int.fmod x 32 < 2 ^ 63 :=
  have h2 := Int.fmod_lt_of_pos x (b := 32) (by decide)
  ⟨Int.fmod_nonneg_of_pos x (by decide), by rw [h]; exact h2, Int.lt_trans h2 (by decide)⟩
theorem getD_b {lf : List Int} (hlf : ∀ x ∈ lf, 0 ≤ x ∧ x < 32) (n : Nat) : 0 ≤ lf.getD n 0 ∧ lf.getD n 0 < 32 := by
  by_cases h : n < lf.length
  · rw [List.getD_eq_getElem?_getD, List.getElem?_eq_getElem h]; exact hlf _ (List.getElem_mem h)
  · rw [List.getD_eq_getElem?_getD, List.getElem?_eq_none (by omega)]; exact ⟨by decide, by decide⟩
theorem onb {lf ns : List Int} {n : Nat} {t : Int} (hlf : ∀ x ∈ lf, 0 ≤ x ∧ x < 32) (hns : ∀ t ∈ ns, 0 ≤ t ∧ t < 32) (ht : t ∈ ns) :
    0 ≤ Builtin.bitAnd (lf.getD n 0) t ∧ Builtin.bitAnd (lf.getD n 0) t < (onesL32.length : Int) ∧ Builtin.bitAnd (lf.getD n 0) t < 2 ^ 63 :=
  have h1 := getD_b hlf n
  have h4 := and_le h1.1 (hns t ht).1
  have h5 := Int.lt_of_le_of_lt h4.2.1 h1.2
  ⟨h4.1, h5, Int.lt_trans h5 (by decide)⟩
theorem red6 : ∀ n : Nat, n < 6 → redsA.toList[n]? = some (.bool (redB (n : Int))) := by
  have h : ∀ n : Nat, n < 6 → ([true, false, true, false, true, false][n]?).map Value.bool = some (Value.bool (redB (n : Int))) := fun n h => by
    rw [show ([true, false, true, false, true, false] : List Bool)[n]? = some (redB (n : Int)) from (show ∀ n : Nat, n < 6 → ([true, false, true, false, true, false] : List Bool)[n]? = some (redB (n : Int)) by decide) n h]; rfl
  intro n hn
  rw [← h n hn, ← List.getElem?_map]; rfl
theorem ones5 : ∀ n : Nat, 0 ≤ onesL32.getD n 0 ∧ onesL32.getD n 0 < 6 := by
  have h : ∀ n : Nat, n < 32 → 0 ≤ onesL32.getD n 0 ∧ onesL32.getD n 0 < 6 := by decide
  intro n
  by_cases hn : n < 32
  · exact h n hn
  · rw [List.getD_eq_getElem?_getD, List.getElem?_eq_none (show onesL32.length ≤ n by simpa [onesL32] using Nat.le_of_not_lt hn)]; exact ⟨by decide, by decide⟩
theorem red_at {k : Int} (h : 0 ≤ k ∧ k < 6) : redsA.toList[k.toNat]? = some (.bool (redB k)) := by
  obtain ⟨n, rfl⟩ := Int.eq_ofNat_of_zero_le h.1
  exact red6 n (by omega)
theorem nf {b : Bool} (h : b = true) : ¬ b = false := by rw [h]; decide
theorem kept_sz {vs : List Value} {ns : List Int} (h : IntsAre vs ns) (hl : ns.length ≤ 32) : vs.toArray.size ≤ sizeLine := by
  rw [List.size_toArray, h.length, sizeLine_eq]; omega
noncomputable def keptM (kp : Addr) (start step : Int) (t1 t2 : Tok) (mk : Option Value) : Str → Option Value := fun y => if y = Str.ofString "k" then mk else if y = Str.ofString "kept" then some (.ref kp) else if y = Str.ofString "step" then some (.int step t2) else if y = Str.ofString "start" then some (.int start t1) else none
theorem keptM_upd (kp : Addr) (start step : Int) (t1 t2 : Tok) (mk : Option Value) (v : Value) : (fun y => if y = Str.ofString "k" then some v else keptM kp start step t1 t2 mk y) = keptM kp start step t1 t2 (some v) := funext fun y => by
  unfold keptM
  by_cases h : y = Str.ofString "k"
  · rw [if_pos h, if_pos h]
  · rw [if_neg h, if_neg h, if_neg h]
theorem keptM_none (kp : Addr) (start step : Int) (t1 t2 : Tok) : (fun y => if y = Str.ofString "kept" then some (.ref kp) else if y = Str.ofString "step" then some (.int step t2) else if y = Str.ofString "start" then some (.int start t1) else none) = keptM kp start step t1 t2 none := funext fun y => by
  unfold keptM
  by_cases h : y = Str.ofString "k"
  · subst h; rfl
  · rw [if_neg h]
theorem ints_snoc {vs : List Value} {ns : List Int} {n : Int} {t : Tok} (h : IntsAre vs ns) : IntsAre (vs ++ [.int n t]) (ns ++ [n]) := by
  induction h with
  | nil => exact .cons n t .nil
  | cons a u _ ih => exact .cons a u ih
inductive keptJ (lf : List Int) (start step : Int) (t1 t2 : Tok) (cS kp : Addr) (TT : List (Addr × Obj)) (i : Nat) (m : Str → Option Value) (nw : List (Addr × Obj)) : Prop
  | mk : ∀ vk n oS xS mk, (m = keptM kp start step t1 t2 mk) → (IntsAre vk (keptOf lf start step i)) → (oS.data = .cell xS) → (nw = (kp, listOf vk.toArray n) :: (cS, oS) :: TT) → (∀ p ∈ TT, p.1 ≠ kp) → cS ≠ kp → keptJ lf start step t1 t2 cS kp TT i m nw
/-- the ledger's tail, named -/
inductive KeptT (h₀ H : Heap) (L I kp lr lo9 cS cR cO cL l : Addr) (oI ok r o oS oR oO oL lo : Obj) : Prop
  | mk : ∀ TT, News h₀ L H ((I, oI) :: (kp, ok) :: (cS, oS) :: TT) → (lr, r) ∈ TT → (lo9, o) ∈ TT → (cR, oR) ∈ TT → (cO, oO) ∈ TT → (cL, oL) ∈ TT → (l, lo) ∈ TT → (∀ P : Addr → Prop, P lr → P lo9 → P cR → P cO → P cL → P l → ∀ p ∈ TT, P p.1) → KeptT h₀ H L I kp lr lo9 cS cR cO cL l oI ok r o oS oR oO oL lo
theorem keptT {h₀ H : Heap} {L I kp lr lo9 cS cR cO cL l : Addr} {oI ok r o oS oR oO oL lo : Obj} (N : News h₀ L H [(I, oI), (kp, ok), (lr, r), (lo9, o), (cS, oS), (cR, oR), (cO, oO), (cL, oL), (l, lo)]) : KeptT h₀ H L I kp lr lo9 cS cR cO cL l oI ok r o oS oR oO oL lo := by
  refine ⟨[(lr, r), (lo9, o), (cR, oR), (cO, oO), (cL, oL), (l, lo)], fun p hp => N p ((((List.perm_middle (l₁ := [(lr, r), (lo9, o)]) (a := (cS, oS)) (l₂ := [(cR, oR), (cO, oO), (cL, oL), (l, lo)])).symm.cons (kp, ok)).cons (I, oI)).subset hp), .head _, .tail _ (.head _), .tail _ (.tail _ (.head _)), .tail _ (.tail _ (.tail _ (.head _))), .tail _ (.tail _ (.tail _ (.tail _ (.head _)))), .tail _ (.tail _ (.tail _ (.tail _ (.tail _ (.head _))))), fun P a b c d e f => ?_⟩
  exact List.forall_mem_cons.mpr ⟨a, List.forall_mem_cons.mpr ⟨b, List.forall_mem_cons.mpr ⟨c, List.forall_mem_cons.mpr ⟨d, List.forall_mem_cons.mpr ⟨e, List.forall_mem_cons.mpr ⟨f, List.forall_mem_nil _⟩⟩⟩⟩⟩⟩
set_option maxHeartbeats 8000000 in
theorem kept_con (w : World) (mean : ExcName → Option Value) (mg mb : Str → Option Value) (l : Addr) (vs : List Value) (nl : Nat) (lf : List Int) (start step : Int) (t1 t2 : Tok) (hi : IntsAre vs lf) (hlen : lf.length = 32) (hlf : ∀ x ∈ lf, 0 ≤ x ∧ x < 32) :
    ConO w mean mg mb 133 [.ref l, .int start t1, .int step t2] 12 [(l, listOf vs.toArray nl)] (ListIs (keptOf lf start step 32)) := by
  w_on
  k_with_none
  k_with "K_STEPS" => (repeat' (first | (k_unfold; (try dsimp only)) | (k_end; wrow_close) | walk1 | (dsimp only; walk1) | (leave1; walk_say "STEP leave1"; try dsimp only) | ((try dsimp only); refine' CEnd.go ?eH _ _ _ ?eF ?eN ?eP; (case eH => with_reducible assumption); (case eF => k_asm); (case eN => k_asm); (case eP => (first | exact intV | exact intVc (by with_reducible assumption) | k_extra "END9"))) | ((try dsimp only); refine' CNo.go ?eH _ _ ?eF ?eN ?eP; (case eH => with_reducible assumption); (case eF => k_asm); (case eN => k_asm); (case eP => (first | with_reducible assumption | k_extra "NO9"))) | (k_extra "STEP9") | fail "no step"))
  k_with "K_MEM" => ((with_reducible ((repeat (first | exact List.mem_cons_self | refine List.mem_cons_of_mem _ ?_ | assumption)); done)))
  k_with "K_ALL" => (first | exact List.forall_mem_nil _ | (with_reducible assumption) | (refine List.forall_mem_cons.mpr ⟨by k_ne, ?_⟩; k_all) | (refine tl_lt (by with_reducible assumption) ?_; (repeat (first | exact sub_rfl | refine sub_tl ?_)); done) | (refine tl_off (by with_reducible assumption) ?_; (repeat (first | exact sub_rfl | refine sub_tl ?_)); done) | (refine tl_one (by with_reducible assumption) ?_; (repeat (first | exact sub_rfl | refine sub_tl ?_)); done) | (refine tl_I (by with_reducible assumption) ?_; (repeat (first | exact sub_rfl | refine sub_tl ?_)); done) | (refine tl_C (by with_reducible assumption) ?_; (repeat (first | exact sub_rfl | refine sub_tl ?_)); done) | (refine tl_D (by with_reducible assumption) ?_; (repeat (first | exact sub_rfl | refine sub_tl ?_)); done) | (refine tl_c1 (by with_reducible assumption) ?_; (repeat (first | exact sub_rfl | refine sub_tl ?_)); done) | (refine tl_c2 (by with_reducible assumption) ?_; (repeat (first | exact sub_rfl | refine sub_tl ?_)); done) | (refine tl_c3 (by with_reducible assumption) ?_; (repeat (first | exact sub_rfl | refine sub_tl ?_)); done))
  k_with "K_NE" => ((refine neN ?_; (try dsimp only); first | with_reducible assumption | (refine Ne.symm ?_; with_reducible assumption) | exact Nat.ne_of_lt (by with_reducible assumption) | exact Nat.ne_of_gt (by with_reducible assumption) | (refine off_a ?_; first | (refine ne_lt (by with_reducible assumption) ?_; (repeat (first | exact at_hd | refine at_tl ?_)); done) | (refine ne_off (by with_reducible assumption) ?_; (repeat (first | exact at_hd | refine at_tl ?_)); done) | (refine ne_one (by with_reducible assumption) ?_; (repeat (first | exact at_hd | refine at_tl ?_)); done) | (refine ne_I (by with_reducible assumption) ?_; (repeat (first | exact at_hd | refine at_tl ?_)); done) | (refine ne_C (by with_reducible assumption) ?_; (repeat (first | exact at_hd | refine at_tl ?_)); done) | (refine ne_D (by with_reducible assumption) ?_; (repeat (first | exact at_hd | refine at_tl ?_)); done)) | (refine off_a ?_; first | (refine ne_c1 (by with_reducible assumption) ?_; (repeat (first | exact at_hd | refine at_tl ?_)); done) | (refine ne_c2 (by with_reducible assumption) ?_; (repeat (first | exact at_hd | refine at_tl ?_)); done) | (refine ne_c3 (by with_reducible assumption) ?_; (repeat (first | exact at_hd | refine at_tl ?_)); done) | (refine ne_c4 (by with_reducible assumption) ?_; (repeat (first | exact at_hd | refine at_tl ?_)); done)) | (refine off_b ?_; first | (refine ne_c1 (by with_reducible assumption) ?_; (repeat (first | exact at_hd | refine at_tl ?_)); done) | (refine ne_c2 (by with_reducible assumption) ?_; (repeat (first | exact at_hd | refine at_tl ?_)); done) | (refine ne_c3 (by with_reducible assumption) ?_; (repeat (first | exact at_hd | refine at_tl ?_)); done) | (refine ne_c4 (by with_reducible assumption) ?_; (repeat (first | exact at_hd | refine at_tl ?_)); done)) | (refine off_b ?_; first | (refine ne_lt (by with_reducible assumption) ?_; (repeat (first | exact at_hd | refine at_tl ?_)); done) | (refine ne_off (by with_reducible assumption) ?_; (repeat (first | exact at_hd | refine at_tl ?_)); done) | (refine ne_one (by with_reducible assumption) ?_; (repeat (first | exact at_hd | refine at_tl ?_)); done) | (refine ne_I (by with_reducible assumption) ?_; (repeat (first | exact at_hd | refine at_tl ?_)); done) | (refine ne_C (by with_reducible assumption) ?_; (repeat (first | exact at_hd | refine at_tl ?_)); done) | (refine ne_D (by with_reducible assumption) ?_; (repeat (first | exact at_hd | refine at_tl ?_)); done)) | omega))
  k_with "storeName" => (first
    | (k_here; k_dflt (refine' storeX_Lm ?F ?N ?_ ?a ?b; (case a => rfl); (case b => rfl); (case F => k_asm); (case N => k_asm)); intro h' m' F' N'; (try k_sweep)))
  k_with "FinE" => (first
    | ((unfold LCg.FinE); intro D' h' tk' F' N' o1'; (try simp only [List.nil_append, List.cons_append] at N'); (try k_sweep); (try dsimp only)))
  k_with "FinA" => (first
    | ((unfold LCg.FinA); intro D' h' tk' F' N' o1'; (try simp only [List.nil_append, List.cons_append] at N'); (try k_sweep); (try dsimp only)))
  k_with "call ref" => (first
    | (k_extra "MyCall"))
  k_with "CompSrc" => (first
    | (k_extra "MySrc"))
  k_with "CompSrcT" => (first
    | (k_extra "MySrcT"))
  k_with "exec While Compare cons nil" => (first
    | (k_here; k_dflt (refine whl_start 100 ?_)))
  k_with "newList" => (first
    | (k_here; k_dflt (refine' newList_I ?zF ?zN ?zi ?_ ?zz; (case zF => k_asm); (case zN => k_asm); (case zi => (repeat' constructor)); (case zz => exact Nat.le_of_ble_eq_true rfl); (intro l' h' vs' hi' F' N' l1'); (try k_lt l1'); (try k_sweep))))
  k_with "call builtin:len" => (first
    | (k_here; k_dflt (refine' len_I ?zN ?zm ?zi ?zf ?_; (case zN => k_asm); (case zm => k_mem); (case zi => assumption); (case zf => first | decide | (simp only [List.length_append, List.length_map, List.length_cons, List.length_nil]; omega)); (intro t' tk'))))
  k_with "binaryOp Add ref ref" => (first
    | (k_here; k_dflt (refine' add_I ?zF ?zN ?zm ?zp ?zi ?zj ?zz ?_; (case zF => k_asm); (case zN => k_asm); (case zm => k_mem); (case zp => k_mem); (case zi => assumption); (case zj => assumption); (case zz => (rw [PySem.sizeLine_eq]; simp only [List.length_append, List.length_map, List.length_cons, List.length_nil]; first | done | decide | omega)); (intro l' h' vs' hi' F' N' l1'); (try k_lt l1'); (try k_sweep))))
  k_with "eval ListComp" => (first
    | (k_here; (with_reducible show wpAny _ _ (eval (Expr.ListComp _ [PySem.Comprehension.mk _ _ [_] _] _ _) _) _ _ _); k_dflt (refine LCt.ListComp_T (F₀ := by k_asm) (by with_unfolding_all rfl) (by decide) (by rfl) (by decide) (by rfl) ?_))
    | (k_here; (with_reducible show wpAny _ _ (eval (Expr.ListComp _ [PySem.Comprehension.mk _ _ [] _] _ _) _) _ _ _); k_dflt (refine LCg.ListComp_U (F₀ := by k_asm) (by with_unfolding_all rfl) (by decide) (by rfl) (by decide) (by rfl) ?_)))
  k_with "exec For Name Name cons nil" => (first
    | (k_here; k_dflt (refine for_start ?_)))
  k_with "pyIter ref" => (first
    | (k_here; k_dflt (refine' iterR_start ?zF ?zN ?zr ?zs ?zn ?_; (case zF => k_asm); (case zN => k_asm); (case zr => with_reducible assumption); (case zs => first | decide | rfl | exact small_i (by assumption)); (case zn => first | exact rfl | decide | exact size_i (by assumption)); (intro I' h' F' N' l1'); (try k_lt l1'); (try k_sweep)))
    | (k_here; k_dflt (refine' iterL_start ?zF ?zN ?zm ?_; (case zF => k_asm); (case zN => k_asm); (case zm => k_mem); (intro I' o' h' F' N' l1' hI'); (try k_lt l1'); (try k_sweep))))
  k_with "exec For Name Call cons nil" => (first
    | (k_here; k_dflt (refine for_start ?_)))
  k_with "ForRest" => (first
    | (k_extra "MyFor"))
  k_with "ForPost" => (first
    | (dsimp only [ForPost]))
  k_with "call builtin:list.append" => (first
    | (k_here; k_dflt (show wpAny _ _ (call (Value.builtin "list.append") [Value.ref _, _]) _ _ _); k_dflt (refine' append_K ?k1 ?k2 ?k3 ?_ ?z; (case k1 => k_asm); (case k2 => k_asm); (case k3 => k_upd); (case z => first | with_reducible assumption | size_fits); k_whole); intro h' F' N'; (try k_sweep)))
  k_with "compareOp Eq ref ref" => (first
    | (k_here; (with_reducible show wpAny _ _ (compareOp CmpOp.Eq (Value.ref _) (Value.ref _)) _ _ _); k_dflt (refine' ke_eq_ints ?za ?zb ?zi ?zj ?zu ?_; (case za => exact News.isList (by k_asm) (by k_mem)); (case zb => exact News.isList (by k_asm) (by k_mem)); (case zi => assumption); (case zj => assumption); (case zu => first | ke_room | ktr_units | (dsimp (config := { zetaDelta := true }) only; first | ke_room | ktr_units)))))
  k_with "subscriptTail Name Name ref int" => (first
    | (k_here; k_dflt (refine' item_ints ?zN ?zm ?zi ?zb ?_; (case zN => k_asm); (case zm => k_mem); (case zi => assumption); (case zb => exact fb (by with_reducible assumption)); intro t')))
  k_with "subscriptTail Name BinOp ref int" => (first
    | (k_here; k_dflt (refine' item_ints ?zN ?zm ?zi ?zb ?_; (case zN => k_asm); (case zm => k_mem); (case zi => assumption); (case zb => exact onb (by with_reducible assumption) (by with_reducible assumption) (by with_reducible assumption)); intro t')))
  k_with "subscriptTail Name Subscript ref int" => (first
    | (k_here; k_dflt (refine' item_val (vs := redsA.toList) ?zN ?zm ?z0 ?z1 ?zv ?_; (case zN => k_asm); (case zm => k_mem); (case z0 => exact (ones5 _).1); (case z1 => exact Int.lt_trans (ones5 _).2 (by decide)); (case zv => exact red_at (ones5 _)))))
  unfold ConO
  k_fill
  intro dp un gd cn cs a ccd cl outer A₀ base h₀ L m news s Q E B F X N T hk hhid hd hu hret
  k_with "MyCall" => (first
    | (k_dflt (refine' useO (ones32_con w mean mg mb _) ?k1 ?k2 ?k3 ?k4 ?k5 ?kK ?kH ?k8 ?k9 ?_; (case k1 => assumption); (case k2 => k_asm); (case k3 => k_asm); (case k4 => k_asm); (case k5 => k_asm); (case kK => first | exact rfl | assumption); (case kH => kcf_all); (case k8 => ktr_room); (case k9 => ktr_units); (intro lo9 o9 h9 tk9 F9 N9 d9 hp9); (obtain ⟨vo, no, rfl, hio⟩ := hp9); (try skip); (try k_sweep); (try dsimp only); (try k_fold)))
    | (k_dflt (refine' useO (reds_con w mean mg mb) ?k1 ?k2 ?k3 ?k4 ?k5 ?kK ?kH ?k8 ?k9 ?_; (case k1 => assumption); (case k2 => k_asm); (case k3 => k_asm); (case k4 => k_asm); (case k5 => k_asm); (case kK => first | exact rfl | assumption); (case kH => kcf_all); (case k8 => ktr_room); (case k9 => ktr_units); (intro lr o9 h9 tk9 F9 N9 d9 hp9); (obtain ⟨nr, rfl⟩ := hp9); (try skip); (try k_sweep); (try dsimp only); (try k_fold))))
  k_with "NO9" => exact nf (by with_reducible assumption)
  k_with "MySrcT" => (k_here; k_dflt (refine LCt.CompSrcT.ledger (by rfl) (by k_asm) (by k_asm) (by k_mem) (by exact kept_sz (by assumption) (by assumption)) ?_; intro g'; (refine' kci_listQ (G := filtG (lf.getD (Int.fmod (start + step * (0 + (i : Int))) 32).toNat 0)) ?zi (fun k => disB (lf.getD (Int.fmod (start + step * (0 + (i : Int))) 32).toNat 0) k = false) (fun k => k) (fun _ _ h => filtG_yes h) (fun _ _ h => filtG_no (by simpa using h)) (filtG_grows _) ?zS (fun k' t' I' oI' C' oC' D' oD' m' s' E' Q1' Q2' hk' hC' hx' F' N' off' n1' n2' n3' hMark' eY' eN' => ?_) ?_); (case zi => assumption); (case zS => first | exact True.intro | assumption | exact Or.inr ⟨_, by k_mem, rfl, _, rfl⟩); kcf_last))
  refine wpAny_call ?_
  k_dflt (refine' con_callCM (fun y => if y = Str.ofString "step" then some (.int step t2) else if y = Str.ofString "start" then some (.int start t1) else none) (fun y => if y = Str.ofString "left" then some (.ref l) else none) ?k1 ?k2 ?k3 ?k4 ?k5 ?kH ?kA ?kF ?kK ?k6 ?k7 ?k8 ?k9 ?kB ?kD ?km ?kc ?_ ?c2 ?c3 ?c4; (case kA => exact rfl); (case kF => exact rfl); (case kK => assumption); (case k1 => assumption); (case k2 => assumption); (case k3 => assumption); (case k4 => assumption); (case k5 => assumption); (case kH => assumption); (case k6 => k_is); (case k7 => k_is); (case k8 => ktr_room); (case k9 => exact BindsTo.of_eq rfl); (case kB => exact rfl); (case kD => decide +kernel); (case km => exact fun _ => by with_unfolding_all rfl); (case kc => exact fun _ => by with_unfolding_all rfl); (case c2 => exact rfl); (case c3 => exact rfl); (case c4 => exact rfl); k_whole; intro g' L' h' tk' cells' F' N' Y' B' X' T' G' l1'; (refine anyQ (Q0 := Q) ?hq9 ?_; (case hq9 => (intro v9 s9 h9; exact h9)); intro Q9 hQ9); (refine noE ?_); (refine letEA ?_); (intro e9 A9); k_cells Y'; (try simp only [List.cons_append, List.nil_append] at N'); (try dsimp only); (try k_fold))
  k_steps
  rename News _ _ _ _ => NZ
  obtain ⟨TT, NT, mr, mo, mR, mO, mL, ml, hall⟩ := keptT NZ
  have offS : ∀ p ∈ TT, p.1 ≠ L' + 1 + 1 + 1 + 1 := hall (fun b => b ≠ L' + 1 + 1 + 1 + 1) (by k_ne) (by k_ne) (by k_ne) (by k_ne) (by k_ne) (by k_ne)
  (k_dflt (refine' forR_ind (a := 0) (keptJ lf start step t1 t2 (L' + 1 + 1 + 1 + 1) _ TT) ?hE rfl ?hstep ?hfin 32 0 _ _ _ _ rfl ?hj ?hF NT ?hoff))
  case hE => first | exact PassesOwn.never | passes_own | with_unfolding_all passes_own
  case hF => k_asm
  case hoff => exact List.forall_mem_cons.mpr ⟨by k_ne, List.forall_mem_cons.mpr ⟨by k_ne, hall (fun b => b ≠ _) (by k_ne) (by k_ne) (by k_ne) (by k_ne) (by k_ne) (by k_ne)⟩⟩
  case hj =>
    refine' keptJ.mk _ _ _ _ none (keptM_none _ _ _ _ _) ?ja ?jb rfl ?jc ?jd
    (case ja => assumption)
    (case jb => assumption)
    (case jc => exact hall (fun b => b ≠ _) (by k_ne) (by k_ne) (by k_ne) (by k_ne) (by k_ne) (by k_ne))
    (case jd => k_ne)
  case hfin =>
    intro m1 nw h tk hj F1 N1
    obtain ⟨vk, n, oS, xS, mk, rfl, hik, dS, rfl, offk, nek⟩ := hj
    (try dsimp only)
    k_steps
    (try refine hQ9 _ _ ?_); (try dsimp only); (try k_unfold); (try dsimp only)
    ((try refine hQ9 _ _ ?_); refine' retO F N hret G' ?zf ?zn ?zs ?zm ?ze ?zp; (case zf => k_asm); (case zn => k_asm); (case zs => kcf_all); (case zm => k_mem); (case ze => first | assumption | k_all))
    exact ⟨_, _, rfl, hik⟩
  case hstep =>
    intro i t m1 nw I o s1 Q8 hi32 hj F1 N1 off3 hQ8
    obtain ⟨vk, n, oS, xS, mk, rfl, hik, dS, rfl, offk, nek⟩ := hj
    have hkl := Nat.le_trans (keptOf_len lf start step i) (Nat.le_of_lt hi32)
    have hkm := keptOf_mem lf start step i
    have hks : keptOf lf start step (i + 1) = if (keptOf lf start step i).foldl (filtG (lf.getD (Int.fmod (start + step * (0 + (i : Int))) 32).toNat 0)) [] = [] then keptOf lf start step i ++ [Int.fmod (start + step * (0 + (i : Int))) 32] else keptOf lf start step i := rfl
    generalize keptOf lf start step i = kn at hik hkl hkm hks
    k_steps
    · rw [if_pos (of_decide_eq_true (by with_reducible assumption))] at hks
      (try dsimp only)
      k_dflt (refine' LEnd.fin hQ8 ((_, listOf (vk.toArray.push _) _) :: (L' + 1 + 1 + 1 + 1, _) :: TT) ?tF ?tN ?tS ?tO ?tJ)
      case tF => k_asm
      case tN => k_asm
      case tS => kcf_all
      case tO => k_all
      case tJ => exact ⟨vk ++ [_], _, _, _, _, keptM_upd _ _ _ _ _ _ _, hks ▸ ints_snoc hik, (by assumption), congrArg (fun a => (_, listOf a _) :: _) (List.push_toArray _ _), offk, nek⟩
    · rw [if_neg (of_decide_eq_false (by with_reducible assumption))] at hks
      (try dsimp only)
      k_dflt (refine' LEnd.fin hQ8 ((_, listOf vk.toArray n) :: (L' + 1 + 1 + 1 + 1, _) :: TT) ?tF ?tN ?tS ?tO ?tJ)
      case tF => k_asm
      case tN => k_asm
      case tS => kcf_all
      case tO => k_all
      case tJ => exact ⟨vk, n, _, _, _, keptM_upd _ _ _ _ _ _ _, hks ▸ hik, (by assumption), rfl, offk, nek⟩
noncomputable def neG (v : Int) (l : List Int) (u : Int) : List Int := if u ≠ v then l ++ [u] else l
theorem neG_yes {v u : Int} {l : List Int} (h : u ≠ v) : neG v l u = l ++ [u] := if_pos h
theorem neG_no {v u : Int} {l : List Int} (h : ¬ u ≠ v) : neG v l u = l := if_neg h
theorem neG_grows (v : Int) : KPfGrows (neG v) := fun l k => by
  unfold neG
  split
  · simp
  · exact Nat.le_succ _
noncomputable def othersOf (v : Int) : List Int := (rangeKs 0 5).foldl (neG v) []
inductive Ints4 (ys : List Value) (a b c d : Int) : Prop
  | mk : ∀ t0 t1 t2 t3 : Tok, ys = [.int a t0, .int b t1, .int c t2, .int d t3] → Ints4 ys a b c d
inductive Others4 (v : Int) : Prop
  | mk : ∀ a b c d, othersOf v = [a, b, c, d] → (0 ≤ a ∧ a < 5) → (0 ≤ b ∧ b < 5) → (0 ≤ c ∧ c < 5) → (0 ≤ d ∧ d < 5) → Others4 v
theorem ints4 {ys : List Value} {a b c d : Int} (h : IntsAre ys [a, b, c, d]) : Ints4 ys a b c d := by
  obtain ⟨t0, y0, rfl, h0⟩ := intsC h
  obtain ⟨t1, y1, rfl, h1⟩ := intsC h0
  obtain ⟨t2, y2, rfl, h2⟩ := intsC h1
  obtain ⟨t3, y3, rfl, h3⟩ := intsC h2
  obtain rfl := intsN h3
  exact ⟨t0, t1, t2, t3, rfl⟩
theorem others4 {v : Int} (hv : 0 ≤ v ∧ v < 5) : Others4 v := by
  obtain ⟨n, rfl⟩ := Int.eq_ofNat_of_zero_le hv.1
  have h : n < 5 := Int.ofNat_lt.mp hv.2
  match n, h with
  | 0, _ => exact ⟨1, 2, 3, 4, by decide, by decide, by decide, by decide, by decide⟩
  | 1, _ => exact ⟨0, 2, 3, 4, by decide, by decide, by decide, by decide, by decide⟩
  | 2, _ => exact ⟨0, 1, 3, 4, by decide, by decide, by decide, by decide, by decide⟩
  | 3, _ => exact ⟨0, 1, 2, 4, by decide, by decide, by decide, by decide, by decide⟩
  | 4, _ => exact ⟨0, 1, 2, 3, by decide, by decide, by decide, by decide, by decide⟩
noncomputable def pairedOf (R : Nat → List Int) (v : Int) : Int := match othersOf v with
  | [a, b, c, d] => Int.fmod ((R a.toNat).getD b.toNat 0 * (R c.toNat).getD d.toNat 0 + (R a.toNat).getD c.toNat 0 * (R b.toNat).getD d.toNat 0 + (R a.toNat).getD d.toNat 0 * (R b.toNat).getD c.toNat 0) 2
  | _ => 0
theorem rb {R : Nat → List Int} (h : ∀ k, k < 5 → (R k).length = 5) {a b : Int} (ha : 0 ≤ a ∧ a < 5) (hb : 0 ≤ b ∧ b < 5) : 0 ≤ b ∧ b < ((R a.toNat).length : Int) ∧ b < 2 ^ 63 := by
  rw [h a.toNat (by omega)]; omega
theorem mok {a b : Int} (h : 0 ≤ a ∧ a ≤ 1) : IntMulOk a b := IntMulOk.of_left (PySem.intBits_le_64 (by omega) (by omega))
set_option maxHeartbeats 4000000 in
theorem paired_con (w : World) (mean : ExcName → Option Value) (mg mb : Str → Option Value) (r : Addr) (vs : List Value) (nr : Nat) (TT : List (Addr × Obj)) (R : Nat → List Int) (v : Int) (tv : Tok)
    (mr : (r, listOf vs.toArray nr) ∈ TT) (hR : RowsIn vs R TT) (hR5 : ∀ k, k < 5 → (R k).length = 5) (hv : 0 ≤ v ∧ v < 5) (hR01 : ∀ k j, 0 ≤ (R k).getD j 0 ∧ (R k).getD j 0 ≤ 1) :
    ConV w mean mg mb 138 [.ref r, .int v tv] 2 TT (fun o => ∃ t, o = .int (pairedOf R v) t) := by
  w_on
  k_with_none
  k_with "K_STEPS" => (repeat' (first | (k_unfold; (try dsimp only)) | (k_end; wrow_close) | walk1 | (dsimp only; walk1) | (leave1; walk_say "STEP leave1"; try dsimp only) | ((try dsimp only); refine' CEnd.go ?eH _ _ _ ?eF ?eN ?eP; (case eH => with_reducible assumption); (case eF => k_asm); (case eN => k_asm); (case eP => (first | exact intV | exact intVc (by with_reducible assumption) | k_extra "END9"))) | ((try dsimp only); refine' CNo.go ?eH _ _ ?eF ?eN ?eP; (case eH => with_reducible assumption); (case eF => k_asm); (case eN => k_asm); (case eP => (first | with_reducible assumption | k_extra "NO9"))) | (k_extra "STEP9") | fail "no step"))
  k_with "K_MEM" => ((with_reducible ((repeat (first | exact List.mem_cons_self | refine List.mem_cons_of_mem _ ?_ | assumption)); done)))
  k_with "K_ALL" => (first | exact List.forall_mem_nil _ | (with_reducible assumption) | (refine List.forall_mem_cons.mpr ⟨by k_ne, ?_⟩; k_all) | (refine tl_lt (by with_reducible assumption) ?_; (repeat (first | exact sub_rfl | refine sub_tl ?_)); done) | (refine tl_off (by with_reducible assumption) ?_; (repeat (first | exact sub_rfl | refine sub_tl ?_)); done) | (refine tl_one (by with_reducible assumption) ?_; (repeat (first | exact sub_rfl | refine sub_tl ?_)); done) | (refine tl_I (by with_reducible assumption) ?_; (repeat (first | exact sub_rfl | refine sub_tl ?_)); done) | (refine tl_C (by with_reducible assumption) ?_; (repeat (first | exact sub_rfl | refine sub_tl ?_)); done) | (refine tl_D (by with_reducible assumption) ?_; (repeat (first | exact sub_rfl | refine sub_tl ?_)); done) | (refine tl_c1 (by with_reducible assumption) ?_; (repeat (first | exact sub_rfl | refine sub_tl ?_)); done) | (refine tl_c2 (by with_reducible assumption) ?_; (repeat (first | exact sub_rfl | refine sub_tl ?_)); done) | (refine tl_c3 (by with_reducible assumption) ?_; (repeat (first | exact sub_rfl | refine sub_tl ?_)); done))
  k_with "K_NE" => ((refine neN ?_; (try dsimp only); first | with_reducible assumption | (refine Ne.symm ?_; with_reducible assumption) | exact Nat.ne_of_lt (by with_reducible assumption) | exact Nat.ne_of_gt (by with_reducible assumption) | (refine off_a ?_; first | (refine ne_lt (by with_reducible assumption) ?_; (repeat (first | exact at_hd | refine at_tl ?_)); done) | (refine ne_off (by with_reducible assumption) ?_; (repeat (first | exact at_hd | refine at_tl ?_)); done) | (refine ne_one (by with_reducible assumption) ?_; (repeat (first | exact at_hd | refine at_tl ?_)); done) | (refine ne_I (by with_reducible assumption) ?_; (repeat (first | exact at_hd | refine at_tl ?_)); done) | (refine ne_C (by with_reducible assumption) ?_; (repeat (first | exact at_hd | refine at_tl ?_)); done) | (refine ne_D (by with_reducible assumption) ?_; (repeat (first | exact at_hd | refine at_tl ?_)); done)) | (refine off_a ?_; first | (refine ne_c1 (by with_reducible assumption) ?_; (repeat (first | exact at_hd | refine at_tl ?_)); done) | (refine ne_c2 (by with_reducible assumption) ?_; (repeat (first | exact at_hd | refine at_tl ?_)); done) | (refine ne_c3 (by with_reducible assumption) ?_; (repeat (first | exact at_hd | refine at_tl ?_)); done) | (refine ne_c4 (by with_reducible assumption) ?_; (repeat (first | exact at_hd | refine at_tl ?_)); done)) | (refine off_b ?_; first | (refine ne_c1 (by with_reducible assumption) ?_; (repeat (first | exact at_hd | refine at_tl ?_)); done) | (refine ne_c2 (by with_reducible assumption) ?_; (repeat (first | exact at_hd | refine at_tl ?_)); done) | (refine ne_c3 (by with_reducible assumption) ?_; (repeat (first | exact at_hd | refine at_tl ?_)); done) | (refine ne_c4 (by with_reducible assumption) ?_; (repeat (first | exact at_hd | refine at_tl ?_)); done)) | (refine off_b ?_; first | (refine ne_lt (by with_reducible assumption) ?_; (repeat (first | exact at_hd | refine at_tl ?_)); done) | (refine ne_off (by with_reducible assumption) ?_; (repeat (first | exact at_hd | refine at_tl ?_)); done) | (refine ne_one (by with_reducible assumption) ?_; (repeat (first | exact at_hd | refine at_tl ?_)); done) | (refine ne_I (by with_reducible assumption) ?_; (repeat (first | exact at_hd | refine at_tl ?_)); done) | (refine ne_C (by with_reducible assumption) ?_; (repeat (first | exact at_hd | refine at_tl ?_)); done) | (refine ne_D (by with_reducible assumption) ?_; (repeat (first | exact at_hd | refine at_tl ?_)); done)) | omega))
  k_with "storeName" => (first
    | (k_here; k_dflt (refine' storeX_Lm ?F ?N ?_ ?a ?b; (case a => rfl); (case b => rfl); (case F => k_asm); (case N => k_asm)); intro h' m' F' N'; (try k_sweep)))
  k_with "FinE" => (first
    | ((unfold LCg.FinE); intro D' h' tk' F' N' o1'; (try simp only [List.nil_append, List.cons_append] at N'); (try k_sweep); (try dsimp only)))
  k_with "FinA" => (first
    | ((unfold LCg.FinA); intro D' h' tk' F' N' o1'; (try simp only [List.nil_append, List.cons_append] at N'); (try k_sweep); (try dsimp only)))
  k_with "call ref" => (first
    | (k_extra "MyCall"))
  k_with "CompSrc" => (first
    | (k_extra "MySrc"))
  k_with "CompSrcT" => (first
    | (k_extra "MySrcT"))
  k_with "eval ListComp" => (first
    | (k_here; (with_reducible show wpAny _ _ (eval (Expr.ListComp _ [PySem.Comprehension.mk _ _ [_] _] _ _) _) _ _ _); k_dflt (refine LCt.ListComp_T (F₀ := by k_asm) (by with_unfolding_all rfl) (by decide) (by rfl) (by decide) (by rfl) ?_))
    | (k_here; (with_reducible show wpAny _ _ (eval (Expr.ListComp _ [PySem.Comprehension.mk _ _ [] _] _ _) _) _ _ _); k_dflt (refine LCg.ListComp_U (F₀ := by k_asm) (by with_unfolding_all rfl) (by decide) (by rfl) (by decide) (by rfl) ?_)))
  k_with "subscriptTail Name Name ref int" => (first
    | (k_here; k_dflt (refine' item_ints ?zN ?zm ?zi ?zb ?_; (case zN => k_asm); (case zm => ((repeat (first | assumption | refine List.mem_cons_of_mem _ ?_)); done)); (case zi => assumption); (case zb => exact rb (by with_reducible assumption) (by with_reducible assumption) (by with_reducible assumption)); intro t'))
    | (k_here; k_dflt (refine' item_row ?zN ?zm ?zi ?zb ?_; (case zN => k_asm); (case zm => k_mem); (case zi => assumption); (case zb => with_reducible assumption)); intro aj' vj' nj' hmj' hij'))
  k_with "binaryOp Mult int int" => (first
    | ((with_reducible refine' mul_int ?_ ?zok); (case zok => (refine mok ?_; with_reducible apply_assumption))))
  unfold ConV
  k_fill
  intro dp un gd cn cs a ccd cl outer A₀ base h₀ L m news s Q E B F X N T hk hhid hd hu hret
  k_with "NO9" => first | with_reducible assumption | exact fun h => h (by with_reducible assumption)
  k_with "MySrcT" => (k_here; k_dflt (refine LCt.CompSrcT.range (by rfl) (by k_asm) (by k_asm) (by assumption) (by first | decide | rfl) (by first | rfl | decide) (by exact Nat.le_of_ble_eq_true rfl) ?_; intro g'; (refine' kci_rangeQ (G := neG v) (fun k => k ≠ v) (fun k => k) (fun _ _ => neG_yes) (fun _ _ => neG_no) (neG_grows v) ?zS (fun k' t' I' oI' C' oC' D' oD' m' s' E' Q1' Q2' hlo' hhi' hC' hx' F' N' off' n1' n2' n3' hMark' eY' eN' => ?_) ?_); (case zS => first | exact True.intro | assumption | exact Or.inr ⟨_, by k_mem, rfl, _, rfl⟩); kcf_last))
  refine wpAny_call ?_
  k_dflt (refine' con_callCM (fun y => if y = Str.ofString "due" then some (.ref r) else none) (fun y => if y = Str.ofString "v" then some (.int v tv) else none) ?k1 ?k2 ?k3 ?k4 ?k5 ?kH ?kA ?kF ?kK ?k6 ?k7 ?k8 ?k9 ?kB ?kD ?km ?kc ?_ ?c2 ?c3 ?c4; (case kA => exact rfl); (case kF => exact rfl); (case kK => assumption); (case k1 => assumption); (case k2 => assumption); (case k3 => assumption); (case k4 => assumption); (case k5 => assumption); (case kH => assumption); (case k6 => k_is); (case k7 => k_is); (case k8 => ktr_room); (case k9 => exact BindsTo.of_eq rfl); (case kB => exact rfl); (case kD => decide +kernel); (case km => exact fun _ => by with_unfolding_all rfl); (case kc => exact fun _ => by with_unfolding_all rfl); (case c2 => exact rfl); (case c3 => exact rfl); (case c4 => exact rfl); k_whole; intro g' L' h' tk' cells' F' N' Y' B' X' T' G' l1'; (refine anyQ (Q0 := Q) ?hq9 ?_; (case hq9 => (intro v9 s9 h9; exact h9)); intro Q9 hQ9); (refine noE ?_); (refine letEA ?_); (intro e9 A9); k_cells Y'; (try simp only [List.cons_append, List.nil_append] at N'); (try dsimp only); (try k_fold))
  obtain ⟨xa, xb, xc, xd, hx, ha, hb, hc, hd9⟩ := others4 hv
  k_steps
  have hI8 : IntsAre ys (othersOf v) := by assumption
  obtain ⟨t0, t1, t2, t3, rfl⟩ := ints4 (hx ▸ hI8)
  k_steps
  (try refine hQ9 _ _ ?_); (try dsimp only); (try k_unfold); (try dsimp only)
  ((try refine hQ9 _ _ ?_); refine' retV F N hret G' ?zf ?zn ?zs ?zp; (case zf => k_asm); (case zn => k_asm); (case zs => kcf_all))
  unfold pairedOf
  rw [hx]
  exact ⟨_, rfl⟩
section
variable {prog : Program} {w : World} {A : Around} {E : Value → Shared → Prop} {s : Shared} {h₀ : Heap} {L : Addr} {news : List (Addr × Obj)} {Q : Value → Shared → Prop}
theorem readI {h : Heap} {D : Addr} {vs : List Value} {n : Nat} {ns : List Int} (N : News h₀ L h news) (hm : (D, listOf vs.toArray n) ∈ news) (hi : IntsAre vs ns) : Reads h (.ref D) (.list (ns.map PyData.int)) [D] :=
  reads_newData (N.isList hm) (ke_carried hi)
theorem ne_rows {a b a0 a1 a2 a3 a4 b0 b1 b2 b3 b4 : Addr} {n n' n0 n1 n2 n3 n4 k0 k1 k2 k3 k4 : Nat} {v0 v1 v2 v3 v4 u0 u1 u2 u3 u4 : List Value} {r0 r1 r2 r3 r4 : List Int}
    (N : News h₀ L s.heap news) (ma : (a, listOf [.ref a0, .ref a1, .ref a2, .ref a3, .ref a4].toArray n) ∈ news) (mb : (b, listOf [.ref b0, .ref b1, .ref b2, .ref b3, .ref b4].toArray n') ∈ news)
    (m0 : (a0, listOf v0.toArray n0) ∈ news) (m1 : (a1, listOf v1.toArray n1) ∈ news) (m2 : (a2, listOf v2.toArray n2) ∈ news) (m3 : (a3, listOf v3.toArray n3) ∈ news) (m4 : (a4, listOf v4.toArray n4) ∈ news)
    (p0 : (b0, listOf u0.toArray k0) ∈ news) (p1 : (b1, listOf u1.toArray k1) ∈ news) (p2 : (b2, listOf u2.toArray k2) ∈ news) (p3 : (b3, listOf u3.toArray k3) ∈ news) (p4 : (b4, listOf u4.toArray k4) ∈ news)
    (i0 : IntsAre v0 r0) (i1 : IntsAre v1 r1) (i2 : IntsAre v2 r2) (i3 : IntsAre v3 r3) (i4 : IntsAre v4 r4)
    (j0 : IntsAre u0 r0) (j1 : IntsAre u1 r1) (j2 : IntsAre u2 r2) (j3 : IntsAre u3 r3) (j4 : IntsAre u4 r4) (hu : A.units + 64 < cLine) (h : Q (.bool false) s) :
    wpAny (model prog w) A (compareOp .NotEq (.ref a) (.ref b)) Q E s := by
  refine ne_dataH_same (da := .list [.list (r0.map PyData.int), .list (r1.map PyData.int), .list (r2.map PyData.int), .list (r3.map PyData.int), .list (r4.map PyData.int)]) (db := .list [.list (r0.map PyData.int), .list (r1.map PyData.int), .list (r2.map PyData.int), .list (r3.map PyData.int), .list (r4.map PyData.int)])
    (reads_list_at (N.get ma) rfl rfl (.cons (readI N m0 i0) (.cons (readI N m1 i1) (.cons (readI N m2 i2) (.cons (readI N m3 i3) (.cons (readI N m4 i4) .nil))))))
    (reads_list_at (N.get mb) rfl rfl (.cons (readI N p0 j0) (.cons (readI N p1 j1) (.cons (readI N p2 j2) (.cons (readI N p3 j3) (.cons (readI N p4 j4) .nil)))))) ?_ ?_ hu ?_ ?_
  · simp [SeqAt.shaped, PyData.canLayAll0, PyData.canLay0, PyData.depth, PyData.depthAll, ke_canLayAll0, ke_depthAll]
  · simp [SeqAt.shaped, PyData.canLayAll0, PyData.canLay0, PyData.depth, PyData.depthAll, ke_canLayAll0, ke_depthAll]
  · refine SeqAt.noMix_of_shape (.list (.list .int)) rfl _ _ (list_has ?_) (list_has ?_) <;>
    · intro x hx
      simp only [List.mem_cons, List.not_mem_nil, or_false] at hx
      rcases hx with rfl | rfl | rfl | rfl | rfl <;> exact list_map_has fun _ => rfl
  · have e : PySem.Spec.same (.list [.list (r0.map PyData.int), .list (r1.map PyData.int), .list (r2.map PyData.int), .list (r3.map PyData.int), .list (r4.map PyData.int)]) (.list [.list (r0.map PyData.int), .list (r1.map PyData.int), .list (r2.map PyData.int), .list (r3.map PyData.int), .list (r4.map PyData.int)]) = true := by
      simp only [PySem.Spec.same, PySem.Spec.sameAll, ke_sameAll, decide_true, Bool.and_true]
    rw [e]; exact h
inductive ConsIs (vs : List Value) (x : Value) (n : Nat) : Prop
  | mk : ∀ r, vs = x :: r → r.length = n → ConsIs vs x n
theorem consIs {vs : List Value} {x : Value} {n : Nat} (h : vs.length = n + 1) (e : vs[0]? = some x) : ConsIs vs x n := by
  cases vs with
  | nil => cases h
  | cons a r =>
    cases e
    exact ⟨r, rfl, Nat.succ.inj h⟩
theorem list5 {vs : List Value} {x0 x1 x2 x3 x4 : Value} (h : vs.length = 5) (e0 : vs[0]? = some x0) (e1 : vs[1]? = some x1) (e2 : vs[2]? = some x2) (e3 : vs[3]? = some x3) (e4 : vs[4]? = some x4) : vs = [x0, x1, x2, x3, x4] := by
  obtain ⟨r0, rfl, h0⟩ := consIs h e0
  obtain ⟨r1, rfl, h1⟩ := consIs h0 e1
  obtain ⟨r2, rfl, h2⟩ := consIs h1 e2
  obtain ⟨r3, rfl, h3⟩ := consIs h2 e3
  obtain ⟨r4, rfl, h4⟩ := consIs h3 e4
  rw [List.eq_nil_of_length_eq_zero h4]
theorem ne_rowsR {a b : Addr} {n n' : Nat} {vs us : List Value} {RF : Nat → List Int} {T : List (Addr × Obj)} (N : News h₀ L s.heap news) (sub : ∀ p ∈ T, p ∈ news) (ma : (a, listOf vs.toArray n) ∈ T) (mb : (b, listOf us.toArray n') ∈ T) (hv : vs.length = 5) (hv' : us.length = 5) (hR : RowsIn vs RF T) (hU : RowsIn us RF T)
    (hu : A.units + 64 < cLine) (h : Q (.bool false) s) : wpAny (model prog w) A (compareOp .NotEq (.ref a) (.ref b)) Q E s := by
  obtain ⟨a0, v0, n0, e0, m0, i0⟩ := hR 0 (by decide)
  obtain ⟨a1, v1, n1, e1, m1, i1⟩ := hR 1 (by decide)
  obtain ⟨a2, v2, n2, e2, m2, i2⟩ := hR 2 (by decide)
  obtain ⟨a3, v3, n3, e3, m3, i3⟩ := hR 3 (by decide)
  obtain ⟨a4, v4, n4, e4, m4, i4⟩ := hR 4 (by decide)
  obtain ⟨b0, u0, k0, f0, p0, j0⟩ := hU 0 (by decide)
  obtain ⟨b1, u1, k1, f1, p1, j1⟩ := hU 1 (by decide)
  obtain ⟨b2, u2, k2, f2, p2, j2⟩ := hU 2 (by decide)
  obtain ⟨b3, u3, k3, f3, p3, j3⟩ := hU 3 (by decide)
  obtain ⟨b4, u4, k4, f4, p4, j4⟩ := hU 4 (by decide)
  have ma := sub _ ma
  have mb := sub _ mb
  rw [list5 hv e0 e1 e2 e3 e4] at ma
  rw [list5 hv' f0 f1 f2 f3 f4] at mb
  exact ne_rows N ma mb (sub _ m0) (sub _ m1) (sub _ m2) (sub _ m3) (sub _ m4) (sub _ p0) (sub _ p1) (sub _ p2) (sub _ p3) (sub _ p4) i0 i1 i2 i3 i4 j0 j1 j2 j3 j4 hu h
end
noncomputable def agG (lf : List Int) (l : List Int) (k : Int) : List Int := if (lf.getD k.toNat 0 == 0) = true then l ++ [k] else l
theorem agG_yes {lf l : List Int} {k : Int} (h : (lf.getD k.toNat 0 == 0) = true) : agG lf l k = l ++ [k] := if_pos h
theorem agG_no {lf l : List Int} {k : Int} (h : (lf.getD k.toNat 0 == 0) = false) : agG lf l k = l := if_neg (by rw [h]; decide)
theorem agG_grows (lf : List Int) : KPfGrows (agG lf) := fun l k => by
  unfold agG
  split
  · simp
  · exact Nat.le_succ _
noncomputable def odG (R : Nat → List Int) (l : List Int) (k : Int) : List Int := if pairedOf R k = 1 then l ++ [2 ^ k.toNat] else l
theorem odG_yes {R : Nat → List Int} {l : List Int} {k : Int} (h : decide (pairedOf R k = 1) = true) : odG R l k = l ++ [2 ^ k.toNat] := if_pos (of_decide_eq_true h)
theorem odG_no {R : Nat → List Int} {l : List Int} {k : Int} (h : decide (pairedOf R k = 1) = false) : odG R l k = l := if_neg (of_decide_eq_false h)
theorem odG_grows (R : Nat → List Int) : KPfGrows (odG R) := fun l k => by
  unfold odG
  split
  · simp
  · exact Nat.le_succ _
theorem b32 {k : Int} {lf : List Int} (h0 : (0 : Int) ≤ k) (h1 : k < 0 + ((32 : Nat) : Int)) (e : lf.length = 32) : 0 ≤ k ∧ k < lf.length ∧ k < 2 ^ 63 := ⟨h0, by rw [e]; exact h1, Int.lt_trans h1 (by decide)⟩
theorem b5 {k : Int} (h0 : (0 : Int) ≤ k) (h1 : k < 0 + ((5 : Nat) : Int)) : 0 ≤ k ∧ k < 5 := ⟨h0, h1⟩
theorem b5le {k : Int} (h1 : k < 0 + ((5 : Nat) : Int)) : k ≤ 1000000 := Int.le_of_lt (Int.lt_trans h1 (by decide))
noncomputable def rowQ (p : List Int) (a : Int) : List Int := p.map (qdue a)
theorem row_b {k : Int} {r : List Int} (h0 : (0:Int) ≤ k) (h1 : k < 0 + ((5:Nat):Int)) (e : r.length = 5) : 0 ≤ k ∧ k < r.length ∧ k < 2^63 := ⟨h0, by rw [e]; exact h1, Int.lt_trans h1 (by decide)⟩
noncomputable def rowG (r : List Int) (l : List Int) (k : Int) : List Int := if r.getD k.toNat 0 = 1 then l ++ [2 ^ k.toNat] else l
theorem rowG_yes {r l : List Int} {k : Int} (h : decide (r.getD k.toNat 0 = 1) = true) : rowG r l k = l ++ [2 ^ k.toNat] := if_pos (of_decide_eq_true h)
theorem rowG_no {r l : List Int} {k : Int} (h : decide (r.getD k.toNat 0 = 1) = false) : rowG r l k = l := if_neg (of_decide_eq_false h)
theorem rowG_grows (r : List Int) : KPfGrows (rowG r) := fun l k => by
  unfold rowG
  split
  · simp
  · exact Nat.le_succ _
noncomputable abbrev rowC (r : List Int) (k : Int) : Prop := r.getD k.toNat 0 = 1
theorem pw0 {k : Int} (h0 : (0:Int) ≤ k) : 0 ≤ k := h0
theorem pw1 {k : Int} (h1 : k < 0 + ((5:Nat):Int)) : k ≤ 1000000 := Int.le_of_lt (Int.lt_trans h1 (by decide))
noncomputable def maskOf (r : List Int) : Int := ((rangeKs 0 5).foldl (rowG r) []).sum
noncomputable def leftOf (R : List (List Int)) : List Int := R.foldl (fun l r => l ++ l.map (fun s => Builtin.bitXor s (maskOf r))) [0]
theorem leftOf_snoc (R : List (List Int)) (r : List Int) : leftOf (R ++ [r]) = leftOf R ++ (leftOf R).map (fun s => Builtin.bitXor s (maskOf r)) := by
  unfold leftOf; rw [List.foldl_append]; rfl
theorem leftOf_len (R : List (List Int)) : (leftOf R).length = 2 ^ R.length := by
  have h : ∀ (R : List (List Int)) (l : List Int), (R.foldl (fun l r => l ++ l.map (fun s => Builtin.bitXor s (maskOf r))) l).length = l.length * 2 ^ R.length := by
    intro R
    induction R with
    | nil => intro l; simp
    | cons r R ih => intro l; rw [List.foldl_cons, ih]; simp [Nat.pow_succ]; rw [← Nat.mul_two, Nat.mul_assoc, Nat.mul_comm 2]
  have h1 := h R [0]
  rw [List.length_singleton, Nat.one_mul] at h1
  exact h1
noncomputable def leftM (r lp : Addr) : Str → Option Value := fun y => if y = Str.ofString "left" then some (.ref lp) else if y = Str.ofString "rows" then some (.ref r) else none
theorem leftM_upd (r lp l' : Addr) : (fun y => if y = Str.ofString "left" then some (Value.ref l') else leftM r lp y) = leftM r l' := funext fun y => by
  unfold leftM
  by_cases h : y = Str.ofString "left"
  · rw [if_pos h, if_pos h]
  · rw [if_neg h, if_neg h, if_neg h]
noncomputable def leftI (R : Nat → List Int) (i : Nat) : List Int := leftOf ((List.range i).map R)
theorem leftI_succ (R : Nat → List Int) (i : Nat) : leftI R (i + 1) = leftI R i ++ (leftI R i).map (fun s => Builtin.bitXor s (maskOf (R i))) := by
  unfold leftI; rw [List.range_succ, List.map_append]; exact leftOf_snoc _ _
theorem leftI_len (R : Nat → List Int) {i : Nat} (h : i < 5) : (leftI R i).length ≤ 16 := by
  unfold leftI; rw [leftOf_len, List.length_map, List.length_range]; exact Nat.pow_le_pow_right (by decide) (Nat.le_of_lt_succ h)
inductive leftJ (r cM cR : Addr) (T : List (Addr × Obj)) (R : Nat → List Int) (i : Nat) (m : Str → Option Value) (nw : List (Addr × Obj)) : Prop
  | mk : ∀ lp vl n oM oR xM xR, (m = leftM r lp) → (IntsAre vl (leftI R i)) → (oM.data = .cell xM) → (oR.data = .cell xR) → (lp ≠ cM) → (lp ≠ cR) → ((∀ q ∈ T, q.1 ≠ lp)) → (nw = (lp, listOf vl.toArray n) :: (cM, oM) :: (cR, oR) :: T) → leftJ r cM cR T R i m nw
set_option maxHeartbeats 8000000 in
theorem left_con (w : World) (mean : ExcName → Option Value) (mg mb : Str → Option Value) (r : Addr) (vs : List Value) (nr : Nat) (TT : List (Addr × Obj)) (R : Nat → List Int) (h5 : vs.length = 5) (mr : (r, listOf vs.toArray nr) ∈ TT) (hR : RowsIn vs R TT) (hl : ∀ k, k < 5 → (R k).length = 5) :
    ConO w mean mg mb 121 [.ref r] 2 TT (ListIs (leftI R 5)) := by
  w_on
  k_with_none
  k_with "K_STEPS" => (repeat' (first | (k_unfold; (try dsimp only)) | (k_end; wrow_close) | walk1 | (dsimp only; walk1) | (leave1; walk_say "STEP leave1"; try dsimp only) | ((try dsimp only); refine' CEnd.go ?eH _ _ _ ?eF ?eN ?eP; (case eH => with_reducible assumption); (case eF => k_asm); (case eN => k_asm); (case eP => (first | exact intV | exact intVc (by with_reducible assumption) | k_extra "END9"))) | ((try dsimp only); refine' CNo.go ?eH _ _ ?eF ?eN ?eP; (case eH => with_reducible assumption); (case eF => k_asm); (case eN => k_asm); (case eP => (first | with_reducible assumption | k_extra "NO9"))) | (k_extra "STEP9") | fail "no step"))
  k_with "K_MEM" => ((with_reducible ((repeat (first | exact List.mem_cons_self | refine List.mem_cons_of_mem _ ?_ | assumption)); done)))
  k_with "K_ALL" => (first | exact List.forall_mem_nil _ | (with_reducible assumption) | (refine List.forall_mem_cons.mpr ⟨by k_ne, ?_⟩; k_all) | (refine tl_lt (by with_reducible assumption) ?_; (repeat (first | exact sub_rfl | refine sub_tl ?_)); done) | (refine tl_off (by with_reducible assumption) ?_; (repeat (first | exact sub_rfl | refine sub_tl ?_)); done) | (refine tl_one (by with_reducible assumption) ?_; (repeat (first | exact sub_rfl | refine sub_tl ?_)); done) | (refine tl_I (by with_reducible assumption) ?_; (repeat (first | exact sub_rfl | refine sub_tl ?_)); done) | (refine tl_C (by with_reducible assumption) ?_; (repeat (first | exact sub_rfl | refine sub_tl ?_)); done) | (refine tl_D (by with_reducible assumption) ?_; (repeat (first | exact sub_rfl | refine sub_tl ?_)); done) | (refine tl_c1 (by with_reducible assumption) ?_; (repeat (first | exact sub_rfl | refine sub_tl ?_)); done) | (refine tl_c2 (by with_reducible assumption) ?_; (repeat (first | exact sub_rfl | refine sub_tl ?_)); done) | (refine tl_c3 (by with_reducible assumption) ?_; (repeat (first | exact sub_rfl | refine sub_tl ?_)); done))
  k_with "K_NE" => ((refine neN ?_; (try dsimp only); first | with_reducible assumption | (refine Ne.symm ?_; with_reducible assumption) | exact Nat.ne_of_lt (by with_reducible assumption) | exact Nat.ne_of_gt (by with_reducible assumption) | (refine off_a ?_; first | (refine ne_lt (by with_reducible assumption) ?_; (repeat (first | exact at_hd | refine at_tl ?_)); done) | (refine ne_off (by with_reducible assumption) ?_; (repeat (first | exact at_hd | refine at_tl ?_)); done) | (refine ne_one (by with_reducible assumption) ?_; (repeat (first | exact at_hd | refine at_tl ?_)); done) | (refine ne_I (by with_reducible assumption) ?_; (repeat (first | exact at_hd | refine at_tl ?_)); done) | (refine ne_C (by with_reducible assumption) ?_; (repeat (first | exact at_hd | refine at_tl ?_)); done) | (refine ne_D (by with_reducible assumption) ?_; (repeat (first | exact at_hd | refine at_tl ?_)); done)) | (refine off_a ?_; first | (refine ne_c1 (by with_reducible assumption) ?_; (repeat (first | exact at_hd | refine at_tl ?_)); done) | (refine ne_c2 (by with_reducible assumption) ?_; (repeat (first | exact at_hd | refine at_tl ?_)); done) | (refine ne_c3 (by with_reducible assumption) ?_; (repeat (first | exact at_hd | refine at_tl ?_)); done) | (refine ne_c4 (by with_reducible assumption) ?_; (repeat (first | exact at_hd | refine at_tl ?_)); done)) | (refine off_b ?_; first | (refine ne_c1 (by with_reducible assumption) ?_; (repeat (first | exact at_hd | refine at_tl ?_)); done) | (refine ne_c2 (by with_reducible assumption) ?_; (repeat (first | exact at_hd | refine at_tl ?_)); done) | (refine ne_c3 (by with_reducible assumption) ?_; (repeat (first | exact at_hd | refine at_tl ?_)); done) | (refine ne_c4 (by with_reducible assumption) ?_; (repeat (first | exact at_hd | refine at_tl ?_)); done)) | (refine off_b ?_; first | (refine ne_lt (by with_reducible assumption) ?_; (repeat (first | exact at_hd | refine at_tl ?_)); done) | (refine ne_off (by with_reducible assumption) ?_; (repeat (first | exact at_hd | refine at_tl ?_)); done) | (refine ne_one (by with_reducible assumption) ?_; (repeat (first | exact at_hd | refine at_tl ?_)); done) | (refine ne_I (by with_reducible assumption) ?_; (repeat (first | exact at_hd | refine at_tl ?_)); done) | (refine ne_C (by with_reducible assumption) ?_; (repeat (first | exact at_hd | refine at_tl ?_)); done) | (refine ne_D (by with_reducible assumption) ?_; (repeat (first | exact at_hd | refine at_tl ?_)); done)) | omega))
  k_with "storeName" => (first
    | (k_here; k_dflt (refine' storeX_Lm ?F ?N ?_ ?a ?b; (case a => rfl); (case b => rfl); (case F => k_asm); (case N => k_asm)); intro h' m' F' N'; (try k_sweep)))
  k_with "FinE" => (first
    | ((unfold LCg.FinE); intro D' h' tk' F' N' o1'; (try simp only [List.nil_append, List.cons_append] at N'); (try k_sweep); (try dsimp only)))
  k_with "FinA" => (first
    | ((unfold LCg.FinA); intro D' h' tk' F' N' o1'; (try simp only [List.nil_append, List.cons_append] at N'); (try k_sweep); (try dsimp only)))
  k_with "call ref" => (first
    | (k_extra "MyCall"))
  k_with "CompSrc" => (first
    | (k_here; k_dflt (refine LCg.CompSrc.ledger (by rfl) (by k_asm) (by k_asm) (by k_mem) (by exact ints_sz (by assumption) (Nat.le_trans (by with_reducible assumption) (by decide))) ?_; intro g'; (refine' kcf_listQ _ (by assumption) ?zS (fun k' t' I' oI' C' oC' D' oD' m' s' E' Q1' hk' hC' hx' F' N' off' n1' n2' n3' hMark' eY' => ?_) ?_); (case zS => first | exact True.intro | assumption | exact Or.inr ⟨_, by k_mem, rfl, _, rfl⟩); kcf_last))
    | (k_extra "MySrc"))
  k_with "CompSrcT" => (first
    | (k_extra "MySrcT"))
  k_with "exec While Compare cons nil" => (first
    | (k_here; k_dflt (refine whl_start 100 ?_)))
  k_with "newList" => (first
    | (k_here; k_dflt (refine' newList_I ?zF ?zN ?zi ?_ ?zz; (case zF => k_asm); (case zN => k_asm); (case zi => (repeat' constructor)); (case zz => exact Nat.le_of_ble_eq_true rfl); (intro l' h' vs' hi' F' N' l1'); (try k_lt l1'); (try k_sweep))))
  k_with "call builtin:len" => (first
    | (k_here; k_dflt (refine' len_I ?zN ?zm ?zi ?zf ?_; (case zN => k_asm); (case zm => k_mem); (case zi => assumption); (case zf => first | decide | (simp only [List.length_append, List.length_map, List.length_cons, List.length_nil]; omega)); (intro t' tk'))))
  k_with "binaryOp Add ref ref" => (first
    | (k_here; k_dflt (refine' add_I ?zF ?zN ?zm ?zp ?zi ?zj ?zz ?_; (case zF => k_asm); (case zN => k_asm); (case zm => k_mem); (case zp => k_mem); (case zi => assumption); (case zj => assumption); (case zz => (rw [PySem.sizeLine_eq]; simp only [List.length_append, List.length_map, List.length_cons, List.length_nil]; first | done | decide | omega)); (intro l' h' vs' hi' F' N' l1'); (try k_lt l1'); (try k_sweep))))
  k_with "eval ListComp" => (first
    | (k_here; (with_reducible show wpAny _ _ (eval (Expr.ListComp _ [PySem.Comprehension.mk _ _ [_] _] _ _) _) _ _ _); k_dflt (refine LCt.ListComp_T (F₀ := by k_asm) (by with_unfolding_all rfl) (by decide) (by rfl) (by decide) (by rfl) ?_))
    | (k_here; (with_reducible show wpAny _ _ (eval (Expr.ListComp _ [PySem.Comprehension.mk _ _ [] _] _ _) _) _ _ _); k_dflt (refine LCg.ListComp_U (F₀ := by k_asm) (by with_unfolding_all rfl) (by decide) (by rfl) (by decide) (by rfl) ?_)))
  k_with "exec For Name Name cons nil" => (first
    | (k_here; k_dflt (refine for_start ?_)))
  k_with "pyIter ref" => (first
    | (k_here; k_dflt (refine' iterR_start ?zF ?zN ?zr ?zs ?zn ?_; (case zF => k_asm); (case zN => k_asm); (case zr => with_reducible assumption); (case zs => first | decide | rfl | exact small_i (by assumption)); (case zn => first | exact rfl | decide | exact size_i (by assumption)); (intro I' h' F' N' l1'); (try k_lt l1'); (try k_sweep)))
    | (k_here; k_dflt (refine' iterL_start ?zF ?zN ?zm ?_; (case zF => k_asm); (case zN => k_asm); (case zm => k_mem); (intro I' o' h' F' N' l1' hI'); (try k_lt l1'); (try k_sweep))))
  k_with "exec For Name Call cons nil" => (first
    | (k_here; k_dflt (refine for_start ?_)))
  k_with "ForRest" => (first
    | (k_extra "MyFor"))
  k_with "ForPost" => (first
    | (dsimp only [ForPost]))
  k_with "subscriptTail Name Name ref int" => (first
    | (k_here; k_dflt (refine' item_ints ?zN ?zm ?zi ?zb ?_; (case zN => k_asm); (case zm => first | ((repeat (first | assumption | refine List.mem_cons_of_mem _ ?_)); done) | k_mem); (case zi => assumption); (case zb => exact row_b (by with_reducible assumption) (by with_reducible assumption) (by with_reducible assumption)); intro t')))
  k_with "binaryOp Pow int int" => (first
    | (k_here; (with_reducible refine' pow_int_small ?kb1 ?kb2 ?kb3 ?_); (case kb1 => exact pw0 (by with_reducible assumption)); (case kb2 => exact pw1 (by with_reducible assumption)); (case kb3 => decide)))
  unfold ConO
  k_fill
  intro dp un gd cn cs a ccd cl outer A₀ base h₀ L m news s Q E B F X N T hk hhid hd hu hret
  k_with "MySrcT" => (k_here; k_dflt (refine LCt.CompSrcT.range (by rfl) (by k_asm) (by k_asm) (by assumption) (by first | decide | rfl) (by first | rfl | decide) (by exact Nat.le_of_ble_eq_true rfl) ?_; intro g'; (refine' kci_rangeQ (rowC rj) (fun k => 2 ^ k.toNat) (fun _ _ h => if_pos h) (fun _ _ h => if_neg h) (rowG_grows rj) ?zS (fun k' t' I' oI' C' oC' D' oD' m' s' E' Q1' Q2' hlo' hhi' hC' hx' F' N' off' n1' n2' n3' hMark' eY' eN' => ?_) ?_); (case zS => first | exact True.intro | assumption | exact Or.inr ⟨_, by k_mem, rfl, _, rfl⟩); kcf_last))
  refine wpAny_call ?_
  k_dflt (refine' con_callCM (fun y => if y = Str.ofString "rows" then some (.ref r) else none) (fun _ => none) ?k1 ?k2 ?k3 ?k4 ?k5 ?kH ?kA ?kF ?kK ?k6 ?k7 ?k8 ?k9 ?kB ?kD ?km ?kc ?_ ?c2 ?c3 ?c4; (case kA => exact rfl); (case kF => exact rfl); (case kK => assumption); (case k1 => assumption); (case k2 => assumption); (case k3 => assumption); (case k4 => assumption); (case k5 => assumption); (case kH => assumption); (case k6 => k_is); (case k7 => k_is); (case k8 => ktr_room); (case k9 => exact BindsTo.of_eq rfl); (case kB => exact rfl); (case kD => decide +kernel); (case km => exact fun _ => by with_unfolding_all rfl); (case kc => exact fun _ => by with_unfolding_all rfl); (case c2 => exact rfl); (case c3 => exact rfl); (case c4 => exact rfl); k_whole; intro g' L' h' tk' cells' F' N' Y' B' X' T' G' l1'; (refine anyQ (Q0 := Q) ?hq9 ?_; (case hq9 => (intro v9 s9 h9; exact h9)); intro Q9 hQ9); (refine noE ?_); (refine letEA ?_); (intro e9 A9); k_cells Y'; (try simp only [List.cons_append, List.nil_append] at N'); (try dsimp only); (try k_fold))
  k_steps
  k_dflt (refine' forL_ind (l := r) (vs := vs) (n := nr) (leftJ r (L' + 1 + 1) (L' + 1) TT R) ?hE rfl ?hl ?hstep ?hfin 5 0 _ _ _ _ _ h5.symm ?hj ?hF ?hN ?hoff ?hI)
  case hE => first | exact PassesOwn.never | passes_own | with_unfolding_all passes_own
  case hF => k_asm
  case hN => k_asm
  case hI => assumption
  case hoff => k_all
  case hj => exact ⟨_, _, _, _, _, _, _, rfl, (by assumption), (by assumption), (by assumption), (by k_ne), (by k_ne), (by k_all), rfl⟩
  case hl =>
    intro i m nw hj
    obtain ⟨lp, vl, n9, oM, oR, xM, xR, rfl, hi9, dM, dR, ne1, ne2, offl, rfl⟩ := hj
    exact List.mem_cons_of_mem _ (List.mem_cons_of_mem _ (List.mem_cons_of_mem _ mr))
  case hfin =>
    intro m1 nw h tk hj F1 N1
    obtain ⟨lp, vl, n9, oM, oR, xM, xR, rfl, hi9, dM, dR, ne1, ne2, offl, rfl⟩ := hj
    (try dsimp only)
    k_steps
    (try refine hQ9 _ _ ?_); (try dsimp only); (try k_unfold); (try dsimp only)
    ((try refine hQ9 _ _ ?_); refine' retO F N hret G' ?zf ?zn ?zs ?zm ?ze ?zp; (case zf => k_asm); (case zn => k_asm); (case zs => kcf_all); (case zm => k_mem); (case ze => first | assumption | k_all))
    exact ⟨_, _, rfl, h5 ▸ hi9⟩
  case hstep =>
    intro i v m1 nw I o s1 Q8 hv hj F1 N1 off1 hc1 hQ8
    obtain ⟨lp, vl, n9, oM, oR, xM, xR, rfl, hi9, dM, dR, ne1, ne2, offl, rfl⟩ := hj
    have hi5 : i < 5 := h5 ▸ (List.getElem?_eq_some_iff.mp hv).1
    obtain ⟨aj, vj, nj, ev, hmj, hij⟩ := hR i hi5
    have hlj := hl i hi5
    rw [ev] at hv
    cases hv
    have hlen2 := leftI_len R hi5
    have hsn := leftI_succ R i
    generalize R i = rj at hij hlj hsn
    generalize leftI R i = lf at hi9 hlen2 hsn
    clear hR
    k_steps
    k_dflt (refine' LEnd.fin hQ8 ((_, listOf (List.toArray _) _) :: (L' + 1 + 1, _) :: (L' + 1, _) :: TT) ?tF ?tN ?tS ?tO ?tJ)
    case tF => k_asm
    case tN => k_asm
    case tS => kcf_all
    case tO => k_all
    case tJ => exact ⟨_, _, _, _, _, _, _, leftM_upd _ _ _, hsn ▸ (by assumption), (by assumption), (by assumption), (by k_ne), (by k_ne), (by k_all), rfl⟩
noncomputable def bi (b : Bool) : Int := if b = true then 1 else 0
noncomputable def mat (a b c d e f g h i j : Bool) : List (List Int) := [[0, bi a, bi b, bi c, bi d], [bi a, 0, bi e, bi f, bi g], [bi b, bi e, 0, bi h, bi i], [bi c, bi f, bi h, 0, bi j], [bi d, bi g, bi i, bi j, 0]]
theorem bi_of {u v : Int} : qdue u v = bi (decide (qdue u v = 1)) := by
  have h := qdue_01 u v
  unfold bi
  by_cases e : qdue u v = 1
  · rw [if_pos (decide_eq_true e)]; exact e
  · rw [if_neg (by simpa using e)]; omega
inductive RowsQ (X : Nat → Int) : Prop
  | mk : ∀ R : List (List Int), R.length = 5 → (∀ k, k < 5 → dueR X k = R.getD k []) → (∀ k, k < 5 → (R.getD k []).length = 5) → (∀ k j, 0 ≤ (R.getD k []).getD j 0 ∧ (R.getD k []).getD j 0 ≤ 1) → leftI (fun k => R.getD k []) 5 = leftOf R → (∃ a b c d e f g h i j, R = mat a b c d e f g h i j) → RowsQ X
theorem dueR_01 (X : Nat → Int) (j k : Nat) : 0 ≤ (dueR X j).getD k 0 ∧ (dueR X j).getD k 0 ≤ 1 := by
  match k with
  | 0 => exact qdue_01 _ _
  | 1 => exact qdue_01 _ _
  | 2 => exact qdue_01 _ _
  | 3 => exact qdue_01 _ _
  | 4 => exact qdue_01 _ _
  | n + 5 => exact ⟨Int.le_refl 0, show (0 : Int) ≤ 1 by decide⟩
theorem c2 {α : Type} {a b : α} {l r : List α} (h : a = b) (t : l = r) : a :: l = b :: r := by rw [h, t]
theorem rowsQ (X : Nat → Int) : RowsQ X := by
  have hd : ∀ k, k < 5 → dueR X k = [dueR X 0, dueR X 1, dueR X 2, dueR X 3, dueR X 4].getD k [] := fun k hk => by
    match k, hk with
    | 0, _ => rfl
    | 1, _ => rfl
    | 2, _ => rfl
    | 3, _ => rfl
    | 4, _ => rfl
  refine ⟨[dueR X 0, dueR X 1, dueR X 2, dueR X 3, dueR X 4], rfl, hd, fun k hk => by rw [← hd k hk]; rfl, fun k j => ?_, rfl, decide (qdue (X 0) (X 1) = 1), decide (qdue (X 0) (X 2) = 1), decide (qdue (X 0) (X 3) = 1), decide (qdue (X 0) (X 4) = 1), decide (qdue (X 1) (X 2) = 1), decide (qdue (X 1) (X 3) = 1), decide (qdue (X 1) (X 4) = 1), decide (qdue (X 2) (X 3) = 1), decide (qdue (X 2) (X 4) = 1), decide (qdue (X 3) (X 4) = 1), ?_⟩
  · by_cases hk : k < 5
    · rw [← hd k hk]; exact dueR_01 X k j
    · obtain ⟨n, rfl⟩ := Nat.exists_eq_add_of_le (Nat.le_of_not_lt hk)
      rw [Nat.add_comm]
      exact ⟨Int.le_refl 0, show (0 : Int) ≤ 1 by decide⟩
  · exact c2 (c2 (qdue_diag _) (c2 bi_of (c2 bi_of (c2 bi_of (c2 bi_of rfl))))) (c2 (c2 ((qdue_symm _ _).trans bi_of) (c2 (qdue_diag _) (c2 bi_of (c2 bi_of (c2 bi_of rfl))))) (c2 (c2 ((qdue_symm _ _).trans bi_of) (c2 ((qdue_symm _ _).trans bi_of) (c2 (qdue_diag _) (c2 bi_of (c2 bi_of rfl))))) (c2 (c2 ((qdue_symm _ _).trans bi_of) (c2 ((qdue_symm _ _).trans bi_of) (c2 ((qdue_symm _ _).trans bi_of) (c2 (qdue_diag _) (c2 bi_of rfl))))) (c2 (c2 ((qdue_symm _ _).trans bi_of) (c2 ((qdue_symm _ _).trans bi_of) (c2 ((qdue_symm _ _).trans bi_of) (c2 ((qdue_symm _ _).trans bi_of) (c2 (qdue_diag _) rfl))))) rfl))))
theorem rowG_sum (r l : List Int) (k : Int) : (rowG r l k).sum = l.sum ∨ (rowG r l k).sum = l.sum + 2 ^ k.toNat := by
  unfold rowG
  split
  · exact .inr (by rw [List.sum_append, List.sum_singleton])
  · exact .inl rfl
theorem mask_n (r : List Int) : ∀ n : Nat, 0 ≤ ((rangeKs 0 n).foldl (rowG r) []).sum ∧ ((rangeKs 0 n).foldl (rowG r) []).sum < 2 ^ n
  | 0 => ⟨Int.le_refl 0, show (0 : Int) < 1 by decide⟩
  | n + 1 => by
    have ih := mask_n r n
    have e : rangeKs 0 (n + 1) = rangeKs 0 n ++ [(0 : Int) + (n : Int)] := by unfold rangeKs; rw [List.range_succ, List.map_append]; rfl
    rw [e, List.foldl_append]
    have h := rowG_sum r ((rangeKs 0 n).foldl (rowG r) []) ((0 : Int) + (n : Int))
    rw [Int.zero_add, Int.toNat_natCast] at h
    rw [Int.zero_add, Int.pow_succ]
    show 0 ≤ (rowG r _ (n : Int)).sum ∧ (rowG r _ (n : Int)).sum < _
    generalize (rowG r _ (n : Int)).sum = a at h ⊢
    omega
theorem mask_b (r : List Int) : 0 ≤ maskOf r ∧ maskOf r < 32 := mask_n r 5
theorem xor_b {s m : Int} (hs : 0 ≤ s ∧ s < 32) (hm : 0 ≤ m ∧ m < 32) : 0 ≤ Builtin.bitXor s m ∧ Builtin.bitXor s m < 32 := by
  have h : ∀ a : Fin 32, ∀ b : Fin 32, 0 ≤ Builtin.bitXor (a.val : Int) (b.val : Int) ∧ Builtin.bitXor (a.val : Int) (b.val : Int) < 32 := by decide +kernel
  obtain ⟨a, rfl⟩ := Int.eq_ofNat_of_zero_le hs.1
  obtain ⟨b, rfl⟩ := Int.eq_ofNat_of_zero_le hm.1
  exact h ⟨a, by omega⟩ ⟨b, by omega⟩
theorem left_b (R : List (List Int)) : ∀ x ∈ leftOf R, 0 ≤ x ∧ x < 32 := by
  have h : ∀ (R : List (List Int)) (l : List Int), (∀ x ∈ l, 0 ≤ x ∧ x < 32) → ∀ x ∈ R.foldl (fun l r => l ++ l.map (fun s => Builtin.bitXor s (maskOf r))) l, 0 ≤ x ∧ x < 32 := by
    intro R
    induction R with
    | nil => intro l hl; exact hl
    | cons r R ih =>
      intro l hl
      rw [List.foldl_cons]
      refine ih _ ?_
      intro x hx
      rcases List.mem_append.mp hx with h | h
      · exact hl x h
      · obtain ⟨y, hy, rfl⟩ := List.mem_map.mp h
        exact xor_b (hl y hy) (mask_b r)
  exact h R [0] (by intro x hx; rw [List.mem_singleton.mp hx]; decide)
theorem cnt_split (p q : Nat → Bool) : ∀ l : List Nat, l.countP p = l.countP (fun t => p t && q t) + l.countP (fun t => p t && !q t)
  | [] => rfl
  | x :: r => by
    have ih := cnt_split p q r
    simp only [List.countP_cons]
    cases p x <;> cases q x <;> simp <;> omega
theorem cnt_swap (P : Nat → Nat → Bool) (l : List Nat) : ∀ k : List Nat, (k.map fun v => l.countP (P v)).sum = (l.map fun t => k.countP fun v => P v t).sum
  | [] => by
    have h : ∀ l : List Nat, (l.map fun t => ([] : List Nat).countP fun v => P v t).sum = 0 := by
      intro l
      induction l with
      | nil => rfl
      | cons y l ihl => rw [List.map_cons, List.sum_cons, ihl]; rfl
    rw [h]; rfl
  | x :: r => by
    have ih := cnt_swap P l r
    have h : ∀ l : List Nat, (l.map fun t => (x :: r).countP fun v => P v t).sum = l.countP (P x) + (l.map fun t => r.countP fun v => P v t).sum := by
      intro l
      induction l with
      | nil => rfl
      | cons y l ihl =>
        rw [List.map_cons, List.sum_cons, ihl, List.map_cons, List.sum_cons, List.countP_cons, List.countP_cons]
        omega
    rw [h, List.map_cons, List.sum_cons, ih]
theorem cnt_two (p : Nat → Bool) (x y : Nat) : ∀ l : List Nat, (l.map fun v => if p v = true then x + y else y).sum = x * l.countP p + y * l.length
  | [] => rfl
  | v :: r => by
    have ih := cnt_two p x y r
    simp only [List.map_cons, List.sum_cons, ih, List.countP_cons, List.length_cons, Nat.mul_add, Nat.mul_one]
    cases p v <;> simp <;> omega
theorem sum_mul2 (f : Nat → Nat) : ∀ l : List Nat, 2 * (l.map f).sum = (l.map fun v => 2 * f v).sum
  | [] => rfl
  | v :: r => by
    have ih := sum_mul2 f r
    simp only [List.map_cons, List.sum_cons, ← ih, Nat.mul_add]
theorem sum_congr' {f g : Nat → Nat} : ∀ {l : List Nat}, (∀ v ∈ l, f v = g v) → (l.map f).sum = (l.map g).sum := fun h => by rw [List.map_congr_left h]
theorem xor_perm : ∀ u : Fin 32, ((List.range 32).map (fun t => t ^^^ u.val)).Perm (List.range 32) := by decide +kernel
theorem cnt_flip (p q : Nat → Bool) {u : Nat} (hu : u < 32) (hp : ∀ t, t < 32 → p (t ^^^ u) = p t) (hq : ∀ t, t < 32 → q (t ^^^ u) = !q t) : (List.range 32).countP (fun t => p t && q t) = (List.range 32).countP (fun t => p t && !q t) := by
  rw [← (xor_perm ⟨u, hu⟩).countP_eq, List.countP_map]
  refine List.countP_congr fun t ht => ?_
  have ht := List.mem_range.mp ht
  simp only [Function.comp]
  rw [hp t ht, hq t ht]
theorem cnt_half (p q : Nat → Bool) {u : Nat} (hu : u < 32) (hp : ∀ t, t < 32 → p (t ^^^ u) = p t) (hq : ∀ t, t < 32 → q (t ^^^ u) = !q t) : 2 * (List.range 32).countP (fun t => p t && !q t) = (List.range 32).countP p := by
  rw [cnt_split p q, cnt_flip p q hu hp hq]; omega
theorem xor32 {s t : Nat} (hs : s < 32) (ht : t < 32) : s ^^^ t < 32 := Nat.xor_lt_two_pow (n := 5) hs ht
theorem xor_back (s t : Nat) : (s ^^^ t) ^^^ t = s := by rw [Nat.xor_assoc, Nat.xor_self, Nat.xor_zero]
/-- Witt: the square of a set that is its own perp -/
theorem witt (B : Nat → Nat → Bool) (κ : Nat → Bool) (hs : ∀ s t, s < 32 → t < 32 → B s t = B t s) (ha : ∀ s t u, B s (t ^^^ u) = (B s t ^^ B s u))
    (hk : ∀ v, v < 32 → (κ v = true ↔ ∀ t, t < 32 → κ t = true → B v t = false)) :
    (List.range 32).countP κ * (List.range 32).countP κ = 32 * (List.range 32).countP (fun v => (List.range 32).all fun t => !B v t) := by
  have hc : ∀ v, v < 32 → 2 * (List.range 32).countP (fun t => κ t && !B v t) = if κ v = true then (List.range 32).countP κ + (List.range 32).countP κ else (List.range 32).countP κ := by
    intro v hv
    by_cases h : κ v = true
    · rw [if_pos h]
      have e : (List.range 32).countP (fun t => κ t && !B v t) = (List.range 32).countP κ := List.countP_congr fun t ht => by
        have ht := List.mem_range.mp ht
        cases hκ : κ t with
        | false => simp
        | true => rw [(hk v hv).mp h t ht hκ]; simp
      rw [e]; omega
    · rw [if_neg h]
      have hx : ∃ u, u < 32 ∧ κ u = true ∧ B v u = true := by
        apply Classical.byContradiction
        intro hn
        refine h ((hk v hv).mpr fun t ht hκ => ?_)
        cases hb : B v t with
        | false => rfl
        | true => exact absurd ⟨t, ht, hκ, hb⟩ hn
      obtain ⟨u, hu, hκ, hb⟩ := hx
      have closed : ∀ t, t < 32 → κ t = true → κ (t ^^^ u) = true := fun t ht hκt => (hk _ (xor32 ht hu)).mpr fun r hr hκr => by
        rw [hs _ _ (xor32 ht hu) hr, ha, hs r t hr ht, hs r u hr hu, (hk t ht).mp hκt r hr hκr, (hk u hu).mp hκ r hr hκr]; rfl
      refine cnt_half κ (B v) hu (fun t ht => ?_) (fun t ht => by rw [ha, hb, Bool.xor_true])
      cases h1 : κ t with
      | true => exact closed t ht h1
      | false =>
        cases h2 : κ (t ^^^ u) with
        | false => rfl
        | true =>
          have h3 := closed _ (xor32 ht hu) h2
          rw [xor_back, h1] at h3
          exact h3.symm
  have hd : ∀ t, t < 32 → 2 * (List.range 32).countP (fun v => !B v t) = if ((List.range 32).all fun v => !B t v) = true then 32 + 32 else 32 := by
    intro t ht
    by_cases h : ((List.range 32).all fun v => !B t v) = true
    · rw [if_pos h]
      have e : (List.range 32).countP (fun v => !B v t) = (List.range 32).countP (fun _ => true) := List.countP_congr fun v hv => by
        have h1 := List.all_eq_true.mp h v hv
        have h2 := List.mem_range.mp hv
        rw [hs v t h2 ht, h1]
      rw [e, List.countP_true, List.length_range]
    · rw [if_neg h]
      have hx : ∃ u, u < 32 ∧ B t u = true := by
        apply Classical.byContradiction
        intro hn
        refine h (List.all_eq_true.mpr fun v hv => ?_)
        cases hb : B t v with
        | false => rfl
        | true => exact absurd ⟨v, List.mem_range.mp hv, hb⟩ hn
      obtain ⟨u, hu, hb⟩ := hx
      have e := cnt_half (fun _ => true) (fun v => B v t) hu (fun _ _ => rfl) (fun v hv => by
        show B (v ^^^ u) t = !B v t
        rw [hs _ _ (xor32 hv hu) ht, ha, hb, Bool.xor_true, hs t v ht hv])
      simp only [Bool.true_and, List.countP_true, List.length_range] at e
      exact e
  have s1 : 2 * ((List.range 32).map fun v => (List.range 32).countP (fun t => κ t && !B v t)).sum = (List.range 32).countP κ * (List.range 32).countP κ + (List.range 32).countP κ * 32 := by
    rw [sum_mul2, sum_congr' fun v hv => hc v (List.mem_range.mp hv), cnt_two, List.length_range]
  have s2 : ((List.range 32).map fun v => (List.range 32).countP (fun t => κ t && !B v t)).sum = ((List.range 32).map fun t => (List.range 32).countP (fun v => κ t && !B v t)).sum := cnt_swap (fun v t => κ t && !B v t) _ _
  have s3 : 2 * ((List.range 32).map fun t => (List.range 32).countP (fun v => κ t && !B v t)).sum = 32 * (List.range 32).countP (fun v => (List.range 32).all fun t => !B v t) + 32 * (List.range 32).countP κ := by
    rw [sum_mul2]
    have e : ∀ t ∈ List.range 32, 2 * (List.range 32).countP (fun v => κ t && !B v t) = (if ((List.range 32).all fun v => !B t v) = true then 32 + 0 else 0) + (if κ t = true then 32 + 0 else 0) := by
      intro t ht
      have ht := List.mem_range.mp ht
      have h1 := hd t ht
      cases hκ : κ t with
      | true =>
        simp only [Bool.true_and, if_true]
        rw [h1]
        split <;> rfl
      | false =>
        have h2 : ¬ ((List.range 32).all fun v => !B t v) = true := by
          intro h
          have h3 := (hk t ht).mpr fun r hr _ => by
            have := List.all_eq_true.mp h r (List.mem_range.mpr hr)
            simpa using this
          rw [hκ] at h3
          cases h3
        rw [if_neg h2]
        simp
    rw [sum_congr' e]
    have h4 : ∀ l : List Nat, (l.map fun t => (if ((List.range 32).all fun v => !B t v) = true then 32 + 0 else 0) + (if κ t = true then 32 + 0 else 0)).sum = (l.map fun t => (if ((List.range 32).all fun v => !B t v) = true then 32 + 0 else 0)).sum + (l.map fun t => (if κ t = true then 32 + 0 else 0)).sum := by
      intro l
      induction l with
      | nil => rfl
      | cons x r ih =>
        simp only [List.map_cons, List.sum_cons]
        rw [ih]; omega
    rw [h4, cnt_two (fun t => (List.range 32).all fun v => !B t v) 32 0, cnt_two κ 32 0]
    omega
  rw [s2] at s1
  omega
noncomputable def par (x t : Nat) : Bool := (((((x.testBit 0 && t.testBit 0) ^^ (x.testBit 1 && t.testBit 1)) ^^ (x.testBit 2 && t.testBit 2)) ^^ (x.testBit 3 && t.testBit 3)) ^^ (x.testBit 4 && t.testBit 4))
theorem par_xor (x y t : Nat) : par (x ^^^ y) t = (par x t ^^ par y t) := by
  unfold par
  simp only [Nat.testBit_xor, Bool.and_xor_distrib_right]
  simp only [Bool.xor_assoc, Bool.xor_comm, Bool.xor_left_comm]
theorem par_comm (x t : Nat) : par x t = par t x := by
  unfold par
  simp only [Bool.and_comm]
theorem par_xor' (x t u : Nat) : par x (t ^^^ u) = (par x t ^^ par x u) := by rw [par_comm, par_xor, par_comm t, par_comm u]
theorem par_zero (t : Nat) : par 0 t = false := by
  unfold par
  simp only [Nat.zero_testBit, Bool.false_and, Bool.xor_false]
noncomputable def sel (c : Bool) (m x : Nat) : Nat := if c = true then x ^^^ m else x
theorem par_sel (c : Bool) (m x t : Nat) : par (sel c m x) t = (par x t ^^ (c && par m t)) := by
  cases c
  · show par x t = _
    rw [Bool.false_and, Bool.xor_false]
  · show par (x ^^^ m) t = _
    rw [par_xor, Bool.true_and]
theorem sel_lt {c : Bool} {m x : Nat} (hm : m < 32) (hx : x < 32) : sel c m x < 32 := by
  unfold sel; split
  · exact xor32 hx hm
  · exact hx
noncomputable def mk5 (a b c d e : Bool) : Nat := a.toNat + 2 * b.toNat + 4 * c.toNat + 8 * d.toNat + 16 * e.toNat
theorem mk5_bits : ∀ a b c d e : Bool, (mk5 a b c d e).testBit 0 = a ∧ (mk5 a b c d e).testBit 1 = b ∧ (mk5 a b c d e).testBit 2 = c ∧ (mk5 a b c d e).testBit 3 = d ∧ (mk5 a b c d e).testBit 4 = e ∧ mk5 a b c d e < 32 := by decide
theorem par_mk5 (a b c d e : Bool) (t : Nat) : par (mk5 a b c d e) t = (((((a && t.testBit 0) ^^ (b && t.testBit 1)) ^^ (c && t.testBit 2)) ^^ (d && t.testBit 3)) ^^ (e && t.testBit 4)) := by
  obtain ⟨h0, h1, h2, h3, h4, _⟩ := mk5_bits a b c d e
  unfold par
  rw [h0, h1, h2, h3, h4]
noncomputable def LXn (m0 m1 m2 m3 m4 s : Nat) : Nat := sel (s.testBit 4) m4 (sel (s.testBit 3) m3 (sel (s.testBit 2) m2 (sel (s.testBit 1) m1 (sel (s.testBit 0) m0 0))))
theorem LXn_lt {m0 m1 m2 m3 m4 s : Nat} (h0 : m0 < 32) (h1 : m1 < 32) (h2 : m2 < 32) (h3 : m3 < 32) (h4 : m4 < 32) : LXn m0 m1 m2 m3 m4 s < 32 := sel_lt h4 (sel_lt h3 (sel_lt h2 (sel_lt h1 (sel_lt h0 (by decide)))))
theorem par_LXn (m0 m1 m2 m3 m4 s t : Nat) : par (LXn m0 m1 m2 m3 m4 s) t = (((((s.testBit 0 && par m0 t) ^^ (s.testBit 1 && par m1 t)) ^^ (s.testBit 2 && par m2 t)) ^^ (s.testBit 3 && par m3 t)) ^^ (s.testBit 4 && par m4 t)) := by
  unfold LXn
  rw [par_sel, par_sel, par_sel, par_sel, par_sel, par_zero, Bool.false_xor]
/-- the row that s picks -/
noncomputable def gx (a b c d e f g h i j : Bool) (s : Nat) : Nat := LXn (mk5 false a b c d) (mk5 a false e f g) (mk5 b e false h i) (mk5 c f h false j) (mk5 d g i j false) s
noncomputable def pr (m x y u v : Bool) : Bool := (m && (x && v)) ^^ (m && (u && y))
theorem gx_pr (a b c d e f g h i j : Bool) (s t : Nat) : par (gx a b c d e f g h i j s) t =
    (pr a (s.testBit 0) (t.testBit 0) (s.testBit 1) (t.testBit 1) ^^ (pr b (s.testBit 0) (t.testBit 0) (s.testBit 2) (t.testBit 2) ^^ (pr c (s.testBit 0) (t.testBit 0) (s.testBit 3) (t.testBit 3) ^^ (pr d (s.testBit 0) (t.testBit 0) (s.testBit 4) (t.testBit 4) ^^
    (pr e (s.testBit 1) (t.testBit 1) (s.testBit 2) (t.testBit 2) ^^ (pr f (s.testBit 1) (t.testBit 1) (s.testBit 3) (t.testBit 3) ^^ (pr g (s.testBit 1) (t.testBit 1) (s.testBit 4) (t.testBit 4) ^^
    (pr h (s.testBit 2) (t.testBit 2) (s.testBit 3) (t.testBit 3) ^^ (pr i (s.testBit 2) (t.testBit 2) (s.testBit 4) (t.testBit 4) ^^ pr j (s.testBit 3) (t.testBit 3) (s.testBit 4) (t.testBit 4)))))))))) := by
  unfold gx pr
  rw [par_LXn, par_mk5, par_mk5, par_mk5, par_mk5, par_mk5]
  generalize s.testBit 0 = s0
  generalize s.testBit 1 = s1
  generalize s.testBit 2 = s2
  generalize s.testBit 3 = s3
  generalize s.testBit 4 = s4
  generalize t.testBit 0 = t0
  generalize t.testBit 1 = t1
  generalize t.testBit 2 = t2
  generalize t.testBit 3 = t3
  generalize t.testBit 4 = t4
  simp only [Bool.false_and, Bool.false_xor, Bool.xor_false, Bool.and_xor_distrib_left]
  simp only [Bool.and_left_comm s0, Bool.and_left_comm s1, Bool.and_left_comm s2, Bool.and_left_comm s3, Bool.and_left_comm s4]
  generalize (a && (s0 && t1)) = x01
  generalize (a && (s1 && t0)) = x10
  generalize (b && (s0 && t2)) = x02
  generalize (b && (s2 && t0)) = x20
  generalize (c && (s0 && t3)) = x03
  generalize (c && (s3 && t0)) = x30
  generalize (d && (s0 && t4)) = x04
  generalize (d && (s4 && t0)) = x40
  generalize (e && (s1 && t2)) = x12
  generalize (e && (s2 && t1)) = x21
  generalize (f && (s1 && t3)) = x13
  generalize (f && (s3 && t1)) = x31
  generalize (g && (s1 && t4)) = x14
  generalize (g && (s4 && t1)) = x41
  generalize (h && (s2 && t3)) = x23
  generalize (h && (s3 && t2)) = x32
  generalize (i && (s2 && t4)) = x24
  generalize (i && (s4 && t2)) = x42
  generalize (j && (s3 && t4)) = x34
  generalize (j && (s4 && t3)) = x43
  haveI h1 : Std.Commutative (α := Bool) Bool.xor := ⟨Bool.xor_comm⟩
  haveI h2 : Std.Associative (α := Bool) Bool.xor := ⟨Bool.xor_assoc⟩
  ac_rfl
theorem pr_symm (m x y u v : Bool) : pr m x y u v = pr m y x v u := by
  unfold pr
  rw [Bool.and_comm x v, Bool.and_comm u y, Bool.xor_comm]
theorem pr_diag (m x u : Bool) : pr m x x u u = false := by
  unfold pr
  rw [Bool.and_comm u x, Bool.xor_self]
theorem gx_symm (a b c d e f g h i j : Bool) (s t : Nat) : par (gx a b c d e f g h i j s) t = par (gx a b c d e f g h i j t) s := by
  rw [gx_pr, gx_pr, pr_symm a, pr_symm b, pr_symm c, pr_symm d, pr_symm e, pr_symm f, pr_symm g, pr_symm h, pr_symm i, pr_symm j]
theorem gx_diag (a b c d e f g h i j : Bool) (s : Nat) : par (gx a b c d e f g h i j s) s = false := by
  rw [gx_pr, pr_diag, pr_diag, pr_diag, pr_diag, pr_diag, pr_diag, pr_diag, pr_diag, pr_diag, pr_diag]; rfl
theorem gx_lt (a b c d e f g h i j : Bool) (s : Nat) : gx a b c d e f g h i j s < 32 := by
  have q := fun a b c d e => (mk5_bits a b c d e).2.2.2.2.2
  exact LXn_lt (q _ _ _ _ _) (q _ _ _ _ _) (q _ _ _ _ _) (q _ _ _ _ _) (q _ _ _ _ _)
theorem dis_par : ∀ x t : Fin 32, disB (x.val : Int) (t.val : Int) = !par x.val t.val := by decide +kernel
theorem rad_par : ∀ x : Fin 32, ((List.range 32).all fun t => !par x.val t) = (x.val == 0) := by decide +kernel
theorem xor_nat : ∀ x y : Fin 32, Builtin.bitXor (x.val : Int) (y.val : Int) = ((x.val ^^^ y.val : Nat) : Int) := by decide +kernel
noncomputable def seli (f : Int → Int → Int) (c : Bool) (m x : Int) : Int := if c = true then f x m else x
noncomputable def lfi (f : Int → Int → Int) (M0 M1 M2 M3 M4 : Int) : List Int := [M0, M1, M2, M3, M4].foldl (fun l M => l ++ l.map (fun s => f s M)) [0]
theorem lfi_at (f : Int → Int → Int) (M0 M1 M2 M3 M4 : Int) : ∀ s : Nat, s < 32 → (lfi f M0 M1 M2 M3 M4).getD s 0 = seli f (s.testBit 4) M4 (seli f (s.testBit 3) M3 (seli f (s.testBit 2) M2 (seli f (s.testBit 1) M1 (seli f (s.testBit 0) M0 0)))) := by
  intro s hs
  match s, hs with
  | 0, _ => rfl
  | 1, _ => rfl
  | 2, _ => rfl
  | 3, _ => rfl
  | 4, _ => rfl
  | 5, _ => rfl
  | 6, _ => rfl
  | 7, _ => rfl
  | 8, _ => rfl
  | 9, _ => rfl
  | 10, _ => rfl
  | 11, _ => rfl
  | 12, _ => rfl
  | 13, _ => rfl
  | 14, _ => rfl
  | 15, _ => rfl
  | 16, _ => rfl
  | 17, _ => rfl
  | 18, _ => rfl
  | 19, _ => rfl
  | 20, _ => rfl
  | 21, _ => rfl
  | 22, _ => rfl
  | 23, _ => rfl
  | 24, _ => rfl
  | 25, _ => rfl
  | 26, _ => rfl
  | 27, _ => rfl
  | 28, _ => rfl
  | 29, _ => rfl
  | 30, _ => rfl
  | 31, _ => rfl
  | n + 32, h => exact absurd h (by omega)
theorem leftOf_lfi (r0 r1 r2 r3 r4 : List Int) : leftOf [r0, r1, r2, r3, r4] = lfi Builtin.bitXor (maskOf r0) (maskOf r1) (maskOf r2) (maskOf r3) (maskOf r4) := rfl
theorem seli_nat {c : Bool} {m x : Nat} (hm : m < 32) (hx : x < 32) : seli Builtin.bitXor c (m : Int) (x : Int) = ((sel c m x : Nat) : Int) := by
  cases c
  · rfl
  · exact xor_nat ⟨x, hx⟩ ⟨m, hm⟩
theorem mask_mk : ∀ a b c d e : Bool, maskOf [bi a, bi b, bi c, bi d, bi e] = ((mk5 a b c d e : Nat) : Int) := by decide +kernel
theorem left_gx (a b c d e f g h i j : Bool) {s : Nat} (hs : s < 32) : (leftOf (mat a b c d e f g h i j)).getD s 0 = ((gx a b c d e f g h i j s : Nat) : Int) := by
  have q := fun a b c d e => (mk5_bits a b c d e).2.2.2.2.2
  show (leftOf [[bi false, bi a, bi b, bi c, bi d], [bi a, bi false, bi e, bi f, bi g], [bi b, bi e, bi false, bi h, bi i], [bi c, bi f, bi h, bi false, bi j], [bi d, bi g, bi i, bi j, bi false]]).getD s 0 = _
  rw [leftOf_lfi, lfi_at _ _ _ _ _ _ s hs, mask_mk, mask_mk, mask_mk, mask_mk, mask_mk]
  have z : (0 : Int) = ((0 : Nat) : Int) := rfl
  rw [z, seli_nat (q _ _ _ _ _) (by decide), seli_nat (q _ _ _ _ _) (sel_lt (q _ _ _ _ _) (by decide)), seli_nat (q _ _ _ _ _) (sel_lt (q _ _ _ _ _) (sel_lt (q _ _ _ _ _) (by decide))),
    seli_nat (q _ _ _ _ _) (sel_lt (q _ _ _ _ _) (sel_lt (q _ _ _ _ _) (sel_lt (q _ _ _ _ _) (by decide)))), seli_nat (q _ _ _ _ _) (sel_lt (q _ _ _ _ _) (sel_lt (q _ _ _ _ _) (sel_lt (q _ _ _ _ _) (sel_lt (q _ _ _ _ _) (by decide)))))]
  rfl
structure LeftIs (R : List (List Int)) (lf : List Int) : Prop where
  e : leftOf R = lf
structure KeptIs (lf : List Int) (d : Int) (kn : List Int) : Prop where
  e : keptOf lf (Int.fmod d 32) (Int.fdiv d 32 * 2 + 1) 32 = kn
structure AgIs (lf ag : List Int) : Prop where
  e : (rangeKs 0 32).foldl (agG lf) [] = ag
structure OdIs (R : List (List Int)) (od : Int) : Prop where
  e : ((rangeKs 0 5).foldl (odG (fun k => R.getD k [])) []).sum = od

theorem fold_filt (x : Int) : ∀ (l acc : List Int), l.foldl (filtG x) acc = acc ++ l.filter (fun t => !disB x t)
  | [], acc => by simp
  | t :: r, acc => by
    rw [List.foldl_cons, fold_filt x r]
    unfold filtG
    cases h : disB x t
    · rw [if_neg (by decide), List.append_assoc, List.filter_cons_of_pos (by rw [h]; rfl)]; rfl
    · rw [if_pos rfl, List.filter_cons_of_neg (by rw [h]; decide)]
theorem filt_nil (x : Int) (l : List Int) : l.foldl (filtG x) [] = [] ↔ ∀ t ∈ l, disB x t = true := by
  rw [fold_filt, List.nil_append, List.filter_eq_nil_iff]
  constructor
  · intro h t ht
    have := h t ht
    simpa using this
  · intro h t ht
    rw [h t ht]; decide
theorem fold_ag (lf : List Int) : ∀ (l acc : List Int), l.foldl (agG lf) acc = acc ++ l.filter (fun k => lf.getD k.toNat 0 == 0)
  | [], acc => by simp
  | t :: r, acc => by
    rw [List.foldl_cons, fold_ag lf r]
    unfold agG
    cases h : (lf.getD t.toNat 0 == 0)
    · rw [if_neg (by decide), List.filter_cons_of_neg (by rw [h]; decide)]
    · rw [if_pos rfl, List.append_assoc, List.filter_cons_of_pos (p := fun k : Int => lf.getD k.toNat 0 == 0) h]; rfl
section
variable {lf : List Int} {start step : Int}
noncomputable def sk (start step : Int) (k : Nat) : Int := Int.fmod (start + step * (0 + (k : Int))) 32
noncomputable def agr (lf : List Int) (s t : Int) : Bool := disB (lf.getD s.toNat 0) t
theorem kept_succ (i : Nat) : keptOf lf start step (i + 1) = if ∀ t ∈ keptOf lf start step i, agr lf (sk start step i) t = true then keptOf lf start step i ++ [sk start step i] else keptOf lf start step i := by
  show (if (keptOf lf start step i).foldl (filtG (lf.getD (sk start step i).toNat 0)) [] = [] then keptOf lf start step i ++ [sk start step i] else keptOf lf start step i) = _
  have e : (∀ t ∈ keptOf lf start step i, agr lf (sk start step i) t = true) ↔ (keptOf lf start step i).foldl (filtG (lf.getD (sk start step i).toNat 0)) [] = [] := (filt_nil _ _).symm
  by_cases h : (keptOf lf start step i).foldl (filtG (lf.getD (sk start step i).toNat 0)) [] = []
  · rw [if_pos h, if_pos (e.mpr h)]
  · rw [if_neg h, if_neg fun h' => h (e.mp h')]
theorem sk_b (k : Nat) : 0 ≤ sk start step k ∧ sk start step k < 32 := ⟨Int.fmod_nonneg_of_pos _ (by decide), Int.fmod_lt_of_pos _ (by decide)⟩
theorem kept_at : ∀ i, ∀ t ∈ keptOf lf start step i, ∃ k, k < i ∧ t = sk start step k
  | 0, t, h => absurd h List.not_mem_nil
  | i + 1, t, h => by
    rw [kept_succ] at h
    split at h
    · rcases List.mem_append.mp h with h | h
      · obtain ⟨k, hk, e⟩ := kept_at i t h
        exact ⟨k, Nat.lt_succ_of_lt hk, e⟩
      · exact ⟨i, Nat.lt_succ_self i, List.mem_singleton.mp h⟩
    · obtain ⟨k, hk, e⟩ := kept_at i t h
      exact ⟨k, Nat.lt_succ_of_lt hk, e⟩
theorem kept_mono (i : Nat) : ∀ t ∈ keptOf lf start step i, t ∈ keptOf lf start step (i + 1) := by
  intro t h
  rw [kept_succ]
  split
  · exact List.mem_append_left _ h
  · exact h
theorem kept_pair (hd : ∀ s, 0 ≤ s ∧ s < 32 → agr lf s s = true) (hs : ∀ s t, 0 ≤ s ∧ s < 32 → 0 ≤ t ∧ t < 32 → agr lf s t = agr lf t s) :
    ∀ i, ∀ s ∈ keptOf lf start step i, ∀ t ∈ keptOf lf start step i, agr lf s t = true
  | 0, s, h => absurd h List.not_mem_nil
  | i + 1, s, h => by
    have ih := kept_pair hd hs i
    rw [kept_succ] at h ⊢
    split at h
    · rename_i hc
      rw [if_pos hc]
      intro t ht
      rcases List.mem_append.mp h with h | h
      · rcases List.mem_append.mp ht with ht | ht
        · exact ih s h t ht
        · rw [List.mem_singleton.mp ht, hs s _ (keptOf_mem _ _ _ _ s h) (sk_b i)]
          exact hc s h
      · rw [List.mem_singleton.mp h]
        rcases List.mem_append.mp ht with ht | ht
        · exact hc t ht
        · rw [List.mem_singleton.mp ht]; exact hd _ (sk_b i)
    · rename_i hc
      rw [if_neg hc]
      exact ih s h
theorem kept_max : ∀ i k, k < i → (∀ t ∈ keptOf lf start step i, agr lf (sk start step k) t = true) → sk start step k ∈ keptOf lf start step i
  | 0, k, h, _ => absurd h (Nat.not_lt_zero k)
  | i + 1, k, h, ha => by
    by_cases hk : k < i
    · exact kept_mono i _ (kept_max i k hk fun t ht => ha t (kept_mono i t ht))
    · obtain rfl : k = i := by omega
      rw [kept_succ, if_pos fun t ht => ha t (kept_mono k t ht)]
      exact List.mem_append_right _ (List.mem_singleton.mpr rfl)
theorem kept_nodup (hi : ∀ k l, k < 32 → l < 32 → sk start step k = sk start step l → k = l) : ∀ i, i ≤ 32 → (keptOf lf start step i).Nodup
  | 0, _ => List.nodup_nil
  | i + 1, h => by
    have ih := kept_nodup hi i (Nat.le_of_succ_le h)
    rw [kept_succ]
    split
    · rw [List.nodup_append]
      refine ⟨ih, List.pairwise_singleton _ _, fun a ha b hb e => ?_⟩
      obtain ⟨k, hk, ek⟩ := kept_at i a ha
      rw [List.mem_singleton.mp hb, ek] at e
      have := hi k i (by omega) (by omega) e
      omega
    · exact ih
end
theorem cnt_add (p : Nat → Bool) (s : Nat) (hp : p s = false) : ∀ R : List Nat, R.Nodup → s ∈ R → R.countP (fun v => p v || v == s) = R.countP p + 1
  | [], _, h => absurd h List.not_mem_nil
  | x :: r, hnd, h => by
    obtain ⟨h1, h2⟩ := List.nodup_cons.mp hnd
    rw [List.countP_cons, List.countP_cons]
    by_cases e : x = s
    · subst e
      have hc : r.countP (fun v => p v || v == x) = r.countP p := List.countP_congr fun v hv => by
        have : (v == x) = false := beq_eq_false_iff_ne.mpr fun e => h1 (e ▸ hv)
        rw [this, Bool.or_false]
      rw [hc, hp]; simp
    · rcases List.mem_cons.mp h with h | h
      · exact absurd h.symm e
      · rw [cnt_add p s hp r h2 h, show (x == s) = false from beq_eq_false_iff_ne.mpr e, Bool.or_false]
        omega
theorem cnt_list : ∀ l : List Int, l.Nodup → (∀ t ∈ l, 0 ≤ t ∧ t < 32) → (List.range 32).countP (fun v : Nat => decide ((v : Int) ∈ l)) = l.length
  | [], _, _ => by simp
  | x :: r, hnd, hb => by
    obtain ⟨h1, h2⟩ := List.nodup_cons.mp hnd
    have ih := cnt_list r h2 fun t ht => hb t (List.mem_cons_of_mem _ ht)
    obtain ⟨n, rfl⟩ := Int.eq_ofNat_of_zero_le (hb x List.mem_cons_self).1
    have hn : n < 32 := by have := (hb _ List.mem_cons_self).2; omega
    rw [List.length_cons, ← ih, ← cnt_add (fun v : Nat => decide ((v : Int) ∈ r)) n (decide_eq_false h1) _ List.nodup_range (List.mem_range.mpr hn)]
    refine List.countP_congr fun v _ => ?_
    simp only [List.mem_cons, Bool.decide_or, Bool.or_eq_true, decide_eq_true_eq, beq_iff_eq]
    constructor
    · rintro (h | h)
      · exact .inr (by omega)
      · exact .inl h
    · rintro (h | h)
      · exact .inr h
      · exact .inl (by rw [h])
theorem getD_get (l : List Int) {v : Nat} (h : v < l.length) : l.getD v 0 = l[v] := by
  rw [List.getD_eq_getElem?_getD, List.getElem?_eq_getElem h]; rfl
theorem odd_inj : ∀ b : Fin 16, ∀ k l : Fin 32, ((2 * b.val + 1) * k.val) % 32 = ((2 * b.val + 1) * l.val) % 32 → k = l := by decide +kernel
theorem odd_surj : ∀ b : Fin 16, ∀ v : Fin 32, ∃ k : Fin 32, ((2 * b.val + 1) * k.val) % 32 = v.val := by decide +kernel
theorem mod_a (st x : Int) (y : Nat) : (st + (32 * x + (y : Int))) % 32 = (st + ((y % 32 : Nat) : Int)) % 32 := by
  rw [Int.natCast_emod, Int.add_comm (32 * x), ← Int.add_assoc, Int.add_mul_emod_self_left]
  exact (Int.add_emod_emod st y 32).symm
theorem mod_b (q : Int) : q * 2 + 1 = 32 * (q / 16) + ((2 * (q % 16).toNat + 1 : Nat) : Int) := by
  have h := Int.emod_add_mul_ediv q 16
  have h2 : ((q % 16).toNat : Int) = q % 16 := Int.toNat_of_nonneg (Int.emod_nonneg _ (by decide))
  rw [Int.natCast_add, Int.natCast_mul, h2]
  generalize q / 16 = a at h ⊢
  generalize q % 16 = b at h ⊢
  subst h
  rw [Int.add_mul, Int.mul_right_comm, Int.mul_comm b, Int.add_comm (2 * b), Int.add_assoc]; rfl
theorem mod_c (st v : Int) (hv : 0 ≤ v ∧ v < 32) : (st + (((v - st) % 32).toNat : Int)) % 32 = v := by
  rw [Int.toNat_of_nonneg (Int.emod_nonneg _ (by decide)), Int.add_emod_emod, Int.add_comm, Int.sub_add_cancel]
  exact Int.emod_eq_of_lt hv.1 hv.2
theorem mod_d {st : Int} {x y : Nat} (h : (st + ((x % 32 : Nat) : Int)) % 32 = (st + ((y % 32 : Nat) : Int)) % 32) : x % 32 = y % 32 := by
  have h2 := congrArg (fun z => (z + (-st)) % 32) h
  simp only [Int.emod_add_emod, Int.add_right_comm st _ (-st), Int.add_right_neg, Int.zero_add] at h2
  have h3 : ((x % 32 % 32 : Nat) : Int) = ((y % 32 % 32 : Nat) : Int) := h2
  have h4 := Int.ofNat.inj h3
  rw [Nat.mod_mod, Nat.mod_mod] at h4
  exact h4
theorem sk_mod {q : Int} : ∃ b : Fin 16, ∀ (st : Int) (k : Nat), sk st (q * 2 + 1) k = (st + (((2 * b.val + 1) * k % 32 : Nat) : Int)) % 32 := by
  refine ⟨⟨(q % 16).toNat, (Int.toNat_lt (Int.emod_nonneg _ (by decide))).mpr (Int.emod_lt_of_pos _ (by decide))⟩, fun st k => ?_⟩
  unfold sk
  rw [Int.fmod_eq_emod_of_nonneg _ (by decide), Int.zero_add, mod_b q, Int.add_mul, Int.mul_assoc, ← Int.natCast_mul]
  exact mod_a _ _ _
theorem sk_inj {st q : Int} (hq : 0 ≤ q) : ∀ k l : Nat, k < 32 → l < 32 → sk st (q * 2 + 1) k = sk st (q * 2 + 1) l → k = l := by
  intro k l hk hl h
  obtain ⟨b, hb⟩ := sk_mod (q := q)
  rw [hb, hb] at h
  exact congrArg Fin.val (odd_inj b ⟨k, hk⟩ ⟨l, hl⟩ (mod_d h))
theorem sk_surj {st q v : Int} (hq : 0 ≤ q) (hv : 0 ≤ v ∧ v < 32) : ∃ k : Nat, k < 32 ∧ sk st (q * 2 + 1) k = v := by
  obtain ⟨b, hb⟩ := sk_mod (q := q)
  obtain ⟨k, hk⟩ := odd_surj b ⟨((v - st) % 32).toNat, (Int.toNat_lt (Int.emod_nonneg _ (by decide))).mpr (Int.emod_lt_of_pos _ (by decide))⟩
  refine ⟨k.val, k.isLt, ?_⟩
  rw [hb, hk]
  exact mod_c _ _ hv
noncomputable def agN (p0 p1 p2 p3 p4 p5 p6 p7 p8 p9 : Bool) : List Nat := (List.range 32).filter fun v => gx p0 p1 p2 p3 p4 p5 p6 p7 p8 p9 v == 0
noncomputable def odI (p0 p1 p2 p3 p4 p5 p6 p7 p8 p9 : Bool) : Int := ((rangeKs 0 5).foldl (odG (fun k => (mat p0 p1 p2 p3 p4 p5 p6 p7 p8 p9).getD k [])) []).sum
noncomputable def chk (p0 p1 p2 p3 p4 p5 p6 p7 p8 p9 : Bool) : Bool := if 0 < odI p0 p1 p2 p3 p4 p5 p6 p7 p8 p9 then ((agN p0 p1 p2 p3 p4 p5 p6 p7 p8 p9).map fun i : Nat => (0 : Int) + (i : Int)) == [0, odI p0 p1 p2 p3 p4 p5 p6 p7 p8 p9] else (agN p0 p1 p2 p3 p4 p5 p6 p7 p8 p9).length == 32 || (agN p0 p1 p2 p3 p4 p5 p6 p7 p8 p9).length == 8
theorem chk0 : ∀ d e f g h i j : Bool, chk false false false d e f g h i j = true := by decide +kernel
theorem chk1 : ∀ d e f g h i j : Bool, chk true false false d e f g h i j = true := by decide +kernel
theorem chk2 : ∀ d e f g h i j : Bool, chk false true false d e f g h i j = true := by decide +kernel
theorem chk3 : ∀ d e f g h i j : Bool, chk true true false d e f g h i j = true := by decide +kernel
theorem chk4 : ∀ d e f g h i j : Bool, chk false false true d e f g h i j = true := by decide +kernel
theorem chk5 : ∀ d e f g h i j : Bool, chk true false true d e f g h i j = true := by decide +kernel
theorem chk6 : ∀ d e f g h i j : Bool, chk false true true d e f g h i j = true := by decide +kernel
theorem chk7 : ∀ d e f g h i j : Bool, chk true true true d e f g h i j = true := by decide +kernel
theorem chk_all (p0 p1 p2 p3 p4 p5 p6 p7 p8 p9 : Bool) : chk p0 p1 p2 p3 p4 p5 p6 p7 p8 p9 = true := by
  cases p0 <;> cases p1 <;> cases p2
  · exact chk0 p3 p4 p5 p6 p7 p8 p9
  · exact chk4 p3 p4 p5 p6 p7 p8 p9
  · exact chk2 p3 p4 p5 p6 p7 p8 p9
  · exact chk6 p3 p4 p5 p6 p7 p8 p9
  · exact chk1 p3 p4 p5 p6 p7 p8 p9
  · exact chk5 p3 p4 p5 p6 p7 p8 p9
  · exact chk3 p3 p4 p5 p6 p7 p8 p9
  · exact chk7 p3 p4 p5 p6 p7 p8 p9
theorem agr_nat (p0 p1 p2 p3 p4 p5 p6 p7 p8 p9 : Bool) {s t : Nat} (hs : s < 32) (ht : t < 32) : agr (leftOf (mat p0 p1 p2 p3 p4 p5 p6 p7 p8 p9)) (s : Int) (t : Int) = !par (gx p0 p1 p2 p3 p4 p5 p6 p7 p8 p9 s) t := by
  unfold agr
  rw [Int.toNat_natCast, left_gx p0 p1 p2 p3 p4 p5 p6 p7 p8 p9 hs]
  exact dis_par ⟨_, gx_lt p0 p1 p2 p3 p4 p5 p6 p7 p8 p9 s⟩ ⟨t, ht⟩
theorem ag_eq (p0 p1 p2 p3 p4 p5 p6 p7 p8 p9 : Bool) : (rangeKs 0 32).foldl (agG (leftOf (mat p0 p1 p2 p3 p4 p5 p6 p7 p8 p9))) [] = (agN p0 p1 p2 p3 p4 p5 p6 p7 p8 p9).map fun i : Nat => (0 : Int) + (i : Int) := by
  rw [fold_ag, List.nil_append]
  unfold rangeKs agN
  rw [List.filter_map]
  refine congrArg _ (List.filter_congr fun v hv => ?_)
  have hv := List.mem_range.mp hv
  show ((leftOf (mat p0 p1 p2 p3 p4 p5 p6 p7 p8 p9)).getD ((0 : Int) + (v : Int)).toNat 0 == 0) = (gx p0 p1 p2 p3 p4 p5 p6 p7 p8 p9 v == 0)
  rw [Int.zero_add, Int.toNat_natCast, left_gx p0 p1 p2 p3 p4 p5 p6 p7 p8 p9 hv]
  by_cases h : gx p0 p1 p2 p3 p4 p5 p6 p7 p8 p9 v = 0
  · rw [h]; rfl
  · rw [show (gx p0 p1 p2 p3 p4 p5 p6 p7 p8 p9 v == 0) = false from beq_eq_false_iff_ne.mpr h]
    exact beq_eq_false_iff_ne.mpr (by omega)
theorem kept_sq (p0 p1 p2 p3 p4 p5 p6 p7 p8 p9 : Bool) {start q : Int} (hq : 0 ≤ q) : (keptOf (leftOf (mat p0 p1 p2 p3 p4 p5 p6 p7 p8 p9)) start (q * 2 + 1) 32).length * (keptOf (leftOf (mat p0 p1 p2 p3 p4 p5 p6 p7 p8 p9)) start (q * 2 + 1) 32).length = 32 * (agN p0 p1 p2 p3 p4 p5 p6 p7 p8 p9).length := by
  have nat : ∀ s : Int, 0 ≤ s ∧ s < 32 → ∃ n : Nat, n < 32 ∧ s = (n : Int) := fun s hs => ⟨s.toNat, by omega, by omega⟩
  have hd : ∀ s, 0 ≤ s ∧ s < 32 → agr (leftOf (mat p0 p1 p2 p3 p4 p5 p6 p7 p8 p9)) s s = true := fun s hs => by
    obtain ⟨n, hn, rfl⟩ := nat s hs
    rw [agr_nat p0 p1 p2 p3 p4 p5 p6 p7 p8 p9 hn hn, gx_diag]; rfl
  have hs : ∀ s t, 0 ≤ s ∧ s < 32 → 0 ≤ t ∧ t < 32 → agr (leftOf (mat p0 p1 p2 p3 p4 p5 p6 p7 p8 p9)) s t = agr (leftOf (mat p0 p1 p2 p3 p4 p5 p6 p7 p8 p9)) t s := fun s t hs ht => by
    obtain ⟨n, hn, rfl⟩ := nat s hs
    obtain ⟨m, hm, rfl⟩ := nat t ht
    rw [agr_nat p0 p1 p2 p3 p4 p5 p6 p7 p8 p9 hn hm, agr_nat p0 p1 p2 p3 p4 p5 p6 p7 p8 p9 hm hn, gx_symm]
  have hp := kept_pair (start := start) (step := q * 2 + 1) hd hs 32
  have hb := keptOf_mem (leftOf (mat p0 p1 p2 p3 p4 p5 p6 p7 p8 p9)) start (q * 2 + 1) 32
  have hx := kept_max (lf := leftOf (mat p0 p1 p2 p3 p4 p5 p6 p7 p8 p9)) (start := start) (step := q * 2 + 1) 32
  have hn := kept_nodup (lf := leftOf (mat p0 p1 p2 p3 p4 p5 p6 p7 p8 p9)) (start := start) (step := q * 2 + 1) (sk_inj hq) 32 (Nat.le_refl _)
  generalize keptOf (leftOf (mat p0 p1 p2 p3 p4 p5 p6 p7 p8 p9)) start (q * 2 + 1) 32 = kn at hp hb hx hn
  have w := witt (fun s t => par (gx p0 p1 p2 p3 p4 p5 p6 p7 p8 p9 s) t) (fun v : Nat => decide ((v : Int) ∈ kn)) (fun s t _ _ => gx_symm p0 p1 p2 p3 p4 p5 p6 p7 p8 p9 s t) (fun s t u => par_xor' _ t u) (fun v hv => by
    rw [decide_eq_true_eq]
    constructor
    · intro h t ht hκ
      have h1 := hp _ h _ (of_decide_eq_true hκ)
      rw [agr_nat p0 p1 p2 p3 p4 p5 p6 p7 p8 p9 hv ht] at h1
      simpa using h1
    · intro h
      obtain ⟨k, hk, e⟩ := sk_surj (st := start) hq (v := (v : Int)) ⟨by omega, by omega⟩
      rw [← e]
      refine hx k hk fun t ht => ?_
      obtain ⟨m, hm, rfl⟩ := nat t (hb t ht)
      rw [e, agr_nat p0 p1 p2 p3 p4 p5 p6 p7 p8 p9 hv hm, h m hm (decide_eq_true ht)]; rfl)
  rw [cnt_list kn hn hb] at w
  rw [w]
  unfold agN
  rw [← List.countP_eq_length_filter]
  refine congrArg _ (List.countP_congr fun v hv => ?_)
  rw [rad_par ⟨_, gx_lt p0 p1 p2 p3 p4 p5 p6 p7 p8 p9 v⟩]
theorem sq_of {k n m : Nat} (h : k * k = 32 * n) (e : m * m = 32 * n) : k = m := by
  rw [← e] at h
  exact Nat.mul_self_inj.mp h
theorem law_math {R : List (List Int)} {lf ag kn : List Int} {od d : Int} (hG : ∃ p0 p1 p2 p3 p4 p5 p6 p7 p8 p9, R = mat p0 p1 p2 p3 p4 p5 p6 p7 p8 p9) (hlf : LeftIs R lf) (hag : AgIs lf ag) (hkn : KeptIs lf d kn) (hod : OdIs R od) (hd : 0 ≤ d ∧ d < 3072) :
    (0 < od → ag = [0, od] ∧ (kn.length : Int) = 8) ∧ (¬ 0 < od → lf = (List.replicate (Int.toNat 32) [0]).flatten → (ag.length : Int) = 32 ∧ (kn.length : Int) = 32) ∧ (¬ 0 < od → ¬ lf = (List.replicate (Int.toNat 32) [0]).flatten → (ag.length : Int) = 8 ∧ (kn.length : Int) = 16) := by
  obtain ⟨p0, p1, p2, p3, p4, p5, p6, p7, p8, p9, rfl⟩ := hG
  obtain ⟨rfl⟩ := hlf
  obtain ⟨rfl⟩ := hag
  obtain ⟨rfl⟩ := hkn
  obtain ⟨rfl⟩ := hod
  have hq : 0 ≤ Int.fdiv d 32 := Int.fdiv_nonneg hd.1 (by decide)
  have sq := kept_sq p0 p1 p2 p3 p4 p5 p6 p7 p8 p9 (start := Int.fmod d 32) hq
  have hc := chk_all p0 p1 p2 p3 p4 p5 p6 p7 p8 p9
  rw [ag_eq p0 p1 p2 p3 p4 p5 p6 p7 p8 p9]
  unfold chk at hc
  change (0 < odI p0 p1 p2 p3 p4 p5 p6 p7 p8 p9 → (agN p0 p1 p2 p3 p4 p5 p6 p7 p8 p9).map (fun i : Nat => (0 : Int) + (i : Int)) = [0, odI p0 p1 p2 p3 p4 p5 p6 p7 p8 p9] ∧ _) ∧ (¬ 0 < odI p0 p1 p2 p3 p4 p5 p6 p7 p8 p9 → _ → _ ∧ _) ∧ (¬ 0 < odI p0 p1 p2 p3 p4 p5 p6 p7 p8 p9 → _ → _ ∧ _)
  rw [List.length_map]
  have all0 : (agN p0 p1 p2 p3 p4 p5 p6 p7 p8 p9).length = 32 ↔ ∀ v : Nat, v < 32 → gx p0 p1 p2 p3 p4 p5 p6 p7 p8 p9 v = 0 := by
    have h := List.length_filter_eq_length_iff (l := List.range 32) (p := fun v => gx p0 p1 p2 p3 p4 p5 p6 p7 p8 p9 v == 0)
    rw [List.length_range] at h
    unfold agN
    rw [h]
    constructor
    · intro h v hv
      exact beq_iff_eq.mp (h v (List.mem_range.mpr hv))
    · intro h v hv
      exact beq_iff_eq.mpr (h v (List.mem_range.mp hv))
  have zs : (List.replicate (Int.toNat 32) [(0 : Int)]).flatten = List.replicate 32 0 := by decide
  have hl : (leftOf (mat p0 p1 p2 p3 p4 p5 p6 p7 p8 p9)).length = 32 := leftOf_len _
  have zero : leftOf (mat p0 p1 p2 p3 p4 p5 p6 p7 p8 p9) = List.replicate 32 0 ↔ (agN p0 p1 p2 p3 p4 p5 p6 p7 p8 p9).length = 32 := by
    rw [all0]
    constructor
    · intro h v hv
      have h1 := left_gx p0 p1 p2 p3 p4 p5 p6 p7 p8 p9 hv
      rw [h, getD_get _ (by rw [List.length_replicate]; exact hv), List.getElem_replicate] at h1
      omega
    · intro h
      refine List.ext_getElem (by rw [hl, List.length_replicate]) fun v h1 h2 => ?_
      have hv : v < 32 := hl ▸ h1
      rw [List.getElem_replicate, ← getD_get _ h1, left_gx p0 p1 p2 p3 p4 p5 p6 p7 p8 p9 hv, h v hv]; rfl
  rw [zs]
  refine ⟨fun h => ?_, fun h hz => ?_, fun h hz => ?_⟩
  · rw [if_pos h] at hc
    have h1 := beq_iff_eq.mp hc
    have h2 : (agN p0 p1 p2 p3 p4 p5 p6 p7 p8 p9).length = 2 := by rw [← List.length_map (f := fun i : Nat => (0 : Int) + (i : Int)), h1]; rfl
    rw [h2] at sq
    have h3 := sq_of sq (m := 8) rfl
    exact ⟨h1, by rw [h3]; rfl⟩
  · have h2 := zero.mp hz
    rw [h2] at sq
    have h3 := sq_of sq (m := 32) rfl
    exact ⟨by rw [h2]; rfl, by rw [h3]; rfl⟩
  · rw [if_neg h] at hc
    rcases Bool.or_eq_true_iff.mp hc with h2 | h2
    · exact absurd (zero.mpr (beq_iff_eq.mp h2)) hz
    · replace h2 := beq_iff_eq.mp h2
      rw [h2] at sq
      have h3 := sq_of sq (m := 16) rfl
      exact ⟨by rw [h2]; rfl, by rw [h3]; rfl⟩
theorem drawn_len (ns : List Int) : (ns.take 6 ++ [25, 24, 12, 42, 17, 101].drop ((ns.take 6).length : Int).toNat).length ≤ 100 := by
  rw [List.length_append, List.length_drop]
  exact Nat.le_trans (Nat.add_le_add (List.length_take_le 6 ns) (Nat.sub_le _ _)) (by decide)
noncomputable def drawnOf (ns : List Int) : List Int := (ns.take 6 ++ [25, 24, 12, 42, 17, 101].drop ((ns.take 6).length : Int).toNat).map (fun x => Int.fmod x 3072)
/-- a call that is handed a list of the base and hands back a new object -/
noncomputable abbrev ConB (w : World) (mean : ExcName → Option Value) (mg mb : Str → Option Value) (f : Addr) (sc : Addr) (vs : List Value) (n : Nat) (post : Obj → Prop) : Prop :=
  ∀ (dp un : Nat) (gd : Option (List Code)) (cn : Str) (cs : Scope) (a : Addr) (ccd : Value) (cl : List (Str × Addr)) (outer : List Env) (A₀ : Around) (base h₀ : Heap) (L : Addr) (m : Str → Option Value) (news : List (Addr × Obj)) (s : Shared) (Q E : Value → Shared → Prop),
    Below A₀ base outer h₀ → Fr h₀ L s.heap m → (hd.heap_39 w.params).In h₀ → News h₀ L s.heap news → topP mean mg mb h₀ → cs.kind = .function → h₀.IsList sc vs.toArray → dp + n < recursionLimit → un + 8 * n < cLine →
    (∀ l o h' tk', Fr h₀ L h' m → News h₀ L h' ((l, o) :: news) → (∀ p ∈ news, p.1 ≠ l) → post o → Q (.ref l) { s with heap := h', toks := tk' }) →
    wpAny (model PySem.Challenge.rw_tp0020_01.row.prog w) (ktrTop dp un gd cn cs L a ccd cl outer) (call (.ref f) [.ref sc]) Q E s
theorem isList_keeps {h g : Heap} {l : Addr} {vs : Array Value} (k : ∀ b o, h.get? b = some o → g.get? b = some o) (H : h.IsList l vs) : g.IsList l vs := by
  obtain ⟨o, e, r⟩ := H
  exact ⟨o, k _ _ e, r⟩
theorem drawn_add (ns : List Int) : (ns.take 6).length + ([25, 24, 12, 42, 17, 101].drop ((ns.take 6).length : Int).toNat : List Int).length ≤ sizeLine := by
  rw [List.length_drop]
  exact Nat.le_trans (Nat.add_le_add (List.length_take_le 6 ns) (Nat.sub_le _ _)) (by rw [PySem.sizeLine_eq]; decide)
set_option maxHeartbeats 8000000 in
theorem drawn_con (w : World) (mean : ExcName → Option Value) (mg mb : Str → Option Value) (sc : Addr) (vs : List Value) (ns : List Int) (hI : IntsAre vs ns) (hlen : ns.length ≤ 63) :
    ConB w mean mg mb 89 sc vs 2 (ListIs (drawnOf ns)) := by
  w_on
  k_with_none
  k_with "K_STEPS" => (repeat' (first | (k_unfold; (try dsimp only)) | (k_end; wrow_close) | walk1 | (dsimp only; walk1) | (leave1; walk_say "STEP leave1"; try dsimp only) | ((try dsimp only); refine' CEnd.go ?eH _ _ _ ?eF ?eN ?eP; (case eH => with_reducible assumption); (case eF => k_asm); (case eN => k_asm); (case eP => (first | exact intV | exact intVc (by with_reducible assumption) | k_extra "END9"))) | ((try dsimp only); refine' CNo.go ?eH _ _ ?eF ?eN ?eP; (case eH => with_reducible assumption); (case eF => k_asm); (case eN => k_asm); (case eP => (first | with_reducible assumption | k_extra "NO9"))) | (k_extra "STEP9") | fail "no step"))
  k_with "K_MEM" => ((with_reducible ((repeat (first | exact List.mem_cons_self | refine List.mem_cons_of_mem _ ?_ | assumption)); done)))
  k_with "K_ALL" => (first | exact List.forall_mem_nil _ | (with_reducible assumption) | (refine List.forall_mem_cons.mpr ⟨by k_ne, ?_⟩; k_all) | (refine tl_lt (by with_reducible assumption) ?_; (repeat (first | exact sub_rfl | refine sub_tl ?_)); done) | (refine tl_off (by with_reducible assumption) ?_; (repeat (first | exact sub_rfl | refine sub_tl ?_)); done) | (refine tl_one (by with_reducible assumption) ?_; (repeat (first | exact sub_rfl | refine sub_tl ?_)); done) | (refine tl_I (by with_reducible assumption) ?_; (repeat (first | exact sub_rfl | refine sub_tl ?_)); done) | (refine tl_C (by with_reducible assumption) ?_; (repeat (first | exact sub_rfl | refine sub_tl ?_)); done) | (refine tl_D (by with_reducible assumption) ?_; (repeat (first | exact sub_rfl | refine sub_tl ?_)); done) | (refine tl_c1 (by with_reducible assumption) ?_; (repeat (first | exact sub_rfl | refine sub_tl ?_)); done) | (refine tl_c2 (by with_reducible assumption) ?_; (repeat (first | exact sub_rfl | refine sub_tl ?_)); done) | (refine tl_c3 (by with_reducible assumption) ?_; (repeat (first | exact sub_rfl | refine sub_tl ?_)); done))
  k_with "K_NE" => ((refine neN ?_; (try dsimp only); first | with_reducible assumption | (refine Ne.symm ?_; with_reducible assumption) | exact Nat.ne_of_lt (by with_reducible assumption) | exact Nat.ne_of_gt (by with_reducible assumption) | (refine off_a ?_; first | (refine ne_lt (by with_reducible assumption) ?_; (repeat (first | exact at_hd | refine at_tl ?_)); done) | (refine ne_off (by with_reducible assumption) ?_; (repeat (first | exact at_hd | refine at_tl ?_)); done) | (refine ne_one (by with_reducible assumption) ?_; (repeat (first | exact at_hd | refine at_tl ?_)); done) | (refine ne_I (by with_reducible assumption) ?_; (repeat (first | exact at_hd | refine at_tl ?_)); done) | (refine ne_C (by with_reducible assumption) ?_; (repeat (first | exact at_hd | refine at_tl ?_)); done) | (refine ne_D (by with_reducible assumption) ?_; (repeat (first | exact at_hd | refine at_tl ?_)); done)) | (refine off_a ?_; first | (refine ne_c1 (by with_reducible assumption) ?_; (repeat (first | exact at_hd | refine at_tl ?_)); done) | (refine ne_c2 (by with_reducible assumption) ?_; (repeat (first | exact at_hd | refine at_tl ?_)); done) | (refine ne_c3 (by with_reducible assumption) ?_; (repeat (first | exact at_hd | refine at_tl ?_)); done) | (refine ne_c4 (by with_reducible assumption) ?_; (repeat (first | exact at_hd | refine at_tl ?_)); done)) | (refine off_b ?_; first | (refine ne_c1 (by with_reducible assumption) ?_; (repeat (first | exact at_hd | refine at_tl ?_)); done) | (refine ne_c2 (by with_reducible assumption) ?_; (repeat (first | exact at_hd | refine at_tl ?_)); done) | (refine ne_c3 (by with_reducible assumption) ?_; (repeat (first | exact at_hd | refine at_tl ?_)); done) | (refine ne_c4 (by with_reducible assumption) ?_; (repeat (first | exact at_hd | refine at_tl ?_)); done)) | (refine off_b ?_; first | (refine ne_lt (by with_reducible assumption) ?_; (repeat (first | exact at_hd | refine at_tl ?_)); done) | (refine ne_off (by with_reducible assumption) ?_; (repeat (first | exact at_hd | refine at_tl ?_)); done) | (refine ne_one (by with_reducible assumption) ?_; (repeat (first | exact at_hd | refine at_tl ?_)); done) | (refine ne_I (by with_reducible assumption) ?_; (repeat (first | exact at_hd | refine at_tl ?_)); done) | (refine ne_C (by with_reducible assumption) ?_; (repeat (first | exact at_hd | refine at_tl ?_)); done) | (refine ne_D (by with_reducible assumption) ?_; (repeat (first | exact at_hd | refine at_tl ?_)); done)) | omega))
  k_with "storeName" => (first
    | (k_here; k_dflt (refine' storeX_Lm ?F ?N ?_ ?a ?b; (case a => rfl); (case b => rfl); (case F => k_asm); (case N => k_asm)); intro h' m' F' N'; (try k_sweep)))
  k_with "FinE" => (first
    | ((unfold LCg.FinE); intro D' h' tk' F' N' o1'; (try simp only [List.nil_append, List.cons_append] at N'); (try k_sweep); (try dsimp only)))
  k_with "FinA" => (first
    | ((unfold LCg.FinA); intro D' h' tk' F' N' o1'; (try simp only [List.nil_append, List.cons_append] at N'); (try k_sweep); (try dsimp only)))
  k_with "call ref" => (first
    | (k_extra "MyCall"))
  k_with "CompSrc" => (first
    | (k_here; k_dflt (refine LCg.CompSrc.ledger (by rfl) (by k_asm) (by k_asm) (by k_mem) (by exact ints_sz (by assumption) (drawn_len _)) ?_; intro g'; (refine' kcf_listQ _ (by assumption) ?zS (fun k' t' I' oI' C' oC' D' oD' m' s' E' Q1' hk' hC' hx' F' N' off' n1' n2' n3' hMark' eY' => ?_) ?_); (case zS => first | exact True.intro | assumption | exact Or.inr ⟨_, by k_mem, rfl, _, rfl⟩); kcf_last))
    | (k_extra "MySrc"))
  k_with "CompSrcT" => (first
    | (k_extra "MySrcT"))
  k_with "exec While Compare cons nil" => (first
    | (k_here; k_dflt (refine whl_start 100 ?_)))
  k_with "newList" => (first
    | (k_here; k_dflt (refine' newList_I ?zF ?zN ?zi ?_ ?zz; (case zF => k_asm); (case zN => k_asm); (case zi => (repeat' constructor)); (case zz => exact Nat.le_of_ble_eq_true rfl); (intro l' h' vs' hi' F' N' l1'); (try k_lt l1'); (try k_sweep))))
  k_with "call builtin:len" => (first
    | (k_here; k_dflt (refine' len_I ?zN ?zm ?zi ?zf ?_; (case zN => k_asm); (case zm => k_mem); (case zi => assumption); (case zf => first | decide | (simp only [List.length_append, List.length_map, List.length_cons, List.length_nil]; omega)); (intro t' tk'))))
  k_with "binaryOp Add ref ref" => (first
    | (k_here; k_dflt (refine' add_I ?zF ?zN ?zm ?zp ?zi ?zj ?zz ?_; (case zF => k_asm); (case zN => k_asm); (case zm => k_mem); (case zp => k_mem); (case zi => assumption); (case zj => assumption); (case zz => exact drawn_add _); (intro l' h' vs' hi' F' N' l1'); (try k_lt l1'); (try k_sweep)))
    | (k_here; k_dflt (refine' add_I ?zF ?zN ?zm ?zp ?zi ?zj ?zz ?_; (case zF => k_asm); (case zN => k_asm); (case zm => k_mem); (case zp => k_mem); (case zi => assumption); (case zj => assumption); (case zz => (rw [PySem.sizeLine_eq]; simp only [List.length_append, List.length_map, List.length_cons, List.length_nil]; first | done | decide | omega)); (intro l' h' vs' hi' F' N' l1'); (try k_lt l1'); (try k_sweep))))
  k_with "eval ListComp" => (first
    | (k_here; (with_reducible show wpAny _ _ (eval (Expr.ListComp _ [PySem.Comprehension.mk _ _ [_] _] _ _) _) _ _ _); k_dflt (refine LCt.ListComp_T (F₀ := by k_asm) (by with_unfolding_all rfl) (by decide) (by rfl) (by decide) (by rfl) ?_))
    | (k_here; (with_reducible show wpAny _ _ (eval (Expr.ListComp _ [PySem.Comprehension.mk _ _ [] _] _ _) _) _ _ _); k_dflt (refine LCg.ListComp_U (F₀ := by k_asm) (by with_unfolding_all rfl) (by decide) (by rfl) (by decide) (by rfl) ?_)))
  k_with "subscriptTail Name Slice ref ref" => (first
    | (k_here; (with_reducible show wpAny _ _ (subscriptTail _ (PySem.Expr.Slice _ _ none _) (Value.ref _) (Value.ref _)) _ _ _); k_dflt (refine' kmk_slice_ints ?zwF ?zwN ?zwl ?zwp ?zwq ?zwi ?zwm ?zwc ?_ ?zws ?zwt ?zwz; (case zwF => k_asm); (case zwN => k_asm); (case zwl => kmk_list); (case zwp => kmk_part); (case zwq => kmk_part); (case zwi => assumption); (case zwm => first | (with_reducible refine' kmk_upto ?zi1 ?zi2; (case zi1 => assumption); (case zi2 => first | decide | exact Int.natCast_nonneg _)) | (with_reducible refine' kmk_from ?zi1 ?zi2; (case zi1 => assumption); (case zi2 => first | decide | exact Int.natCast_nonneg _))); (case zwc => kmk_len); (case zws => with_unfolding_all rfl); (case zwt => kmk_pure); (case zwz => (refine' kmk_sz (by assumption) ?_; rw [PySem.sizeLine_eq]; (try simp only [List.length_append, List.length_map, List.length_take, List.length_drop, List.length_cons, List.length_nil]); omega))); intro D' ws' h' F' N' l1 hI' hC' hL'; (try simp only [Int.reduceNeg, Int.neg_neg, Int.reduceToNat] at hI' hC' hL'); (try k_lt l1); (try k_sweep)))
  unfold ConB
  k_fill
  intro dp un gd cn cs a ccd cl outer A₀ base h₀ L m news s Q E B F X N T hk hL hd hu hret
  have hhid : ∀ p ∈ ([] : List (Addr × Obj)), p ∈ news := List.forall_mem_nil _
  refine wpAny_call ?_
  k_dflt (refine' con_callM (fun y => if y = Str.ofString "script" then some (.ref sc) else none) ?k1 ?k2 ?k3 ?k4 ?k5 ?kH ?kA ?kF ?kK ?k6 ?k7 ?k8 ?k9 ?kB ?km ?_ ?c2 ?c3 ?c4 ?c5; (case kA => exact rfl); (case kF => exact rfl); (case kK => assumption); (case k1 => assumption); (case k2 => assumption); (case k3 => assumption); (case k4 => assumption); (case k5 => assumption); (case kH => assumption); (case k6 => k_is); (case k7 => k_is); (case k8 => ktr_room); (case k9 => exact BindsTo.of_eq rfl); (case c5 => decide); (case kB => exact locs rfl); (case km => exact (lookM_eq _).trans (by with_unfolding_all rfl)); (case c2 => exact rfl); (case c3 => exact rfl); (case c4 => exact rfl); k_whole; intro g' L' h' F' N' B' X' T' G' l1'; (refine anyQ (Q0 := Q) ?hq9 ?_; (case hq9 => (intro v9 s9 h9; exact h9)); intro Q9 hQ9); (refine noE ?_); (refine letEA ?_); (intro e9 A9); (try dsimp only); (try k_fold))
  have hLg : g'.IsList sc vs.toArray := isList_keeps (fun b o e => G'.old b o e (List.not_mem_nil)) (isList_keeps (fun b o e => F.keep b o e) hL)
  clear hL
  k_steps
  (try refine hQ9 _ _ ?_); (try dsimp only); (try k_unfold); (try dsimp only)
  have hh9 : ∀ q ∈ ([] : List (Addr × Obj)), q.1 ≠ L' := List.forall_mem_nil _
  ((try refine hQ9 _ _ ?_); refine' retO F N hret G' ?zf ?zn ?zs ?zm ?ze ?zp; (case zf => k_asm); (case zn => k_asm); (case zs => kcf_all); (case zm => k_mem); (case ze => first | assumption | k_all))
  refine ⟨_, _, rfl, ?_⟩
  assumption
noncomputable def signL : List Str := [Str.ofString "(", Str.ofString ")", Str.ofString "[", Str.ofString "]", Str.ofString ":", Str.ofString ",", Str.ofString ";", Str.ofString "+", Str.ofString "-", Str.ofString "*", Str.ofString "/", Str.ofString "|", Str.ofString "&", Str.ofString "<", Str.ofString ">", Str.ofString "=", Str.ofString ".", Str.ofString "%", Str.ofString "{", Str.ofString "}", Str.ofString "==", Str.ofString "!=", Str.ofString "<=", Str.ofString ">=", Str.ofString "~", Str.ofString "^", Str.ofString "<<", Str.ofString ">>", Str.ofString "**", Str.ofString "+=", Str.ofString "-=", Str.ofString "*=", Str.ofString "/=", Str.ofString "%=", Str.ofString "&=", Str.ofString "|=", Str.ofString "^=", Str.ofString "<<=", Str.ofString ">>=", Str.ofString "**=", Str.ofString "//", Str.ofString "//=", Str.ofString "@", Str.ofString "@=", Str.ofString "->", Str.ofString "...", Str.ofString ":=", Str.ofString "!"]
theorem sign_at {l : List (Str × Tok)} (e : l.map (·.1) = signL) {n : Nat} (h : n < 48) : ∃ t, (strValues l)[n]? = some (.str (signL.getD n default) t) := by
  have hl : l.length = 48 := by rw [← List.length_map (f := (·.1)), e]; rfl
  have h1 : n < l.length := by omega
  refine ⟨(l[n]).2, ?_⟩
  unfold strValues
  rw [List.getElem?_map, List.getElem?_eq_getElem h1, ← e, List.getD_eq_getElem?_getD, List.getElem?_map, List.getElem?_eq_getElem h1]
  rfl
theorem item_sign {prog : Program} {w : World} {A : Around} {E : Value → Shared → Prop} {s : Shared} {h₀ : Heap} {L l : Addr} {news : List (Addr × Obj)} {value slice : PySem.Expr} {ls : List (Str × Tok)} {n : Nat} {k : Int} {u : Tok} {Q : Value → Shared → Prop}
    (N : News h₀ L s.heap news) (hm : (l, listOf (strValues ls).toArray n) ∈ news) (e : ls.map (·.1) = signL) (hb : 0 ≤ k ∧ k < 48) (h : ∀ t, Q (.str (signL.getD k.toNat default) t) s)
    (hs : subscripted slice false (.ref l) (.int k u) = operate [.ref l, .int k u] (getItem (.ref l) (.int k u)) := by with_unfolding_all rfl) :
    wpAny (model prog w) A (subscriptTail value slice (.ref l) (.int k u)) Q E s := by
  obtain ⟨t, e'⟩ := sign_at e (n := k.toNat) (by omega)
  exact item_val N hm hb.1 (by omega) e' (h t) hs
theorem tok_at (w : World) (n : Nat) (h : n < 48) : ∃ t, nsIn (hd.heap_39 w.params) 75 (signL.getD n default) = some (some (.int (7 + (n : Int)) t)) := by
  have hfill : PySem.Challenge.rw_tp0020_01.row.prog = PySem.Challenge.rw_tp0020_01.row.prog ∧ hd.heap_39 w.params = hd.heap_39 w.params := by
    k_fill
    exact ⟨rfl, rfl⟩
  clear hfill
  match n, h with
  | 0, _ => exact ⟨_, (show nsIn (hd.heap_39 w.params) 75 (Str.ofString "(") = some (some (.int 7 _)) by k_is)⟩
  | 1, _ => exact ⟨_, (show nsIn (hd.heap_39 w.params) 75 (Str.ofString ")") = some (some (.int 8 _)) by k_is)⟩
  | 2, _ => exact ⟨_, (show nsIn (hd.heap_39 w.params) 75 (Str.ofString "[") = some (some (.int 9 _)) by k_is)⟩
  | 3, _ => exact ⟨_, (show nsIn (hd.heap_39 w.params) 75 (Str.ofString "]") = some (some (.int 10 _)) by k_is)⟩
  | 4, _ => exact ⟨_, (show nsIn (hd.heap_39 w.params) 75 (Str.ofString ":") = some (some (.int 11 _)) by k_is)⟩
  | 5, _ => exact ⟨_, (show nsIn (hd.heap_39 w.params) 75 (Str.ofString ",") = some (some (.int 12 _)) by k_is)⟩
  | 6, _ => exact ⟨_, (show nsIn (hd.heap_39 w.params) 75 (Str.ofString ";") = some (some (.int 13 _)) by k_is)⟩
  | 7, _ => exact ⟨_, (show nsIn (hd.heap_39 w.params) 75 (Str.ofString "+") = some (some (.int 14 _)) by k_is)⟩
  | 8, _ => exact ⟨_, (show nsIn (hd.heap_39 w.params) 75 (Str.ofString "-") = some (some (.int 15 _)) by k_is)⟩
  | 9, _ => exact ⟨_, (show nsIn (hd.heap_39 w.params) 75 (Str.ofString "*") = some (some (.int 16 _)) by k_is)⟩
  | 10, _ => exact ⟨_, (show nsIn (hd.heap_39 w.params) 75 (Str.ofString "/") = some (some (.int 17 _)) by k_is)⟩
  | 11, _ => exact ⟨_, (show nsIn (hd.heap_39 w.params) 75 (Str.ofString "|") = some (some (.int 18 _)) by k_is)⟩
  | 12, _ => exact ⟨_, (show nsIn (hd.heap_39 w.params) 75 (Str.ofString "&") = some (some (.int 19 _)) by k_is)⟩
  | 13, _ => exact ⟨_, (show nsIn (hd.heap_39 w.params) 75 (Str.ofString "<") = some (some (.int 20 _)) by k_is)⟩
  | 14, _ => exact ⟨_, (show nsIn (hd.heap_39 w.params) 75 (Str.ofString ">") = some (some (.int 21 _)) by k_is)⟩
  | 15, _ => exact ⟨_, (show nsIn (hd.heap_39 w.params) 75 (Str.ofString "=") = some (some (.int 22 _)) by k_is)⟩
  | 16, _ => exact ⟨_, (show nsIn (hd.heap_39 w.params) 75 (Str.ofString ".") = some (some (.int 23 _)) by k_is)⟩
  | 17, _ => exact ⟨_, (show nsIn (hd.heap_39 w.params) 75 (Str.ofString "%") = some (some (.int 24 _)) by k_is)⟩
  | 18, _ => exact ⟨_, (show nsIn (hd.heap_39 w.params) 75 (Str.ofString "{") = some (some (.int 25 _)) by k_is)⟩
  | 19, _ => exact ⟨_, (show nsIn (hd.heap_39 w.params) 75 (Str.ofString "}") = some (some (.int 26 _)) by k_is)⟩
  | 20, _ => exact ⟨_, (show nsIn (hd.heap_39 w.params) 75 (Str.ofString "==") = some (some (.int 27 _)) by k_is)⟩
  | 21, _ => exact ⟨_, (show nsIn (hd.heap_39 w.params) 75 (Str.ofString "!=") = some (some (.int 28 _)) by k_is)⟩
  | 22, _ => exact ⟨_, (show nsIn (hd.heap_39 w.params) 75 (Str.ofString "<=") = some (some (.int 29 _)) by k_is)⟩
  | 23, _ => exact ⟨_, (show nsIn (hd.heap_39 w.params) 75 (Str.ofString ">=") = some (some (.int 30 _)) by k_is)⟩
  | 24, _ => exact ⟨_, (show nsIn (hd.heap_39 w.params) 75 (Str.ofString "~") = some (some (.int 31 _)) by k_is)⟩
  | 25, _ => exact ⟨_, (show nsIn (hd.heap_39 w.params) 75 (Str.ofString "^") = some (some (.int 32 _)) by k_is)⟩
  | 26, _ => exact ⟨_, (show nsIn (hd.heap_39 w.params) 75 (Str.ofString "<<") = some (some (.int 33 _)) by k_is)⟩
  | 27, _ => exact ⟨_, (show nsIn (hd.heap_39 w.params) 75 (Str.ofString ">>") = some (some (.int 34 _)) by k_is)⟩
  | 28, _ => exact ⟨_, (show nsIn (hd.heap_39 w.params) 75 (Str.ofString "**") = some (some (.int 35 _)) by k_is)⟩
  | 29, _ => exact ⟨_, (show nsIn (hd.heap_39 w.params) 75 (Str.ofString "+=") = some (some (.int 36 _)) by k_is)⟩
  | 30, _ => exact ⟨_, (show nsIn (hd.heap_39 w.params) 75 (Str.ofString "-=") = some (some (.int 37 _)) by k_is)⟩
  | 31, _ => exact ⟨_, (show nsIn (hd.heap_39 w.params) 75 (Str.ofString "*=") = some (some (.int 38 _)) by k_is)⟩
  | 32, _ => exact ⟨_, (show nsIn (hd.heap_39 w.params) 75 (Str.ofString "/=") = some (some (.int 39 _)) by k_is)⟩
  | 33, _ => exact ⟨_, (show nsIn (hd.heap_39 w.params) 75 (Str.ofString "%=") = some (some (.int 40 _)) by k_is)⟩
  | 34, _ => exact ⟨_, (show nsIn (hd.heap_39 w.params) 75 (Str.ofString "&=") = some (some (.int 41 _)) by k_is)⟩
  | 35, _ => exact ⟨_, (show nsIn (hd.heap_39 w.params) 75 (Str.ofString "|=") = some (some (.int 42 _)) by k_is)⟩
  | 36, _ => exact ⟨_, (show nsIn (hd.heap_39 w.params) 75 (Str.ofString "^=") = some (some (.int 43 _)) by k_is)⟩
  | 37, _ => exact ⟨_, (show nsIn (hd.heap_39 w.params) 75 (Str.ofString "<<=") = some (some (.int 44 _)) by k_is)⟩
  | 38, _ => exact ⟨_, (show nsIn (hd.heap_39 w.params) 75 (Str.ofString ">>=") = some (some (.int 45 _)) by k_is)⟩
  | 39, _ => exact ⟨_, (show nsIn (hd.heap_39 w.params) 75 (Str.ofString "**=") = some (some (.int 46 _)) by k_is)⟩
  | 40, _ => exact ⟨_, (show nsIn (hd.heap_39 w.params) 75 (Str.ofString "//") = some (some (.int 47 _)) by k_is)⟩
  | 41, _ => exact ⟨_, (show nsIn (hd.heap_39 w.params) 75 (Str.ofString "//=") = some (some (.int 48 _)) by k_is)⟩
  | 42, _ => exact ⟨_, (show nsIn (hd.heap_39 w.params) 75 (Str.ofString "@") = some (some (.int 49 _)) by k_is)⟩
  | 43, _ => exact ⟨_, (show nsIn (hd.heap_39 w.params) 75 (Str.ofString "@=") = some (some (.int 50 _)) by k_is)⟩
  | 44, _ => exact ⟨_, (show nsIn (hd.heap_39 w.params) 75 (Str.ofString "->") = some (some (.int 51 _)) by k_is)⟩
  | 45, _ => exact ⟨_, (show nsIn (hd.heap_39 w.params) 75 (Str.ofString "...") = some (some (.int 52 _)) by k_is)⟩
  | 46, _ => exact ⟨_, (show nsIn (hd.heap_39 w.params) 75 (Str.ofString ":=") = some (some (.int 53 _)) by k_is)⟩
  | 47, _ => exact ⟨_, (show nsIn (hd.heap_39 w.params) 75 (Str.ofString "!") = some (some (.int 54 _)) by k_is)⟩
  | n + 48, h => exact absurd h (by omega)
theorem tok_item {w : World} {A : Around} {E : Value → Shared → Prop} {s : Shared} {h₀ : Heap} {L : Addr} {m : Str → Option Value} {value slice : PySem.Expr} {k : Int} {u : Tok} {Q : Value → Shared → Prop}
    (F : Fr h₀ L s.heap m) (X : (hd.heap_39 w.params).In h₀) (hb : 0 ≤ k ∧ k < 48) (h : ∀ t, Q (.int (7 + k) t) { s with toks := s.toks + 1 })
    (hs : subscripted slice false (.ref 75) (.str (signL.getD k.toNat default) u) = operate [.ref 75, .str (signL.getD k.toNat default) u] (getItem (.ref 75) (.str (signL.getD k.toNat default) u)) := by with_unfolding_all rfl) :
    wpAny (model PySem.Challenge.rw_tp0020_01.row.prog w) A (subscriptTail value slice (.ref 75) (.str (signL.getD k.toNat default) u)) Q E s := by
  obtain ⟨t, e⟩ := tok_at w k.toNat (by omega)
  have e2 : (7 : Int) + (k.toNat : Int) = 7 + k := by omega
  rw [e2] at e
  refine' topItem_K F X ?l ?k e (h t) hs
  case l => k_is
  case k => k_keys
theorem m48 (x : Int) : 0 ≤ Int.fmod x 48 ∧ Int.fmod x 48 < 48 := ⟨Int.fmod_nonneg_of_pos x (by decide), Int.fmod_lt_of_pos x (by decide)⟩
set_option maxHeartbeats 4000000 in
theorem words_con (w : World) (mean : ExcName → Option Value) (mg mb : Str → Option Value) (d : Addr) (vd : List Value) (nd : Nat) (ds : List Int) (hi : IntsAre vd ds) (hlen : ds.length = 6) :
    ConO w mean mg mb 94 [.ref d] 2 [(d, listOf vd.toArray nd)] (ListIs ((ds.take 5).map (fun x => 7 + Int.fmod x 48))) := by
  w_on
  k_with_none
  k_with "K_STEPS" => (repeat' (first | (k_unfold; (try dsimp only)) | (k_end; wrow_close) | walk1 | (dsimp only; walk1) | (leave1; walk_say "STEP leave1"; try dsimp only) | ((try dsimp only); refine' CEnd.go ?eH _ _ _ ?eF ?eN ?eP; (case eH => with_reducible assumption); (case eF => k_asm); (case eN => k_asm); (case eP => (first | exact intV | exact intVc (by with_reducible assumption) | k_extra "END9"))) | ((try dsimp only); refine' CNo.go ?eH _ _ ?eF ?eN ?eP; (case eH => with_reducible assumption); (case eF => k_asm); (case eN => k_asm); (case eP => (first | with_reducible assumption | k_extra "NO9"))) | (k_extra "STEP9") | fail "no step"))
  k_with "K_MEM" => ((with_reducible ((repeat (first | exact List.mem_cons_self | refine List.mem_cons_of_mem _ ?_ | assumption)); done)))
  k_with "K_ALL" => (first | exact List.forall_mem_nil _ | (with_reducible assumption) | (refine List.forall_mem_cons.mpr ⟨by k_ne, ?_⟩; k_all) | (refine tl_lt (by with_reducible assumption) ?_; (repeat (first | exact sub_rfl | refine sub_tl ?_)); done) | (refine tl_off (by with_reducible assumption) ?_; (repeat (first | exact sub_rfl | refine sub_tl ?_)); done) | (refine tl_one (by with_reducible assumption) ?_; (repeat (first | exact sub_rfl | refine sub_tl ?_)); done) | (refine tl_I (by with_reducible assumption) ?_; (repeat (first | exact sub_rfl | refine sub_tl ?_)); done) | (refine tl_C (by with_reducible assumption) ?_; (repeat (first | exact sub_rfl | refine sub_tl ?_)); done) | (refine tl_D (by with_reducible assumption) ?_; (repeat (first | exact sub_rfl | refine sub_tl ?_)); done) | (refine tl_c1 (by with_reducible assumption) ?_; (repeat (first | exact sub_rfl | refine sub_tl ?_)); done) | (refine tl_c2 (by with_reducible assumption) ?_; (repeat (first | exact sub_rfl | refine sub_tl ?_)); done) | (refine tl_c3 (by with_reducible assumption) ?_; (repeat (first | exact sub_rfl | refine sub_tl ?_)); done))
  k_with "K_NE" => ((refine neN ?_; (try dsimp only); first | with_reducible assumption | (refine Ne.symm ?_; with_reducible assumption) | exact Nat.ne_of_lt (by with_reducible assumption) | exact Nat.ne_of_gt (by with_reducible assumption) | (refine off_a ?_; first | (refine ne_lt (by with_reducible assumption) ?_; (repeat (first | exact at_hd | refine at_tl ?_)); done) | (refine ne_off (by with_reducible assumption) ?_; (repeat (first | exact at_hd | refine at_tl ?_)); done) | (refine ne_one (by with_reducible assumption) ?_; (repeat (first | exact at_hd | refine at_tl ?_)); done) | (refine ne_I (by with_reducible assumption) ?_; (repeat (first | exact at_hd | refine at_tl ?_)); done) | (refine ne_C (by with_reducible assumption) ?_; (repeat (first | exact at_hd | refine at_tl ?_)); done) | (refine ne_D (by with_reducible assumption) ?_; (repeat (first | exact at_hd | refine at_tl ?_)); done)) | (refine off_a ?_; first | (refine ne_c1 (by with_reducible assumption) ?_; (repeat (first | exact at_hd | refine at_tl ?_)); done) | (refine ne_c2 (by with_reducible assumption) ?_; (repeat (first | exact at_hd | refine at_tl ?_)); done) | (refine ne_c3 (by with_reducible assumption) ?_; (repeat (first | exact at_hd | refine at_tl ?_)); done) | (refine ne_c4 (by with_reducible assumption) ?_; (repeat (first | exact at_hd | refine at_tl ?_)); done)) | (refine off_b ?_; first | (refine ne_c1 (by with_reducible assumption) ?_; (repeat (first | exact at_hd | refine at_tl ?_)); done) | (refine ne_c2 (by with_reducible assumption) ?_; (repeat (first | exact at_hd | refine at_tl ?_)); done) | (refine ne_c3 (by with_reducible assumption) ?_; (repeat (first | exact at_hd | refine at_tl ?_)); done) | (refine ne_c4 (by with_reducible assumption) ?_; (repeat (first | exact at_hd | refine at_tl ?_)); done)) | (refine off_b ?_; first | (refine ne_lt (by with_reducible assumption) ?_; (repeat (first | exact at_hd | refine at_tl ?_)); done) | (refine ne_off (by with_reducible assumption) ?_; (repeat (first | exact at_hd | refine at_tl ?_)); done) | (refine ne_one (by with_reducible assumption) ?_; (repeat (first | exact at_hd | refine at_tl ?_)); done) | (refine ne_I (by with_reducible assumption) ?_; (repeat (first | exact at_hd | refine at_tl ?_)); done) | (refine ne_C (by with_reducible assumption) ?_; (repeat (first | exact at_hd | refine at_tl ?_)); done) | (refine ne_D (by with_reducible assumption) ?_; (repeat (first | exact at_hd | refine at_tl ?_)); done)) | omega))
  k_with "storeName" => (first
    | (k_here; k_dflt (refine' storeX_Lm ?F ?N ?_ ?a ?b; (case a => rfl); (case b => rfl); (case F => k_asm); (case N => k_asm)); intro h' m' F' N'; (try k_sweep)))
  k_with "FinE" => (first
    | ((unfold LCg.FinE); intro D' h' tk' F' N' o1'; (try simp only [List.nil_append, List.cons_append] at N'); (try k_sweep); (try dsimp only)))
  k_with "FinA" => (first
    | ((unfold LCg.FinA); intro D' h' tk' F' N' o1'; (try simp only [List.nil_append, List.cons_append] at N'); (try k_sweep); (try dsimp only)))
  k_with "call ref" => (first
    | (k_extra "MyCall"))
  k_with "CompSrc" => (first
    | (k_here; k_dflt (refine LCg.CompSrc.ledger (by rfl) (by k_asm) (by k_asm) (by k_mem) (by first | size_fits | (rw [List.size_toArray, PySem.sizeLine_eq]; (have hl9 := IntsAre.length (by assumption)); (simp only [List.length_append, List.length_map, List.length_take, List.length_drop, List.length_cons, List.length_nil] at hl9); omega)) ?_; intro g'; (refine' kcf_listQ _ (by assumption) ?zS (fun k' t' I' oI' C' oC' D' oD' m' s' E' Q1' hk' hC' hx' F' N' off' n1' n2' n3' hMark' eY' => ?_) ?_); (case zS => first | exact True.intro | assumption | exact Or.inr ⟨_, by k_mem, rfl, _, rfl⟩); kcf_last))
    | (k_extra "MySrc"))
  k_with "CompSrcT" => (first
    | (k_extra "MySrcT"))
  k_with "eval ListComp" => (first
    | (k_here; (with_reducible show wpAny _ _ (eval (Expr.ListComp _ [PySem.Comprehension.mk _ _ [_] _] _ _) _) _ _ _); k_dflt (refine LCt.ListComp_T (F₀ := by k_asm) (by with_unfolding_all rfl) (by decide) (by rfl) (by decide) (by rfl) ?_))
    | (k_here; (with_reducible show wpAny _ _ (eval (Expr.ListComp _ [PySem.Comprehension.mk _ _ [] _] _ _) _) _ _ _); k_dflt (refine LCg.ListComp_U (F₀ := by k_asm) (by with_unfolding_all rfl) (by decide) (by rfl) (by decide) (by rfl) ?_)))
  k_with "subscriptTail Name Slice ref ref" => (first
    | (k_here; (with_reducible show wpAny _ _ (subscriptTail _ (PySem.Expr.Slice _ _ none _) (Value.ref _) (Value.ref _)) _ _ _); k_dflt (refine' kmk_slice_ints ?zwF ?zwN ?zwl ?zwp ?zwq ?zwi ?zwm ?zwc ?_ ?zws ?zwt ?zwz; (case zwF => k_asm); (case zwN => k_asm); (case zwl => kmk_list); (case zwp => kmk_part); (case zwq => kmk_part); (case zwi => assumption); (case zwm => first | (with_reducible refine' kmk_upto ?zi1 ?zi2; (case zi1 => assumption); (case zi2 => first | decide | exact Int.natCast_nonneg _)) | (with_reducible refine' kmk_from ?zi1 ?zi2; (case zi1 => assumption); (case zi2 => first | decide | exact Int.natCast_nonneg _))); (case zwc => kmk_len); (case zws => with_unfolding_all rfl); (case zwt => kmk_pure); (case zwz => (refine' kmk_sz (by assumption) ?_; rw [PySem.sizeLine_eq]; (try simp only [List.length_append, List.length_map, List.length_take, List.length_drop, List.length_cons, List.length_nil]); omega))); intro D' ws' h' F' N' l1 hI' hC' hL'; (try simp only [Int.reduceNeg, Int.neg_neg, Int.reduceToNat] at hI' hC' hL'); (try k_lt l1); (try k_sweep)))
  k_with "subscriptTail Name BinOp ref int" => (first
    | (k_here; k_dflt (refine' item_sign ?zN ?zm ?ze ?zb ?_; (case zN => k_asm); (case zm => k_mem); (case ze => exact Eq.trans (by assumption) (by decide +kernel)); (case zb => exact m48 _); intro t')))
  k_with "subscriptTail Name Subscript ref str" => (first
    | (k_here; k_dflt (refine' tok_item ?zF ?zX ?zb ?_; (case zF => k_asm); (case zX => k_asm); (case zb => exact m48 _); intro t')))
  unfold ConO
  k_fill
  intro dp un gd cn cs a ccd cl outer A₀ base h₀ L m news s Q E B F X N T hk hhid hd hu hret
  refine wpAny_call ?_
  k_dflt (refine' con_callCM (fun y => if y = Str.ofString "drawn" then some (.ref d) else none) (fun _ => none) ?k1 ?k2 ?k3 ?k4 ?k5 ?kH ?kA ?kF ?kK ?k6 ?k7 ?k8 ?k9 ?kB ?kD ?km ?kc ?_ ?c2 ?c3 ?c4; (case kA => exact rfl); (case kF => exact rfl); (case kK => assumption); (case k1 => assumption); (case k2 => assumption); (case k3 => assumption); (case k4 => assumption); (case k5 => assumption); (case kH => assumption); (case k6 => k_is); (case k7 => k_is); (case k8 => ktr_room); (case k9 => exact BindsTo.of_eq rfl); (case kB => exact rfl); (case kD => decide +kernel); (case km => exact fun _ => by with_unfolding_all rfl); (case kc => exact fun _ => by with_unfolding_all rfl); (case c2 => exact rfl); (case c3 => exact rfl); (case c4 => exact rfl); k_whole; intro g' L' h' tk' cells' F' N' Y' B' X' T' G' l1'; (refine anyQ (Q0 := Q) ?hq9 ?_; (case hq9 => (intro v9 s9 h9; exact h9)); intro Q9 hQ9); (refine noE ?_); (refine letEA ?_); (intro e9 A9); k_cells Y'; (try simp only [List.cons_append, List.nil_append] at N'); (try dsimp only); (try k_fold))
  k_steps
  (try refine hQ9 _ _ ?_); (try dsimp only); (try k_unfold); (try dsimp only)
  ((try refine hQ9 _ _ ?_); refine' retO F N hret G' ?zf ?zn ?zs ?zm ?ze ?zp; (case zf => k_asm); (case zn => k_asm); (case zs => kcf_all); (case zm => k_mem); (case ze => first | assumption | k_all))
  refine ⟨_, _, rfl, ?_⟩
  assumption
theorem sz5 {a b c d e : Value} : #[a, b, c, d, e].size ≤ sizeLine := by
  show 5 ≤ sizeLine
  rw [sizeLine_eq]; decide
set_option maxHeartbeats 4000000 in
theorem quarrels_con (w : World) (mean : ExcName → Option Value) (mg mb : Str → Option Value) (wd : Addr) (vd : List Value) (nd : Nat) (XX : Nat → Int) (t0 t1 t2 t3 t4 : Tok)
    (hvd : vd = [.int (XX 0) t0, .int (XX 1) t1, .int (XX 2) t2, .int (XX 3) t3, .int (XX 4) t4]) (hX : ∀ k, k < 5 → 0 ≤ XX k ∧ XX k < 64) :
    ConN w mean mg mb 104 [.ref wd] 4 [(wd, listOf vd.toArray nd)] (QPost XX) := by
  have hszd : vd.toArray.size ≤ sizeLine := by rw [hvd]; exact sz5
  w_on
  k_with_none
  k_with "K_STEPS" => (repeat' (first | (k_unfold; (try dsimp only)) | (k_end; wrow_close) | walk1 | (dsimp only; walk1) | (leave1; walk_say "STEP leave1"; try dsimp only) | ((try dsimp only); refine' CEnd.go ?eH _ _ _ ?eF ?eN ?eP; (case eH => with_reducible assumption); (case eF => k_asm); (case eN => k_asm); (case eP => (first | exact intV | exact intVc (by with_reducible assumption) | k_extra "END9"))) | ((try dsimp only); refine' CNo.go ?eH _ _ ?eF ?eN ?eP; (case eH => with_reducible assumption); (case eF => k_asm); (case eN => k_asm); (case eP => (first | with_reducible assumption | k_extra "NO9"))) | (k_extra "STEP9") | fail "no step"))
  k_with "K_MEM" => ((with_reducible ((repeat (first | exact List.mem_cons_self | refine List.mem_cons_of_mem _ ?_ | assumption)); done)))
  k_with "K_ALL" => (first | exact List.forall_mem_nil _ | (with_reducible assumption) | (refine List.forall_mem_cons.mpr ⟨by k_ne, ?_⟩; k_all) | (refine tl_lt (by with_reducible assumption) ?_; (repeat (first | exact sub_rfl | refine sub_tl ?_)); done) | (refine tl_off (by with_reducible assumption) ?_; (repeat (first | exact sub_rfl | refine sub_tl ?_)); done) | (refine tl_one (by with_reducible assumption) ?_; (repeat (first | exact sub_rfl | refine sub_tl ?_)); done) | (refine tl_I (by with_reducible assumption) ?_; (repeat (first | exact sub_rfl | refine sub_tl ?_)); done) | (refine tl_C (by with_reducible assumption) ?_; (repeat (first | exact sub_rfl | refine sub_tl ?_)); done) | (refine tl_D (by with_reducible assumption) ?_; (repeat (first | exact sub_rfl | refine sub_tl ?_)); done) | (refine tl_c1 (by with_reducible assumption) ?_; (repeat (first | exact sub_rfl | refine sub_tl ?_)); done) | (refine tl_c2 (by with_reducible assumption) ?_; (repeat (first | exact sub_rfl | refine sub_tl ?_)); done) | (refine tl_c3 (by with_reducible assumption) ?_; (repeat (first | exact sub_rfl | refine sub_tl ?_)); done))
  k_with "K_NE" => ((refine neN ?_; (try dsimp only); first | with_reducible assumption | (refine Ne.symm ?_; with_reducible assumption) | exact Nat.ne_of_lt (by with_reducible assumption) | exact Nat.ne_of_gt (by with_reducible assumption) | (refine off_a ?_; first | (refine ne_lt (by with_reducible assumption) ?_; (repeat (first | exact at_hd | refine at_tl ?_)); done) | (refine ne_off (by with_reducible assumption) ?_; (repeat (first | exact at_hd | refine at_tl ?_)); done) | (refine ne_one (by with_reducible assumption) ?_; (repeat (first | exact at_hd | refine at_tl ?_)); done) | (refine ne_I (by with_reducible assumption) ?_; (repeat (first | exact at_hd | refine at_tl ?_)); done) | (refine ne_C (by with_reducible assumption) ?_; (repeat (first | exact at_hd | refine at_tl ?_)); done) | (refine ne_D (by with_reducible assumption) ?_; (repeat (first | exact at_hd | refine at_tl ?_)); done)) | (refine off_a ?_; first | (refine ne_c1 (by with_reducible assumption) ?_; (repeat (first | exact at_hd | refine at_tl ?_)); done) | (refine ne_c2 (by with_reducible assumption) ?_; (repeat (first | exact at_hd | refine at_tl ?_)); done) | (refine ne_c3 (by with_reducible assumption) ?_; (repeat (first | exact at_hd | refine at_tl ?_)); done) | (refine ne_c4 (by with_reducible assumption) ?_; (repeat (first | exact at_hd | refine at_tl ?_)); done)) | (refine off_b ?_; first | (refine ne_c1 (by with_reducible assumption) ?_; (repeat (first | exact at_hd | refine at_tl ?_)); done) | (refine ne_c2 (by with_reducible assumption) ?_; (repeat (first | exact at_hd | refine at_tl ?_)); done) | (refine ne_c3 (by with_reducible assumption) ?_; (repeat (first | exact at_hd | refine at_tl ?_)); done) | (refine ne_c4 (by with_reducible assumption) ?_; (repeat (first | exact at_hd | refine at_tl ?_)); done)) | (refine off_b ?_; first | (refine ne_lt (by with_reducible assumption) ?_; (repeat (first | exact at_hd | refine at_tl ?_)); done) | (refine ne_off (by with_reducible assumption) ?_; (repeat (first | exact at_hd | refine at_tl ?_)); done) | (refine ne_one (by with_reducible assumption) ?_; (repeat (first | exact at_hd | refine at_tl ?_)); done) | (refine ne_I (by with_reducible assumption) ?_; (repeat (first | exact at_hd | refine at_tl ?_)); done) | (refine ne_C (by with_reducible assumption) ?_; (repeat (first | exact at_hd | refine at_tl ?_)); done) | (refine ne_D (by with_reducible assumption) ?_; (repeat (first | exact at_hd | refine at_tl ?_)); done)) | omega))
  k_with "storeName" => (first
    | (k_here; k_dflt (refine' storeX_Lm ?F ?N ?_ ?a ?b; (case a => rfl); (case b => rfl); (case F => k_asm); (case N => k_asm)); intro h' m' F' N'; (try k_sweep)))
  k_with "FinE" => (first
    | ((unfold LCg.FinE); intro D' h' tk' F' N' o1'; (try simp only [List.nil_append, List.cons_append] at N'); (try k_sweep); (try dsimp only)))
  k_with "FinA" => (first
    | ((unfold LCg.FinA); intro D' h' tk' F' N' o1'; (try simp only [List.nil_append, List.cons_append] at N'); (try k_sweep); (try dsimp only)))
  k_with "call ref" => (first
    | (k_extra "MyCall"))
  k_with "CompSrc" => (first
    | (k_here; k_dflt (refine LCg.CompSrc.ledger (by rfl) (by k_asm) (by k_asm) (by first | k_mem | kcf_m) (by with_reducible assumption) ?_; intro g'; (first
    | ((with_reducible show LCg.CompRest _ _ _ _ _ _ _ (PySem.Expr.Call _ [_, _, PySem.Expr.BinOp _ Operator.Mod _ _] _ _) _ _ _ _ _ _ _ _ _ _ _); refine' comp_tup loP (by with_reducible assumption) (by with_reducible assumption) ?hS9 ?_ ?_; (case hS9 => exact fun nw' h9 => Or.inr ⟨_, h9 _ (by first | k_mem | kcf_m), rfl, _, rfl⟩); rotate_left; (focus (k_extra "FinA9")))
    | ((with_reducible show LCg.CompRest _ _ _ _ _ _ _ (PySem.Expr.Call _ [_, _, PySem.Expr.BinOp _ Operator.FloorDiv _ _] _ _) _ _ _ _ _ _ _ _ _ _ _); refine' comp_tup hiP (by with_reducible assumption) (by with_reducible assumption) ?hS9 ?_ ?_; (case hS9 => exact fun nw' h9 => Or.inr ⟨_, h9 _ (by first | k_mem | kcf_m), rfl, _, rfl⟩); rotate_left; (focus (k_extra "FinB9")))
    | ((with_reducible show LCg.CompRest _ _ _ _ _ _ _ (PySem.Expr.BinOp _ Operator.Mult _ _) _ _ _ _ _ _ _ _ _ _ _); refine' comp_rows (by with_reducible assumption) (by with_reducible assumption) ?hS9 ?_ ?_; (case hS9 => exact fun nw' h9 => Or.inr ⟨_, h9 _ (by first | k_mem | kcf_m), rfl, _, rfl⟩); rotate_left; (focus (k_extra "FinC9")))); rotate_left; (focus (unfold NewTurn; intro k' t' I' oI' C' oC' D' oD' m' nw' s' E' Q1' hk' hC' hx' F' N' off' n1' n2' n3' sub' eY'))))
    | (k_extra "MySrc"))
  k_with "CompSrcT" => (first
    | (k_extra "MySrcT"))
  k_with "exec For Name Name cons nil" => (first
    | (k_here; k_dflt (refine for_start ?_)))
  k_with "pyIter ref" => (first
    | (k_here; k_dflt (refine' iterR_start ?zF ?zN ?zr ?zs ?zn ?_; (case zF => k_asm); (case zN => k_asm); (case zr => with_reducible assumption); (case zs => exact small_i (by assumption)); (case zn => exact size_i (by assumption)); (intro I' h' F' N' l1'); (try k_sweep)))
    | (k_here; k_dflt (refine' iterR_start ?zF ?zN ?zr ?zs ?zn ?_; (case zF => k_asm); (case zN => k_asm); (case zr => with_reducible assumption); (case zs => first | decide | rfl | exact small_i (by assumption)); (case zn => first | exact rfl | decide | exact size_i (by assumption)); (intro I' h' F' N' l1'); (try k_lt l1'); (try k_sweep)))
    | (k_here; k_dflt (refine' iterL_start ?zF ?zN ?zm ?_; (case zF => k_asm); (case zN => k_asm); (case zm => k_mem); (intro I' o' h' F' N' l1' hI'); (try k_lt l1'); (try k_sweep))))
  k_with "exec For Name Call cons nil" => (first
    | (k_here; k_dflt (refine for_start ?_)))
  k_with "ForRest" => (first
    | (k_extra "MyFor"))
  k_with "ForPost" => (first
    | (dsimp only [ForPost]))
  k_with "subscriptTail Name Name ref int" => (first
    | (k_here; k_dflt (refine' item_tupN ?zN ?zm ?zi ?zb ?_; (case zN => k_asm); (case zm => ((repeat (first | assumption | refine List.mem_cons_of_mem _ ?_ | refine rowsL_tail ?_)); done)); (case zi => assumption); (case zb => assumption)); intro aj' oj' hmj' hpj')
    | (k_here; k_dflt (refine' item_BN ?zN ?zm ?zb ?_; (case zN => k_asm); (case zm => ((repeat (first | assumption | refine List.mem_cons_of_mem _ ?_ | refine rowsL_tail ?_)); done)); (case zb => assumption))))
  k_with "setItem ref int" => (first
    | (k_here; k_dflt (refine' set_rowN ?zF ?zN ?zI ?zj ?zo ?zV ?zR ?za ?zb ?_; (case zF => k_asm); (case zN => k_asm); (case zI => assumption); (case zj => assumption); (case zo => assumption); (case zV => assumption); (case zR => first | exact fun j _ => rowM_len _ _ | exact setR_len fun j _ => rowM_len _ _); (case za => assumption); (case zb => assumption)); intro V' h' F' N' hV'; (try k_sweep)))
  k_with "binaryOp Mult str int" => (first
    | (refine' mul_q ?zx ?zn ?_; (case zx => with_reducible assumption); (case zn => with_reducible assumption); intro t' tk'))
  k_with "binaryOp Add str str" => (first
    | (first | (refine' add_q ?zn ?_; (case zn => with_reducible assumption)) | (refine' add_k ?zn ?_; (case zn => with_reducible assumption))); (intro t' tk'))
  k_with "subscriptTail Call" => (first
    | ((with_reducible show wpAny _ _ (subscriptTail _ (PySem.Expr.Slice (some _) none none _) (Value.str (resS _) _) (Value.ref _)) _ _ _); (with_reducible rename Fr _ _ _ _ => F'); (with_reducible rename News _ _ _ _ => N'); (refine slice_strN_sn (hsz := ?hsz) (s := ⟨_, _, _, _, _⟩) F' N' ?_); (case hsz => exact sz_line (Nat.le_trans (len_all _ (by with_reducible assumption)).2.2 (by decide))); intro h' t' tk' F' N'; (try k_sweep)))
  k_with "compareOp NotEq str str" => (first
    | (k_extra "Split9"))
  unfold ConN
  k_fill
  intro dp un gd cn cs a ccd cl outer A₀ base h₀ L m news s Q E B F X N T hk hhid hd hu hret
  k_with "MyCall" => (first
    | (k_dflt (refine' useV (shared2_con w mean mg mb (TT := T) (hX _ ?b1) (hX _ ?b2) ?m1 ?m2 hwh ?p1 ?p2 ?p3) ?k1 ?k2 ?k3 ?k4 ?k5 ?kK ?kH ?k8 ?k9 ?_; (case m1 => assumption); (case m2 => assumption); (case p1 => assumption); (case p2 => assumption); (case p3 => assumption); (case b1 => assumption); (case b2 => assumption); (case k1 => assumption); (case k2 => k_asm); (case k3 => k_asm); (case k4 => k_asm); (case k5 => k_asm); (case kK => first | exact rfl | assumption); (case kH => exact fun p hp => List.mem_cons_of_mem _ (rowsL_tail (List.mem_cons_of_mem _ hp))); (case k8 => ktr_room); (case k9 => ktr_units); (intro r9 h9 tk9 F9 N9 hp9); (obtain ⟨tp9, rfl⟩ := hp9); (try k_sweep); (try dsimp only); (try k_fold)))
    | ((with_reducible show wpAny _ _ (call (Value.ref 74) _) _ _ _); (k_dflt (refine' useV ((parseM_con w mean mg mb _ _ (by with_reducible assumption))) ?k1 ?k2 ?k3 ?k4 ?k5 ?kK ?kH ?k8 ?k9 ?_; (case k1 => assumption); (case k2 => k_asm); (case k3 => k_asm); (case k4 => k_asm); (case k5 => k_asm); (case kK => first | exact rfl | assumption); (case kH => kcf_all); (case k8 => ktr_room); (case k9 => ktr_units); (intro r9 h9 tk9 F9 N9 hp9); (obtain ⟨tp9, rfl⟩ := hp9); (try k_sweep); (try dsimp only); (try k_fold))))
    | (k_dflt (refine' useO (wh_con w mean mg mb _ _ _) ?k1 ?k2 ?k3 ?k4 ?k5 ?kK ?kH ?k8 ?k9 ?_; (case k1 => assumption); (case k2 => k_asm); (case k3 => k_asm); (case k4 => k_asm); (case k5 => k_asm); (case kK => first | exact rfl | assumption); (case kH => kcf_all); (case k8 => ktr_room); (case k9 => ktr_units); (intro l9 o9 h9 tk9 F9 N9 d9 hp9); (obtain hwp := hp9); (try skip); (try k_sweep); (try dsimp only); (try k_fold)))
    | (k_dflt (refine' useO (hi_con w mean mg mb _ _ _ _ ?hh) ?k1 ?k2 ?k3 ?k4 ?k5 ?kK ?kH ?k8 ?k9 ?_; (case hh => assumption); (case k1 => assumption); (case k2 => k_asm); (case k3 => k_asm); (case k4 => k_asm); (case k5 => k_asm); (case kK => first | exact rfl | assumption); (case kH => kcf_all); (case k8 => ktr_room); (case k9 => ktr_units); (intro l9 o9 h9 tk9 F9 N9 d9 hp9); (have d8 := d9); (try skip); (try k_sweep); (try dsimp only); (try k_fold)))
    | (k_dflt (refine' useO (lo_con w mean mg mb _ _ _ _) ?k1 ?k2 ?k3 ?k4 ?k5 ?kK ?kH ?k8 ?k9 ?_; (case k1 => assumption); (case k2 => k_asm); (case k3 => k_asm); (case k4 => k_asm); (case k5 => k_asm); (case kK => first | exact rfl | assumption); (case kH => kcf_all); (case k8 => ktr_room); (case k9 => ktr_units); (intro l9 o9 h9 tk9 F9 N9 d9 hp9); (have d8 := d9); (try skip); (try k_sweep); (try dsimp only); (try k_fold))))
  k_with "STEP9" => ((try dsimp only); refine' NwEnd.go ?eH _ _ _ _ _ ?eF ?eN ?eS ?eD ?eP; (case eH => with_reducible assumption); (case eF => k_asm); (case eN => k_asm); (case eS => kcf_all); (case eD => first | assumption | exact fun p hp => ‹∀ p ∈ (_ :: _), p.1 ≠ _› p (by kcf_m) | exact fun p hp => Nat.ne_of_lt (‹∀ p ∈ (_ :: _), p.1 < _› p (by kcf_m))); (case eP => first | assumption | exact ⟨_, _, rfl, by assumption⟩))
  k_with "Split9" => (rcases hpar9 with ⟨hq8, hq9⟩ | ⟨hq8, hq9⟩ <;> refine ne_known hq8 ?_)
  k_with "FinA9" => (intro ysA nwA subA hTA; unfold LCg.FinA; intro DA hpA tkA FA NA oA; (have hwA : (wd, _) ∈ nwA := subA (wd, listOf vd.toArray nd) (by k_mem)); (have hhA : (l9, o9) ∈ nwA := subA _ (by k_mem)); (try dsimp only))
  k_with "FinB9" => (intro ysB nwB subB hTB; unfold LCg.FinA; intro DB hpB tkB FB NB oB; (have hwB := subB _ (List.mem_cons_of_mem _ hwA)); (have hhB := subB _ (List.mem_cons_of_mem _ hhA)); (have hDA := subB _ List.mem_cons_self); (replace hTA := hTA.mono (fun p hp => subB _ (List.mem_cons_of_mem _ hp))); (try dsimp only))
  k_with "FinC9" => (intro BB VV nn hVz hinj hoffB; unfold LCg.FinA; intro DC hpC tkC FC NC oC; (try dsimp only))
  refine wpAny_call ?_
  k_dflt (refine' con_callM (fun y => if y = Str.ofString "words" then some (.ref wd) else none) ?k1 ?k2 ?k3 ?k4 ?k5 ?kH ?kA ?kF ?kK ?k6 ?k7 ?k8 ?k9 ?kB ?km ?_ ?c2 ?c3 ?c4 ?c5; (case kA => exact rfl); (case kF => exact rfl); (case kK => assumption); (case k1 => assumption); (case k2 => assumption); (case k3 => assumption); (case k4 => assumption); (case k5 => assumption); (case kH => assumption); (case k6 => k_is); (case k7 => k_is); (case k8 => ktr_room); (case k9 => exact BindsTo.of_eq rfl); (case c5 => decide); (case kB => exact locs rfl); (case km => exact (lookM_eq _).trans (by with_unfolding_all rfl)); (case c2 => exact rfl); (case c3 => exact rfl); (case c4 => exact rfl); k_whole; intro g' L' h' F' N' B' X' T' G' l1'; (refine anyQ (Q0 := Q) ?hq9 ?_; (case hq9 => (intro v9 s9 h9; exact h9)); intro Q9 hQ9); (refine noE ?_); (refine letEA ?_); (intro e9 A9); (try dsimp only); (try k_fold))
  k_steps
  have hoC := off1_mem oC
  obtain ⟨T, hT⟩ : ∃ T, T = (DC, listOf [Value.ref (BB 0), Value.ref (BB 1), Value.ref (BB 2), Value.ref (BB 3), Value.ref (BB 4)].toArray 5) :: (DB, LCg.lst ysB) :: nwB := ⟨_, rfl⟩
  have hrr : (DC, listOf [Value.ref (BB 0), Value.ref (BB 1), Value.ref (BB 2), Value.ref (BB 3), Value.ref (BB 4)].toArray 5) ∈ T := by rw [hT]; exact List.mem_cons_self
  have hfl : (DA, listOf ysA.toArray ysA.length) ∈ T := by rw [hT]; exact List.mem_cons_of_mem _ (List.mem_cons_of_mem _ hDA)
  have hsl : (DB, listOf ysB.toArray ysB.length) ∈ T := by rw [hT]; exact List.mem_cons_of_mem _ List.mem_cons_self
  have hwh : (l9, o9) ∈ T := by rw [hT]; exact List.mem_cons_of_mem _ (List.mem_cons_of_mem _ hhB)
  have hwd : (wd, listOf vd.toArray nd) ∈ T := by rw [hT]; exact List.mem_cons_of_mem _ (List.mem_cons_of_mem _ hwB)
  have hTA2 := hTA.mono (nw' := T) (fun p hp => by rw [hT]; exact List.mem_cons_of_mem _ (List.mem_cons_of_mem _ hp))
  have hTB2 := hTB.mono (nw' := T) (fun p hp => by rw [hT]; exact List.mem_cons_of_mem _ (List.mem_cons_of_mem _ hp))
  have hoffT : ∀ k, k < 5 → ∀ p ∈ T, p.1 ≠ BB k := fun k hk p hp => by
    rw [hT] at hp
    rcases List.mem_cons.mp hp with rfl | hp
    · exact Ne.symm (hoC _ (rowsL_at hk))
    · exact hoffB k hk p hp
  have hwdC : wd ≠ DC := hoC _ (rowsL_tail (List.mem_cons_of_mem _ hwB))
  k_dflt (refine' forR0 (n := 5) (qJ BB nn (qM0 DC DB DA l9 wd) T XX) ?hE rfl ?hstep ?hfin _ (rowsL BB VV nn T) _ _ ?hj ?hF ?hN ?hoff)
  case hE => first | exact PassesOwn.never | passes_own | with_unfolding_all passes_own
  case hF => k_asm
  case hN => exact news_sub (by assumption) (hT ▸ perm1)
  case hoff =>
    intro p hp
    rw [hT] at hp
    exact Nat.ne_of_lt ((show ∀ p ∈ (DC, LCg.lst [Value.ref (BB 0), Value.ref (BB 1), Value.ref (BB 2), Value.ref (BB 3), Value.ref (BB 4)]) :: rowsL BB VV nn ((DB, LCg.lst ysB) :: nwB), p.1 < _ by assumption) p (perm3 p hp))
  case hj => exact ⟨none, none, none, VV, qM_none _ rfl rfl rfl, rfl, fun j hj => (MM_zero _ j) ▸ hVz j hj⟩
  all_goals clear hVz hoffB oC oA oB hTA hTB hDA hwA hhA hwB hhB subA subB
  case hfin =>
    intro m1 nw h tk hj F1 N1
    obtain ⟨ma, mb9, mm, V1, rfl, rfl, hV1⟩ := hj
    (try dsimp only)
    k_steps
    (try refine hQ9 _ _ ?_); (try dsimp only); (try k_unfold); (try dsimp only)
    refine retN ((DC, listOf [Value.ref (BB 0), Value.ref (BB 1), Value.ref (BB 2), Value.ref (BB 3), Value.ref (BB 4)].toArray 5) :: rowsL BB V1 nn []) F N hret G' F1 N1 ?_ ?_ ?_ ?_
    · intro p hp
      rw [List.mem_singleton.mp hp]
      exact rowsL_tail hwd
    · intro p hp
      rcases List.mem_cons.mp hp with rfl | hp
      · exact rowsL_tail hrr
      · exact rowsL_grow hp
    · intro p hp q hq
      rw [List.mem_singleton.mp hq]
      rcases List.mem_cons.mp hp with rfl | hp
      · exact hwdC
      · exact rowsL_all (P := fun b => wd ≠ b) (fun k hk => hoffT k hk _ hwd) (List.forall_mem_nil _) p hp
    · exact ⟨DC, _, 5, rfl, List.mem_cons_self, rfl, rowsIn_B hV1⟩
  case hstep =>
    intro i t m1 nw I o s1 Q8 hi5 hj F1 N1 off1 hQ8
    obtain ⟨ma, mb9, mm, V1, rfl, rfl, hV1⟩ := hj
    k_steps
    k_dflt (refine' forR0 (n := i) (qK BB nn (qM0 DC DB DA l9 wd) (some (.int (i : Int) t)) ((I, o) :: T) XX i) ?hE2 rfl ?hs2 ?hf2 _ (rowsL BB V1 nn ((I, o) :: T)) _ _ ?hj2 ?hF2 ?hN2 ?hoff2)
    case hE2 => first | passes_own | with_unfolding_all passes_own
    case hF2 => k_asm
    case hN2 => exact news_sub (by assumption) (fun p hp => List.mem_cons.mpr ((List.mem_cons.mp hp).imp id (perm3 p)))
    case hoff2 => exact fun p hp => Nat.ne_of_lt ((show ∀ p ∈ (I, o) :: rowsL BB V1 nn T, p.1 < _ by assumption) p (perm3 p hp))
    case hj2 => exact ⟨mb9, mm, V1, qM_a _ _ _ _ _, rfl, hV1⟩
    case hf2 =>
      intro m2 nw2 h2 tk2 hj2 F2 N2
      obtain ⟨mb2, mm2, V2, rfl, rfl, hV2⟩ := hj2
      (try dsimp only)
      k_steps
      (try dsimp only)
      refine LEnd.fin hQ8 (rowsL BB V2 nn T) F2 N2 perm2 (rowsL_all (P := fun b => b ≠ I) (rowsL_B (P := fun b => b ≠ I) off1) (fun p hp => off1 p (rowsL_tail hp))) ⟨_, _, _, V2, rfl, rfl, (MM_next _ i) ▸ hV2⟩
    case hs2 =>
      intro b t2 m2 nw2 I2 o2 s2 Q7 hbi hj2 F2 N2 off2 hQ7
      obtain ⟨mb2, mm2, V2, rfl, rfl, hV2⟩ := hj2
      have hb5 : b < 5 := Nat.lt_trans hbi hi5
      have hm7 := marks7 (hX i hi5) (hX b hb5)
      have hn8 := hm7.1
      have hn9 := hm7.2
      have hpar9 := par9 (q := qdue (XX i) (XX b)) hn9 (by rw [qdue_pc, ← hn8])
      clear hm7
      generalize (pc (XX i) (XX b) + pc (XX b) (XX i)).toNat = n9 at hn8 hn9 hpar9
      have hI2 : ∀ k, k < 5 → BB k ≠ I2 := rowsL_B (P := fun b => b ≠ I2) off2
      have hoffI : ∀ k, k < 5 → ∀ p ∈ (I, o) :: T, p.1 ≠ BB k := fun k hk p hp => by
        rcases List.mem_cons.mp hp with rfl | hp
        · exact Ne.symm (rowsL_B (P := fun b => b ≠ I) off1 k hk)
        · exact hoffT k hk p hp
      k_steps
      all_goals ((try dsimp only); refine' turnQ hQ7 ?tF ?tN ?tV off2 ?tM ?tR; (case tF => k_asm); (case tN => k_asm); (case tV => assumption); (case tM => exact qM_bm _ _ _ _ _ _); (case tR => first | exact MM_yes _ hbi hi5 hq9 | exact congrArg rowM (MM_no _ hbi hq9)))
set_option maxHeartbeats 4000000 in
theorem iseof_con (w : World) (mean : ExcName → Option Value) (mg mb : Str → Option Value) (x : Int) (t1 : Tok) :
    ConV w mean mg mb 84 [.int x t1] 1 [] (fun r => r = .bool (x == 0)) := by
  w_on
  k_with_none
  k_with "K_STEPS" => (repeat' (first | (k_unfold; (try dsimp only)) | (k_end; wrow_close) | walk1 | (dsimp only; walk1) | (leave1; walk_say "STEP leave1"; try dsimp only) | ((try dsimp only); refine' CEnd.go ?eH _ _ _ ?eF ?eN ?eP; (case eH => with_reducible assumption); (case eF => k_asm); (case eN => k_asm); (case eP => (first | exact intV | exact intVc (by with_reducible assumption) | k_extra "END9"))) | ((try dsimp only); refine' CNo.go ?eH _ _ ?eF ?eN ?eP; (case eH => with_reducible assumption); (case eF => k_asm); (case eN => k_asm); (case eP => (first | with_reducible assumption | k_extra "NO9"))) | (k_extra "STEP9") | fail "no step"))
  k_with "K_MEM" => ((with_reducible ((repeat (first | exact List.mem_cons_self | refine List.mem_cons_of_mem _ ?_ | assumption)); done)))
  k_with "K_ALL" => (first | exact List.forall_mem_nil _ | (with_reducible assumption) | (refine List.forall_mem_cons.mpr ⟨by k_ne, ?_⟩; k_all) | (refine tl_lt (by with_reducible assumption) ?_; (repeat (first | exact sub_rfl | refine sub_tl ?_)); done) | (refine tl_off (by with_reducible assumption) ?_; (repeat (first | exact sub_rfl | refine sub_tl ?_)); done) | (refine tl_one (by with_reducible assumption) ?_; (repeat (first | exact sub_rfl | refine sub_tl ?_)); done) | (refine tl_I (by with_reducible assumption) ?_; (repeat (first | exact sub_rfl | refine sub_tl ?_)); done) | (refine tl_C (by with_reducible assumption) ?_; (repeat (first | exact sub_rfl | refine sub_tl ?_)); done) | (refine tl_D (by with_reducible assumption) ?_; (repeat (first | exact sub_rfl | refine sub_tl ?_)); done) | (refine tl_c1 (by with_reducible assumption) ?_; (repeat (first | exact sub_rfl | refine sub_tl ?_)); done) | (refine tl_c2 (by with_reducible assumption) ?_; (repeat (first | exact sub_rfl | refine sub_tl ?_)); done) | (refine tl_c3 (by with_reducible assumption) ?_; (repeat (first | exact sub_rfl | refine sub_tl ?_)); done))
  k_with "K_NE" => ((refine neN ?_; (try dsimp only); first | with_reducible assumption | (refine Ne.symm ?_; with_reducible assumption) | exact Nat.ne_of_lt (by with_reducible assumption) | exact Nat.ne_of_gt (by with_reducible assumption) | (refine off_a ?_; first | (refine ne_lt (by with_reducible assumption) ?_; (repeat (first | exact at_hd | refine at_tl ?_)); done) | (refine ne_off (by with_reducible assumption) ?_; (repeat (first | exact at_hd | refine at_tl ?_)); done) | (refine ne_one (by with_reducible assumption) ?_; (repeat (first | exact at_hd | refine at_tl ?_)); done) | (refine ne_I (by with_reducible assumption) ?_; (repeat (first | exact at_hd | refine at_tl ?_)); done) | (refine ne_C (by with_reducible assumption) ?_; (repeat (first | exact at_hd | refine at_tl ?_)); done) | (refine ne_D (by with_reducible assumption) ?_; (repeat (first | exact at_hd | refine at_tl ?_)); done)) | (refine off_a ?_; first | (refine ne_c1 (by with_reducible assumption) ?_; (repeat (first | exact at_hd | refine at_tl ?_)); done) | (refine ne_c2 (by with_reducible assumption) ?_; (repeat (first | exact at_hd | refine at_tl ?_)); done) | (refine ne_c3 (by with_reducible assumption) ?_; (repeat (first | exact at_hd | refine at_tl ?_)); done) | (refine ne_c4 (by with_reducible assumption) ?_; (repeat (first | exact at_hd | refine at_tl ?_)); done)) | (refine off_b ?_; first | (refine ne_c1 (by with_reducible assumption) ?_; (repeat (first | exact at_hd | refine at_tl ?_)); done) | (refine ne_c2 (by with_reducible assumption) ?_; (repeat (first | exact at_hd | refine at_tl ?_)); done) | (refine ne_c3 (by with_reducible assumption) ?_; (repeat (first | exact at_hd | refine at_tl ?_)); done) | (refine ne_c4 (by with_reducible assumption) ?_; (repeat (first | exact at_hd | refine at_tl ?_)); done)) | (refine off_b ?_; first | (refine ne_lt (by with_reducible assumption) ?_; (repeat (first | exact at_hd | refine at_tl ?_)); done) | (refine ne_off (by with_reducible assumption) ?_; (repeat (first | exact at_hd | refine at_tl ?_)); done) | (refine ne_one (by with_reducible assumption) ?_; (repeat (first | exact at_hd | refine at_tl ?_)); done) | (refine ne_I (by with_reducible assumption) ?_; (repeat (first | exact at_hd | refine at_tl ?_)); done) | (refine ne_C (by with_reducible assumption) ?_; (repeat (first | exact at_hd | refine at_tl ?_)); done) | (refine ne_D (by with_reducible assumption) ?_; (repeat (first | exact at_hd | refine at_tl ?_)); done)) | omega))
  k_with "storeName" => (first
    | (k_here; k_dflt (refine' storeX_Lm ?F ?N ?_ ?a ?b; (case a => rfl); (case b => rfl); (case F => k_asm); (case N => k_asm)); intro h' m' F' N'; (try k_sweep)))
  k_with "FinE" => (first
    | ((unfold LCg.FinE); intro D' h' tk' F' N' o1'; (try simp only [List.nil_append, List.cons_append] at N'); (try k_sweep); (try dsimp only)))
  k_with "FinA" => (first
    | ((unfold LCg.FinA); intro D' h' tk' F' N' o1'; (try simp only [List.nil_append, List.cons_append] at N'); (try k_sweep); (try dsimp only)))
  k_with "call ref" => (first
    | (k_extra "MyCall"))
  k_with "CompSrc" => (first
    | (k_extra "MySrc"))
  k_with "CompSrcT" => (first
    | (k_extra "MySrcT"))
  unfold ConV
  k_fill
  intro dp un gd cn cs a ccd cl outer A₀ base h₀ L m news s Q E B F X N T hk hhid hd hu hret
  refine wpAny_call ?_
  k_dflt (refine' con_callM (fun y => if y = Str.ofString "x" then some (.int x t1) else none) ?k1 ?k2 ?k3 ?k4 ?k5 ?kH ?kA ?kF ?kK ?k6 ?k7 ?k8 ?k9 ?kB ?km ?_ ?c2 ?c3 ?c4 ?c5; (case kA => exact rfl); (case kF => exact rfl); (case kK => assumption); (case k1 => assumption); (case k2 => assumption); (case k3 => assumption); (case k4 => assumption); (case k5 => assumption); (case kH => assumption); (case k6 => k_is); (case k7 => k_is); (case k8 => ktr_room); (case k9 => exact BindsTo.of_eq rfl); (case c5 => decide); (case kB => exact locs rfl); (case km => exact (lookM_eq _).trans (by with_unfolding_all rfl)); (case c2 => exact rfl); (case c3 => exact rfl); (case c4 => exact rfl); k_whole; intro g' L' h' F' N' B' X' T' G' l1'; (refine anyQ (Q0 := Q) ?hq9 ?_; (case hq9 => (intro v9 s9 h9; exact h9)); intro Q9 hQ9); (refine noE ?_); (refine letEA ?_); (intro e9 A9); (try dsimp only); (try k_fold))
  k_steps
  (try refine hQ9 _ _ ?_); (try dsimp only); (try k_unfold); (try dsimp only)
  ((try refine hQ9 _ _ ?_); refine' retV F N hret G' ?zf ?zn ?zs ?zp; (case zf => k_asm); (case zn => k_asm); (case zs => kcf_all))
  rfl
theorem kept_ex (lf : List Int) (d : Int) : ∃ kn : List Int, KeptIs lf d kn ∧ kn.length ≤ 32 := ⟨_, ⟨rfl⟩, keptOf_len _ _ _ _⟩
inductive LeftEx (R : List (List Int)) : Prop
  | mk : ∀ lf, LeftIs R lf → lf.length = 32 → (∀ x ∈ lf, 0 ≤ x ∧ x < 32) → LeftEx R
theorem left_ex (R : List (List Int)) (h : R.length = 5) : LeftEx R := ⟨_, ⟨rfl⟩, by rw [leftOf_len, h], left_b _⟩
theorem cleanF {g h : Heap} {L : Addr} {m : Str → Option Value} (m₀ : Str → Option Value) (F : Fr g L h m) (e : m = m₀) : Fr g L h m₀ := e ▸ F
theorem m3072 (x : Int) : 0 ≤ Int.fmod x 3072 ∧ Int.fmod x 3072 < 3072 := ⟨Int.fmod_nonneg_of_pos x (by decide), Int.fmod_lt_of_pos x (by decide)⟩
inductive Drawn6 (ns : List Int) : Prop
  | mk : ∀ (ds : List Int) (XX : Nat → Int), drawnOf ns = ds → ds.length = 6 → (ds.take 5).map (fun x => 7 + Int.fmod x 48) = [XX 0, XX 1, XX 2, XX 3, XX 4] → (∀ k, k < 5 → 0 ≤ XX k ∧ XX k < 64) → (0 ≤ ds.getD (Int.toNat 5) 0 ∧ ds.getD (Int.toNat 5) 0 < 3072) → Drawn6 ns
inductive Ints5 (ys : List Value) (a b c d e : Int) : Prop
  | mk : ∀ t0 t1 t2 t3 t4 : Tok, ys = [.int a t0, .int b t1, .int c t2, .int d t3, .int e t4] → Ints5 ys a b c d e
theorem ints5 {ys : List Value} {a b c d e : Int} (h : IntsAre ys [a, b, c, d, e]) : Ints5 ys a b c d e := by
  obtain ⟨t0, y0, rfl, h0⟩ := intsC h
  obtain ⟨t1, y1, rfl, h1⟩ := intsC h0
  obtain ⟨t2, y2, rfl, h2⟩ := intsC h1
  obtain ⟨t3, y3, rfl, h3⟩ := intsC h2
  obtain ⟨t4, y4, rfl, h4⟩ := intsC h3
  obtain rfl := intsN h4
  exact ⟨t0, t1, t2, t3, t4, rfl⟩
theorem b64 (x : Int) : 0 ≤ 7 + Int.fmod x 48 ∧ 7 + Int.fmod x 48 < 64 := by
  have h1 := Int.fmod_nonneg_of_pos x (b := 48) (by decide)
  have h2 := Int.fmod_lt_of_pos x (b := 48) (by decide)
  omega
theorem drawn6_of {ns : List Int} {d0 d1 d2 d3 d4 d5 : Int} (h : drawnOf ns = [d0, d1, d2, d3, d4, d5]) (h5 : 0 ≤ d5 ∧ d5 < 3072) : Drawn6 ns :=
  ⟨_, five (7 + Int.fmod d0 48) (7 + Int.fmod d1 48) (7 + Int.fmod d2 48) (7 + Int.fmod d3 48) (7 + Int.fmod d4 48), h, rfl, rfl, fun k hk => by
    match k, hk with
    | 0, _ => exact b64 _
    | 1, _ => exact b64 _
    | 2, _ => exact b64 _
    | 3, _ => exact b64 _
    | 4, _ => exact b64 _, h5⟩
theorem drawn6 (ns : List Int) : Drawn6 ns := by
  match ns with
  | [] => exact drawn6_of rfl (m3072 _)
  | [a] => exact drawn6_of rfl (m3072 _)
  | [a, b] => exact drawn6_of rfl (m3072 _)
  | [a, b, c] => exact drawn6_of rfl (m3072 _)
  | [a, b, c, d] => exact drawn6_of rfl (m3072 _)
  | [a, b, c, d, e] => exact drawn6_of rfl (m3072 _)
  | a :: b :: c :: d :: e :: f :: r => exact drawn6_of rfl (m3072 _)
/-- the ledger's tail, when the rows are there -/
inductive TTIs (h₀ h : Heap) (L aL aD aP : Addr) (cL cD cP : Obj) (x : Addr × Obj) (nw : List (Addr × Obj)) : Prop
  | mk : ∀ TT, News h₀ L h ((aL, cL) :: (aD, cD) :: (aP, cP) :: TT) → (∀ p ∈ TT, p.1 ≠ aL) → (∀ p ∈ TT, p.1 ≠ aD) → (∀ p ∈ TT, p.1 ≠ aP) → x ∈ TT → (∀ p ∈ nw, p ∈ TT) → TTIs h₀ h L aL aD aP cL cD cP x nw
theorem ttIs {h₀ h : Heap} {L aL aD aP : Addr} {cL cD cP : Obj} {x : Addr × Obj} {nw news : List (Addr × Obj)} (N : News h₀ L h (nw ++ news)) (d : ∀ q ∈ nw, ∀ p ∈ news, p.1 ≠ q.1) (mL : (aL, cL) ∈ news) (mD : (aD, cD) ∈ news) (mP : (aP, cP) ∈ news) (mX : x ∈ news) (nL : @Ne Nat x.1 aL) (nD : @Ne Nat x.1 aD) (nP : @Ne Nat x.1 aP) : TTIs h₀ h L aL aD aP cL cD cP x nw :=
  ⟨x :: nw, List.forall_mem_cons.mpr ⟨N _ (List.mem_append_right _ mL), List.forall_mem_cons.mpr ⟨N _ (List.mem_append_right _ mD), List.forall_mem_cons.mpr ⟨N _ (List.mem_append_right _ mP), List.forall_mem_cons.mpr ⟨N _ (List.mem_append_right _ mX), fun p hp => N p (List.mem_append_left _ hp)⟩⟩⟩⟩,
    List.forall_mem_cons.mpr ⟨nL, fun q hq e => d q hq _ mL e.symm⟩, List.forall_mem_cons.mpr ⟨nD, fun q hq e => d q hq _ mD e.symm⟩, List.forall_mem_cons.mpr ⟨nP, fun q hq e => d q hq _ mP e.symm⟩, List.mem_cons_self, fun _ h => List.mem_cons_of_mem _ h⟩
inductive T2Is (h₀ h : Heap) (L aL aD : Addr) (cL cD : Obj) (x : Addr × Obj) (os TT : List (Addr × Obj)) : Prop
  | mk : ∀ T2, News h₀ L h ((aL, cL) :: (aD, cD) :: T2) → (∀ p ∈ T2, p.1 ≠ aL) → (∀ p ∈ T2, p.1 ≠ aD) → x ∈ T2 → (∀ p ∈ os, p ∈ T2) → (∀ p ∈ TT, p ∈ T2) → T2Is h₀ h L aL aD cL cD x os TT
theorem t2Is {h₀ h : Heap} {L aL aD : Addr} {cL cD : Obj} {x : Addr × Obj} {os TT news : List (Addr × Obj)} (N : News h₀ L h (x :: (os ++ news))) (dx : ∀ p ∈ news, p.1 ≠ x.1) (d : ∀ q ∈ os, ∀ p ∈ news, p.1 ≠ q.1) (mL : (aL, cL) ∈ news) (mD : (aD, cD) ∈ news) (sub : ∀ p ∈ TT, p ∈ news) (oL : ∀ p ∈ TT, p.1 ≠ aL) (oD : ∀ p ∈ TT, p.1 ≠ aD) : T2Is h₀ h L aL aD cL cD x os TT :=
  have app : ∀ {Z : Addr} {o : Obj}, (Z, o) ∈ news → (∀ p ∈ TT, p.1 ≠ Z) → ∀ p ∈ x :: (os ++ TT), p.1 ≠ Z := fun m h => List.forall_mem_cons.mpr ⟨fun e => dx _ m e.symm, List.forall_mem_append.mpr ⟨fun q hq e => d q hq _ m e.symm, h⟩⟩
  ⟨x :: (os ++ TT), List.forall_mem_cons.mpr ⟨N _ (List.mem_cons_of_mem _ (List.mem_append_right _ mL)), List.forall_mem_cons.mpr ⟨N _ (List.mem_cons_of_mem _ (List.mem_append_right _ mD)), List.forall_mem_cons.mpr ⟨N _ List.mem_cons_self, List.forall_mem_append.mpr ⟨fun p hp => N p (List.mem_cons_of_mem _ (List.mem_append_left _ hp)), fun p hp => N p (List.mem_cons_of_mem _ (List.mem_append_right _ (sub p hp)))⟩⟩⟩⟩,
    app mL oL, app mD oD, List.mem_cons_self, fun _ h => List.mem_cons_of_mem _ (List.mem_append_left _ h), fun _ h => List.mem_cons_of_mem _ (List.mem_append_right _ h)⟩
section
variable {w : World} {mean : ExcName → Option Value} {mg mb : Str → Option Value} {f : Addr} {vs : List Value} {n : Nat} {dp un : Nat} {gd : Option (List Code)} {cn : Str} {cs : Scope} {a : Addr} {ccd : Value} {cl : List (Str × Addr)} {outer : List Env} {A₀ : Around} {base h₀ : Heap} {L : Addr} {m : Str → Option Value} {news : List (Addr × Obj)} {s : Shared} {Q E : Value → Shared → Prop}
theorem useB {sc : Addr} {post : Obj → Prop} (c : ConB w mean mg mb f sc vs n post) (B : Below A₀ base outer h₀) (F : Fr h₀ L s.heap m) (X : (hd.heap_39 w.params).In h₀) (N : News h₀ L s.heap news) (T : topP mean mg mb h₀) (hk : cs.kind = .function) (hh : h₀.IsList sc vs.toArray) (hd : dp + n < recursionLimit) (hu : un + 8 * n < cLine)
    (ret : ∀ l o h' tk', Fr h₀ L h' m → News h₀ L h' ((l, o) :: news) → (∀ p ∈ news, p.1 ≠ l) → post o → Q (.ref l) { s with heap := h', toks := tk' }) :
    wpAny (model PySem.Challenge.rw_tp0020_01.row.prog w) (ktrTop dp un gd cn cs L a ccd cl outer) (call (.ref f) [.ref sc]) Q E s := c _ _ _ _ _ _ _ _ _ _ _ _ _ _ _ _ _ _ B F X N T hk hh hd hu ret
end
noncomputable def Stop9 (pz9 : Prop) : Prop := pz9
theorem stop9 {pz9 : Prop} (h : Stop9 pz9) : pz9 := h
inductive Mark9 : Prop
  | mk : Mark9
inductive Mark8 : Prop
  | mk : Mark8
theorem eq_b {prog : Program} {w : World} {A : Around} {E : Value → Shared → Prop} {s : Shared} {a b : Addr} {xs ys : List Value} {ns ms : List Int} {Q : Value → Shared → Prop} {v : Bool} (ha : s.heap.IsList a xs.toArray) (hb : s.heap.IsList b ys.toArray) (hi : IntsAre xs ns) (hj : IntsAre ys ms) (hu : A.units + 64 < cLine) (hv : decide (ns = ms) = v) (h : Q (.bool v) s) :
    wpAny (model prog w) A (compareOp .Eq (.ref a) (.ref b)) Q E s := ke_eq_ints ha hb hi hj hu (by rw [hv]; exact h)
theorem len_b {prog : Program} {w : World} {A : Around} {E : Value → Shared → Prop} {s : Shared} {h₀ : Heap} {L l : Addr} {news : List (Addr × Obj)} {vs : List Value} {n : Nat} {ns : List Int} {c : Int} {Q : Value → Shared → Prop} (N : News h₀ L s.heap news) (hm : (l, listOf vs.toArray n) ∈ news) (hi : IntsAre vs ns) (hfit : ns.length ≤ 32) (hc : (ns.length : Int) = c) (h : ∀ t tk, Q (.int c t) { s with toks := tk }) : wpAny (model prog w) A (call (.builtin "len") [.ref l]) Q E s :=
  len_I N hm hi (Nat.lt_of_le_of_lt hfit (by decide)) (fun t tk => by rw [hc]; exact h t tk)
theorem ag_ex (lf : List Int) : ∃ ag : List Int, AgIs lf ag ∧ ag.length ≤ 32 := ⟨_, ⟨rfl⟩, by
  have h := kpf_len (agG_grows lf) (rangeKs 0 32) []
  rw [rangeKs_length] at h
  simpa using h⟩
theorem od_ex (R : List (List Int)) : ∃ od : Int, OdIs R od := ⟨_, ⟨rfl⟩⟩
theorem news4 {h₀ h : Heap} {L : Addr} {a b c d x : Addr × Obj} {rest : List (Addr × Obj)} (N : News h₀ L h (a :: b :: c :: d :: x :: rest)) : News h₀ L h [b, c, d, x] := fun p hp => N p (List.mem_cons_of_mem _ ((List.prefix_append [b, c, d, x] rest).subset hp))
theorem sub_mem {T news : List (Addr × Obj)} (h : SubL T news) : ∀ p ∈ T, p ∈ news := h
set_option maxHeartbeats 2500000 in
theorem law_holds : PySem.Challenge.rw_tp0020_01.Holds := hd (by
  k_with_none
  k_with "K_STEPS" => (repeat' (first | (k_unfold; (try dsimp only)) | (k_end; wrow_close) | walk1 | (dsimp only; walk1) | (leave1; walk_say "STEP leave1"; try dsimp only) | ((try dsimp only); refine' CEnd.go ?eH _ _ _ ?eF ?eN ?eP; (case eH => with_reducible assumption); (case eF => k_asm); (case eN => k_asm); (case eP => (first | exact intV | exact intVc (by with_reducible assumption) | k_extra "END9"))) | ((try dsimp only); refine' CNo.go ?eH _ _ ?eF ?eN ?eP; (case eH => with_reducible assumption); (case eF => k_asm); (case eN => k_asm); (case eP => (first | with_reducible assumption | k_extra "NO9"))) | (k_extra "STEP9") | fail "no step"))
  k_with "K_MEM" => ((with_reducible ((repeat (first | exact List.mem_cons_self | refine List.mem_cons_of_mem _ ?_ | assumption)); done)))
  k_with "K_ALL" => (first | exact List.forall_mem_nil _ | (with_reducible assumption) | (refine List.forall_mem_cons.mpr ⟨by k_ne, ?_⟩; k_all) | (refine tl_lt (by with_reducible assumption) ?_; (repeat (first | exact sub_rfl | refine sub_tl ?_)); done) | (refine tl_off (by with_reducible assumption) ?_; (repeat (first | exact sub_rfl | refine sub_tl ?_)); done) | (refine tl_one (by with_reducible assumption) ?_; (repeat (first | exact sub_rfl | refine sub_tl ?_)); done) | (refine tl_I (by with_reducible assumption) ?_; (repeat (first | exact sub_rfl | refine sub_tl ?_)); done) | (refine tl_C (by with_reducible assumption) ?_; (repeat (first | exact sub_rfl | refine sub_tl ?_)); done) | (refine tl_D (by with_reducible assumption) ?_; (repeat (first | exact sub_rfl | refine sub_tl ?_)); done) | (refine tl_c1 (by with_reducible assumption) ?_; (repeat (first | exact sub_rfl | refine sub_tl ?_)); done) | (refine tl_c2 (by with_reducible assumption) ?_; (repeat (first | exact sub_rfl | refine sub_tl ?_)); done) | (refine tl_c3 (by with_reducible assumption) ?_; (repeat (first | exact sub_rfl | refine sub_tl ?_)); done))
  k_with "K_NE" => ((refine neN ?_; (try dsimp only); first | with_reducible assumption | (refine Ne.symm ?_; with_reducible assumption) | exact Nat.ne_of_lt (by with_reducible assumption) | exact Nat.ne_of_gt (by with_reducible assumption) | (refine off_a ?_; first | (refine ne_lt (by with_reducible assumption) ?_; (repeat (first | exact at_hd | refine at_tl ?_)); done) | (refine ne_off (by with_reducible assumption) ?_; (repeat (first | exact at_hd | refine at_tl ?_)); done) | (refine ne_one (by with_reducible assumption) ?_; (repeat (first | exact at_hd | refine at_tl ?_)); done) | (refine ne_I (by with_reducible assumption) ?_; (repeat (first | exact at_hd | refine at_tl ?_)); done) | (refine ne_C (by with_reducible assumption) ?_; (repeat (first | exact at_hd | refine at_tl ?_)); done) | (refine ne_D (by with_reducible assumption) ?_; (repeat (first | exact at_hd | refine at_tl ?_)); done)) | (refine off_a ?_; first | (refine ne_c1 (by with_reducible assumption) ?_; (repeat (first | exact at_hd | refine at_tl ?_)); done) | (refine ne_c2 (by with_reducible assumption) ?_; (repeat (first | exact at_hd | refine at_tl ?_)); done) | (refine ne_c3 (by with_reducible assumption) ?_; (repeat (first | exact at_hd | refine at_tl ?_)); done) | (refine ne_c4 (by with_reducible assumption) ?_; (repeat (first | exact at_hd | refine at_tl ?_)); done)) | (refine off_b ?_; first | (refine ne_c1 (by with_reducible assumption) ?_; (repeat (first | exact at_hd | refine at_tl ?_)); done) | (refine ne_c2 (by with_reducible assumption) ?_; (repeat (first | exact at_hd | refine at_tl ?_)); done) | (refine ne_c3 (by with_reducible assumption) ?_; (repeat (first | exact at_hd | refine at_tl ?_)); done) | (refine ne_c4 (by with_reducible assumption) ?_; (repeat (first | exact at_hd | refine at_tl ?_)); done)) | (refine off_b ?_; first | (refine ne_lt (by with_reducible assumption) ?_; (repeat (first | exact at_hd | refine at_tl ?_)); done) | (refine ne_off (by with_reducible assumption) ?_; (repeat (first | exact at_hd | refine at_tl ?_)); done) | (refine ne_one (by with_reducible assumption) ?_; (repeat (first | exact at_hd | refine at_tl ?_)); done) | (refine ne_I (by with_reducible assumption) ?_; (repeat (first | exact at_hd | refine at_tl ?_)); done) | (refine ne_C (by with_reducible assumption) ?_; (repeat (first | exact at_hd | refine at_tl ?_)); done) | (refine ne_D (by with_reducible assumption) ?_; (repeat (first | exact at_hd | refine at_tl ?_)); done)) | omega))
  k_with "storeName" => (first
    | (k_here; k_dflt (refine' storeX_Lm ?F ?N ?_ ?a ?b; (case a => rfl); (case b => rfl); (case F => k_asm); (case N => k_asm)); intro h' m' F' N'; (try k_sweep)))
  k_with "FinE" => (first
    | ((unfold LCg.FinE); intro D' h' tk' F' N' o1'; (try simp only [List.nil_append, List.cons_append] at N'); (try k_sweep); (try dsimp only)))
  k_with "FinA" => (first
    | ((unfold LCg.FinA); intro D' h' tk' F' N' o1'; (try simp only [List.nil_append, List.cons_append] at N'); (try k_sweep); (try dsimp only)))
  k_with "call ref" => (first
    | (k_extra "MyCall")
    | (refine stop9 ?_)
    | (k_extra "MyCall"))
  k_with "CompSrc" => (first
    | (k_here; k_dflt (refine LCg.CompSrc.ledger (by rfl) (by k_asm) (by k_asm) (by k_mem) (by first | size_fits | (rw [List.size_toArray, PySem.sizeLine_eq]; (have hl9 := IntsAre.length (by assumption)); (simp only [List.length_append, List.length_map, List.length_take, List.length_drop, List.length_cons, List.length_nil] at hl9); omega)) ?_; intro g'; (refine' kcf_listQ _ (by assumption) ?zS (fun k' t' I' oI' C' oC' D' oD' m' s' E' Q1' hk' hC' hx' F' N' off' n1' n2' n3' hMark' eY' => ?_) ?_); (case zS => first | exact True.intro | assumption | exact Or.inr ⟨_, by k_mem, rfl, _, rfl⟩); kcf_last))
    | (k_extra "MySrc"))
  k_with "CompSrcT" => (first
    | (k_here; k_dflt (refine LCt.CompSrcT.range (by rfl) (by k_asm) (by k_asm) (by assumption) (by first | decide | rfl) (by first | rfl | decide) (by exact Nat.le_of_ble_eq_true rfl) ?_; intro g'; (first | k_extra "MyAg" | k_extra "MyOd")))
    | (k_extra "MySrcT"))
  k_with "exec While Compare cons nil" => (first
    | (k_here; k_dflt (refine whl_start 100 ?_)))
  k_with "newList" => (first
    | (k_here; k_dflt (refine' newList_I ?zF ?zN ?zi ?_ ?zz; (case zF => k_asm); (case zN => k_asm); (case zi => (repeat' constructor)); (case zz => exact Nat.le_of_ble_eq_true rfl); (intro l' h' vs' hi' F' N' l1'); (try k_lt l1'); (try k_sweep))))
  k_with "call builtin:len" => (first
    | (k_here; k_dflt (refine' len_b ?zN ?zm ?zi ?zf ?zc ?_; (case zN => k_asm); (case zm => k_mem); (case zi => assumption); (case zf => with_reducible assumption); (case zc => with_reducible assumption); (intro t' tk')))
    | (k_here; k_dflt (refine' len_I ?zN ?zm ?zi ?zf ?_; (case zN => k_asm); (case zm => k_mem); (case zi => assumption); (case zf => first | decide | (simp only [List.length_append, List.length_map, List.length_cons, List.length_nil]; omega)); (intro t' tk'))))
  k_with "binaryOp Add ref ref" => (first
    | (k_here; k_dflt (refine' add_I ?zF ?zN ?zm ?zp ?zi ?zj ?zz ?_; (case zF => k_asm); (case zN => k_asm); (case zm => k_mem); (case zp => k_mem); (case zi => assumption); (case zj => assumption); (case zz => (rw [PySem.sizeLine_eq]; simp only [List.length_append, List.length_map, List.length_cons, List.length_nil]; first | done | decide | omega)); (intro l' h' vs' hi' F' N' l1'); (try k_lt l1'); (try k_sweep))))
  k_with "eval ListComp" => (first
    | (k_here; (with_reducible show wpAny _ _ (eval (PySem.Expr.ListComp (PySem.Expr.ListComp _ _ _ _) _ _ _) _) _ _ _); k_dflt (refine listcomp_C (F₀ := by k_asm) (by with_unfolding_all rfl) (by rfl) (by rfl) (by decide) ?_))
    | (k_here; (with_reducible show wpAny _ _ (eval (Expr.ListComp _ [PySem.Comprehension.mk _ _ [_] _] _ _) _) _ _ _); k_dflt (refine LCt.ListComp_T (F₀ := by k_asm) (by with_unfolding_all rfl) (by decide) (by rfl) (by decide) (by rfl) ?_))
    | (k_here; (with_reducible show wpAny _ _ (eval (Expr.ListComp _ [PySem.Comprehension.mk _ _ [] _] _ _) _) _ _ _); k_dflt (refine LCg.ListComp_U (F₀ := by k_asm) (by with_unfolding_all rfl) (by decide) (by rfl) (by decide) (by rfl) ?_)))
  k_with "subscriptTail Name Slice ref ref" => (first
    | (k_here; (with_reducible show wpAny _ _ (subscriptTail _ (PySem.Expr.Slice _ _ none _) (Value.ref _) (Value.ref _)) _ _ _); k_dflt (refine' kmk_slice_ints ?zwF ?zwN ?zwl ?zwp ?zwq ?zwi ?zwm ?zwc ?_ ?zws ?zwt ?zwz; (case zwF => k_asm); (case zwN => k_asm); (case zwl => kmk_list); (case zwp => kmk_part); (case zwq => kmk_part); (case zwi => assumption); (case zwm => first | (with_reducible refine' kmk_upto ?zi1 ?zi2; (case zi1 => assumption); (case zi2 => first | decide | exact Int.natCast_nonneg _)) | (with_reducible refine' kmk_from ?zi1 ?zi2; (case zi1 => assumption); (case zi2 => first | decide | exact Int.natCast_nonneg _))); (case zwc => kmk_len); (case zws => with_unfolding_all rfl); (case zwt => kmk_pure); (case zwz => (refine' kmk_sz (by assumption) ?_; rw [PySem.sizeLine_eq]; (try simp only [List.length_append, List.length_map, List.length_take, List.length_drop, List.length_cons, List.length_nil]); omega))); intro D' ws' h' F' N' l1 hI' hC' hL'; (try simp only [Int.reduceNeg, Int.neg_neg, Int.reduceToNat] at hI' hC' hL'); (try k_lt l1); (try k_sweep)))
  k_with "compareOp Eq ref ref" => (first
    | ((fail_if_success (have hm9 : Mark8 := by with_reducible assumption)); (refine stop9 ?_))
    | (k_here; (with_reducible show wpAny _ _ (compareOp CmpOp.Eq (Value.ref _) (Value.ref _)) _ _ _); k_dflt (refine' eq_b ?za ?zb ?zi ?zj ?zu ?zd ?_; (case za => exact News.isList (by k_asm) (by k_mem)); (case zb => exact News.isList (by k_asm) (by k_mem)); (case zi => assumption); (case zj => assumption); (case zu => first | ke_room | ktr_units); (case zd => first | exact decide_eq_true (by with_reducible assumption) | exact decide_eq_false (by with_reducible assumption))))
    | (k_here; (with_reducible show wpAny _ _ (compareOp CmpOp.Eq (Value.ref _) (Value.ref _)) _ _ _); k_dflt (refine' ke_eq_ints ?za ?zb ?zi ?zj ?zu ?_; (case za => exact News.isList (by k_asm) (by k_mem)); (case zb => exact News.isList (by k_asm) (by k_mem)); (case zi => assumption); (case zj => assumption); (case zu => first | ke_room | ktr_units | (dsimp (config := { zetaDelta := true }) only; first | ke_room | ktr_units)))))
  k_with "eval Name" => (first
    | ((with_reducible show wpAny _ _ (eval (PySem.Expr.Name _ _) (cellEnv _ _ _ _ _ _)) _ _ _); k_dflt (refine' cell_name ?zN ?zc ?zm ?zd ?_ ?zk ?zx ?zb; (case zN => k_asm); (case zc => exact rfl); (case zm => k_mem); (case zd => assumption); (case zk => exact rfl); (case zx => exact rfl); (case zb => decide))))
  k_with "CellSrc" => (first
    | (k_here; k_extra "MyCell"))
  k_with "compareOp NotEq ref ref" => (first
    | (k_here; (with_reducible show wpAny _ _ (compareOp CmpOp.NotEq (Value.ref _) (Value.ref _)) _ _ _); k_extra "MyNe"))
  k_with "subscriptTail Name Name ref int" => (first
    | (k_here; k_dflt (refine' item_ints ?zN ?zm ?zi ?zb ?_; (case zN => k_asm); (case zm => k_mem); (case zi => assumption); (case zb => exact b32 (by with_reducible assumption) (by with_reducible assumption) (by with_reducible assumption)); intro t')))
  k_with "binaryOp Pow int int" => (first
    | (k_here; (with_reducible refine' pow_int_small ?kb1 ?kb2 ?kb3 ?_); (case kb1 => with_reducible assumption); (case kb2 => exact b5le (by with_reducible assumption)); (case kb3 => decide)))
  k_with "compareOp Gt int int" => (first
    | ((fail_if_success (have hm9 : Mark9 := by with_reducible assumption)); (refine stop9 ?_)))
  k_go0
  all_goals try k_fold
  rename_i w s0 s1 mg mb G Y fa o pm doc ho hg KX X V GL T B TE TW wa wb M wc wd' hcd ns hs hlay0 hL1 hr1 hl2 wA wB sc vs wC hL ra w1 r0 hI hr hc1 hc2 K0 hD h1 tk1 F0 cL cD cP dL dD dP N0 X0
  clear X0 hD G Y V GL B TE TW M hcd
  replace K0 : Below callerA s1.heap [] s1.heap := K0
  have dL1 : cL.data = .cell none := by with_unfolding_all exact dL
  have dD1 : cD.data = .cell none := by with_unfolding_all exact dD
  have dP1 : cP.data = .cell none := by with_unfolding_all exact dP
  have F1 := cleanF (fun y => if y = Str.ofString "script" then some (.ref sc) else none) F0 (by with_unfolding_all rfl)
  clear dL dD dP F0
  have hend : ∀ h' tk' m', Fr s1.heap s1.heap.objs.size h' m' → qk (.ret (.bool true)) { s1 with heap := h', toks := tk' } := fun h' tk' m' F => by wrow_close
  clear_value qk
  refine noE ?_
  clear ek
  have hlen : ns.length ≤ 63 := by omega
  obtain ⟨ds, XX, hds, hds6, hdX, hX, hd5⟩ := drawn6 ns
  obtain ⟨R, h5Q, hdR, hl5, hR01, hlI, hG⟩ := rowsQ XX
  have hX5 : ∀ x ∈ [XX 0, XX 1, XX 2, XX 3, XX 4], 0 ≤ x ∧ x < 64 := List.forall_mem_cons.mpr ⟨hX 0 (by decide), List.forall_mem_cons.mpr ⟨hX 1 (by decide), List.forall_mem_cons.mpr ⟨hX 2 (by decide), List.forall_mem_cons.mpr ⟨hX 3 (by decide), List.forall_mem_cons.mpr ⟨hX 4 (by decide), List.forall_mem_nil _⟩⟩⟩⟩⟩
  generalize s1.heap.objs.size = L0 at *
  refine letEA ?_
  intro e9 A9
  (try dsimp only)
  (try k_fold)
  k_with "MyCall" => (first
    | ((with_reducible show wpAny _ _ (call (Value.ref 89) _) _ _ _); (k_dflt (refine' useB (drawn_con w (ExcName.means s0.heap) mg mb sc vs ns hI hlen) ?k1 ?k2 ?k3 ?k4 ?k5 ?kK ?kH ?k8 ?k9 ?_; (case k1 => assumption); (case k2 => k_asm); (case k3 => k_asm); (case k4 => k_asm); (case k5 => k_asm); (case kK => first | exact rfl | assumption); (case k8 => ktr_room); (case k9 => ktr_units); (case kH => exact hL); (intro lD oD h9 tk9 F9 N9 d9 hp9); (obtain ⟨vsD, nD, rfl, hiD⟩ := hp9); (rw [hds] at hiD); (try k_sweep); (try dsimp only); (try k_fold))))
    | ((with_reducible show wpAny _ _ (call (Value.ref 94) _) _ _ _); (k_dflt (refine' useO (words_con w (ExcName.means s0.heap) mg mb lD vsD nD ds hiD hds6) ?k1 ?k2 ?k3 ?k4 ?k5 ?kK ?kH ?k8 ?k9 ?_; (case k1 => assumption); (case k2 => k_asm); (case k3 => k_asm); (case k4 => k_asm); (case k5 => k_asm); (case kK => first | exact rfl | assumption); (case k8 => ktr_room); (case k9 => ktr_units); (case kH => (repeat' (first | exact List.forall_mem_nil _ | refine List.forall_mem_cons.mpr ⟨?_, ?_⟩ | k_mem))); (intro lW oW h9 tk9 F9 N9 d9 hp9); (obtain ⟨vsW, nW, rfl, hiW⟩ := hp9); (rw [hdX] at hiW); (obtain ⟨tw0, tw1, tw2, tw3, tw4, hvW⟩ := ints5 hiW); (try k_sweep); (try dsimp only); (try k_fold))))
    | ((with_reducible show wpAny _ _ (call (Value.ref 104) _) _ _ _); (k_dflt (refine' useN (quarrels_con w (ExcName.means s0.heap) mg mb lW vsW nW XX tw0 tw1 tw2 tw3 tw4 hvW hX) ?k1 ?k2 ?k3 ?k4 ?k5 ?kK ?kH ?k8 ?k9 ?_; (case k1 => assumption); (case k2 => k_asm); (case k3 => k_asm); (case k4 => k_asm); (case k5 => k_asm); (case kK => first | exact rfl | assumption); (case k8 => ktr_room); (case k9 => ktr_units); (case kH => (repeat' (first | exact List.forall_mem_nil _ | refine List.forall_mem_cons.mpr ⟨?_, ?_⟩ | k_mem))); (intro rR nwR h9 tk9 F9 N9 d9 hp9); (obtain ⟨lR, vR, nR, rfl, mR, h5R, hRR⟩ := hp9); (obtain ⟨TT, NT, oL1, oD1, oP1, mD1, sW1⟩ := ttIs (aL := L0 + 1 + 1 + 1) (aD := L0 + 1 + 1) (aP := L0 + 1) (x := (lD, listOf vsD.toArray nD)) N9 d9 (by k_mem) (by k_mem) (by k_mem) (by k_mem) (by k_ne) (by k_ne) (by k_ne)); (replace mR := sW1 _ mR); (replace hRR := hRR.mono (R' := fun k => R.getD k []) (fun k hk => (MM_full XX hk).trans (hdR k hk)) sW1); (clear N9 d9 sW1 hvW hiW); (try k_sweep); (try dsimp only); (try k_fold))))
    | ((with_reducible show wpAny _ _ (call (Value.ref 116) _) _ _ _); (k_dflt (refine' useV (qdue_con w (ExcName.means s0.heap) mg mb _ _ _ _ ?hv9 ?hx9) ?k1 ?k2 ?k3 ?k4 ?k5 ?kK ?kH ?k8 ?k9 ?_; (case k1 => assumption); (case k2 => k_asm); (case k3 => k_asm); (case k4 => k_asm); (case k5 => k_asm); (case kK => first | exact rfl | assumption); (case k8 => ktr_room); (case k9 => ktr_units); (case hv9 => assumption); (case hx9 => exact hX5 _ (by assumption)); (case kH => (repeat' (first | exact List.forall_mem_nil _ | refine List.forall_mem_cons.mpr ⟨?_, ?_⟩ | k_mem))); (intro r9 h9 tk9 F9 N9 hp9); (obtain ⟨tq9, rfl⟩ := hp9); (try k_sweep); (try dsimp only); (try k_fold))))
    | ((with_reducible show wpAny _ _ (call (Value.ref 121) _) _ _ _); (k_dflt (refine' useO (left_con w (ExcName.means s0.heap) mg mb lR vR nR T2 (fun k => R.getD k []) h5R mR hRR hl5) ?k1 ?k2 ?k3 ?k4 ?k5 ?kK ?kH ?k8 ?k9 ?_; (case k1 => assumption); (case k2 => k_asm); (case k3 => k_asm); (case k4 => k_asm); (case k5 => k_asm); (case kK => first | exact rfl | assumption); (case k8 => ktr_room); (case k9 => ktr_units); (case kH => (refine sub_mem ?_; (repeat (first | exact sub_rfl | refine sub_tl ?_)); done)); (intro lL oL9 h9 tk9 F9 N9 d9 hp9); (obtain ⟨vsL, nL, rfl, hiL⟩ := hp9); (obtain ⟨lf, hlf, hl32, hlfb⟩ := left_ex R h5Q); (rw [hlI, hlf.e] at hiL); (try k_sweep); (try dsimp only); (try k_fold))))
    | ((with_reducible show wpAny _ _ (call (Value.ref 84) _) _ _ _); (k_dflt (refine' useV (iseof_con w (ExcName.means s0.heap) mg mb _ _) ?k1 ?k2 ?k3 ?k4 ?k5 ?kK ?kH ?k8 ?k9 ?_; (case k1 => assumption); (case k2 => k_asm); (case k3 => k_asm); (case k4 => k_asm); (case k5 => k_asm); (case kK => first | exact rfl | assumption); (case k8 => ktr_room); (case k9 => ktr_units); (case kH => (repeat' (first | exact List.forall_mem_nil _ | refine List.forall_mem_cons.mpr ⟨?_, ?_⟩ | k_mem))); (intro r9 h9 tk9 F9 N9 hp9); (subst hp9); (try k_sweep); (try dsimp only); (try k_fold))))
    | ((with_reducible show wpAny _ _ (call (Value.ref 133) _) _ _ _); (k_dflt (refine' useO (kept_con w (ExcName.means s0.heap) mg mb lL vsL nL lf _ _ _ _ hiL hl32 hlfb) ?k1 ?k2 ?k3 ?k4 ?k5 ?kK ?kH ?k8 ?k9 ?_; (case k1 => assumption); (case k2 => k_asm); (case k3 => k_asm); (case k4 => k_asm); (case k5 => k_asm); (case kK => first | exact rfl | assumption); (case k8 => ktr_room); (case k9 => ktr_units); (case kH => (repeat' (first | exact List.forall_mem_nil _ | refine List.forall_mem_cons.mpr ⟨?_, ?_⟩ | k_mem))); (intro lK oK9 h9 tk9 F9 N9 d9 hp9); (obtain ⟨vsK, nK, rfl, hiK⟩ := hp9); (obtain ⟨kn, hkn, hkl⟩ := kept_ex lf (ds.getD (Int.toNat 5) 0)); (rw [hkn.e] at hiK); (try k_sweep); (try dsimp only); (try k_fold))))
    | ((with_reducible show wpAny _ _ (call (Value.ref 138) _) _ _ _); (k_dflt (refine' useV (paired_con w (ExcName.means s0.heap) mg mb lU us us.length T2 (fun k => R.getD k []) _ _ mU hRU hl5 ?hv9 hR01) ?k1 ?k2 ?k3 ?k4 ?k5 ?kK ?kH ?k8 ?k9 ?_; (case k1 => assumption); (case k2 => k_asm); (case k3 => k_asm); (case k4 => k_asm); (case k5 => k_asm); (case kK => first | exact rfl | assumption); (case k8 => ktr_room); (case k9 => ktr_units); (case hv9 => exact b5 (by with_reducible assumption) (by with_reducible assumption)); (case kH => (refine sub_mem ?_; (repeat (first | exact sub_rfl | refine sub_tl ?_)); done)); (intro r9 h9 tk9 F9 N9 hp9); (obtain ⟨tq9, rfl⟩ := hp9); (try k_sweep); (try dsimp only); (try k_fold)))))
  k_with "MyAg" => ((with_reducible show LCt.CompRestT _ _ _ _ _ _ _ _ (PySem.Expr.Name _ _) _ _ _ _ _ _ _ _ _ _ _); (k_dflt (refine' kci_rangeQ (G := agG lf) (fun k => lf.getD k.toNat 0 = 0) (fun k => k) (fun _ _ h => if_pos (beq_iff_eq.mpr h)) (fun _ _ h => if_neg (fun e => h (beq_iff_eq.mp e))) (agG_grows lf) True.intro (fun kA tA IA oIA CA oCA DA oDA mA sA EA QA1 QA2 hloA hhiA hCA hxA FA NA offA nA1 nA2 nA3 hMarkA eYA eNA => ?_) ?_); kcf_last))
  k_with "MyOd" => (k_dflt (refine' kci_rangeQ (G := odG (fun k => R.getD k [])) (fun k => pairedOf (fun k => R.getD k []) k = 1) (fun k => 2 ^ k.toNat) (fun _ _ h => if_pos h) (fun _ _ h => if_neg h) (odG_grows _) True.intro (fun kA tA IA oIA CA oCA DA oDA mA sA EA QA1 QA2 hloA hhiA hCA hxA FA NA offA nA1 nA2 nA3 hMarkA eYA eNA => ?_) ?_); kcf_last)
  k_with "MyNe" => k_dflt (refine' ne_rowsR (T := T2) ?zN ?zS mR mU h5R h5U hRR hRU ?zu ?_; (case zN => k_asm); (case zS => (refine sub_mem ?_; (repeat (first | exact sub_rfl | refine sub_tl ?_)); done)); (case zu => first | ke_room | ktr_units))
  k_with "STEP9" => ((try dsimp only); refine' CellEnd.go ?eH _ _ _ _ ?eF ?eN ?eD ?eP; (case eH => with_reducible assumption); (case eF => k_asm); (case eN => k_asm); (case eD => assumption); (case eP => exact ⟨_, _, rfl, by assumption⟩))
  k_with "MyCell" => ((rename IntsAre _ (List.map _ (List.take 5 ds)) => hiP); (rw [hdX] at hiP); (have hszP := Nat.le_trans (Nat.le_of_eq hiP.length) (show 5 ≤ sizeLine by rw [PySem.sizeLine_eq]; decide)); (k_dflt (refine' CellSrc.mk (dueL XX) rfl ?kF9 ?kN9 ?km9 hiP hszP hX5 ?kt9 ?kf9; (case kF9 => k_asm); (case kN9 => k_asm); (case km9 => k_mem))); (focus (skip; (repeat (rename (∀ p : Addr × Obj, p ∈ _ → p.1 ≠ _) => hx9; clear hx9)); (repeat (rename (∀ p : Addr × Obj, p ∈ _ → p.1 < _) => hx9; clear hx9)); (repeat (rename @Ne Nat _ _ => hx9; clear hx9)); (repeat (rename @LT.lt Nat _ _ _ => hx9; clear hx9)); (repeat (rename LCg.Off1 _ _ => hx9; clear hx9)); unfold CellTurn; intro kv tv I' oI' C' oC' K' oK' D' oD' nw' s' E' Q1' hk' hoK' F' N' o1 o2 o3 o4 ne1 ne2 ne3 ne4 ne5 ne6 sub' eY'; (have mA := sub' _ List.mem_cons_self); (have mP := sub' (L0 + 1, _) (by repeat (first | exact List.mem_cons_self | refine List.mem_cons_of_mem _ ?_))); clear sub'; (try dsimp only))); rotate_left; (focus (intro os lU hpU tkU hPU eU FU NU; (obtain ⟨h5U, hRU, oU⟩ := rowsP_in hPU); (clear hPU); (generalize refsOf os = us at h5U hRU NU); (obtain ⟨T2, NV, oL, oD, mU, sO, sT⟩ := t2Is (aL := L0 + 1 + 1 + 1) (aD := L0 + 1 + 1) (cL := cL) (cD := cD) (TT := TT) NU eU oU (by k_mem) (by k_mem) (by (refine sub_mem ?_; (repeat (first | exact sub_rfl | refine sub_tl ?_)); done)) oL1 oD1); (replace mR := sT _ mR); (replace hRR := hRR.mono (fun _ _ => rfl) sT); (replace hRU := hRU.mono hdR sO); (replace mD1 := sT _ mD1); (clear sO sT NU eU oU); (have oDL := And.intro oD oL); (clear oD oL); (repeat (rename (∀ p : Addr × Obj, p ∈ _ → p.1 ≠ _) => hx9; clear hx9)); (repeat (rename (∀ p : Addr × Obj, p ∈ _ → p.1 < _) => hx9; clear hx9)); (repeat (rename @Ne Nat _ _ => hx9; clear hx9)); (repeat (rename @LT.lt Nat _ _ _ => hx9; clear hx9)); (repeat (rename LCg.Off1 _ _ => hx9; clear hx9)); (have oD := oDL.1); (have oL := oDL.2); (clear oDL); (have oN : @Ne Nat (L0 + 1 + 1) (L0 + 1 + 1 + 1) := Nat.ne_of_lt (Nat.lt_succ_self _)); (try dsimp only); (try k_sweep))))
  k_steps
  rename News _ _ _ _ => NZ
  replace NZ := news4 NZ
  (repeat (rename (∀ p : Addr × Obj, p ∈ _ → p.1 ≠ _) => hx9; clear hx9)); (repeat (rename (∀ p : Addr × Obj, p ∈ _ → p.1 < _) => hx9; clear hx9)); (repeat (rename @Ne Nat _ _ => hx9; clear hx9)); (repeat (rename @LT.lt Nat _ _ _ => hx9; clear hx9)); (repeat (rename LCg.Off1 _ _ => hx9; clear hx9))
  rename IntsAre _ (List.foldl (odG _) [] _) => hOd
  clear hOd
  rename IntsAre _ (List.foldl (agG lf) [] _) => hAg
  obtain ⟨ag, hag, hagl⟩ := ag_ex lf
  rename List.length _ = List.length (List.foldl (odG _) [] _) => hx9; clear hx9
  rename List.length _ = List.length (List.foldl (agG lf) [] _) => hx9; clear hx9
  replace hAg : IntsAre _ ((rangeKs 0 32).foldl (agG lf) []) := hAg
  rw [hag.e] at hAg
  (try clear hx9); clear hI hr hc1 hlfb hRR hRU hl5 hR01
  have mk9 : Mark9 := .mk
  unfold Stop9
  have m0 := law_math (od := (List.foldl (odG fun k => R.getD k []) [] (rangeKs 0 ((5 + 0 - Nat.succ 0) / 1 + 1))).sum) hG hlf hag hkn ⟨rfl⟩ hd5
  have m1 := m0.1
  have m2 := m0.2.1
  have m3 := m0.2.2
  clear m0
  clear hG hlf hag hkn hds hd5
  k_steps
  · have e0 := m1 (by assumption)
    have e1 := e0.1
    have e2 := e0.2
    clear e0
    clear m1 m2 m3
    unfold Stop9
    have mk8 : Mark8 := .mk
    k_steps
    exact hend _ _ _ (by k_asm)
  · by_cases e1 : lf = (List.replicate (Int.toNat 32) [0]).flatten
    · have e0 := m2 (by assumption) e1
      have e2 := e0.1
      have e3 := e0.2
      clear e0
      clear m1 m2 m3
      unfold Stop9
      have mk8 : Mark8 := .mk
      k_steps
      exact hend _ _ _ (by k_asm)
    · have e0 := m3 (by assumption) e1
      have e2 := e0.1
      have e3 := e0.2
      clear e0
      clear m1 m2 m3
      unfold Stop9
      have mk8 : Mark8 := .mk
      k_steps
      exact hend _ _ _ (by k_asm))

end Mine
theorem PySem.Challenge.cw_tp0020_01_holds : PySem.Challenge.rw_tp0020_01.Holds := by
  exact Mine.law_holds
