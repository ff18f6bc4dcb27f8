import PyProof.Rows.All
import Wide.All
import OpenK.AllK
import Wide.FinOn
import PySem.Challenge.RW_tp0020_01
open PySem PySem.W PyProof.Rows PySem.Calls
set_option Elab.async false
set_option maxRecDepth 100000
set_option linter.all false
namespace Mine
set_option maxRecDepth 100000 in
set_option maxHeartbeats 8000000 in
open_top hd for PySem.Challenge.rw_tp0020_01
end Mine
namespace Mine
/-- what a callee's base g keeps of the caller's heap H: all but the handed objects, which stand on its ledger -/
structure GOut (H g : Heap) (hid : List (Addr × Obj)) : Prop where
  old : ∀ b o, H.get? b = some o → b ∉ hid.map (·.1) → g.get? b = some o
  at' : ∀ p ∈ hid, H.get? p.1 = some p.2

section
variable {prog : Program} {w : World} {A₀ A : Around} {s : Shared} {base h₀ : Heap} {outer : List Env} {L : Addr} {m : Str → Option Value} {env : Env} {K : Frag} {p : Program} {loose : List Str} {mean : ExcName → Option Value} {mg mb : Str → Option Value}
  {R : Result → Shared → Prop} {name qual : Str} {params : Arguments} {body : List Stmt} {scope : Scope} {dV kV doc pm cdv ct oc : Value} {an od : Option Addr} {osl : Array (Option Value)} {f : Addr} {args : Args} {binds : List (Str × Value)} {news hid : List (Addr × Obj)}
theorem con_call (B : Below A₀ base outer h₀) (F : Fr h₀ L s.heap m) (X₀ : K.In h₀) (N : News h₀ L s.heap news) (T : Top p loose mean mg mb h₀) (hs : ∀ p ∈ hid, p ∈ news) (hA : A.frames = some (env :: outer)) (hf : env.frame = some L) (hke : env.scope.kind = .function)
    (ho : K.lookup f = some ⟨oc, od, .func (fnOf name qual params body scope dV kV doc pm an cdv ct), osl⟩) (hcd : codeIn K cdv qual = true) (hroom : A.depth < recursionLimit)
    (hbind : BindsTo s (fnOf name qual params body scope dV kV doc pm an cdv ct) args binds) (hloc : ∀ y ∈ binds, scope.names.lookup y.1 = some .local)
    (h : ∀ g L' h₁, Fr g L' h₁ (fun y => binds.reverse.lookup y) → News g L' h₁ hid → Below A base (env :: outer) g → K.In g → Top p loose mean mg mb g → GOut s.heap g hid → (∀ p ∈ hid, p.1 < L') →
      wpAny (model prog w) (A.deeper (envOf qual scope L' f cdv)) (execs body (envOf qual scope L' f cdv))
        (fun fl s' => R (.ok (.ret (match fl with | .ret v => v | _ => .none))) s')
        (fun e s' => wpAny (model prog w) (A.deeper (envOf qual scope L' f cdv)) (leaving (envOf qual scope L' f cdv) e) (fun _ s'' => R (.error e) s'') (fun e' s'' => R (.error e') s'') s')
        { s with heap := h₁, toks := s.toks + binds.length })
    (hco : scope.isCoroutine = false) (hgen : scope.isGenerator = false) (hk : scope.kind = .function) (hcell : ∀ x ∈ scope.names, x.2 ≠ .cell) : codeAny (model prog w) A (.call (.ref f) args) R s := by
  have N : News h₀ L s.heap hid := fun p hp => N p (hs p hp)
  obtain ⟨FG, BG, st, lv⟩ := groundX (R := R) B F N hA hf hke
  refine codeAny_call_def (fd := fnOf name qual params body scope dV kV doc pm an cdv ct) (body := body) (binds := binds) hroom ((X₀.keeps F.keep) _ _ ho) rfl (T.nolimit.keeps F.keep) (codeRec_of (X₀.keeps F.keep) hcd) rfl hbind hcell hloc (fun h₁ hns hk₁ => ?_) hco hgen hk
  exact h _ _ h₁ ⟨hns, fun b o e => hk₁ b o (of_hideAll _ e), Nat.le_of_eq (hideAll_size _ _)⟩
    (fun p hp => ⟨hk₁ _ _ (N p hp).1, Nat.ne_of_lt (Heap.lt_size (N p hp).1), hideAll_none _ (List.mem_map_of_mem hp)⟩) BG (X₀.keeps st) (T.keeps st) ⟨fun b o e n => hideAll_get _ e n, fun p hp => (N p hp).1⟩ fun p hp => Heap.lt_size (N p hp).1
theorem con_callC (B : Below A₀ base outer h₀) (F : Fr h₀ L s.heap m) (X₀ : K.In h₀) (N : News h₀ L s.heap news) (T : Top p loose mean mg mb h₀) (hs : ∀ p ∈ hid, p ∈ news) (hA : A.frames = some (env :: outer)) (hf : env.frame = some L) (hke : env.scope.kind = .function)
    (ho : K.lookup f = some ⟨oc, od, .func (fnOf name qual params body scope dV kV doc pm an cdv ct), osl⟩) (hcd : codeIn K cdv qual = true) (hroom : A.depth < recursionLimit)
    (hbind : BindsTo s (fnOf name qual params body scope dV kV doc pm an cdv ct) args binds) (hkind : (binds.all fun y => scope.names.lookup y.1 == some .local || scope.names.lookup y.1 == some .cell) = true)
    (hnd : ((cellsFrom 0 scope.names []).map (·.1)).Nodup)
    (h : ∀ g L' h₁ tk cells, Fr g L' h₁ (bindL (envOfC qual scope L' f cdv).kindOf binds fun _ => none) → News g L' h₁ (cells ++ hid) →
      CellsAre (bindC (envOfC qual scope L' f cdv).kindOf binds fun _ => none) (cellsFrom (L' + 1) scope.names []) cells → Below A base (env :: outer) g → K.In g → Top p loose mean mg mb g → GOut s.heap g hid → (∀ p ∈ hid, p.1 < L') →
      wpAny (model prog w) (A.deeper (envOfC qual scope L' f cdv)) (execs body (envOfC qual scope L' f cdv))
        (fun fl s' => R (.ok (.ret (match fl with | .ret v => v | _ => .none))) s')
        (fun e s' => wpAny (model prog w) (A.deeper (envOfC qual scope L' f cdv)) (leaving (envOfC qual scope L' f cdv) e) (fun _ s'' => R (.error e) s'') (fun e' s'' => R (.error e') s'') s')
        { s with heap := h₁, toks := tk })
    (hco : scope.isCoroutine = false) (hgen : scope.isGenerator = false) (hk : scope.kind = .function) : codeAny (model prog w) A (.call (.ref f) args) R s := by
  have N : News h₀ L s.heap hid := fun p hp => N p (hs p hp)
  obtain ⟨FG, BG, st, lv⟩ := groundX (R := R) B F N hA hf hke
  refine codeAny_call_function hroom ((X₀.keeps F.keep) _ _ ho) rfl hco hgen rfl (codeRec_of (X₀.keeps F.keep) hcd) (hbind _ _ _ _ ?_)
  refine wpAny_newFunctionEnv_cells hk (kindsX hkind _) fun env' he s' x => ?_
  subst he
  refine ⟨((T.nolimit.keeps F.keep)).keeps x.toInCall.keep, codeAny_func ?_⟩
  obtain ⟨h₁, tk, rfl, _⟩ := x.done
  have hk₁ := x.toInCall.keep
  obtain ⟨cells, NC, Y⟩ := Cl.news (h₀ := s.heap) (Nat.le_refl _) fun n c hm => ⟨x.cell n c (lookup_of_mem_nodup (cellsFrom_names scope.names 0 (s.heap.objs.size + 1) [] [] rfl ▸ hnd) hm), x.above n c hm⟩
  refine h _ s.heap.objs.size h₁ tk cells ⟨x.toInCall.ns, fun b o e => hk₁ b o (of_hideAll _ e), Nat.le_of_eq (hideAll_size _ _)⟩ (fun p hp => ?_) Y BG (X₀.keeps st) (T.keeps st) ⟨fun b o e n => hideAll_get _ e n, fun p hp => (N p hp).1⟩ fun p hp => Heap.lt_size (N p hp).1
  rcases List.mem_append.mp hp with hp | hp
  · refine ⟨(NC p hp).1, (NC p hp).2.1, ?_⟩
    cases q : (hideAll s.heap (hid.map (·.1))).get? p.1 with
    | none => rfl
    | some o => have := of_hideAll _ q; rw [(NC p hp).2.2] at this; cases this
  · exact ⟨hk₁ _ _ (N p hp).1, Nat.ne_of_lt (Heap.lt_size (N p hp).1), hideAll_none _ (List.mem_map_of_mem hp)⟩
end

abbrev topP (mean : ExcName → Option Value) (mg mb : Str → Option Value) (h : Heap) : Prop := Top hd.view_39 (looseW hd.view_39 [Str.ofString "EXACT_TOKEN_TYPES"]) mean mg mb h
/-- a call that hands back an int | a float | a bool | a str -/
abbrev ConV (w : World) (mean : ExcName → Option Value) (mg mb : Str → Option Value) (f : Addr) (vs : List Value) (n : Nat) (hid : List (Addr × Obj)) (post : Value → Prop) : Prop :=
  ∀ (dp un : Nat) (gd : Option (List Code)) (cn : Str) (cs : Scope) (a : Addr) (ccd : Value) (cl : List (Str × Addr)) (outer : List Env) (A₀ : Around) (base h₀ : Heap) (L : Addr) (m : Str → Option Value) (news : List (Addr × Obj)) (s : Shared) (Q E : Value → Shared → Prop),
    Below A₀ base outer h₀ → Fr h₀ L s.heap m → (hd.heap_39 w.params).In h₀ → News h₀ L s.heap news → topP mean mg mb h₀ → cs.kind = .function → (∀ p ∈ hid, p ∈ news) → dp + n < recursionLimit → un + 8 * n < cLine →
    (∀ r h' tk', Fr h₀ L h' m → News h₀ L h' news → post r → Q r { s with heap := h', toks := tk' }) →
    wpAny (model PySem.Challenge.rw_tp0020_01.row.prog w) (ktrTop dp un gd cn cs L a ccd cl outer) (call (.ref f) vs) Q E s

/-- a call that hands back a new object -/
abbrev ConO (w : World) (mean : ExcName → Option Value) (mg mb : Str → Option Value) (f : Addr) (vs : List Value) (n : Nat) (hid : List (Addr × Obj)) (post : Obj → Prop) : Prop :=
  ∀ (dp un : Nat) (gd : Option (List Code)) (cn : Str) (cs : Scope) (a : Addr) (ccd : Value) (cl : List (Str × Addr)) (outer : List Env) (A₀ : Around) (base h₀ : Heap) (L : Addr) (m : Str → Option Value) (news : List (Addr × Obj)) (s : Shared) (Q E : Value → Shared → Prop),
    Below A₀ base outer h₀ → Fr h₀ L s.heap m → (hd.heap_39 w.params).In h₀ → News h₀ L s.heap news → topP mean mg mb h₀ → cs.kind = .function → (∀ p ∈ hid, p ∈ news) → dp + n < recursionLimit → un + 8 * n < cLine →
    (∀ l o h' tk', Fr h₀ L h' m → News h₀ L h' ((l, o) :: news) → (∀ p ∈ news, p.1 ≠ l) → post o → Q (.ref l) { s with heap := h', toks := tk' }) →
    wpAny (model PySem.Challenge.rw_tp0020_01.row.prog w) (ktrTop dp un gd cn cs L a ccd cl outer) (call (.ref f) vs) Q E s

/-- a call that hands back new objects -/
abbrev ConN (w : World) (mean : ExcName → Option Value) (mg mb : Str → Option Value) (f : Addr) (vs : List Value) (n : Nat) (hid : List (Addr × Obj)) (post : Value → List (Addr × Obj) → Prop) : Prop :=
  ∀ (dp un : Nat) (gd : Option (List Code)) (cn : Str) (cs : Scope) (a : Addr) (ccd : Value) (cl : List (Str × Addr)) (outer : List Env) (A₀ : Around) (base h₀ : Heap) (L : Addr) (m : Str → Option Value) (news : List (Addr × Obj)) (s : Shared) (Q E : Value → Shared → Prop),
    Below A₀ base outer h₀ → Fr h₀ L s.heap m → (hd.heap_39 w.params).In h₀ → News h₀ L s.heap news → topP mean mg mb h₀ → cs.kind = .function → (∀ p ∈ hid, p ∈ news) → dp + n < recursionLimit → un + 8 * n < cLine →
    (∀ r nw h' tk', Fr h₀ L h' m → News h₀ L h' (nw ++ news) → (∀ q ∈ nw, ∀ p ∈ news, p.1 ≠ q.1) → post r nw → Q r { s with heap := h', toks := tk' }) →
    wpAny (model PySem.Challenge.rw_tp0020_01.row.prog w) (ktrTop dp un gd cn cs L a ccd cl outer) (call (.ref f) vs) Q E s

section
variable {h₀ g h' : Heap} {L L' : Addr} {m m' : Str → Option Value} {news news' hid : List (Addr × Obj)} {s : Shared} {Q : Value → Shared → Prop} {tk' : Nat}
theorem keepAll (G : GOut s.heap g hid) (F' : Fr g L' h' m') (N' : News g L' h' news') (hsub : ∀ p ∈ hid, p ∈ news') : ∀ b o, s.heap.get? b = some o → h'.get? b = some o := fun b o e => by
  by_cases q : b ∈ hid.map (·.1)
  · obtain ⟨p, hp, rfl⟩ := List.mem_map.mp q
    have := G.at' p hp
    rw [e] at this
    cases this
    exact (N' p (hsub p hp)).1
  · exact F'.keep _ _ (G.old _ _ e q)
theorem freshAll (G : GOut s.heap g hid) (N' : News g L' h' news') {p : Addr × Obj} (hp : p ∈ news') (hne : ∀ q ∈ hid, q.1 ≠ p.1) : s.heap.get? p.1 = none := by
  cases e : s.heap.get? p.1 with
  | none => rfl
  | some o =>
    have n : p.1 ∉ hid.map (·.1) := fun q => by
      obtain ⟨r, hr, e'⟩ := List.mem_map.mp q
      exact hne r hr e'
    have := G.old _ _ e n
    rw [(N' p hp).2.2] at this; cases this
theorem retV {post : Value → Prop} {r : Value} (F : Fr h₀ L s.heap m) (N : News h₀ L s.heap news) (hret : ∀ r h' tk', Fr h₀ L h' m → News h₀ L h' news → post r → Q r { s with heap := h', toks := tk' })
    (G : GOut s.heap g hid) (F' : Fr g L' h' m') (N' : News g L' h' news') (hsub : ∀ p ∈ hid, p ∈ news') (hp : post r) : Q r { s with heap := h', toks := tk' } :=
  have k := keepAll G F' N' hsub
  hret r h' tk' (F.keeps k) (N.grown k) hp
theorem retN {post : Value → List (Addr × Obj) → Prop} {r : Value} (nw : List (Addr × Obj)) (F : Fr h₀ L s.heap m) (N : News h₀ L s.heap news)
    (hret : ∀ r nw h' tk', Fr h₀ L h' m → News h₀ L h' (nw ++ news) → (∀ q ∈ nw, ∀ p ∈ news, p.1 ≠ q.1) → post r nw → Q r { s with heap := h', toks := tk' })
    (G : GOut s.heap g hid) (F' : Fr g L' h' m') (N' : News g L' h' news') (hsub : ∀ p ∈ hid, p ∈ news') (hnw : ∀ p ∈ nw, p ∈ news') (hne : ∀ p ∈ nw, ∀ q ∈ hid, q.1 ≠ p.1) (hp : post r nw) : Q r { s with heap := h', toks := tk' } := by
  have k := keepAll G F' N' hsub
  refine hret r nw h' tk' (F.keeps k) (fun p hp => ?_) (fun q hq p hp e => ?_) hp
  · rcases List.mem_append.mp hp with hp | hp
    · have z := N' p (hnw p hp)
      have fr := freshAll G N' (hnw p hp) (hne p hp)
      refine ⟨z.1, fun e => ?_, ?_⟩
      · obtain ⟨oL, _, _, hL, _⟩ := F.ns
        rw [show L = p.1 from e.symm] at hL
        rw [hL] at fr; cases fr
      · cases q : h₀.get? p.1 with
        | none => rfl
        | some o' => have := F.keep _ _ q; rw [fr] at this; cases this
    · exact N.grown k p hp
  · have fr := freshAll G N' (hnw q hq) (hne q hq)
    have := (N p hp).1
    rw [e, fr] at this; cases this
theorem retO {l : Addr} {o : Obj} {post : Obj → Prop} (F : Fr h₀ L s.heap m) (N : News h₀ L s.heap news)
    (hret : ∀ l o h' tk', Fr h₀ L h' m → News h₀ L h' ((l, o) :: news) → (∀ p ∈ news, p.1 ≠ l) → post o → Q (.ref l) { s with heap := h', toks := tk' })
    (G : GOut s.heap g hid) (F' : Fr g L' h' m') (N' : News g L' h' news') (hsub : ∀ p ∈ hid, p ∈ news') (hm : (l, o) ∈ news') (hne : ∀ q ∈ hid, q.1 ≠ l) (hp : post o) : Q (.ref l) { s with heap := h', toks := tk' } :=
  retN (post := fun r nw => ∃ o', nw = [(l, o')] ∧ r = .ref l ∧ post o') [(l, o)] F N
    (fun r nw h' tk' F N d hp => by obtain ⟨o', rfl, rfl, hp⟩ := hp; exact hret l o' h' tk' F N (fun p hp => d _ (List.mem_singleton.mpr rfl) p hp) hp)
    G F' N' hsub (fun p hp => by rw [List.mem_singleton.mp hp]; exact hm) (fun p hp q hq => by rw [List.mem_singleton.mp hp]; exact hne q hq) ⟨o, rfl, rfl, hp⟩
end
end Mine
namespace Mine
section
variable {w : World} {mean : ExcName → Option Value} {mg mb : Str → Option Value} {f : Addr} {vs : List Value} {n : Nat} {hid : List (Addr × Obj)}
  {dp un : Nat} {gd : Option (List Code)} {cn : Str} {cs : Scope} {a : Addr} {ccd : Value} {cl : List (Str × Addr)} {outer : List Env} {A₀ : Around} {base h₀ : Heap} {L : Addr} {m : Str → Option Value} {news : List (Addr × Obj)} {s : Shared} {Q E : Value → Shared → Prop}
theorem useO {post : Obj → Prop} (c : ConO w mean mg mb f vs n hid post) (B : Below A₀ base outer h₀) (F : Fr h₀ L s.heap m) (X : (hd.heap_39 w.params).In h₀) (N : News h₀ L s.heap news) (T : topP mean mg mb h₀) (hk : cs.kind = .function) (hh : ∀ p ∈ hid, p ∈ news) (hd : dp + n < recursionLimit) (hu : un + 8 * n < cLine)
    (ret : ∀ l o h' tk', Fr h₀ L h' m → News h₀ L h' ((l, o) :: news) → (∀ p ∈ news, p.1 ≠ l) → post o → Q (.ref l) { s with heap := h', toks := tk' }) :
    wpAny (model PySem.Challenge.rw_tp0020_01.row.prog w) (ktrTop dp un gd cn cs L a ccd cl outer) (call (.ref f) vs) Q E s := c _ _ _ _ _ _ _ _ _ _ _ _ _ _ _ _ _ _ B F X N T hk hh hd hu ret
theorem useV {post : Value → Prop} (c : ConV w mean mg mb f vs n hid post) (B : Below A₀ base outer h₀) (F : Fr h₀ L s.heap m) (X : (hd.heap_39 w.params).In h₀) (N : News h₀ L s.heap news) (T : topP mean mg mb h₀) (hk : cs.kind = .function) (hh : ∀ p ∈ hid, p ∈ news) (hd : dp + n < recursionLimit) (hu : un + 8 * n < cLine)
    (ret : ∀ r h' tk', Fr h₀ L h' m → News h₀ L h' news → post r → Q r { s with heap := h', toks := tk' }) :
    wpAny (model PySem.Challenge.rw_tp0020_01.row.prog w) (ktrTop dp un gd cn cs L a ccd cl outer) (call (.ref f) vs) Q E s := c _ _ _ _ _ _ _ _ _ _ _ _ _ _ _ _ _ _ B F X N T hk hh hd hu ret
theorem useN {post : Value → List (Addr × Obj) → Prop} (c : ConN w mean mg mb f vs n hid post) (B : Below A₀ base outer h₀) (F : Fr h₀ L s.heap m) (X : (hd.heap_39 w.params).In h₀) (N : News h₀ L s.heap news) (T : topP mean mg mb h₀) (hk : cs.kind = .function) (hh : ∀ p ∈ hid, p ∈ news) (hd : dp + n < recursionLimit) (hu : un + 8 * n < cLine)
    (ret : ∀ r nw h' tk', Fr h₀ L h' m → News h₀ L h' (nw ++ news) → (∀ q ∈ nw, ∀ p ∈ news, p.1 ≠ q.1) → post r nw → Q r { s with heap := h', toks := tk' }) :
    wpAny (model PySem.Challenge.rw_tp0020_01.row.prog w) (ktrTop dp un gd cn cs L a ccd cl outer) (call (.ref f) vs) Q E s := c _ _ _ _ _ _ _ _ _ _ _ _ _ _ _ _ _ _ B F X N T hk hh hd hu ret
end
end Mine
namespace Mine
theorem off_of {l : Addr} : ∀ {news : List (Addr × Obj)}, (∀ p ∈ news, p.1 ≠ l) → LCg.Off1 l news
  | [], _ => trivial
  | _ :: _, h => ⟨h _ List.mem_cons_self, off_of fun p hp => h p (List.mem_cons_of_mem _ hp)⟩
end Mine
namespace Mine
local macro_rules | `(tactic| walk_at "subscriptTail Name Name str int") => `(tactic| (refine item_str (by decide +kernel) (by decide +kernel) (by decide +kernel) ?_; intro _))
set_option maxHeartbeats 4000000 in
theorem parse0_con (w : World) (mean : ExcName → Option Value) (mg mb : Str → Option Value) (t1 : Tok) :
    ConV w mean mg mb 74 [.str (Str.ofString "257 \"k") t1] 1 [] (fun r => ∃ t, r = .str (Str.ofString "k") t) := by
  w_on
  k_with_none
  unfold ConV
  k_fill
  intro dp un gd cn cs a ccd cl outer A₀ base h₀ L m news s Q E B F X N T hk hhid hd hu hret
  refine wpAny_call ?_
  k_dflt (refine' con_call ?k1 ?k2 ?k3 ?k4 ?k5 ?kH ?kA ?kF ?kK ?k6 ?k7 ?k8 ?k9 ?kB ?_ ?c2 ?c3 ?c4 ?c5; (case kA => exact rfl); (case kF => exact rfl); (case kK => assumption); (case k1 => assumption); (case k2 => assumption); (case k3 => assumption); (case k4 => assumption); (case k5 => assumption); (case kH => assumption); (case k6 => k_is); (case k7 => k_is); (case k8 => ktr_room); (case k9 => exact BindsTo.of_eq rfl); (case c5 => decide); (case kB => exact locs rfl); (case c2 => exact rfl); (case c3 => exact rfl); (case c4 => exact rfl); k_whole; intro g' L' h' F' N' B' X' T' G' l1'; (try k_lt l1'); (try dsimp only); (try k_fold))
  k_steps
  (try dsimp only); (try k_unfold); (try dsimp only)
  (refine' retV F N hret G' ?zf ?zn ?zs ?zp; (case zf => k_asm); (case zn => k_asm); (case zs => kcf_all))
  exact ⟨_, rfl⟩
set_option maxHeartbeats 4000000 in
theorem parse1_con (w : World) (mean : ExcName → Option Value) (mg mb : Str → Option Value) (t1 : Tok) :
    ConV w mean mg mb 74 [.str (Str.ofString "257 \"\"k") t1] 1 [] (fun r => ∃ t, r = .str (Str.ofString "") t) := by
  w_on
  k_with_none
  unfold ConV
  k_fill
  intro dp un gd cn cs a ccd cl outer A₀ base h₀ L m news s Q E B F X N T hk hhid hd hu hret
  refine wpAny_call ?_
  k_dflt (refine' con_call ?k1 ?k2 ?k3 ?k4 ?k5 ?kH ?kA ?kF ?kK ?k6 ?k7 ?k8 ?k9 ?kB ?_ ?c2 ?c3 ?c4 ?c5; (case kA => exact rfl); (case kF => exact rfl); (case kK => assumption); (case k1 => assumption); (case k2 => assumption); (case k3 => assumption); (case k4 => assumption); (case k5 => assumption); (case kH => assumption); (case k6 => k_is); (case k7 => k_is); (case k8 => ktr_room); (case k9 => exact BindsTo.of_eq rfl); (case c5 => decide); (case kB => exact locs rfl); (case c2 => exact rfl); (case c3 => exact rfl); (case c4 => exact rfl); k_whole; intro g' L' h' F' N' B' X' T' G' l1'; (try k_lt l1'); (try dsimp only); (try k_fold))
  k_steps
  (try dsimp only); (try k_unfold); (try dsimp only)
  (refine' retV F N hret G' ?zf ?zn ?zs ?zp; (case zf => k_asm); (case zn => k_asm); (case zs => kcf_all))
  exact ⟨_, rfl⟩
set_option maxHeartbeats 4000000 in
theorem parse2_con (w : World) (mean : ExcName → Option Value) (mg mb : Str → Option Value) (t1 : Tok) :
    ConV w mean mg mb 74 [.str (Str.ofString "257 \"\"\"k") t1] 1 [] (fun r => ∃ t, r = .str (Str.ofString "\"k") t) := by
  w_on
  k_with_none
  unfold ConV
  k_fill
  intro dp un gd cn cs a ccd cl outer A₀ base h₀ L m news s Q E B F X N T hk hhid hd hu hret
  refine wpAny_call ?_
  k_dflt (refine' con_call ?k1 ?k2 ?k3 ?k4 ?k5 ?kH ?kA ?kF ?kK ?k6 ?k7 ?k8 ?k9 ?kB ?_ ?c2 ?c3 ?c4 ?c5; (case kA => exact rfl); (case kF => exact rfl); (case kK => assumption); (case k1 => assumption); (case k2 => assumption); (case k3 => assumption); (case k4 => assumption); (case k5 => assumption); (case kH => assumption); (case k6 => k_is); (case k7 => k_is); (case k8 => ktr_room); (case k9 => exact BindsTo.of_eq rfl); (case c5 => decide); (case kB => exact locs rfl); (case c2 => exact rfl); (case c3 => exact rfl); (case c4 => exact rfl); k_whole; intro g' L' h' F' N' B' X' T' G' l1'; (try k_lt l1'); (try dsimp only); (try k_fold))
  k_steps
  (try dsimp only); (try k_unfold); (try dsimp only)
  (refine' retV F N hret G' ?zf ?zn ?zs ?zp; (case zf => k_asm); (case zn => k_asm); (case zs => kcf_all))
  exact ⟨_, rfl⟩
set_option maxHeartbeats 4000000 in
theorem parse3_con (w : World) (mean : ExcName → Option Value) (mg mb : Str → Option Value) (t1 : Tok) :
    ConV w mean mg mb 74 [.str (Str.ofString "257 \"\"\"\"k") t1] 1 [] (fun r => ∃ t, r = .str (Str.ofString "\"") t) := by
  w_on
  k_with_none
  unfold ConV
  k_fill
  intro dp un gd cn cs a ccd cl outer A₀ base h₀ L m news s Q E B F X N T hk hhid hd hu hret
  refine wpAny_call ?_
  k_dflt (refine' con_call ?k1 ?k2 ?k3 ?k4 ?k5 ?kH ?kA ?kF ?kK ?k6 ?k7 ?k8 ?k9 ?kB ?_ ?c2 ?c3 ?c4 ?c5; (case kA => exact rfl); (case kF => exact rfl); (case kK => assumption); (case k1 => assumption); (case k2 => assumption); (case k3 => assumption); (case k4 => assumption); (case k5 => assumption); (case kH => assumption); (case k6 => k_is); (case k7 => k_is); (case k8 => ktr_room); (case k9 => exact BindsTo.of_eq rfl); (case c5 => decide); (case kB => exact locs rfl); (case c2 => exact rfl); (case c3 => exact rfl); (case c4 => exact rfl); k_whole; intro g' L' h' F' N' B' X' T' G' l1'; (try k_lt l1'); (try dsimp only); (try k_fold))
  k_steps
  (try dsimp only); (try k_unfold); (try dsimp only)
  (refine' retV F N hret G' ?zf ?zn ?zs ?zp; (case zf => k_asm); (case zn => k_asm); (case zs => kcf_all))
  exact ⟨_, rfl⟩
set_option maxHeartbeats 4000000 in
theorem parse4_con (w : World) (mean : ExcName → Option Value) (mg mb : Str → Option Value) (t1 : Tok) :
    ConV w mean mg mb 74 [.str (Str.ofString "257 \"\"\"\"\"k") t1] 1 [] (fun r => ∃ t, r = .str (Str.ofString "\"\"k") t) := by
  w_on
  k_with_none
  unfold ConV
  k_fill
  intro dp un gd cn cs a ccd cl outer A₀ base h₀ L m news s Q E B F X N T hk hhid hd hu hret
  refine wpAny_call ?_
  k_dflt (refine' con_call ?k1 ?k2 ?k3 ?k4 ?k5 ?kH ?kA ?kF ?kK ?k6 ?k7 ?k8 ?k9 ?kB ?_ ?c2 ?c3 ?c4 ?c5; (case kA => exact rfl); (case kF => exact rfl); (case kK => assumption); (case k1 => assumption); (case k2 => assumption); (case k3 => assumption); (case k4 => assumption); (case k5 => assumption); (case kH => assumption); (case k6 => k_is); (case k7 => k_is); (case k8 => ktr_room); (case k9 => exact BindsTo.of_eq rfl); (case c5 => decide); (case kB => exact locs rfl); (case c2 => exact rfl); (case c3 => exact rfl); (case c4 => exact rfl); k_whole; intro g' L' h' F' N' B' X' T' G' l1'; (try k_lt l1'); (try dsimp only); (try k_fold))
  k_steps
  (try dsimp only); (try k_unfold); (try dsimp only)
  (refine' retV F N hret G' ?zf ?zn ?zs ?zp; (case zf => k_asm); (case zn => k_asm); (case zs => kcf_all))
  exact ⟨_, rfl⟩
set_option maxHeartbeats 4000000 in
theorem parse5_con (w : World) (mean : ExcName → Option Value) (mg mb : Str → Option Value) (t1 : Tok) :
    ConV w mean mg mb 74 [.str (Str.ofString "257 \"\"\"\"\"\"k") t1] 1 [] (fun r => ∃ t, r = .str (Str.ofString "\"\"") t) := by
  w_on
  k_with_none
  unfold ConV
  k_fill
  intro dp un gd cn cs a ccd cl outer A₀ base h₀ L m news s Q E B F X N T hk hhid hd hu hret
  refine wpAny_call ?_
  k_dflt (refine' con_call ?k1 ?k2 ?k3 ?k4 ?k5 ?kH ?kA ?kF ?kK ?k6 ?k7 ?k8 ?k9 ?kB ?_ ?c2 ?c3 ?c4 ?c5; (case kA => exact rfl); (case kF => exact rfl); (case kK => assumption); (case k1 => assumption); (case k2 => assumption); (case k3 => assumption); (case k4 => assumption); (case k5 => assumption); (case kH => assumption); (case k6 => k_is); (case k7 => k_is); (case k8 => ktr_room); (case k9 => exact BindsTo.of_eq rfl); (case c5 => decide); (case kB => exact locs rfl); (case c2 => exact rfl); (case c3 => exact rfl); (case c4 => exact rfl); k_whole; intro g' L' h' F' N' B' X' T' G' l1'; (try k_lt l1'); (try dsimp only); (try k_fold))
  k_steps
  (try dsimp only); (try k_unfold); (try dsimp only)
  (refine' retV F N hret G' ?zf ?zn ?zs ?zp; (case zf => k_asm); (case zn => k_asm); (case zs => kcf_all))
  exact ⟨_, rfl⟩
set_option maxHeartbeats 4000000 in
theorem parse6_con (w : World) (mean : ExcName → Option Value) (mg mb : Str → Option Value) (t1 : Tok) :
    ConV w mean mg mb 74 [.str (Str.ofString "257 \"\"\"\"\"\"\"k") t1] 1 [] (fun r => ∃ t, r = .str (Str.ofString "\"\"\"k") t) := by
  w_on
  k_with_none
  unfold ConV
  k_fill
  intro dp un gd cn cs a ccd cl outer A₀ base h₀ L m news s Q E B F X N T hk hhid hd hu hret
  refine wpAny_call ?_
  k_dflt (refine' con_call ?k1 ?k2 ?k3 ?k4 ?k5 ?kH ?kA ?kF ?kK ?k6 ?k7 ?k8 ?k9 ?kB ?_ ?c2 ?c3 ?c4 ?c5; (case kA => exact rfl); (case kF => exact rfl); (case kK => assumption); (case k1 => assumption); (case k2 => assumption); (case k3 => assumption); (case k4 => assumption); (case k5 => assumption); (case kH => assumption); (case k6 => k_is); (case k7 => k_is); (case k8 => ktr_room); (case k9 => exact BindsTo.of_eq rfl); (case c5 => decide); (case kB => exact locs rfl); (case c2 => exact rfl); (case c3 => exact rfl); (case c4 => exact rfl); k_whole; intro g' L' h' F' N' B' X' T' G' l1'; (try k_lt l1'); (try dsimp only); (try k_fold))
  k_steps
  (try dsimp only); (try k_unfold); (try dsimp only)
  (refine' retV F N hret G' ?zf ?zn ?zs ?zp; (case zf => k_asm); (case zn => k_asm); (case zs => kcf_all))
  exact ⟨_, rfl⟩
end Mine
namespace Mine
def JoinF (h₀ : Heap) (L : Addr) (m : Str → Option Value) (news : List (Addr × Obj)) (x : Str) (v : UInt64) (s : Shared) (f : Flow) (s' : Shared) : Prop :=
  f = .next ∧ ∃ h' t' tk', Fr h₀ L h' (fun y => if y = x then some (.float v t') else m y) ∧ News h₀ L h' news ∧ s' = { s with heap := h', toks := tk' }
theorem JoinF.mk {h₀ h' : Heap} {L : Addr} {m : Str → Option Value} {news : List (Addr × Obj)} {x : Str} {v : UInt64} {s : Shared} {t' : Tok} {tk' : Nat} (F : Fr h₀ L h' (fun y => if y = x then some (.float v t') else m y)) (N : News h₀ L h' news) :
    JoinF h₀ L m news x v s .next { s with heap := h', toks := tk' } := ⟨rfl, h', t', tk', F, N, rfl⟩
theorem JoinF.same {h₀ h' : Heap} {L : Addr} {m : Str → Option Value} {news : List (Addr × Obj)} {x : Str} {v : UInt64} {s : Shared} {t' : Tok} {tk' : Nat} (hm : m x = some (.float v t')) (F : Fr h₀ L h' m) (N : News h₀ L h' news) :
    JoinF h₀ L m news x v s .next { s with heap := h', toks := tk' } := by
  refine ⟨rfl, h', t', tk', ?_, N, rfl⟩
  have e : (fun y => if y = x then some (.float v t') else m y) = m := funext fun y => by
    by_cases h : y = x
    · rw [if_pos h, h, hm]
    · rw [if_neg h]
  rw [e]; exact F
def ltF (v c : UInt64) : UInt64 := if (Float64.cmp v c == some Ordering.lt) = true then c else v
def gtF (v c : UInt64) : UInt64 := if (Float64.cmp v c == some Ordering.gt) = true then c else v
theorem join_lt {M : Model} {A : Around} {env : Env} {E : Value → Shared → Prop} {s : Shared} {h₀ : Heap} {L : Addr} {m : Str → Option Value} {news : List (Addr × Obj)} {x : Str} {v c : UInt64} {t : Tok} {Q : Flow → Shared → Prop} {p1 p2 p3 p4 p5 p6 p7 : Pos} {k1 k2}
    (F : Fr h₀ L s.heap m) (N : News h₀ L s.heap news) (hm : m x = some (.float v t))
    (h1 : ∀ u, u = ltF v c → wpAny M A (exec (.If (.Compare (.Name x p1) [.Lt] [.Constant (.float c) k1 p2] p3) [.Assign [.Name x p4] (.Constant (.float c) k2 p5) p6] [] p7) env) (fun f s' => JoinF h₀ L m news x u s f s') E s)
    (h2 : ∀ h' t' tk', Fr h₀ L h' (fun y => if y = x then some (.float (ltF v c) t') else m y) → News h₀ L h' news → Q .next { s with heap := h', toks := tk' }) :
    wpAny M A (exec (.If (.Compare (.Name x p1) [.Lt] [.Constant (.float c) k1 p2] p3) [.Assign [.Name x p4] (.Constant (.float c) k2 p5) p6] [] p7) env) Q E s :=
  wpAny_mono (h1 _ rfl) (fun f s' h => by obtain ⟨rfl, h', t', tk', F', N', rfl⟩ := h; exact h2 h' t' tk' F' N') fun _ _ h => h
theorem join_gt {M : Model} {A : Around} {env : Env} {E : Value → Shared → Prop} {s : Shared} {h₀ : Heap} {L : Addr} {m : Str → Option Value} {news : List (Addr × Obj)} {x : Str} {v c : UInt64} {t : Tok} {Q : Flow → Shared → Prop} {p1 p2 p3 p4 p5 p6 p7 : Pos} {k1 k2}
    (F : Fr h₀ L s.heap m) (N : News h₀ L s.heap news) (hm : m x = some (.float v t))
    (h1 : ∀ u, u = gtF v c → wpAny M A (exec (.If (.Compare (.Name x p1) [.Gt] [.Constant (.float c) k1 p2] p3) [.Assign [.Name x p4] (.Constant (.float c) k2 p5) p6] [] p7) env) (fun f s' => JoinF h₀ L m news x u s f s') E s)
    (h2 : ∀ h' t' tk', Fr h₀ L h' (fun y => if y = x then some (.float (gtF v c) t') else m y) → News h₀ L h' news → Q .next { s with heap := h', toks := tk' }) :
    wpAny M A (exec (.If (.Compare (.Name x p1) [.Gt] [.Constant (.float c) k1 p2] p3) [.Assign [.Name x p4] (.Constant (.float c) k2 p5) p6] [] p7) env) Q E s :=
  wpAny_mono (h1 _ rfl) (fun f s' h => by obtain ⟨rfl, h', t', tk', F', N', rfl⟩ := h; exact h2 h' t' tk' F' N') fun _ _ h => h
def yF (r g b : Int) : UInt64 := Float64.add (Float64.add (Float64.mul 4599075939470750515 (Float64.ofInt r)) (Float64.mul 4603489467105573601 (Float64.ofInt g))) (Float64.mul 4592590756007337001 (Float64.ofInt b))
def iF (r g b : Int) : UInt64 := Float64.sub (Float64.mul 4604840546993784750 (Float64.sub (Float64.ofInt r) (yF r g b))) (Float64.mul 4598535507515466056 (Float64.sub (Float64.ofInt b) (yF r g b)))
def qF (r g b : Int) : UInt64 := Float64.add (Float64.mul 4602318531202457272 (Float64.sub (Float64.ofInt r) (yF r g b))) (Float64.mul 4601057523306793533 (Float64.sub (Float64.ofInt b) (yF r g b)))
abbrev tupF (y i q : UInt64) (ty ti tq : Tok) : Obj := { cls := .type "tuple", data := .seq #[.float y ty, .float i ti, .float q tq] }
set_option maxHeartbeats 4000000 in
theorem yiq_con (w : World) (mean : ExcName → Option Value) (mg mb : Str → Option Value) (r g b : Int) (t1 t2 t3 : Tok) (hr : r = 0 ∨ r = 1) (hg : g = 0 ∨ g = 1) (hb : b = 0 ∨ b = 1) :
    ConO w mean mg mb 21 [.int r t1, .int g t2, .int b t3] 1 [] (fun o => ∃ ty ti tq, o = tupF (yF r g b) (iF r g b) (qF r g b) ty ti tq) := by
  w_on
  k_with_none
  unfold ConO
  k_fill
  intro dp un gd cn cs a ccd cl outer A₀ base h₀ L m news s Q E B F X N T hk hhid hd hu hret
  refine wpAny_call ?_
  k_dflt (refine' con_call ?k1 ?k2 ?k3 ?k4 ?k5 ?kH ?kA ?kF ?kK ?k6 ?k7 ?k8 ?k9 ?kB ?_ ?c2 ?c3 ?c4 ?c5; (case kA => exact rfl); (case kF => exact rfl); (case kK => assumption); (case k1 => assumption); (case k2 => assumption); (case k3 => assumption); (case k4 => assumption); (case k5 => assumption); (case kH => assumption); (case k6 => k_is); (case k7 => k_is); (case k8 => ktr_room); (case k9 => exact BindsTo.of_eq rfl); (case c5 => decide); (case kB => exact locs rfl); (case c2 => exact rfl); (case c3 => exact rfl); (case c4 => exact rfl); k_whole; intro g' L' h' F' N' B' X' T' G' l1'; (try k_lt l1'); (try dsimp only); (try k_fold))
  k_steps
  (try dsimp only); (try k_unfold); (try dsimp only)
  (refine' retO F N hret G' ?zf ?zn ?zs ?zm ?ze ?zp; (case zf => k_asm); (case zn => k_asm); (case zs => kcf_all); (case zm => k_mem); (case ze => first | assumption | k_all))
  exact ⟨_, _, _, rfl⟩
def rF (y i q : UInt64) : UInt64 := gtF (ltF (Float64.add (Float64.add y (Float64.mul 4606703976345377586 i)) (Float64.mul 4603791717925830846 q)) 0) 4607182418800017408
def gF (y i q : UInt64) : UInt64 := gtF (ltF (Float64.sub (Float64.sub y (Float64.mul 4598621754083818298 i)) (Float64.mul 4603901015759978483 q)) 0) 4607182418800017408
def bF (y i q : UInt64) : UInt64 := gtF (ltF (Float64.add (Float64.sub y (Float64.mul 4607671262177584182 i)) (Float64.mul 4610375502138591871 q)) 0) 4607182418800017408
local macro_rules | `(tactic| walk_at "exec If") => `(tactic| (with_reducible (fail_if_success (show wpAny _ _ _ (fun _ _ => JoinF _ _ _ _ _ _ _ _ _) _ _)); (first
  | ((with_reducible show wpAny _ _ (exec (Stmt.If (Expr.Compare _ [CmpOp.Lt] _ _) _ _ _) _) _ _ _); k_dflt (refine' join_lt ?F ?N ?m ?_ ?_; (case F => k_asm); (case N => k_asm); (case m => exact rfl); k_whole))
  | ((with_reducible show wpAny _ _ (exec (Stmt.If (Expr.Compare _ [CmpOp.Gt] _ _) _ _ _) _) _ _ _); k_dflt (refine' join_gt ?F ?N ?m ?_ ?_; (case F => k_asm); (case N => k_asm); (case m => exact rfl); k_whole))); (intro u' hu'); rotate_left; intro h' t' tk' F' N'; (try k_sweep); rotate_right))
theorem JoinF.lty {h₀ h' : Heap} {L : Addr} {m : Str → Option Value} {news : List (Addr × Obj)} {x : Str} {u v c : UInt64} {s : Shared} {t' : Tok} {tk' : Nat} (hu : u = ltF v c) (hc : (Float64.cmp v c == some Ordering.lt) = true)
    (F : Fr h₀ L h' (fun y => if y = x then some (.float c t') else m y)) (N : News h₀ L h' news) : JoinF h₀ L m news x u s .next { s with heap := h', toks := tk' } := by
  subst hu; unfold ltF; rw [if_pos hc]; exact JoinF.mk F N
theorem JoinF.ltn {h₀ h' : Heap} {L : Addr} {m : Str → Option Value} {news : List (Addr × Obj)} {x : Str} {u v c : UInt64} {s : Shared} {t' : Tok} {tk' : Nat} (hu : u = ltF v c) (hc : (Float64.cmp v c == some Ordering.lt) = false)
    (hm : m x = some (.float v t')) (F : Fr h₀ L h' m) (N : News h₀ L h' news) : JoinF h₀ L m news x u s .next { s with heap := h', toks := tk' } := by
  subst hu; unfold ltF; rw [hc]; exact JoinF.same hm F N
theorem JoinF.gty {h₀ h' : Heap} {L : Addr} {m : Str → Option Value} {news : List (Addr × Obj)} {x : Str} {u v c : UInt64} {s : Shared} {t' : Tok} {tk' : Nat} (hu : u = gtF v c) (hc : (Float64.cmp v c == some Ordering.gt) = true)
    (F : Fr h₀ L h' (fun y => if y = x then some (.float c t') else m y)) (N : News h₀ L h' news) : JoinF h₀ L m news x u s .next { s with heap := h', toks := tk' } := by
  subst hu; unfold gtF; rw [if_pos hc]; exact JoinF.mk F N
theorem JoinF.gtn {h₀ h' : Heap} {L : Addr} {m : Str → Option Value} {news : List (Addr × Obj)} {x : Str} {u v c : UInt64} {s : Shared} {t' : Tok} {tk' : Nat} (hu : u = gtF v c) (hc : (Float64.cmp v c == some Ordering.gt) = false)
    (hm : m x = some (.float v t')) (F : Fr h₀ L h' m) (N : News h₀ L h' news) : JoinF h₀ L m news x u s .next { s with heap := h', toks := tk' } := by
  subst hu; unfold gtF; rw [hc]; exact JoinF.same hm F N
local macro_rules | `(tactic| walk_at "JoinF") => `(tactic| k_dflt (first
  | (refine' JoinF.lty ?z1 ?z2 ?z3 ?z4; (case z1 => assumption); (case z2 => assumption); (case z4 => assumption); (case z3 => assumption))
  | (refine' JoinF.gty ?z1 ?z2 ?z3 ?z4; (case z1 => assumption); (case z2 => assumption); (case z4 => assumption); (case z3 => assumption))
  | (refine' JoinF.ltn ?z1 ?z2 ?z3 ?z4 ?z5; (case z1 => assumption); (case z2 => assumption); (case z5 => assumption); (case z4 => assumption); (case z3 => exact rfl))
  | (refine' JoinF.gtn ?z1 ?z2 ?z3 ?z4 ?z5; (case z1 => assumption); (case z2 => assumption); (case z5 => assumption); (case z4 => assumption); (case z3 => exact rfl))
  | fail "joinf"))
set_option maxHeartbeats 4000000 in
theorem rgb_con (w : World) (mean : ExcName → Option Value) (mg mb : Str → Option Value) (y i q : UInt64) (t1 t2 t3 : Tok) :
    ConO w mean mg mb 28 [.float y t1, .float i t2, .float q t3] 1 [] (fun o => ∃ ty ti tq, o = tupF (rF y i q) (gF y i q) (bF y i q) ty ti tq) := by
  w_on
  k_with_none
  unfold ConO
  k_fill
  intro dp un gd cn cs a ccd cl outer A₀ base h₀ L m news s Q E B F X N T hk hhid hd hu hret
  refine wpAny_call ?_
  k_dflt (refine' con_call ?k1 ?k2 ?k3 ?k4 ?k5 ?kH ?kA ?kF ?kK ?k6 ?k7 ?k8 ?k9 ?kB ?_ ?c2 ?c3 ?c4 ?c5; (case kA => exact rfl); (case kF => exact rfl); (case kK => assumption); (case k1 => assumption); (case k2 => assumption); (case k3 => assumption); (case k4 => assumption); (case k5 => assumption); (case kH => assumption); (case k6 => k_is); (case k7 => k_is); (case k8 => ktr_room); (case k9 => exact BindsTo.of_eq rfl); (case c5 => decide); (case kB => exact locs rfl); (case c2 => exact rfl); (case c3 => exact rfl); (case c4 => exact rfl); k_whole; intro g' L' h' F' N' B' X' T' G' l1'; (try k_lt l1'); (try dsimp only); (try k_fold))
  k_steps
  (try dsimp only); (try k_unfold); (try dsimp only)
  (refine' retO F N hret G' ?zf ?zn ?zs ?zm ?ze ?zp; (case zf => k_asm); (case zn => k_asm); (case zs => kcf_all); (case zm => k_mem); (case ze => first | assumption | k_all))
  exact ⟨_, _, _, rfl⟩
end Mine
namespace Mine
local macro_rules | `(tactic| k_lt $h:ident) => `(tactic| (replace $h := allLt_of $h; (try simp only [AllLt] at $h:ident); (repeat (obtain ⟨_, $h:ident⟩ := $h:ident)); (try clear $h)))
local macro_rules | `(tactic| walk_at "FinE") => `(tactic| ((unfold LCg.FinE); intro D' h' tk' F' N' o1'; (have oAll9 := o1'); (try simp only [LCg.Off1] at o1'); (repeat (obtain ⟨_, o1'⟩ := o1')); (try clear o1'); (try simp only [List.nil_append, List.cons_append] at N'); (try k_sweep); (try dsimp only)))
local macro_rules | `(tactic| walk_at "FinA") => `(tactic| ((unfold LCg.FinA); intro D' h' tk' F' N' o1'; (have oAll9 := o1'); (try simp only [LCg.Off1] at o1'); (repeat (obtain ⟨_, o1'⟩ := o1')); (try clear o1'); (try simp only [List.nil_append, List.cons_append] at N'); (try k_sweep); (try dsimp only)))
local macro_rules | `(tactic| k_all) => `(tactic| first | exact List.forall_mem_nil _ | (refine List.forall_mem_cons.mpr ⟨by k_ne, ?_⟩; k_all))
local macro_rules | `(tactic| k_ne) => `(tactic| (refine neN ?_; (try dsimp only); first | assumption | (refine Ne.symm ?_; assumption) | exact Nat.ne_of_lt (by assumption) | exact Nat.ne_of_gt (by assumption) | omega))
local macro_rules | `(tactic| walk_at "call ref") => `(tactic| (k_extra "MyCall"))
local macro_rules | `(tactic| walk_at "CompSrc") => `(tactic| (k_extra "MySrc"))
local macro_rules | `(tactic| walk_at "CompSrcT") => `(tactic| (k_extra "MySrcT"))
local macro_rules | `(tactic| walk_at "CompRest") => `(tactic| ((with_unfolding_all refine LCg.CompRest.succ ?_); intro v' I' oI' C' oC' D' m' h' tk' E' hv' hC' hx' F' N' off' ne'; (first | lcg_open hv' | (obtain ⟨t9', hv9'⟩ := hv'; subst hv9')); (try simp only [LCg.Off3] at off'); (repeat (obtain ⟨⟨_, _, _⟩, off'⟩ := off')); (try clear off'); (obtain ⟨_, _, _⟩ := ne')))
abbrev sumF (y1 y2 y3 : UInt64) : UInt64 := Float64.sub (Float64.add y1 y2) y3
def rndF (x : UInt64) : Int := Flt.toInt Float64.nearestOf x
set_option maxHeartbeats 4000000 in
theorem shared_con (w : World) (mean : ExcName → Option Value) (mg mb : Str → Option Value) (a1 a2 a3 : Addr) (y1 i1 q1 y2 i2 q2 y3 i3 q3 : UInt64) (t1 t2 t3 t4 t5 t6 t7 t8 t9 : Tok)
    (hr : Float64.isFinite (rF (sumF y1 y2 y3) (sumF i1 i2 i3) (sumF q1 q2 q3)) = true) (hg : Float64.isFinite (gF (sumF y1 y2 y3) (sumF i1 i2 i3) (sumF q1 q2 q3)) = true) (hb : Float64.isFinite (bF (sumF y1 y2 y3) (sumF i1 i2 i3) (sumF q1 q2 q3)) = true) :
    ConV w mean mg mb 99 [.ref a1, .ref a2, .ref a3] 2 [(a1, tupF y1 i1 q1 t1 t2 t3), (a2, tupF y2 i2 q2 t4 t5 t6), (a3, tupF y3 i3 q3 t7 t8 t9)]
      (fun r => ∃ t, r = .int (rndF (rF (sumF y1 y2 y3) (sumF i1 i2 i3) (sumF q1 q2 q3)) + rndF (gF (sumF y1 y2 y3) (sumF i1 i2 i3) (sumF q1 q2 q3)) + rndF (bF (sumF y1 y2 y3) (sumF i1 i2 i3) (sumF q1 q2 q3))) t) := by
  w_on
  k_with_none
  unfold ConV
  k_fill
  intro dp un gd cn cs a ccd cl outer A₀ base h₀ L m news s Q E B F X N T hk hhid hd hu hret
  k_with "MyCall" => (k_dflt (refine' useO (rgb_con w mean mg mb _ _ _ _ _ _) ?k1 ?k2 ?k3 ?k4 ?k5 ?kK ?kH ?k8 ?k9 ?_; (case k1 => assumption); (case k2 => k_asm); (case k3 => k_asm); (case k4 => k_asm); (case k5 => k_asm); (case kK => first | exact rfl | assumption); (case kH => kcf_all); (case k8 => ktr_room); (case k9 => ktr_units); (intro l9 o9 h9 tk9 F9 N9 d9 hp9); (obtain ⟨ty9, ti9, tq9, rfl⟩ := hp9); (replace d9 := off_of d9); (try simp only [LCg.Off1] at d9); (repeat (obtain ⟨_, d9⟩ := d9)); (try clear d9); (try k_sweep); (try dsimp only); (try k_fold)))
  k_with "MySrc" => (k_dflt (first
    | (refine LCg.CompSrc.ledger (by rfl) (by k_asm) (by k_asm) (by k_mem) (by first | size_fits | exact Nat.le_of_ble_eq_true rfl) ?_; intro g'; lcg_lit)
    | (refine LCg.CompSrc.range (by rfl) (by k_asm) (by k_asm) (by assumption) (by first | decide | rfl) (by first | rfl | decide) (by first | size_fits | exact Nat.le_of_ble_eq_true rfl) ?_; intro g'; lcg_lit)))
  refine wpAny_call ?_
  k_dflt (refine' con_callC ?k1 ?k2 ?k3 ?k4 ?k5 ?kH ?kA ?kF ?kK ?k6 ?k7 ?k8 ?k9 ?kB ?kD ?_ ?c2 ?c3 ?c4; (case kA => exact rfl); (case kF => exact rfl); (case kK => assumption); (case k1 => assumption); (case k2 => assumption); (case k3 => assumption); (case k4 => assumption); (case k5 => assumption); (case kH => assumption); (case k6 => k_is); (case k7 => k_is); (case k8 => ktr_room); (case k9 => exact BindsTo.of_eq rfl); (case kB => exact rfl); (case kD => decide +kernel); (case c2 => exact rfl); (case c3 => exact rfl); (case c4 => exact rfl); k_whole; intro g' L' h' tk' cells' F' N' Y' B' X' T' G' l1'; (try k_lt l1'); k_cells Y'; (try simp only [List.cons_append, List.nil_append] at N'); (try dsimp only); (try k_fold))
  k_steps
  (try dsimp only); (try k_unfold); (try dsimp only)
  (refine' retV F N hret G' ?zf ?zn ?zs ?zp; (case zf => k_asm); (case zn => k_asm); (case zs => kcf_all))
  exact ⟨_, rfl⟩
end Mine
namespace Mine
theorem ints_getD {vs : List Value} {ns : List Int} (hi : IntsAre vs ns) {k : Nat} (h : k < ns.length) : ∃ t, vs[k]? = some (.int (ns.getD k 0) t) := by
  induction hi generalizing k with
  | nil => exact absurd h (Nat.not_lt_zero _)
  | cons n t _ ih =>
    cases k with
    | zero => exact ⟨t, rfl⟩
    | succ k =>
      obtain ⟨t', e⟩ := ih (Nat.lt_of_succ_lt_succ h)
      exact ⟨t', by simpa using e⟩
theorem item_ints {prog : Program} {w : World} {A : Around} {E : Value → Shared → Prop} {s : Shared} {h₀ : Heap} {L l : Addr} {news : List (Addr × Obj)} {value slice : PySem.Expr} {vs : List Value} {ns : List Int} {n : Nat} {k : Int} {u : Tok} {Q : Value → Shared → Prop}
    (N : News h₀ L s.heap news) (hm : (l, listOf vs.toArray n) ∈ news) (hi : IntsAre vs ns) (hb : 0 ≤ k ∧ k < ns.length ∧ k < 2 ^ 63) (h : ∀ t, Q (.int (ns.getD k.toNat 0) t) s)
    (hs : subscripted slice false (.ref l) (.int k u) = operate [.ref l, .int k u] (getItem (.ref l) (.int k u)) := by with_unfolding_all rfl) :
    wpAny (model prog w) A (subscriptTail value slice (.ref l) (.int k u)) Q E s := by
  obtain ⟨h0, h1, h2⟩ := hb
  obtain ⟨t, e⟩ := ints_getD hi (k := k.toNat) (by omega)
  exact tail_any (N.isList hm).typeIs slot_list_getitem.lookup (wpAny_getItem_list (N.isList hm) h0 h2 (by simpa using e) (h t)) hs
theorem and_nat (a b : Nat) : Builtin.bitAnd (a : Int) (b : Int) = ((a &&& b : Nat) : Int) := by
  unfold Builtin.bitAnd
  simp
theorem and_le {a b : Int} (ha : 0 ≤ a) (hb : 0 ≤ b) : 0 ≤ Builtin.bitAnd a b ∧ Builtin.bitAnd a b ≤ a ∧ Builtin.bitAnd a b ≤ b := by
  obtain ⟨x, rfl⟩ := Int.eq_ofNat_of_zero_le ha
  obtain ⟨y, rfl⟩ := Int.eq_ofNat_of_zero_le hb
  rw [and_nat x y]
  have h1 : x &&& y ≤ x := Nat.and_le_left
  have h2 : x &&& y ≤ y := Nat.and_le_right
  omega
end Mine
namespace Mine
section
variable {prog : Program} {w : World} {A : Around} {E : Value → Shared → Prop} {s : Shared} {env : Env} {x : Str} {px : Pos} {body : List Stmt} {Q : Flow → Shared → Prop} {it : Value}
def ForRest (prog : Program) (w : World) (A : Around) (E : Value → Shared → Prop) (env : Env) (x : Str) (px : Pos) (body : List Stmt) (Q : Flow → Shared → Prop) (it : Value) (s : Shared) : Prop :=
  codeAny (model prog w) A (.forLoop (.Name x px) it body [] env) (fun r s' => match r with | .ok f => Q f s' | .error e => cameBackBy (model prog w) A env E e s') s
def ForPost (prog : Program) (w : World) (A : Around) (E : Value → Shared → Prop) (env : Env) (x : Str) (px : Pos) (body : List Stmt) (Q : Flow → Shared → Prop) (it : Value) (f : Flow) (s : Shared) : Prop :=
  match f with
  | .next => ForRest prog w A E env x px body Q it s
  | .cont => ForRest prog w A E env x px body Q it s
  | .brk => Q .next s
  | .ret v => Q (.ret v) s
theorem for_start {iter : PySem.Expr} {pos : Pos} (h : wpAny (model prog w) A (eval iter env) (fun xv s₁ => wpAny (model prog w) A (pyIter xv) (fun it s₂ => ForRest prog w A E env x px body Q it s₂) E s₁) E s)
    (hs : ∀ x, foldedSetIterable iter env x = pure x := by intro _; rfl) : wpAny (model prog w) A (exec (.For (.Name x px) iter body [] pos) env) Q E s := wpAny_For h hs
theorem for_turn (hE : PassesOwn (model prog w) A env E)
    (h : wpAny (model prog w) A (pyNext it) (fun r s₁ => match r with
      | none => Q .next s₁
      | some v => wpAny (model prog w) A (storeName env x v) (fun _ s₂ => wpAny (model prog w) A (execs body env) (ForPost prog w A E env x px body Q it) E s₂) E s₁) E s) :
    ForRest prog w A E env x px body Q it s := by
  refine codeAny_of_tree ?_
  show wpAny _ A ((forTurn (.Name x px) it body [] env).onRaise (fun x => do noteFrame x env; theTreesLotGoes x)) _ _ s
  refine wpAny_noted ?_
  simp only [forTurn]
  refine wpAny_bind (wpAny_standAt (wpAny_bind (wpAny_onRaise (wpAny_mono h (fun r s₁ h₁ => ?_) fun e s h' => wpAny_standAt (hE e s h')))))
  cases r with
  | none => exact wpAny_pure ⟨rfl, codeAny_block (wpAny_execs_nil h₁)⟩
  | some v =>
    refine wpAny_bind (wpAny_of_eq (show letOwnedTupleGo (.Name x px) it v = pure () from rfl) ?_)
    refine wpAny_bind (wpAny_assign_Name (wpAny_mono h₁ (fun _ s₂ h₂ => wpAny_bind (wpAny_mono h₂ (fun f s₃ h₃ => ?_) hE)) hE))
    cases f with
    | next => exact wpAny_pure ⟨rfl, h₃⟩
    | cont => exact wpAny_pure ⟨rfl, h₃⟩
    | brk => exact wpAny_pure h₃
    | ret v => exact wpAny_pure h₃
variable {h₀ : Heap} {L I l : Addr} {m : Str → Option Value} {news : List (Addr × Obj)}
/-- an iterator over the list at l, i items taken -/
def ItL (l : Addr) (i : Nat) (o : Obj) : Prop := o.cls = .type "list_iterator" ∧ o.data = .fields #[.ref l, .int i 0]
theorem iterL_start {vs : List Value} {n : Nat} {Q : Value → Shared → Prop} (F : Fr h₀ L s.heap m) (N : News h₀ L s.heap news) (hm : (l, listOf vs.toArray n) ∈ news)
    (h : ∀ I o h', Fr h₀ L h' m → News h₀ L h' ((I, o) :: news) → (∀ p ∈ news, p.1 < I) → ItL l 0 o → Q (.ref I) { s with heap := h' }) : wpAny (model prog w) A (pyIter (.ref l)) Q E s :=
  wpAny_pyIter_list (N.isList hm) (h _ _ _ (F.push _) (N.push F _) (fun p hp => Heap.lt_size (N p hp).1) ⟨rfl, rfl⟩)
theorem news_but1 {h h' : Heap} {oI oI' : Obj} (N : News h₀ L h ((I, oI) :: news)) (off : ∀ p ∈ news, p.1 ≠ I) (hk : ∀ b o, b ∉ [I] → h.get? b = some o → h'.get? b = some o) (e : h'.get? I = some oI') : News h₀ L h' ((I, oI') :: news) := fun p hp => by
  rcases List.mem_cons.mp hp with rfl | hp
  · exact ⟨e, (N _ List.mem_cons_self).2⟩
  · have z := N p (List.mem_cons_of_mem _ hp)
    exact ⟨hk _ _ (by simpa using off p hp) z.1, z.2⟩
theorem fr_but1 {h h' : Heap} {oI : Obj} (F : Fr h₀ L h m) (N : News h₀ L h ((I, oI) :: news)) (hk : ∀ b o, b ∉ [I] → h.get? b = some o → h'.get? b = some o) : Fr h₀ L h' m :=
  have z := N _ List.mem_cons_self
  LCg.fr_but F hk (Ne.symm z.2.1) z.2.2
theorem iterL_next {o : Obj} {i : Nat} {vs : List Value} {n : Nat} {v : Value} {Q : Option Value → Shared → Prop} (hh : A.handled = none) (F : Fr h₀ L s.heap m) (N : News h₀ L s.heap ((I, o) :: news)) (off : ∀ p ∈ news, p.1 ≠ I) (hm : (l, listOf vs.toArray n) ∈ news) (hI : ItL l i o)
    (hv : vs[i]? = some v) (h : ∀ o' h' tk', Fr h₀ L h' m → News h₀ L h' ((I, o') :: news) → ItL l (i + 1) o' → Q (some v) { s with heap := h', toks := tk' }) : wpAny (model prog w) A (pyNext (.ref I)) Q E s := by
  have hne : l ≠ I := off _ hm
  have W := Walks.list (prog := prog) (w := w) hh I l hne vs.toArray
  have hlt : i < vs.length := (List.getElem?_eq_some_iff.mp hv).1
  refine W.item i s Q E (by simpa using hlt) ⟨⟨o, (N _ List.mem_cons_self).1, hI.1, hI.2⟩, N.isList (List.mem_cons_of_mem _ hm)⟩ fun v' h' tk hP st hk => ?_
  have hv' : v' = v := by
    have : vs[i]? = some v' := by simpa using hP
    rw [hv] at this; exact (Option.some.inj this).symm
  subst hv'
  obtain ⟨o', e', c, d⟩ := st.1
  exact h o' h' tk (fr_but1 F N hk) (news_but1 N off hk e') ⟨c, d⟩
theorem iterL_done {o : Obj} {vs : List Value} {n : Nat} {Q : Option Value → Shared → Prop} (hh : A.handled = none) (F : Fr h₀ L s.heap m) (N : News h₀ L s.heap ((I, o) :: news)) (off : ∀ p ∈ news, p.1 ≠ I) (hm : (l, listOf vs.toArray n) ∈ news) (hI : ItL l vs.length o)
    (h : ∀ h' tk', Fr h₀ L h' m → News h₀ L h' news → Q none { s with heap := h', toks := tk' }) : wpAny (model prog w) A (pyNext (.ref I)) Q E s := by
  have hne : l ≠ I := off _ hm
  have W := Walks.list (prog := prog) (w := w) hh I l hne vs.toArray
  refine W.done s Q E (by rw [List.size_toArray]; exact ⟨⟨o, (N _ List.mem_cons_self).1, hI.1, hI.2⟩, N.isList (List.mem_cons_of_mem _ hm)⟩) fun h' tk hk => ?_
  refine h h' tk (fr_but1 F N hk) fun p hp => ?_
  have z := N p (List.mem_cons_of_mem _ hp)
  exact ⟨hk _ _ (by simpa using off p hp) z.1, z.2⟩
/-- the ledger less I -/
inductive Drops (I : Addr) : List (Addr × Obj) → List (Addr × Obj) → Prop
  | nil : Drops I [] []
  | skip {p r r'} : Drops I r r' → Drops I (p :: r) r'
  | keep {p r r'} : p.1 ≠ I → Drops I r r' → Drops I (p :: r) (p :: r')
theorem Drops.sub {I : Addr} {l r : List (Addr × Obj)} (D : Drops I l r) : ∀ p ∈ r, p ∈ l ∧ p.1 ≠ I := by
  induction D with
  | nil => intro p hp; cases hp
  | skip _ ih => intro p hp; exact ⟨List.mem_cons_of_mem _ (ih p hp).1, (ih p hp).2⟩
  | keep h _ ih =>
    intro p hp
    rcases List.mem_cons.mp hp with rfl | hp
    · exact ⟨List.mem_cons_self, h⟩
    · exact ⟨List.mem_cons_of_mem _ (ih p hp).1, (ih p hp).2⟩
theorem newsU {h h' : Heap} {o o' : Obj} {g : Obj → List (Addr × Obj)} (N : News h₀ L h news) (U : UpdF I o news g) (hk : ∀ b o, b ∉ [I] → h.get? b = some o → h'.get? b = some o) (e : h'.get? I = some o') : News h₀ L h' (g o') := by
  obtain ⟨pre, post, rfl, hg, h1, h2⟩ := U.split
  rw [hg]
  intro p hp
  rcases List.mem_append.mp hp with hp | hp
  · have z := N p (List.mem_append_left _ hp)
    exact ⟨hk _ _ (by simpa using h1 p hp) z.1, z.2⟩
  · rcases List.mem_cons.mp hp with rfl | hp
    · have z := N (I, o) (List.mem_append_right _ List.mem_cons_self)
      exact ⟨e, z.2⟩
    · have z := N p (List.mem_append_right _ (List.mem_cons_of_mem _ hp))
      exact ⟨hk _ _ (by simpa using h2 p hp) z.1, z.2⟩
theorem updF_mem {o : Obj} {g : Obj → List (Addr × Obj)} (U : UpdF I o news g) : (I, o) ∈ news := by
  obtain ⟨pre, post, rfl, _, _, _⟩ := U.split
  exact List.mem_append_right _ List.mem_cons_self
theorem updF_ne {o x : Obj} {b : Addr} {g : Obj → List (Addr × Obj)} (U : UpdF I o news g) (hm : (b, x) ∈ news) (hx : x ≠ o) : b ≠ I := by
  obtain ⟨pre, post, rfl, _, h1, h2⟩ := U.split
  rcases List.mem_append.mp hm with hp | hp
  · exact h1 _ hp
  · rcases List.mem_cons.mp hp with e | hp
    · cases e; exact absurd rfl hx
    · exact h2 _ hp
theorem iterL_nextU {o : Obj} {g : Obj → List (Addr × Obj)} {i : Nat} {vs : List Value} {n : Nat} {v : Value} {Q : Option Value → Shared → Prop} (hh : A.handled = none) (F : Fr h₀ L s.heap m) (N : News h₀ L s.heap news) (U : UpdF I o news g) (hI : ItL l i o) (hm : (l, listOf vs.toArray n) ∈ news)
    (hv : vs[i]? = some v) (h : ∀ o' h' tk', Fr h₀ L h' m → News h₀ L h' (g o') → ItL l (i + 1) o' → Q (some v) { s with heap := h', toks := tk' }) : wpAny (model prog w) A (pyNext (.ref I)) Q E s := by
  have hne : l ≠ I := updF_ne U hm fun e => by have h9 := hI.1; rw [← e] at h9; exact absurd (Value.type.inj h9) (by decide)
  have hmI := N _ (updF_mem U)
  have W := Walks.list (prog := prog) (w := w) hh I l hne vs.toArray
  have hlt : i < vs.length := (List.getElem?_eq_some_iff.mp hv).1
  refine W.item i s Q E (by simpa using hlt) ⟨⟨o, hmI.1, hI.1, hI.2⟩, N.isList hm⟩ fun v' h' tk hP st hk => ?_
  have hv' : v' = v := by
    have : vs[i]? = some v' := by simpa using hP
    rw [hv] at this; exact (Option.some.inj this).symm
  subst hv'
  obtain ⟨o', e', c, d⟩ := st.1
  exact h o' h' tk (LCg.fr_but F hk (Ne.symm hmI.2.1) hmI.2.2) (newsU N U hk e') ⟨c, d⟩
theorem iterL_doneU {o : Obj} {g : Obj → List (Addr × Obj)} {rest : List (Addr × Obj)} {i : Nat} {vs : List Value} {n : Nat} {Q : Option Value → Shared → Prop} (hh : A.handled = none) (F : Fr h₀ L s.heap m) (N : News h₀ L s.heap news) (U : UpdF I o news g) (hI : ItL l i o) (hm : (l, listOf vs.toArray n) ∈ news) (hi : i = vs.length)
    (D : Drops I news rest) (h : ∀ h' tk', Fr h₀ L h' m → News h₀ L h' rest → Q none { s with heap := h', toks := tk' }) : wpAny (model prog w) A (pyNext (.ref I)) Q E s := by
  subst hi
  have hne : l ≠ I := updF_ne U hm fun e => by have h9 := hI.1; rw [← e] at h9; exact absurd (Value.type.inj h9) (by decide)
  have hmI := N _ (updF_mem U)
  have W := Walks.list (prog := prog) (w := w) hh I l hne vs.toArray
  refine W.done s Q E (by rw [List.size_toArray]; exact ⟨⟨o, hmI.1, hI.1, hI.2⟩, N.isList hm⟩) fun h' tk hk => ?_
  refine h h' tk (LCg.fr_but F hk (Ne.symm hmI.2.1) hmI.2.2) fun p hp => ?_
  have d := D.sub p hp
  have z := N p d.1
  exact ⟨hk _ _ (by simpa using d.2) z.1, z.2⟩
/-- a range's iterator: the next number, how many are left -/
theorem iterR_start {a b : Int} {t u v : Tok} {r : Addr} {n : Nat} {Q : Value → Shared → Prop} (F : Fr h₀ L s.heap m) (N : News h₀ L s.heap news) (hr : IsRange s.heap r a b 1 t u v) (hs : Builtin.Range.small a b 1 = true) (hn : Builtin.Range.rangeSize a b 1 = ((n : Nat) : Int))
    (h : ∀ I h', Fr h₀ L h' m → News h₀ L h' ((I, itR a n) :: news) → (∀ p ∈ news, p.1 < I) → Q (.ref I) { s with heap := h' }) : wpAny (model prog w) A (pyIter (.ref r)) Q E s :=
  wpAny_pyIter_range hr hs (by rw [hn]; exact h _ _ (F.push _) (N.push F _) fun p hp => Heap.lt_size (N p hp).1)
theorem iterR_next {a : Int} {n : Nat} {Q : Option Value → Shared → Prop} (hh : A.handled = none) (F : Fr h₀ L s.heap m) (N : News h₀ L s.heap ((I, itR a ((n + 1 : Nat) : Int)) :: news)) (off : ∀ p ∈ news, p.1 ≠ I)
    (h : ∀ t h' tk', Fr h₀ L h' m → News h₀ L h' ((I, itR (a + 1) (n : Int)) :: news) → Q (some (.int a t)) { s with heap := h', toks := tk' }) : wpAny (model prog w) A (pyNext (.ref I)) Q E s := by
  have W := LCg.range_walks (prog := prog) (w := w) (I := I) hh a (n + 1)
  refine W.item 0 s Q E (Nat.succ_pos _) (by
    show s.heap.get? I = some _
    rw [(N _ List.mem_cons_self).1]; simp [itR]) fun v' h' tk hP st hk => ?_
  obtain ⟨t, rfl⟩ := hP
  have e' : h'.get? I = some (itR (a + 1) (n : Int)) := by
    have : h'.get? I = some _ := st
    rw [this]
    simp [itR]
  have z := h t h' tk (fr_but1 F N hk) (news_but1 N off hk e')
  simpa using z
theorem iterR_done {a : Int} {Q : Option Value → Shared → Prop} (hh : A.handled = none) (F : Fr h₀ L s.heap m) (N : News h₀ L s.heap ((I, itR a 0) :: news)) (off : ∀ p ∈ news, p.1 ≠ I)
    (h : ∀ h' tk', Fr h₀ L h' m → News h₀ L h' news → Q none { s with heap := h', toks := tk' }) : wpAny (model prog w) A (pyNext (.ref I)) Q E s := by
  have W := LCg.range_walks (prog := prog) (w := w) (I := I) hh a 0
  refine W.done s Q E (by
    show s.heap.get? I = some _
    rw [(N _ List.mem_cons_self).1]; simp [itR]) fun h' tk hk => ?_
  refine h h' tk (fr_but1 F N hk) fun p hp => ?_
  have z := N p (List.mem_cons_of_mem _ hp)
  exact ⟨hk _ _ (by simpa using off p hp) z.1, z.2⟩
/-- a turn's end under forL_ind -/
def TurnE (h₀ : Heap) (L I : Addr) (o : Obj) (J : (Str → Option Value) → List (Addr × Obj) → Prop) (s : Shared) (f : Flow) (s₃ : Shared) : Prop :=
  f = .next ∧ ∃ h' tk' m' nw', s₃ = { s with heap := h', toks := tk' } ∧ Fr h₀ L h' m' ∧ News h₀ L h' ((I, o) :: nw') ∧ (∀ p ∈ nw', p.1 ≠ I) ∧ J m' nw'
theorem TurnE.mk {o : Obj} {J : (Str → Option Value) → List (Addr × Obj) → Prop} {h' : Heap} {tk' : Nat} {m' : Str → Option Value} {all : List (Addr × Obj)} (nw' : List (Addr × Obj)) (F : Fr h₀ L h' m') (N : News h₀ L h' all) (sub : ∀ p ∈ (I, o) :: nw', p ∈ all) (off : ∀ p ∈ nw', p.1 ≠ I) (j : J m' nw') :
    TurnE h₀ L I o J s .next { s with heap := h', toks := tk' } := ⟨rfl, h', tk', m', nw', rfl, F, fun p hp => N p (sub p hp), off, j⟩
theorem forL_ind {vs : List Value} {n : Nat} (J : Nat → (Str → Option Value) → List (Addr × Obj) → Prop) (hE : PassesOwn (model prog w) A env E) (hh : A.handled = none)
    (hl : ∀ i m nw, J i m nw → (l, listOf vs.toArray n) ∈ nw)
    (step : ∀ i v m₁ nw I o h tk, vs[i]? = some v → J i m₁ nw → Fr h₀ L h m₁ → News h₀ L h ((I, o) :: nw) → (∀ p ∈ nw, p.1 ≠ I) → o.cls = .type "list_iterator" →
      wpAny (model prog w) A (storeName env x v) (fun _ s₂ => wpAny (model prog w) A (execs body env) (TurnE h₀ L I o (J (i + 1)) { s with heap := h, toks := tk }) E s₂) E { s with heap := h, toks := tk })
    (fin : ∀ m₁ nw h tk, J vs.length m₁ nw → Fr h₀ L h m₁ → News h₀ L h nw → Q .next { s with heap := h, toks := tk }) :
    ∀ (k i : Nat) (m₁ : Str → Option Value) (nw : List (Addr × Obj)) (o : Obj) (h : Heap) (tk : Nat), i + k = vs.length → J i m₁ nw → Fr h₀ L h m₁ → News h₀ L h ((I, o) :: nw) → (∀ p ∈ nw, p.1 ≠ I) → ItL l i o →
      ForRest prog w A E env x px body Q (.ref I) { s with heap := h, toks := tk } := by
  intro k
  induction k with
  | zero =>
    intro i m₁ nw o h tk hi j F N off hI
    have hi' : i = vs.length := by omega
    subst hi'
    exact for_turn hE (iterL_done hh F N off (hl _ _ _ j) hI fun h' tk' F' N' => fin m₁ nw h' tk' j F' N')
  | succ k ih =>
    intro i m₁ nw o h tk hi j F N off hI
    have hlt : i < vs.length := by omega
    refine for_turn hE (iterL_next hh F N off (hl _ _ _ j) hI (List.getElem?_eq_getElem hlt) fun o' h' tk' F' N' hI' => ?_)
    refine wpAny_mono (step i _ m₁ nw I o' h' tk' (List.getElem?_eq_getElem hlt) j F' N' off hI'.1) (fun _ s₂ h₂ => wpAny_mono h₂ (fun f s₃ h₃ => ?_) fun _ _ e => e) fun _ _ e => e
    obtain ⟨rfl, h₃', tk₃, m₃, nw₃, rfl, F₃, N₃, off₃, j₃⟩ := h₃
    exact ih (i + 1) m₃ nw₃ o' h₃' tk₃ (by omega) j₃ F₃ N₃ off₃ hI'
theorem forR_ind {a : Int} {n : Nat} (J : Nat → (Str → Option Value) → List (Addr × Obj) → Prop) (hE : PassesOwn (model prog w) A env E) (hh : A.handled = none)
    (step : ∀ i t m₁ nw I o h tk, i < n → J i m₁ nw → Fr h₀ L h m₁ → News h₀ L h ((I, o) :: nw) → (∀ p ∈ nw, p.1 ≠ I) →
      wpAny (model prog w) A (storeName env x (.int (a + (i : Int)) t)) (fun _ s₂ => wpAny (model prog w) A (execs body env) (TurnE h₀ L I o (J (i + 1)) { s with heap := h, toks := tk }) E s₂) E { s with heap := h, toks := tk })
    (fin : ∀ m₁ nw h tk, J n m₁ nw → Fr h₀ L h m₁ → News h₀ L h nw → Q .next { s with heap := h, toks := tk }) :
    ∀ (k i : Nat) (m₁ : Str → Option Value) (nw : List (Addr × Obj)) (h : Heap) (tk : Nat), i + k = n → J i m₁ nw → Fr h₀ L h m₁ → News h₀ L h ((I, itR (a + (i : Int)) (k : Int)) :: nw) → (∀ p ∈ nw, p.1 ≠ I) →
      ForRest prog w A E env x px body Q (.ref I) { s with heap := h, toks := tk } := by
  intro k
  induction k with
  | zero =>
    intro i m₁ nw h tk hi j F N off
    have hi' : i = n := by omega
    subst hi'
    exact for_turn hE (iterR_done hh F N off fun h' tk' F' N' => fin m₁ nw h' tk' j F' N')
  | succ k ih =>
    intro i m₁ nw h tk hi j F N off
    refine for_turn hE (iterR_next hh F N off fun t h' tk' F' N' => ?_)
    refine wpAny_mono (step i t m₁ nw I _ h' tk' (by omega) j F' N' off) (fun _ s₂ h₂ => wpAny_mono h₂ (fun f s₃ h₃ => ?_) fun _ _ e => e) fun _ _ e => e
    obtain ⟨rfl, h₃', tk₃, m₃, nw₃, rfl, F₃, N₃, off₃, j₃⟩ := h₃
    have e : a + ((i + 1 : Nat) : Int) = a + (i : Int) + 1 := by omega
    exact ih (i + 1) m₃ nw₃ h₃' tk₃ (by omega) j₃ F₃ (by rw [e]; exact N₃) off₃
end
section
variable {prog : Program} {w : World} {A : Around} {E : Value → Shared → Prop} {s : Shared} {h₀ : Heap} {L l l' : Addr} {m : Str → Option Value} {news : List (Addr × Obj)} {vs vs' : List Value} {ns ns' : List Int} {n n' : Nat} {Q : Value → Shared → Prop}
theorem newList_I (F : Fr h₀ L s.heap m) (N : News h₀ L s.heap news) (hi : IntsAre vs ns)
    (h : ∀ l h' vs', IntsAre vs' ns → Fr h₀ L h' m → News h₀ L h' ((l, listOf vs'.toArray 0) :: news) → (∀ p ∈ news, p.1 < l) → Q (.ref l) { s with heap := h' }) (hsz : vs.length ≤ sizeLine) : wpAny (model prog w) A (newList vs) Q E s :=
  newList_K F N (fun l h' F' N' o => h l h' vs hi F' N' o) hsz
theorem len_I (N : News h₀ L s.heap news) (hm : (l, listOf vs.toArray n) ∈ news) (hi : IntsAre vs ns) (hfit : ns.length < 2 ^ 62) (h : ∀ t tk, Q (.int ns.length t) { s with toks := tk }) : wpAny (model prog w) A (call (.builtin "len") [.ref l]) Q E s :=
  len_ints_fit (N.isList hm) hi hfit (h _ _)
theorem add_I (F : Fr h₀ L s.heap m) (N : News h₀ L s.heap news) (hm : (l, listOf vs.toArray n) ∈ news) (hm' : (l', listOf vs'.toArray n') ∈ news) (hi : IntsAre vs ns) (hi' : IntsAre vs' ns') (hsz : ns.length + ns'.length ≤ sizeLine)
    (h : ∀ l h' us, IntsAre us (ns ++ ns') → Fr h₀ L h' m → News h₀ L h' ((l, listOf us.toArray 0) :: news) → (∀ p ∈ news, p.1 < l) → Q (.ref l) { s with heap := h' }) : wpAny (model prog w) A (binaryOp .Add (.ref l) (.ref l')) Q E s :=
  add_lists_ints (hsz := hsz) (vs := vs) (ws := vs') F N (N.isList hm) (N.isList hm') hi hi' fun h' F' N' hj => h _ h' _ hj F' N' fun p hp => Heap.lt_size (N p hp).1
end
end Mine
namespace Mine
local macro_rules | `(tactic| k_lt $h:ident) => `(tactic| (replace $h := allLt_of $h; (try simp only [AllLt] at $h:ident); (repeat (obtain ⟨_, $h:ident⟩ := $h:ident)); (try clear $h)))
local macro_rules | `(tactic| walk_at "FinE") => `(tactic| ((unfold LCg.FinE); intro D' h' tk' F' N' o1'; (have oAll9 := o1'); (try simp only [LCg.Off1] at o1'); (repeat (obtain ⟨_, o1'⟩ := o1')); (try clear o1'); (try simp only [List.nil_append, List.cons_append] at N'); (try k_sweep); (try dsimp only)))
local macro_rules | `(tactic| walk_at "FinA") => `(tactic| ((unfold LCg.FinA); intro D' h' tk' F' N' o1'; (have oAll9 := o1'); (try simp only [LCg.Off1] at o1'); (repeat (obtain ⟨_, o1'⟩ := o1')); (try clear o1'); (try simp only [List.nil_append, List.cons_append] at N'); (try k_sweep); (try dsimp only)))
local macro_rules | `(tactic| k_all) => `(tactic| first | exact List.forall_mem_nil _ | (refine List.forall_mem_cons.mpr ⟨by k_ne, ?_⟩; k_all))
local macro_rules | `(tactic| k_ne) => `(tactic| (refine neN ?_; (try dsimp only); first | assumption | (refine Ne.symm ?_; assumption) | exact Nat.ne_of_lt (by assumption) | exact Nat.ne_of_gt (by assumption) | omega))
local macro_rules | `(tactic| walk_at "call ref") => `(tactic| (k_extra "MyCall"))
local macro_rules | `(tactic| walk_at "CompSrc") => `(tactic| (k_extra "MySrc"))
local macro_rules | `(tactic| walk_at "CompSrcT") => `(tactic| (k_extra "MySrcT"))
local macro_rules | `(tactic| walk_at "exec While Compare cons nil") => `(tactic| (k_here; k_dflt (refine whl_start 100 ?_)))
local macro_rules | `(tactic| walk_at "newList") => `(tactic| (k_here; k_dflt (refine' newList_I ?zF ?zN ?zi ?_ ?zz; (case zF => k_asm); (case zN => k_asm); (case zi => (repeat' constructor)); (case zz => exact Nat.le_of_ble_eq_true rfl); (intro l' h' vs' hi' F' N' l1'); (try k_lt l1'); (try k_sweep))))
local macro_rules | `(tactic| walk_at "call builtin:len") => `(tactic| (k_here; k_dflt (refine' len_I ?zN ?zm ?zi ?zf ?_; (case zN => k_asm); (case zm => k_mem); (case zi => assumption); (case zf => first | decide | (simp only [List.length_append, List.length_map, List.length_cons, List.length_nil]; omega)); (intro t' tk'))))
local macro_rules | `(tactic| walk_at "binaryOp Add ref ref") => `(tactic| (k_here; k_dflt (refine' add_I ?zF ?zN ?zm ?zp ?zi ?zj ?zz ?_; (case zF => k_asm); (case zN => k_asm); (case zm => k_mem); (case zp => k_mem); (case zi => assumption); (case zj => assumption); (case zz => (rw [PySem.sizeLine_eq]; simp only [List.length_append, List.length_map, List.length_cons, List.length_nil]; first | done | decide | omega)); (intro l' h' vs' hi' F' N' l1'); (try k_lt l1'); (try k_sweep))))
local macro_rules | `(tactic| walk_at "CompSrc") => `(tactic| (k_here; k_dflt (refine LCg.CompSrc.ledger (by rfl) (by k_asm) (by k_asm) (by k_mem) (by first | size_fits | (rw [List.size_toArray, PySem.sizeLine_eq]; (have hl9 := IntsAre.length (by assumption)); (simp only [List.length_append, List.length_map, List.length_cons, List.length_nil] at hl9); omega)) ?_; intro g'; (refine' kcf_list _ (by assumption) (fun k' t' I' oI' C' oC' D' m' ys' h' tk' E' hk' hC' hx' F' N' off' ne' hMark' => ?_) ?_); (all_goals (try (simp only [LCg.Off3] at off'; (repeat (obtain ⟨⟨_, _, _⟩, off'⟩ := off')); (try clear off'); obtain ⟨_, _, _⟩ := ne'))); kcf_last)))
abbrev onesL8 : List Int := [0, 1, 1, 2, 1, 2, 2, 3]
set_option maxHeartbeats 2000000 in
theorem ones8_con (w : World) (mean : ExcName → Option Value) (mg mb : Str → Option Value) (t1 : Tok) :
    ConO w mean mg mb 109 [.int 8 t1] 1 [] (fun o => ∃ vs n, o = listOf vs.toArray n ∧ IntsAre vs onesL8) := by
  w_on
  k_with_none
  unfold ConO
  k_fill
  intro dp un gd cn cs a ccd cl outer A₀ base h₀ L m news s Q E B F X N T hk hhid hd hu hret
  refine wpAny_call ?_
  k_dflt (refine' con_call ?k1 ?k2 ?k3 ?k4 ?k5 ?kH ?kA ?kF ?kK ?k6 ?k7 ?k8 ?k9 ?kB ?_ ?c2 ?c3 ?c4 ?c5; (case kA => exact rfl); (case kF => exact rfl); (case kK => assumption); (case k1 => assumption); (case k2 => assumption); (case k3 => assumption); (case k4 => assumption); (case k5 => assumption); (case kH => assumption); (case k6 => k_is); (case k7 => k_is); (case k8 => ktr_room); (case k9 => exact BindsTo.of_eq rfl); (case c5 => decide); (case kB => exact locs rfl); (case c2 => exact rfl); (case c3 => exact rfl); (case c4 => exact rfl); k_whole; intro g' L' h' F' N' B' X' T' G' l1'; (try k_lt l1'); (try dsimp only); (try k_fold))
  k_steps
  (try dsimp only); (try k_unfold); (try dsimp only)
  (refine' retO F N hret G' ?zf ?zn ?zs ?zm ?ze ?zp; (case zf => k_asm); (case zn => k_asm); (case zs => kcf_all); (case zm => k_mem); (case ze => first | assumption | k_all))
  refine ⟨_, _, rfl, ?_⟩
  assumption
abbrev onesL32 : List Int := [0, 1, 1, 2, 1, 2, 2, 3, 1, 2, 2, 3, 2, 3, 3, 4, 1, 2, 2, 3, 2, 3, 3, 4, 2, 3, 3, 4, 3, 4, 4, 5]
set_option maxHeartbeats 2000000 in
theorem ones32_con (w : World) (mean : ExcName → Option Value) (mg mb : Str → Option Value) (t1 : Tok) :
    ConO w mean mg mb 109 [.int 32 t1] 1 [] (fun o => ∃ vs n, o = listOf vs.toArray n ∧ IntsAre vs onesL32) := by
  w_on
  k_with_none
  unfold ConO
  k_fill
  intro dp un gd cn cs a ccd cl outer A₀ base h₀ L m news s Q E B F X N T hk hhid hd hu hret
  refine wpAny_call ?_
  k_dflt (refine' con_call ?k1 ?k2 ?k3 ?k4 ?k5 ?kH ?kA ?kF ?kK ?k6 ?k7 ?k8 ?k9 ?kB ?_ ?c2 ?c3 ?c4 ?c5; (case kA => exact rfl); (case kF => exact rfl); (case kK => assumption); (case k1 => assumption); (case k2 => assumption); (case k3 => assumption); (case k4 => assumption); (case k5 => assumption); (case kH => assumption); (case k6 => k_is); (case k7 => k_is); (case k8 => ktr_room); (case k9 => exact BindsTo.of_eq rfl); (case c5 => decide); (case kB => exact locs rfl); (case c2 => exact rfl); (case c3 => exact rfl); (case c4 => exact rfl); k_whole; intro g' L' h' F' N' B' X' T' G' l1'; (try k_lt l1'); (try dsimp only); (try k_fold))
  k_steps
  (try dsimp only); (try k_unfold); (try dsimp only)
  (refine' retO F N hret G' ?zf ?zn ?zs ?zm ?ze ?zp; (case zf => k_asm); (case zn => k_asm); (case zs => kcf_all); (case zm => k_mem); (case ze => first | assumption | k_all))
  refine ⟨_, _, rfl, ?_⟩
  assumption
end Mine
namespace Mine
local macro_rules | `(tactic| k_lt $h:ident) => `(tactic| (replace $h := allLt_of $h; (try simp only [AllLt] at $h:ident); (repeat (obtain ⟨_, $h:ident⟩ := $h:ident)); (try clear $h)))
local macro_rules | `(tactic| walk_at "FinE") => `(tactic| ((unfold LCg.FinE); intro D' h' tk' F' N' o1'; (have oAll9 := o1'); (try simp only [LCg.Off1] at o1'); (repeat (obtain ⟨_, o1'⟩ := o1')); (try clear o1'); (try simp only [List.nil_append, List.cons_append] at N'); (try k_sweep); (try dsimp only)))
local macro_rules | `(tactic| walk_at "FinA") => `(tactic| ((unfold LCg.FinA); intro D' h' tk' F' N' o1'; (have oAll9 := o1'); (try simp only [LCg.Off1] at o1'); (repeat (obtain ⟨_, o1'⟩ := o1')); (try clear o1'); (try simp only [List.nil_append, List.cons_append] at N'); (try k_sweep); (try dsimp only)))
local macro_rules | `(tactic| k_all) => `(tactic| first | exact List.forall_mem_nil _ | (refine List.forall_mem_cons.mpr ⟨by k_ne, ?_⟩; k_all))
local macro_rules | `(tactic| k_ne) => `(tactic| (refine neN ?_; (try dsimp only); first | assumption | (refine Ne.symm ?_; assumption) | exact Nat.ne_of_lt (by assumption) | exact Nat.ne_of_gt (by assumption) | omega))
local macro_rules | `(tactic| walk_at "call ref") => `(tactic| (k_extra "MyCall"))
local macro_rules | `(tactic| walk_at "CompSrc") => `(tactic| (k_extra "MySrc"))
local macro_rules | `(tactic| walk_at "CompSrcT") => `(tactic| (k_extra "MySrcT"))
local macro_rules | `(tactic| walk_at "subscriptTail Name BinOp ref int") => `(tactic| (k_here; k_dflt (refine' item_ints ?zN ?zm ?zi ?zb ?_; (case zN => k_asm); (case zm => k_mem); (case zi => assumption); (case zb => k_extra "MyBound"); intro t')))
theorem qd_bound {v x : Int} (hv : 0 ≤ v ∧ v < 64) (hx : 0 ≤ x ∧ x < 64) : 0 ≤ Builtin.bitAnd (v.fmod 8) (x.fdiv 8) ∧ Builtin.bitAnd (v.fmod 8) (x.fdiv 8) < (onesL8.length : Int) ∧ Builtin.bitAnd (v.fmod 8) (x.fdiv 8) < 2 ^ 63 := by
  have h1 := Int.fmod_nonneg hv.1 (b := 8) (by decide)
  have h2 := Int.fmod_lt_of_pos v (b := 8) (by decide)
  have h3 : 0 ≤ x.fdiv 8 := Int.fdiv_nonneg hx.1 (by decide)
  have h4 := and_le h1 h3
  have h5 : (onesL8.length : Int) = 8 := rfl
  omega
def qdue (v x : Int) : Int := Int.fmod (onesL8.getD (Builtin.bitAnd (v.fmod 8) (x.fdiv 8)).toNat 0 + onesL8.getD (Builtin.bitAnd (x.fmod 8) (v.fdiv 8)).toNat 0) 2
set_option maxHeartbeats 4000000 in
theorem qdue_con (w : World) (mean : ExcName → Option Value) (mg mb : Str → Option Value) (v x : Int) (t1 t2 : Tok) (hv : 0 ≤ v ∧ v < 64) (hx : 0 ≤ x ∧ x < 64) :
    ConV w mean mg mb 116 [.int v t1, .int x t2] 2 [] (fun r => ∃ t, r = .int (qdue v x) t) := by
  w_on
  k_with_none
  unfold ConV
  k_fill
  intro dp un gd cn cs a ccd cl outer A₀ base h₀ L m news s Q E B F X N T hk hhid hd hu hret
  k_with "MyCall" => (k_dflt (refine' useO (ones8_con w mean mg mb _) ?k1 ?k2 ?k3 ?k4 ?k5 ?kK ?kH ?k8 ?k9 ?_; (case k1 => assumption); (case k2 => k_asm); (case k3 => k_asm); (case k4 => k_asm); (case k5 => k_asm); (case kK => first | exact rfl | assumption); (case kH => kcf_all); (case k8 => ktr_room); (case k9 => ktr_units); (intro l9 o9 h9 tk9 F9 N9 d9 hp9); (obtain ⟨vs9, n9, rfl, hi9⟩ := hp9); (replace d9 := off_of d9); (try simp only [LCg.Off1] at d9); (repeat (obtain ⟨_, d9⟩ := d9)); (try clear d9); (try k_sweep); (try dsimp only); (try k_fold)))
  k_with "MyBound" => first | exact qd_bound hv hx | exact qd_bound hx hv
  refine wpAny_call ?_
  k_dflt (refine' con_call ?k1 ?k2 ?k3 ?k4 ?k5 ?kH ?kA ?kF ?kK ?k6 ?k7 ?k8 ?k9 ?kB ?_ ?c2 ?c3 ?c4 ?c5; (case kA => exact rfl); (case kF => exact rfl); (case kK => assumption); (case k1 => assumption); (case k2 => assumption); (case k3 => assumption); (case k4 => assumption); (case k5 => assumption); (case kH => assumption); (case k6 => k_is); (case k7 => k_is); (case k8 => ktr_room); (case k9 => exact BindsTo.of_eq rfl); (case c5 => decide); (case kB => exact locs rfl); (case c2 => exact rfl); (case c3 => exact rfl); (case c4 => exact rfl); k_whole; intro g' L' h' F' N' B' X' T' G' l1'; (try k_lt l1'); (try dsimp only); (try k_fold))
  k_steps
  (try dsimp only); (try k_unfold); (try dsimp only)
  (refine' retV F N hret G' ?zf ?zn ?zs ?zp; (case zf => k_asm); (case zn => k_asm); (case zs => kcf_all))
  exact ⟨_, rfl⟩
end Mine
namespace Mine
section
variable {prog : Program} {w : World} {A₀ A : Around} {s : Shared} {base h₀ : Heap} {outer : List Env} {L : Addr} {m : Str → Option Value} {env : Env} {K : Frag} {p : Program} {loose : List Str} {mean : ExcName → Option Value} {mg mb : Str → Option Value}
  {R : Result → Shared → Prop} {name qual : Str} {params : Arguments} {body : List Stmt} {scope : Scope} {dV kV doc pm cdv ct oc : Value} {an od : Option Addr} {osl : Array (Option Value)} {f : Addr} {args : Args} {binds : List (Str × Value)} {news hid : List (Addr × Obj)}
theorem con_callM (m₀ : Str → Option Value) (B : Below A₀ base outer h₀) (F : Fr h₀ L s.heap m) (X₀ : K.In h₀) (N : News h₀ L s.heap news) (T : Top p loose mean mg mb h₀) (hs : ∀ p ∈ hid, p ∈ news) (hA : A.frames = some (env :: outer)) (hf : env.frame = some L) (hke : env.scope.kind = .function)
    (ho : K.lookup f = some ⟨oc, od, .func (fnOf name qual params body scope dV kV doc pm an cdv ct), osl⟩) (hcd : codeIn K cdv qual = true) (hroom : A.depth < recursionLimit)
    (hbind : BindsTo s (fnOf name qual params body scope dV kV doc pm an cdv ct) args binds) (hloc : ∀ y ∈ binds, scope.names.lookup y.1 = some .local) (hm₀ : (fun y => binds.reverse.lookup y) = m₀)
    (h : ∀ g L' h₁, Fr g L' h₁ m₀ → News g L' h₁ hid → Below A base (env :: outer) g → K.In g → Top p loose mean mg mb g → GOut s.heap g hid → (∀ p ∈ hid, p.1 < L') →
      wpAny (model prog w) (A.deeper (envOf qual scope L' f cdv)) (execs body (envOf qual scope L' f cdv))
        (fun fl s' => R (.ok (.ret (match fl with | .ret v => v | _ => .none))) s')
        (fun e s' => wpAny (model prog w) (A.deeper (envOf qual scope L' f cdv)) (leaving (envOf qual scope L' f cdv) e) (fun _ s'' => R (.error e) s'') (fun e' s'' => R (.error e') s'') s')
        { s with heap := h₁, toks := s.toks + binds.length })
    (hco : scope.isCoroutine = false) (hgen : scope.isGenerator = false) (hk : scope.kind = .function) (hcell : ∀ x ∈ scope.names, x.2 ≠ .cell) : codeAny (model prog w) A (.call (.ref f) args) R s := by
  subst hm₀
  exact con_call B F X₀ N T hs hA hf hke ho hcd hroom hbind hloc h hco hgen hk hcell
theorem con_callCM (m₀ c₀ : Str → Option Value) (B : Below A₀ base outer h₀) (F : Fr h₀ L s.heap m) (X₀ : K.In h₀) (N : News h₀ L s.heap news) (T : Top p loose mean mg mb h₀) (hs : ∀ p ∈ hid, p ∈ news) (hA : A.frames = some (env :: outer)) (hf : env.frame = some L) (hke : env.scope.kind = .function)
    (ho : K.lookup f = some ⟨oc, od, .func (fnOf name qual params body scope dV kV doc pm an cdv ct), osl⟩) (hcd : codeIn K cdv qual = true) (hroom : A.depth < recursionLimit)
    (hbind : BindsTo s (fnOf name qual params body scope dV kV doc pm an cdv ct) args binds) (hkind : (binds.all fun y => scope.names.lookup y.1 == some .local || scope.names.lookup y.1 == some .cell) = true)
    (hnd : ((cellsFrom 0 scope.names []).map (·.1)).Nodup) (hm₀ : ∀ L', bindL (envOfC qual scope L' f cdv).kindOf binds (fun _ => none) = m₀) (hc₀ : ∀ L', bindC (envOfC qual scope L' f cdv).kindOf binds (fun _ => none) = c₀)
    (h : ∀ g L' h₁ tk cells, Fr g L' h₁ m₀ → News g L' h₁ (cells ++ hid) →
      CellsAre c₀ (cellsFrom (L' + 1) scope.names []) cells → Below A base (env :: outer) g → K.In g → Top p loose mean mg mb g → GOut s.heap g hid → (∀ p ∈ hid, p.1 < L') →
      wpAny (model prog w) (A.deeper (envOfC qual scope L' f cdv)) (execs body (envOfC qual scope L' f cdv))
        (fun fl s' => R (.ok (.ret (match fl with | .ret v => v | _ => .none))) s')
        (fun e s' => wpAny (model prog w) (A.deeper (envOfC qual scope L' f cdv)) (leaving (envOfC qual scope L' f cdv) e) (fun _ s'' => R (.error e) s'') (fun e' s'' => R (.error e') s'') s')
        { s with heap := h₁, toks := tk })
    (hco : scope.isCoroutine = false) (hgen : scope.isGenerator = false) (hk : scope.kind = .function) : codeAny (model prog w) A (.call (.ref f) args) R s := by
  exact con_callC B F X₀ N T hs hA hf hke ho hcd hroom hbind hkind hnd (fun g L' h₁ tk cells F' N' Y => h g L' h₁ tk cells (hm₀ L' ▸ F') N' (hc₀ L' ▸ Y)) hco hgen hk
end
def lookM : List (Str × Value) → Str → Option Value
  | [], _ => none
  | (x, v) :: r, y => if y = x then some v else lookM r y
theorem lookM_eq : ∀ (l : List (Str × Value)), (fun y => l.lookup y) = lookM l
  | [] => rfl
  | (x, v) :: r => funext fun y => by
    have ih := congrFun (lookM_eq r) y
    by_cases h : y = x
    · subst h; simp [List.lookup, lookM]
    · have hb : (y == x) = false := by simpa using h
      simp only [List.lookup, hb, lookM, if_neg h]; exact ih
def RowsIn (vs : List Value) (R : Nat → List Int) (news : List (Addr × Obj)) : Prop := ∀ k, k < 5 → ∃ a v n, vs[k]? = some (.ref a) ∧ (a, listOf v.toArray n) ∈ news ∧ IntsAre v (R k)
theorem item_val {prog : Program} {w : World} {A : Around} {E : Value → Shared → Prop} {s : Shared} {h₀ : Heap} {L l : Addr} {news : List (Addr × Obj)} {value slice : PySem.Expr} {vs : List Value} {n : Nat} {k : Int} {u : Tok} {v : Value} {Q : Value → Shared → Prop}
    (N : News h₀ L s.heap news) (hm : (l, listOf vs.toArray n) ∈ news) (h0 : 0 ≤ k) (h2 : k < 2 ^ 63) (hv : vs[k.toNat]? = some v) (h : Q v s)
    (hs : subscripted slice false (.ref l) (.int k u) = operate [.ref l, .int k u] (getItem (.ref l) (.int k u)) := by with_unfolding_all rfl) :
    wpAny (model prog w) A (subscriptTail value slice (.ref l) (.int k u)) Q E s :=
  tail_any (N.isList hm).typeIs slot_list_getitem.lookup (wpAny_getItem_list (N.isList hm) h0 h2 (by simpa using hv) h) hs
theorem item_row {prog : Program} {w : World} {A : Around} {E : Value → Shared → Prop} {s : Shared} {h₀ : Heap} {L l : Addr} {news nws : List (Addr × Obj)} {value slice : PySem.Expr} {vs : List Value} {R : Nat → List Int} {n : Nat} {k : Int} {u : Tok} {Q : Value → Shared → Prop}
    (N : News h₀ L s.heap news) (hm : (l, listOf vs.toArray n) ∈ news) (hR : RowsIn vs R nws) (hb : 0 ≤ k ∧ k < 5) (h : ∀ a v n, (a, listOf v.toArray n) ∈ nws → IntsAre v (R k.toNat) → Q (.ref a) s)
    (hs : subscripted slice false (.ref l) (.int k u) = operate [.ref l, .int k u] (getItem (.ref l) (.int k u)) := by with_unfolding_all rfl) :
    wpAny (model prog w) A (subscriptTail value slice (.ref l) (.int k u)) Q E s := by
  obtain ⟨a, v, n', e, hm', hi⟩ := hR k.toNat (by omega)
  exact item_val N hm hb.1 (by omega) e (h a v n' hm' hi) hs
theorem rowsIn5 {a0 a1 a2 a3 a4 : Addr} {n0 n1 n2 n3 n4 : Nat} {v0 v1 v2 v3 v4 : List Value} {R : Nat → List Int} {nws : List (Addr × Obj)} (i0 : IntsAre v0 (R 0)) (i1 : IntsAre v1 (R 1)) (i2 : IntsAre v2 (R 2)) (i3 : IntsAre v3 (R 3)) (i4 : IntsAre v4 (R 4))
    (m0 : (a0, listOf v0.toArray n0) ∈ nws) (m1 : (a1, listOf v1.toArray n1) ∈ nws) (m2 : (a2, listOf v2.toArray n2) ∈ nws) (m3 : (a3, listOf v3.toArray n3) ∈ nws) (m4 : (a4, listOf v4.toArray n4) ∈ nws) :
    RowsIn [.ref a0, .ref a1, .ref a2, .ref a3, .ref a4] R nws := by
  intro k hk
  match k, hk with
  | 0, _ => exact ⟨_, _, _, rfl, m0, i0⟩
  | 1, _ => exact ⟨_, _, _, rfl, m1, i1⟩
  | 2, _ => exact ⟨_, _, _, rfl, m2, i2⟩
  | 3, _ => exact ⟨_, _, _, rfl, m3, i3⟩
  | 4, _ => exact ⟨_, _, _, rfl, m4, i4⟩
end Mine
namespace Mine
local macro_rules | `(tactic| k_lt $h:ident) => `(tactic| (replace $h := allLt_of $h; (try simp only [AllLt] at $h:ident); (repeat (obtain ⟨_, $h:ident⟩ := $h:ident)); (try clear $h)))
local macro_rules | `(tactic| walk_at "FinE") => `(tactic| ((unfold LCg.FinE); intro D' h' tk' F' N' o1'; (have oAll9 := o1'); (try simp only [LCg.Off1] at o1'); (repeat (obtain ⟨_, o1'⟩ := o1')); (try clear o1'); (try simp only [List.nil_append, List.cons_append] at N'); (try k_sweep); (try dsimp only)))
local macro_rules | `(tactic| walk_at "FinA") => `(tactic| ((unfold LCg.FinA); intro D' h' tk' F' N' o1'; (have oAll9 := o1'); (try simp only [LCg.Off1] at o1'); (repeat (obtain ⟨_, o1'⟩ := o1')); (try clear o1'); (try simp only [List.nil_append, List.cons_append] at N'); (try k_sweep); (try dsimp only)))
local macro_rules | `(tactic| k_all) => `(tactic| first | exact List.forall_mem_nil _ | (refine List.forall_mem_cons.mpr ⟨by k_ne, ?_⟩; k_all))
local macro_rules | `(tactic| k_ne) => `(tactic| (refine neN ?_; (try dsimp only); first | assumption | (refine Ne.symm ?_; assumption) | exact Nat.ne_of_lt (by assumption) | exact Nat.ne_of_gt (by assumption) | omega))
local macro_rules | `(tactic| walk_at "call ref") => `(tactic| (k_extra "MyCall"))
local macro_rules | `(tactic| walk_at "CompSrc") => `(tactic| (k_extra "MySrc"))
local macro_rules | `(tactic| walk_at "CompSrcT") => `(tactic| (k_extra "MySrcT"))
def loT (u : Int) (ty ti tq : Tok) : Obj := tupF (yF (Int.fmod u 2) (Int.fmod (Int.fdiv u 2) 2) (Int.fmod (Int.fdiv u 4) 2)) (iF (Int.fmod u 2) (Int.fmod (Int.fdiv u 2) 2) (Int.fmod (Int.fdiv u 4) 2)) (qF (Int.fmod u 2) (Int.fmod (Int.fdiv u 2) 2) (Int.fmod (Int.fdiv u 4) 2)) ty ti tq
def hiT (u : Int) (ty ti tq : Tok) : Obj := tupF (yF (Int.fmod (Int.fdiv u 8) 2) (Int.fmod (Int.fdiv u 16) 2) (Int.fdiv u 32)) (iF (Int.fmod (Int.fdiv u 8) 2) (Int.fmod (Int.fdiv u 16) 2) (Int.fdiv u 32)) (qF (Int.fmod (Int.fdiv u 8) 2) (Int.fmod (Int.fdiv u 16) 2) (Int.fdiv u 32)) ty ti tq
def whT (ty ti tq : Tok) : Obj := tupF (yF 1 1 1) (iF 1 1 1) (qF 1 1 1) ty ti tq
def pc (u v : Int) : Int := onesL8.getD (Builtin.bitAnd (Int.fmod u 8) (Int.fdiv v 8)).toNat 0
abbrev ShGood (a b c d e f k : Int) : Prop :=
  Float64.isFinite (rF (sumF (yF a b c) (yF d e f) (yF 1 1 1)) (sumF (iF a b c) (iF d e f) (iF 1 1 1)) (sumF (qF a b c) (qF d e f) (qF 1 1 1))) = true ∧
  Float64.isFinite (gF (sumF (yF a b c) (yF d e f) (yF 1 1 1)) (sumF (iF a b c) (iF d e f) (iF 1 1 1)) (sumF (qF a b c) (qF d e f) (qF 1 1 1))) = true ∧
  Float64.isFinite (bF (sumF (yF a b c) (yF d e f) (yF 1 1 1)) (sumF (iF a b c) (iF d e f) (iF 1 1 1)) (sumF (qF a b c) (qF d e f) (qF 1 1 1))) = true ∧
  rndF (rF (sumF (yF a b c) (yF d e f) (yF 1 1 1)) (sumF (iF a b c) (iF d e f) (iF 1 1 1)) (sumF (qF a b c) (qF d e f) (qF 1 1 1))) + rndF (gF (sumF (yF a b c) (yF d e f) (yF 1 1 1)) (sumF (iF a b c) (iF d e f) (iF 1 1 1)) (sumF (qF a b c) (qF d e f) (qF 1 1 1))) + rndF (bF (sumF (yF a b c) (yF d e f) (yF 1 1 1)) (sumF (iF a b c) (iF d e f) (iF 1 1 1)) (sumF (qF a b c) (qF d e f) (qF 1 1 1))) = k
set_option maxHeartbeats 4000000 in
theorem sh64 : ∀ p : Nat, p < 8 → ∀ q : Nat, q < 8 → ShGood (Int.fmod p 2) (Int.fmod (Int.fdiv p 2) 2) (Int.fdiv p 4) (Int.fmod q 2) (Int.fmod (Int.fdiv q 2) 2) (Int.fdiv q 4) (onesL8.getD (Builtin.bitAnd p q).toNat 0) := by
  decide +kernel
theorem nat_of {u : Int} {n : Nat} (h : 0 ≤ u ∧ u < n) : ∃ k : Nat, u = (k : Int) ∧ k < n := by
  obtain ⟨k, rfl⟩ := Int.eq_ofNat_of_zero_le h.1
  exact ⟨k, rfl, by omega⟩
theorem lo_bits : ∀ n : Nat, n < 64 → ∃ p : Nat, p < 8 ∧ Int.fmod (n : Int) 8 = p ∧ Int.fmod (n : Int) 2 = Int.fmod p 2 ∧ Int.fmod (Int.fdiv (n : Int) 2) 2 = Int.fmod (Int.fdiv p 2) 2 ∧ Int.fmod (Int.fdiv (n : Int) 4) 2 = Int.fdiv p 4 := by
  have h : ∀ n : Nat, n < 64 → (Int.fmod (n : Int) 8).toNat < 8 ∧ Int.fmod (n : Int) 8 = ((Int.fmod (n : Int) 8).toNat : Int) ∧ Int.fmod (n : Int) 2 = Int.fmod ((Int.fmod (n : Int) 8).toNat : Int) 2 ∧ Int.fmod (Int.fdiv (n : Int) 2) 2 = Int.fmod (Int.fdiv ((Int.fmod (n : Int) 8).toNat : Int) 2) 2 ∧ Int.fmod (Int.fdiv (n : Int) 4) 2 = Int.fdiv ((Int.fmod (n : Int) 8).toNat : Int) 4 := by decide +kernel
  exact fun n hn => ⟨_, h n hn⟩
theorem hi_bits : ∀ n : Nat, n < 64 → ∃ q : Nat, q < 8 ∧ Int.fdiv (n : Int) 8 = q ∧ Int.fmod (Int.fdiv (n : Int) 8) 2 = Int.fmod q 2 ∧ Int.fmod (Int.fdiv (n : Int) 16) 2 = Int.fmod (Int.fdiv q 2) 2 ∧ Int.fdiv (n : Int) 32 = Int.fdiv q 4 := by
  have h : ∀ n : Nat, n < 64 → (Int.fdiv (n : Int) 8).toNat < 8 ∧ Int.fdiv (n : Int) 8 = ((Int.fdiv (n : Int) 8).toNat : Int) ∧ Int.fmod (Int.fdiv (n : Int) 8) 2 = Int.fmod ((Int.fdiv (n : Int) 8).toNat : Int) 2 ∧ Int.fmod (Int.fdiv (n : Int) 16) 2 = Int.fmod (Int.fdiv ((Int.fdiv (n : Int) 8).toNat : Int) 2) 2 ∧ Int.fdiv (n : Int) 32 = Int.fdiv ((Int.fdiv (n : Int) 8).toNat : Int) 4 := by decide +kernel
  exact fun n hn => ⟨_, h n hn⟩
theorem sh_good {u v : Int} (hu : 0 ≤ u ∧ u < 64) (hv : 0 ≤ v ∧ v < 64) : ShGood (Int.fmod u 2) (Int.fmod (Int.fdiv u 2) 2) (Int.fmod (Int.fdiv u 4) 2) (Int.fmod (Int.fdiv v 8) 2) (Int.fmod (Int.fdiv v 16) 2) (Int.fdiv v 32) (pc u v) := by
  obtain ⟨n, rfl, hn⟩ := nat_of (n := 64) hu
  obtain ⟨k, rfl, hk⟩ := nat_of (n := 64) hv
  obtain ⟨p, hp, e0, e1, e2, e3⟩ := lo_bits n hn
  obtain ⟨q, hq, f0, f1, f2, f3⟩ := hi_bits k hk
  unfold pc
  rw [e1, e2, e3, f1, f2, f3, e0, f0]
  exact sh64 p hp q hq
theorem shared2_con (w : World) (mean : ExcName → Option Value) (mg mb : Str → Option Value) (a1 a2 a3 : Addr) (u v : Int) (t1 t2 t3 t4 t5 t6 t7 t8 t9 : Tok) (hu : 0 ≤ u ∧ u < 64) (hv : 0 ≤ v ∧ v < 64) :
    ConV w mean mg mb 99 [.ref a1, .ref a2, .ref a3] 2 [(a1, loT u t1 t2 t3), (a2, hiT v t4 t5 t6), (a3, whT t7 t8 t9)] (fun r => ∃ t, r = .int (pc u v) t) := by
  obtain ⟨g1, g2, g3, g4⟩ := sh_good hu hv
  have c := shared_con w mean mg mb a1 a2 a3 _ _ _ _ _ _ _ _ _ t1 t2 t3 t4 t5 t6 t7 t8 t9 g1 g2 g3
  rw [g4] at c
  exact c
theorem pc_b : ∀ p : Nat, p < 8 → ∀ q : Nat, q < 8 → 0 ≤ onesL8.getD (Builtin.bitAnd p q).toNat 0 ∧ onesL8.getD (Builtin.bitAnd p q).toNat 0 ≤ 3 := by decide +kernel
theorem pc_bound {u v : Int} (hu : 0 ≤ u ∧ u < 64) (hv : 0 ≤ v ∧ v < 64) : 0 ≤ pc u v ∧ pc u v ≤ 3 := by
  obtain ⟨n, rfl, hn⟩ := nat_of (n := 64) hu
  obtain ⟨k, rfl, hk⟩ := nat_of (n := 64) hv
  obtain ⟨p, hp, e0, _⟩ := lo_bits n hn
  obtain ⟨q, hq, f0, _⟩ := hi_bits k hk
  unfold pc
  rw [e0, f0]
  exact pc_b p hp q hq
theorem marks7 {u v : Int} (hu : 0 ≤ u ∧ u < 64) (hv : 0 ≤ v ∧ v < 64) : pc u v + pc v u = 0 ∨ pc u v + pc v u = 1 ∨ pc u v + pc v u = 2 ∨ pc u v + pc v u = 3 ∨ pc u v + pc v u = 4 ∨ pc u v + pc v u = 5 ∨ pc u v + pc v u = 6 := by
  have h1 := pc_bound hu hv
  have h2 := pc_bound hv hu
  omega
theorem qdue_pc (u v : Int) : qdue u v = Int.fmod (pc u v + pc v u) 2 := rfl
theorem qdue_symm (u v : Int) : qdue u v = qdue v u := by rw [qdue_pc, qdue_pc, Int.add_comm]
theorem qdue_diag (u : Int) : qdue u u = 0 := by
  rw [qdue_pc, ← Int.two_mul]; exact Int.mul_fmod_right 2 _
theorem qdue_01 (u v : Int) : 0 ≤ qdue u v ∧ qdue u v ≤ 1 := by
  have h1 := Int.fmod_nonneg_of_pos (pc u v + pc v u) (b := 2) (by decide)
  have h2 := Int.fmod_lt_of_pos (pc u v + pc v u) (b := 2) (by decide)
  rw [qdue_pc]; omega
end Mine
namespace Mine
theorem shared2_i (w : World) (mean : ExcName → Option Value) (mg mb : Str → Option Value) {a1 a2 a3 : Addr} {u v : Int} {t1 t2 t3 t4 t5 t6 t7 t8 t9 : Tok} (hu : 0 ≤ u ∧ u < 64) (hv : 0 ≤ v ∧ v < 64) :
    ConV w mean mg mb 99 [.ref a1, .ref a2, .ref a3] 2 [(a1, loT u t1 t2 t3), (a2, hiT v t4 t5 t6), (a3, whT t7 t8 t9)] (fun r => ∃ t, r = .int (pc u v) t) :=
  shared2_con w mean mg mb a1 a2 a3 u v t1 t2 t3 t4 t5 t6 t7 t8 t9 hu hv
theorem bit2 (x : Int) : Int.fmod x 2 = 0 ∨ Int.fmod x 2 = 1 := by
  have h1 := Int.fmod_nonneg_of_pos x (b := 2) (by decide)
  have h2 := Int.fmod_lt_of_pos x (b := 2) (by decide)
  omega
theorem bit32 {x : Int} (h : 0 ≤ x ∧ x < 64) : Int.fdiv x 32 = 0 ∨ Int.fdiv x 32 = 1 := by
  rw [Int.fdiv_eq_ediv_of_nonneg _ (by decide)]; omega
theorem lo_con (w : World) (mean : ExcName → Option Value) (mg mb : Str → Option Value) (x : Int) (t1 t2 t3 : Tok) :
    ConO w mean mg mb 21 [.int (Int.fmod x 2) t1, .int (Int.fmod (Int.fdiv x 2) 2) t2, .int (Int.fmod (Int.fdiv x 4) 2) t3] 1 [] (fun o => ∃ ty ti tq, o = loT x ty ti tq) :=
  yiq_con w mean mg mb _ _ _ t1 t2 t3 (bit2 _) (bit2 _) (bit2 _)
theorem hi_con (w : World) (mean : ExcName → Option Value) (mg mb : Str → Option Value) (x : Int) (t1 t2 t3 : Tok) (h : 0 ≤ x ∧ x < 64) :
    ConO w mean mg mb 21 [.int (Int.fmod (Int.fdiv x 8) 2) t1, .int (Int.fmod (Int.fdiv x 16) 2) t2, .int (Int.fdiv x 32) t3] 1 [] (fun o => ∃ ty ti tq, o = hiT x ty ti tq) :=
  yiq_con w mean mg mb _ _ _ t1 t2 t3 (bit2 _) (bit2 _) (bit32 h)
theorem wh_con (w : World) (mean : ExcName → Option Value) (mg mb : Str → Option Value) (t1 t2 t3 : Tok) :
    ConO w mean mg mb 21 [.int 1 t1, .int 1 t2, .int 1 t3] 1 [] (fun o => ∃ ty ti tq, o = whT ty ti tq) :=
  yiq_con w mean mg mb _ _ _ t1 t2 t3 (.inr rfl) (.inr rfl) (.inr rfl)
def NewEl (news : List (Addr × Obj)) (P : Obj → Prop) (y : Value) (news' : List (Addr × Obj)) : Prop := ∃ l o, y = .ref l ∧ news' = (l, o) :: news ∧ (∀ p ∈ news, p.1 ≠ l) ∧ P o
section
variable {prog : Program} {w : World} {A : Around} {h₀ : Heap} {L : Addr} {m : Str → Option Value} {env : Env} {elt : PySem.Expr} {x : Str} {scope : Scope} {cl : List (Str × Addr)} {s : Shared} {S : List (Addr × Obj) → Prop} {Fin : List Value → List (Addr × Obj) → Prop} {news : List (Addr × Obj)}
/-- a turn that hands back a new object, whatever the ledger -/
def NewTurn (prog : Program) (w : World) (A : Around) (h₀ : Heap) (L : Addr) (m : Str → Option Value) (env : Env) (elt : PySem.Expr) (x : Str) (scope : Scope) (cl : List (Str × Addr)) (s : Shared) (S : List (Addr × Obj) → Prop) (news : List (Addr × Obj)) (Pf : Int → Obj → Prop) : Prop :=
  ∀ k t I oI C oC D m₂ ys nw h tk (E' : Value → Shared → Prop), (0 ≤ k ∧ k < 64) → LCg.NsObj oC m₂ → m₂ x = some (.int k t) → Fr h₀ L h m → News h₀ L h ((I, oI) :: (C, oC) :: (D, LCg.lst ys) :: nw) → LCg.Off3 I C D nw → ((@Ne Nat I C) ∧ (@Ne Nat I D) ∧ (@Ne Nat C D)) → (∀ p ∈ news, p ∈ nw) →
    wpAny (model prog w) A (eval elt (compEnvC scope cl C env)) (LCg.CompEnd h₀ L m { s with heap := h, toks := tk } I oI C oC D (LCg.lst ys) S (fun y news' => NewEl nw (Pf k) y news')) E' { s with heap := h, toks := tk }
theorem newEnd {I C D l : Addr} {oI oC oD o : Obj} {s₁ : Shared} {P : Obj → Prop} {nw all : List (Addr × Obj)} {h' : Heap} {tk : Nat} (F : Fr h₀ L h' m) (N : News h₀ L h' all) (sub : ∀ p ∈ (I, oI) :: (C, oC) :: (D, oD) :: (l, o) :: nw, p ∈ all)
    (d : ∀ p ∈ (I, oI) :: (C, oC) :: (D, oD) :: nw, p.1 ≠ l) (off : LCg.Off3 I C D nw) (hS : S ((l, o) :: nw)) (p : P o) : LCg.CompEnd h₀ L m s₁ I oI C oC D oD S (fun y news' => NewEl nw P y news') (.ref l) { s₁ with heap := h', toks := tk } :=
  LCg.CompEnd.intro F N ((l, o) :: nw) sub ⟨⟨Ne.symm (d _ List.mem_cons_self), Ne.symm (d _ (List.mem_cons_of_mem _ List.mem_cons_self)), Ne.symm (d _ (List.mem_cons_of_mem _ (List.mem_cons_of_mem _ List.mem_cons_self)))⟩, off⟩ hS
    ⟨l, o, rfl, rfl, fun q hq => d q (List.mem_cons_of_mem _ (List.mem_cons_of_mem _ (List.mem_cons_of_mem _ hq))), p⟩
theorem new_succ {Pf : Int → Obj → Prop} {k : Int} {t : Tok} {P : Nat → Value → Prop} {n i : Nat} {ys : List Value} {nw : List (Addr × Obj)} (turn : NewTurn prog w A h₀ L m env elt x scope cl s S news Pf) (hk : 0 ≤ k ∧ k < 64) (hP : ∀ v, P i v → v = .int k t) (sub : ∀ p ∈ news, p ∈ nw)
    (h : ∀ l o, Pf k o → (∀ p ∈ nw, p.1 ≠ l) → LCg.CompRest prog w A h₀ L m env elt x scope cl s S P Fin n (i + 1) (ys ++ [.ref l]) ((l, o) :: nw)) :
    LCg.CompRest prog w A h₀ L m env elt x scope cl s S P Fin (n + 1) i ys nw := by
  refine LCg.CompRest.succ fun v I oI C oC D m₂ h' tk E' hv hC hx F N off ne => ?_
  have e := hP v hv
  subst e
  refine wpAny_mono (turn k t I oI C oC D m₂ ys nw h' tk E' hk hC hx F N off ne sub) (fun y s₂ hE => ?_) fun _ _ e => e
  obtain ⟨h2, tk2, nw2, rfl, F2, N2, off2, hS2, l, o, rfl, rfl, d, p⟩ := hE
  exact ⟨h2, tk2, _, rfl, F2, N2, off2, hS2, h l o p d⟩
theorem comp_new5 (Pf : Int → Obj → Prop) {x0 x1 x2 x3 x4 : Int} {t0 t1 t2 t3 t4 : Tok} (h0 : 0 ≤ x0 ∧ x0 < 64) (h1 : 0 ≤ x1 ∧ x1 < 64) (h2 : 0 ≤ x2 ∧ x2 < 64) (h3 : 0 ≤ x3 ∧ x3 < 64) (h4 : 0 ≤ x4 ∧ x4 < 64)
    (turn : NewTurn prog w A h₀ L m env elt x scope cl s S news Pf)
    (fin : ∀ l0 o0 l1 o1 l2 o2 l3 o3 l4 o4, Pf x0 o0 → Pf x1 o1 → Pf x2 o2 → Pf x3 o3 → Pf x4 o4 → (∀ p ∈ news, p.1 ≠ l0) → (∀ p ∈ (l0, o0) :: news, p.1 ≠ l1) → (∀ p ∈ (l1, o1) :: (l0, o0) :: news, p.1 ≠ l2) → (∀ p ∈ (l2, o2) :: (l1, o1) :: (l0, o0) :: news, p.1 ≠ l3) → (∀ p ∈ (l3, o3) :: (l2, o2) :: (l1, o1) :: (l0, o0) :: news, p.1 ≠ l4) →
      Fin [.ref l0, .ref l1, .ref l2, .ref l3, .ref l4] ((l4, o4) :: (l3, o3) :: (l2, o2) :: (l1, o1) :: (l0, o0) :: news)) :
    LCg.CompRest prog w A h₀ L m env elt x scope cl s S (fun i v => #[Value.int x0 t0, .int x1 t1, .int x2 t2, .int x3 t3, .int x4 t4][i]? = some v) Fin 5 0 [] news :=
  new_succ (n := 4) turn h0 (fun _ hv => (Option.some.inj hv).symm) (fun _ h => h) fun l0 o0 p0 d0 =>
  new_succ (n := 3) turn h1 (fun _ hv => (Option.some.inj hv).symm) (fun _ h => List.mem_cons_of_mem _ h) fun l1 o1 p1 d1 =>
  new_succ (n := 2) turn h2 (fun _ hv => (Option.some.inj hv).symm) (fun _ h => List.mem_cons_of_mem _ (List.mem_cons_of_mem _ h)) fun l2 o2 p2 d2 =>
  new_succ (n := 1) turn h3 (fun _ hv => (Option.some.inj hv).symm) (fun _ h => List.mem_cons_of_mem _ (List.mem_cons_of_mem _ (List.mem_cons_of_mem _ h))) fun l3 o3 p3 d3 =>
  new_succ (n := 0) turn h4 (fun _ hv => (Option.some.inj hv).symm) (fun _ h => List.mem_cons_of_mem _ (List.mem_cons_of_mem _ (List.mem_cons_of_mem _ (List.mem_cons_of_mem _ h)))) fun l4 o4 p4 d4 =>
  LCg.CompRest.zero (fin l0 o0 l1 o1 l2 o2 l3 o3 l4 o4 p0 p1 p2 p3 p4 d0 d1 d2 d3 d4)
end
def loP (k : Int) (o : Obj) : Prop := ∃ ty ti tq, o = loT k ty ti tq
def hiP (k : Int) (o : Obj) : Prop := ∃ ty ti tq, o = hiT k ty ti tq
def zeP (_ : Int) (o : Obj) : Prop := ∃ vs n, o = listOf vs.toArray n ∧ IntsAre vs [0, 0, 0, 0, 0]
def TupOk (Pf : Int → Obj → Prop) (X : Nat → Int) (ys : List Value) (nw : List (Addr × Obj)) : Prop := ∀ k, k < 5 → ∃ a o, ys[k]? = some (.ref a) ∧ (a, o) ∈ nw ∧ Pf (X k) o
theorem TupOk.mono {Pf : Int → Obj → Prop} {X : Nat → Int} {ys : List Value} {nw nw' : List (Addr × Obj)} (h : TupOk Pf X ys nw) (sub : ∀ p ∈ nw, p ∈ nw') : TupOk Pf X ys nw' := fun k hk =>
  let ⟨a, o, e, hm, p⟩ := h k hk
  ⟨a, o, e, sub _ hm, p⟩
abbrev five (x0 x1 x2 x3 x4 : Int) : Nat → Int := fun k => [x0, x1, x2, x3, x4].getD k 0
/-- five rows, in the order of B, on top of a ledger -/
def rowsL (B : Nat → Addr) (V : Nat → List Value) (nn : Nat → Nat) (tail : List (Addr × Obj)) : List (Addr × Obj) :=
  (B 4, listOf (V 4).toArray (nn 4)) :: (B 3, listOf (V 3).toArray (nn 3)) :: (B 2, listOf (V 2).toArray (nn 2)) :: (B 1, listOf (V 1).toArray (nn 1)) :: (B 0, listOf (V 0).toArray (nn 0)) :: tail
theorem rowsL_tail {B : Nat → Addr} {V : Nat → List Value} {nn : Nat → Nat} {tail : List (Addr × Obj)} {p : Addr × Obj} (h : p ∈ tail) : p ∈ rowsL B V nn tail :=
  List.mem_cons_of_mem _ (List.mem_cons_of_mem _ (List.mem_cons_of_mem _ (List.mem_cons_of_mem _ (List.mem_cons_of_mem _ h))))
theorem rowsL_at {B : Nat → Addr} {V : Nat → List Value} {nn : Nat → Nat} {tail : List (Addr × Obj)} {k : Nat} (h : k < 5) : (B k, listOf (V k).toArray (nn k)) ∈ rowsL B V nn tail := by
  unfold rowsL
  match k, h with
  | 0, _ => simp
  | 1, _ => simp
  | 2, _ => simp
  | 3, _ => simp
  | 4, _ => simp
theorem rowsL_grow {B : Nat → Addr} {V : Nat → List Value} {nn : Nat → Nat} {tail : List (Addr × Obj)} {p : Addr × Obj} (h : p ∈ rowsL B V nn []) : p ∈ rowsL B V nn tail := by
  unfold rowsL at h ⊢
  simp only [List.mem_cons, List.not_mem_nil, or_false] at h
  rcases h with h | h | h | h | h <;> simp [h]
theorem rowsL_all {B : Nat → Addr} {V : Nat → List Value} {nn : Nat → Nat} {tail : List (Addr × Obj)} {P : Addr → Prop} (hB : ∀ k, k < 5 → P (B k)) (ht : ∀ p ∈ tail, P p.1) : ∀ p ∈ rowsL B V nn tail, P p.1 := by
  intro p hp
  unfold rowsL at hp
  simp only [List.mem_cons] at hp
  rcases hp with rfl | rfl | rfl | rfl | rfl | hp
  · exact hB 4 (by decide)
  · exact hB 3 (by decide)
  · exact hB 2 (by decide)
  · exact hB 1 (by decide)
  · exact hB 0 (by decide)
  · exact ht p hp
theorem rowsL_B {B : Nat → Addr} {V : Nat → List Value} {nn : Nat → Nat} {tail : List (Addr × Obj)} {P : Addr → Prop} (h : ∀ p ∈ rowsL B V nn tail, P p.1) : ∀ k, k < 5 → P (B k) := fun _ hk => h _ (rowsL_at hk)
section
variable {prog : Program} {w : World} {A : Around} {h₀ : Heap} {L : Addr} {m : Str → Option Value} {env : Env} {elt : PySem.Expr} {x : Str} {scope : Scope} {cl : List (Str × Addr)} {s : Shared} {S : List (Addr × Obj) → Prop} {Fin : List Value → List (Addr × Obj) → Prop} {news : List (Addr × Obj)}
theorem comp_tup (Pf : Int → Obj → Prop) {x0 x1 x2 x3 x4 : Int} {t0 t1 t2 t3 t4 : Tok} (h0 : 0 ≤ x0 ∧ x0 < 64) (h1 : 0 ≤ x1 ∧ x1 < 64) (h2 : 0 ≤ x2 ∧ x2 < 64) (h3 : 0 ≤ x3 ∧ x3 < 64) (h4 : 0 ≤ x4 ∧ x4 < 64)
    (turn : NewTurn prog w A h₀ L m env elt x scope cl s S news Pf)
    (fin : ∀ ys nw, (∀ p ∈ news, p ∈ nw) → TupOk Pf (five x0 x1 x2 x3 x4) ys nw → Fin ys nw) :
    LCg.CompRest prog w A h₀ L m env elt x scope cl s S (fun i v => #[Value.int x0 t0, .int x1 t1, .int x2 t2, .int x3 t3, .int x4 t4][i]? = some v) Fin 5 0 [] news :=
  comp_new5 Pf h0 h1 h2 h3 h4 turn fun l0 o0 l1 o1 l2 o2 l3 o3 l4 o4 p0 p1 p2 p3 p4 _ _ _ _ _ => fin _ _ (fun p hp => List.mem_cons_of_mem _ (List.mem_cons_of_mem _ (List.mem_cons_of_mem _ (List.mem_cons_of_mem _ (List.mem_cons_of_mem _ hp))))) fun k hk => by
    match k, hk with
    | 0, _ => exact ⟨l0, o0, rfl, by simp, p0⟩
    | 1, _ => exact ⟨l1, o1, rfl, by simp, p1⟩
    | 2, _ => exact ⟨l2, o2, rfl, by simp, p2⟩
    | 3, _ => exact ⟨l3, o3, rfl, by simp, p3⟩
    | 4, _ => exact ⟨l4, o4, rfl, by simp, p4⟩
theorem comp_rows {x0 x1 x2 x3 x4 : Int} {t0 t1 t2 t3 t4 : Tok} (h0 : 0 ≤ x0 ∧ x0 < 64) (h1 : 0 ≤ x1 ∧ x1 < 64) (h2 : 0 ≤ x2 ∧ x2 < 64) (h3 : 0 ≤ x3 ∧ x3 < 64) (h4 : 0 ≤ x4 ∧ x4 < 64)
    (turn : NewTurn prog w A h₀ L m env elt x scope cl s S news zeP)
    (fin : ∀ B V nn, (∀ j, j < 5 → IntsAre (V j) [0, 0, 0, 0, 0]) → (∀ j k, j < 5 → k < 5 → B j = B k → j = k) → (∀ k, k < 5 → ∀ p ∈ news, p.1 ≠ B k) → Fin [.ref (B 0), .ref (B 1), .ref (B 2), .ref (B 3), .ref (B 4)] (rowsL B V nn news)) :
    LCg.CompRest prog w A h₀ L m env elt x scope cl s S (fun i v => #[Value.int x0 t0, .int x1 t1, .int x2 t2, .int x3 t3, .int x4 t4][i]? = some v) Fin 5 0 [] news :=
  comp_new5 zeP h0 h1 h2 h3 h4 turn fun l0 o0 l1 o1 l2 o2 l3 o3 l4 o4 p0 p1 p2 p3 p4 d0 d1 d2 d3 d4 => by
    obtain ⟨v0, n0, rfl, i0⟩ := p0
    obtain ⟨v1, n1, rfl, i1⟩ := p1
    obtain ⟨v2, n2, rfl, i2⟩ := p2
    obtain ⟨v3, n3, rfl, i3⟩ := p3
    obtain ⟨v4, n4, rfl, i4⟩ := p4
    have e01 : l0 ≠ l1 := d1 _ List.mem_cons_self
    have e02 : l0 ≠ l2 := d2 _ (List.mem_cons_of_mem _ List.mem_cons_self)
    have e12 : l1 ≠ l2 := d2 _ List.mem_cons_self
    have e03 : l0 ≠ l3 := d3 _ (List.mem_cons_of_mem _ (List.mem_cons_of_mem _ List.mem_cons_self))
    have e13 : l1 ≠ l3 := d3 _ (List.mem_cons_of_mem _ List.mem_cons_self)
    have e23 : l2 ≠ l3 := d3 _ List.mem_cons_self
    have e04 : l0 ≠ l4 := d4 _ (List.mem_cons_of_mem _ (List.mem_cons_of_mem _ (List.mem_cons_of_mem _ List.mem_cons_self)))
    have e14 : l1 ≠ l4 := d4 _ (List.mem_cons_of_mem _ (List.mem_cons_of_mem _ List.mem_cons_self))
    have e24 : l2 ≠ l4 := d4 _ (List.mem_cons_of_mem _ List.mem_cons_self)
    have e34 : l3 ≠ l4 := d4 _ List.mem_cons_self
    refine fin (fun k => match k with | 0 => l0 | 1 => l1 | 2 => l2 | 3 => l3 | _ => l4) (fun k => match k with | 0 => v0 | 1 => v1 | 2 => v2 | 3 => v3 | _ => v4) (fun k => match k with | 0 => n0 | 1 => n1 | 2 => n2 | 3 => n3 | _ => n4) ?_ ?_ ?_
    · intro j hj
      match j, hj with
      | 0, _ => exact i0
      | 1, _ => exact i1
      | 2, _ => exact i2
      | 3, _ => exact i3
      | 4, _ => exact i4
    · intro j k hj hk
      match j, hj with
      | 0, _ =>
        match k, hk with
        | 0, _ => exact fun _ => rfl
        | 1, _ => exact fun e => absurd e e01
        | 2, _ => exact fun e => absurd e e02
        | 3, _ => exact fun e => absurd e e03
        | 4, _ => exact fun e => absurd e e04
      | 1, _ =>
        match k, hk with
        | 0, _ => exact fun e => absurd e (Ne.symm e01)
        | 1, _ => exact fun _ => rfl
        | 2, _ => exact fun e => absurd e e12
        | 3, _ => exact fun e => absurd e e13
        | 4, _ => exact fun e => absurd e e14
      | 2, _ =>
        match k, hk with
        | 0, _ => exact fun e => absurd e (Ne.symm e02)
        | 1, _ => exact fun e => absurd e (Ne.symm e12)
        | 2, _ => exact fun _ => rfl
        | 3, _ => exact fun e => absurd e e23
        | 4, _ => exact fun e => absurd e e24
      | 3, _ =>
        match k, hk with
        | 0, _ => exact fun e => absurd e (Ne.symm e03)
        | 1, _ => exact fun e => absurd e (Ne.symm e13)
        | 2, _ => exact fun e => absurd e (Ne.symm e23)
        | 3, _ => exact fun _ => rfl
        | 4, _ => exact fun e => absurd e e34
      | 4, _ =>
        match k, hk with
        | 0, _ => exact fun e => absurd e (Ne.symm e04)
        | 1, _ => exact fun e => absurd e (Ne.symm e14)
        | 2, _ => exact fun e => absurd e (Ne.symm e24)
        | 3, _ => exact fun e => absurd e (Ne.symm e34)
        | 4, _ => exact fun _ => rfl
    · intro k hk p hp
      match k, hk with
      | 0, _ => exact d0 p hp
      | 1, _ => exact d1 p (by simp [hp])
      | 2, _ => exact d2 p (by simp [hp])
      | 3, _ => exact d3 p (by simp [hp])
      | 4, _ => exact d4 p (by simp [hp])
variable {E : Value → Shared → Prop}
theorem item_tup {Pf : Int → Obj → Prop} {X : Nat → Int} {l : Addr} {nws : List (Addr × Obj)} {value slice : PySem.Expr} {vs : List Value} {n : Nat} {k : Int} {u : Tok} {Q : Value → Shared → Prop}
    (N : News h₀ L s.heap news) (hm : (l, listOf vs.toArray n) ∈ news) (hT : TupOk Pf X vs nws) (hb : 0 ≤ k ∧ k < 5) (h : ∀ a o, (a, o) ∈ nws → Pf (X k.toNat) o → Q (.ref a) s)
    (hs : subscripted slice false (.ref l) (.int k u) = operate [.ref l, .int k u] (getItem (.ref l) (.int k u)) := by with_unfolding_all rfl) :
    wpAny (model prog w) A (subscriptTail value slice (.ref l) (.int k u)) Q E s := by
  obtain ⟨a, o, e, hm', hp⟩ := hT k.toNat (by omega)
  exact item_val N hm hb.1 (by omega) e (h a o hm' hp) hs
theorem item_B {B : Nat → Addr} {l : Addr} {value slice : PySem.Expr} {n : Nat} {k : Int} {u : Tok} {Q : Value → Shared → Prop}
    (N : News h₀ L s.heap news) (hm : (l, listOf [.ref (B 0), .ref (B 1), .ref (B 2), .ref (B 3), .ref (B 4)].toArray n) ∈ news) (hb : 0 ≤ k ∧ k < 5) (h : Q (.ref (B k.toNat)) s)
    (hs : subscripted slice false (.ref l) (.int k u) = operate [.ref l, .int k u] (getItem (.ref l) (.int k u)) := by with_unfolding_all rfl) :
    wpAny (model prog w) A (subscriptTail value slice (.ref l) (.int k u)) Q E s := by
  refine item_val N hm hb.1 (by omega) ?_ h hs
  have hk : k.toNat < 5 := by omega
  generalize k.toNat = j at hk ⊢
  match j, hk with
  | 0, _ => rfl
  | 1, _ => rfl
  | 2, _ => rfl
  | 3, _ => rfl
  | 4, _ => rfl
def setV (V : Nat → List Value) (a : Nat) (q : List Value) : Nat → List Value := fun j => if j = a then q else V j
def setR (R : Nat → List Int) (a b : Nat) (x : Int) : Nat → List Int := fun j => if j = a then (R j).set b x else R j
theorem ints_set {vs : List Value} {ns : List Int} (h : IntsAre vs ns) : ∀ (b : Nat) (x : Int) (t : Tok), IntsAre (vs.set b (.int x t)) (ns.set b x) := by
  induction h with
  | nil => intro b x t; exact .nil
  | cons n t _ ih =>
    intro b x u
    cases b with
    | zero => exact .cons x u (by assumption)
    | succ b => exact .cons n t (ih b x u)
theorem rowsL_upd {B : Nat → Addr} {V : Nat → List Value} {nn : Nat → Nat} {tail : List (Addr × Obj)} {I : Addr} {o : Obj} (hI : ∀ k, k < 5 → B k ≠ I) (inj : ∀ j k, j < 5 → k < 5 → B j = B k → j = k) (off : ∀ k, k < 5 → ∀ p ∈ tail, p.1 ≠ B k) {a : Nat} (ha : a < 5) (q : List Value) :
    ∃ pre post, (I, o) :: rowsL B V nn tail = pre ++ (B a, listOf (V a).toArray (nn a)) :: post ∧ (I, o) :: rowsL B (setV V a q) nn tail = pre ++ (B a, listOf q.toArray (nn a)) :: post ∧ (∀ p ∈ pre, p.1 ≠ B a) ∧ (∀ p ∈ post, p.1 ≠ B a) := by
  have hn : ∀ j, j < 5 → j ≠ a → B j ≠ B a := fun j hj hne e => hne (inj j a hj ha e)
  match a, ha with
  | 4, h => exact ⟨[(I, o)], _, rfl, rfl, (fun p hp => by simp at hp; rw [hp]; exact Ne.symm (hI 4 h)), fun p hp => by
      simp only [List.mem_cons] at hp
      rcases hp with rfl | rfl | rfl | rfl | hp
      · exact hn 3 (by decide) (by decide)
      · exact hn 2 (by decide) (by decide)
      · exact hn 1 (by decide) (by decide)
      · exact hn 0 (by decide) (by decide)
      · exact off 4 h p hp⟩
  | 3, h => exact ⟨[(I, o), _], _, rfl, rfl, (fun p hp => by
      simp only [List.mem_cons, List.not_mem_nil, or_false] at hp
      rcases hp with rfl | rfl
      · exact Ne.symm (hI 3 h)
      · exact hn 4 (by decide) (by decide)), fun p hp => by
      simp only [List.mem_cons] at hp
      rcases hp with rfl | rfl | rfl | hp
      · exact hn 2 (by decide) (by decide)
      · exact hn 1 (by decide) (by decide)
      · exact hn 0 (by decide) (by decide)
      · exact off 3 h p hp⟩
  | 2, h => exact ⟨[(I, o), _, _], _, rfl, rfl, (fun p hp => by
      simp only [List.mem_cons, List.not_mem_nil, or_false] at hp
      rcases hp with rfl | rfl | rfl
      · exact Ne.symm (hI 2 h)
      · exact hn 4 (by decide) (by decide)
      · exact hn 3 (by decide) (by decide)), fun p hp => by
      simp only [List.mem_cons] at hp
      rcases hp with rfl | rfl | hp
      · exact hn 1 (by decide) (by decide)
      · exact hn 0 (by decide) (by decide)
      · exact off 2 h p hp⟩
  | 1, h => exact ⟨[(I, o), _, _, _], _, rfl, rfl, (fun p hp => by
      simp only [List.mem_cons, List.not_mem_nil, or_false] at hp
      rcases hp with rfl | rfl | rfl | rfl
      · exact Ne.symm (hI 1 h)
      · exact hn 4 (by decide) (by decide)
      · exact hn 3 (by decide) (by decide)
      · exact hn 2 (by decide) (by decide)), fun p hp => by
      simp only [List.mem_cons] at hp
      rcases hp with rfl | hp
      · exact hn 0 (by decide) (by decide)
      · exact off 1 h p hp⟩
  | 0, h => exact ⟨[(I, o), _, _, _, _], _, rfl, rfl, (fun p hp => by
      simp only [List.mem_cons, List.not_mem_nil, or_false] at hp
      rcases hp with rfl | rfl | rfl | rfl | rfl
      · exact Ne.symm (hI 0 h)
      · exact hn 4 (by decide) (by decide)
      · exact hn 3 (by decide) (by decide)
      · exact hn 2 (by decide) (by decide)
      · exact hn 1 (by decide) (by decide)), fun p hp => off 0 h p hp⟩
theorem set_row {B : Nat → Addr} {V : Nat → List Value} {nn : Nat → Nat} {tail : List (Addr × Obj)} {I : Addr} {o : Obj} {R : Nat → List Int} {ka kb : Int} {t tv : Tok} {x : Int} {Q : Unit → Shared → Prop} (F : Fr h₀ L s.heap m) (N : News h₀ L s.heap ((I, o) :: rowsL B V nn tail))
    (hI : ∀ k, k < 5 → B k ≠ I) (inj : ∀ j k, j < 5 → k < 5 → B j = B k → j = k) (off : ∀ k, k < 5 → ∀ p ∈ tail, p.1 ≠ B k) (hV : ∀ j, j < 5 → IntsAre (V j) (R j)) (hR : ∀ j, j < 5 → (R j).length = 5) (ha : 0 ≤ ka ∧ ka < 5) (hb : 0 ≤ kb ∧ kb < 5)
    (h : ∀ V' h', Fr h₀ L h' m → News h₀ L h' ((I, o) :: rowsL B V' nn tail) → (∀ j, j < 5 → IntsAre (V' j) (setR R ka.toNat kb.toNat x j)) → Q () { s with heap := h' }) :
    wpAny (model prog w) A (setItem (.ref (B ka.toNat)) (.int kb t) (.int x tv)) Q E s := by
  have ha' : ka.toNat < 5 := by omega
  obtain ⟨pre, post, e1, e2, hp, hq⟩ := rowsL_upd (nn := nn) (V := V) (o := o) hI inj off ha' ((V ka.toNat).set kb.toNat (.int x tv))
  have N1 : News h₀ L s.heap (pre ++ (B ka.toNat, listOf (V ka.toNat).toArray (nn ka.toNat)) :: post) := e1 ▸ N
  have z := N1 (B ka.toNat, listOf (V ka.toNat).toArray (nn ka.toNat)) (List.mem_append.mpr (.inr (.head _)))
  have hl : (V ka.toNat).length = 5 := by rw [(hV _ ha').length]; exact hR _ ha'
  refine ki_setAt z.1 hb.1 (by omega) (by rw [List.size_toArray, hl]; omega) (h _ _ (F.change (Heap.SameBut.update ..) z.2.1 z.2.2) (e2 ▸ ki_turn _ N1 hp hq ?_ ?_) fun j hj => ?_)
  · unfold setV setR
    by_cases e : j = ka.toNat
    · rw [if_pos e, if_pos e, e]; exact ints_set (hV _ ha') _ _ _
    · rw [if_neg e, if_neg e]; exact hV j hj
  · show (V ka.toNat).toArray.setIfInBounds kb.toNat (.int x tv) = ((V ka.toNat).set kb.toNat (.int x tv)).toArray
    simp
  · simp
end
theorem off1_mem {D : Addr} : ∀ {l : List (Addr × Obj)}, LCg.Off1 D l → ∀ p ∈ l, p.1 ≠ D
  | [], _, _, h => nomatch h
  | _ :: _, x, p, h => by
    rcases List.mem_cons.mp h with rfl | h
    · exact x.1
    · exact off1_mem x.2 p h
theorem news_sub {h₀ h : Heap} {L : Addr} {l l' : List (Addr × Obj)} (N : News h₀ L h l) (sub : ∀ p ∈ l', p ∈ l) : News h₀ L h l' := fun p hp => N p (sub p hp)
theorem perm1 {B : Nat → Addr} {V : Nat → List Value} {nn : Nat → Nat} {t : List (Addr × Obj)} {x y : Addr × Obj} : ∀ p ∈ x :: rowsL B V nn (y :: t), p ∈ x :: y :: rowsL B V nn t := by
  intro p
  simp only [rowsL, List.mem_cons]
  intro h
  rcases h with h | h | h | h | h | h | h | h <;> simp [h]
theorem perm2 {B : Nat → Addr} {V : Nat → List Value} {nn : Nat → Nat} {t : List (Addr × Obj)} {x : Addr × Obj} : ∀ p ∈ x :: rowsL B V nn t, p ∈ rowsL B V nn (x :: t) := by
  intro p
  simp only [rowsL, List.mem_cons]
  intro h
  rcases h with h | h | h | h | h | h | h <;> simp [h]
theorem perm3 {B : Nat → Addr} {V : Nat → List Value} {nn : Nat → Nat} {t : List (Addr × Obj)} {x : Addr × Obj} : ∀ p ∈ rowsL B V nn (x :: t), p ∈ x :: rowsL B V nn t := by
  intro p
  simp only [rowsL, List.mem_cons]
  intro h
  rcases h with h | h | h | h | h | h | h <;> simp [h]
theorem small_i {i : Nat} (h : i < 5) : Builtin.Range.small 0 (i : Int) 1 = true := by
  match i, h with
  | 0, _ => decide
  | 1, _ => decide
  | 2, _ => decide
  | 3, _ => decide
  | 4, _ => decide
theorem size_i {i : Nat} (h : i < 5) : Builtin.Range.rangeSize 0 (i : Int) 1 = ((i : Nat) : Int) := by
  match i, h with
  | 0, _ => decide
  | 1, _ => decide
  | 2, _ => decide
  | 3, _ => decide
  | 4, _ => decide
theorem forR0 {prog : Program} {w : World} {A : Around} {E : Value → Shared → Prop} {s : Shared} {env : Env} {x : Str} {px : Pos} {body : List Stmt} {Q : Flow → Shared → Prop} {h₀ : Heap} {L I : Addr} {n : Nat} (J : Nat → (Str → Option Value) → List (Addr × Obj) → Prop) (hE : PassesOwn (model prog w) A env E) (hh : A.handled = none)
    (step : ∀ (i : Nat) t m₁ nw I o h tk, i < n → J i m₁ nw → Fr h₀ L h m₁ → News h₀ L h ((I, o) :: nw) → (∀ p ∈ nw, p.1 ≠ I) →
      wpAny (model prog w) A (storeName env x (.int (i : Int) t)) (fun _ s₂ => wpAny (model prog w) A (execs body env) (TurnE h₀ L I o (J (i + 1)) { s with heap := h, toks := tk }) E s₂) E { s with heap := h, toks := tk })
    (fin : ∀ m₁ nw h tk, J n m₁ nw → Fr h₀ L h m₁ → News h₀ L h nw → Q .next { s with heap := h, toks := tk })
    (m₁ : Str → Option Value) (nw : List (Addr × Obj)) (h : Heap) (tk : Nat) (j : J 0 m₁ nw) (F : Fr h₀ L h m₁) (N : News h₀ L h ((I, itR 0 (n : Int)) :: nw)) (off : ∀ p ∈ nw, p.1 ≠ I) :
      ForRest prog w A E env x px body Q (.ref I) { s with heap := h, toks := tk } :=
  forR_ind (a := 0) J hE hh (fun i t m₁ nw I o h tk hi j F N off => by rw [Int.zero_add]; exact step i t m₁ nw I o h tk hi j F N off) fin n 0 m₁ nw h tk (Nat.zero_add n) j F N off
def qM (m0 : Str → Option Value) (ma mb mm : Option Value) : Str → Option Value := fun y => if y = Str.ofString "marks" then mm else if y = Str.ofString "b" then mb else if y = Str.ofString "a" then ma else m0 y
theorem qM_none (m0 : Str → Option Value) (h1 : m0 (Str.ofString "marks") = none) (h2 : m0 (Str.ofString "b") = none) (h3 : m0 (Str.ofString "a") = none) : m0 = qM m0 none none none := funext fun y => by
  unfold qM
  by_cases e1 : y = Str.ofString "marks"
  · rw [if_pos e1, e1, h1]
  · rw [if_neg e1]
    by_cases e2 : y = Str.ofString "b"
    · rw [if_pos e2, e2, h2]
    · rw [if_neg e2]
      by_cases e3 : y = Str.ofString "a"
      · rw [if_pos e3, e3, h3]
      · rw [if_neg e3]
theorem qM_a (m0 : Str → Option Value) (ma mb mm : Option Value) (v : Value) : (fun y => if y = Str.ofString "a" then some v else qM m0 ma mb mm y) = qM m0 (some v) mb mm := funext fun y => by
  unfold qM
  by_cases e3 : y = Str.ofString "a"
  · subst e3; rfl
  · rw [if_neg e3, if_neg e3, if_neg e3]
theorem qM_bm (m0 : Str → Option Value) (ma mb mm : Option Value) (v u : Value) : (fun y => if y = Str.ofString "marks" then some u else if y = Str.ofString "b" then some v else qM m0 ma mb mm y) = qM m0 ma (some v) (some u) := funext fun y => by
  unfold qM
  by_cases e1 : y = Str.ofString "marks"
  · simp only [if_pos e1]
  · simp only [if_neg e1]
    by_cases e2 : y = Str.ofString "b"
    · simp only [if_pos e2]
    · simp only [if_neg e2]
section
variable {prog : Program} {w : World} {A : Around} {E : Value → Shared → Prop} {s : Shared} {h₀ : Heap} {L : Addr} {m : Str → Option Value} {news : List (Addr × Obj)}
theorem item_tupN {Pf : Int → Obj → Prop} {X : Nat → Int} {l : Addr} {nws : List (Addr × Obj)} {value slice : PySem.Expr} {vs : List Value} {n : Nat} {k : Nat} {u : Tok} {Q : Value → Shared → Prop}
    (N : News h₀ L s.heap news) (hm : (l, listOf vs.toArray n) ∈ news) (hT : TupOk Pf X vs nws) (hb : k < 5) (h : ∀ a o, (a, o) ∈ nws → Pf (X k) o → Q (.ref a) s)
    (hs : subscripted slice false (.ref l) (.int (k : Int) u) = operate [.ref l, .int (k : Int) u] (getItem (.ref l) (.int (k : Int) u)) := by with_unfolding_all rfl) :
    wpAny (model prog w) A (subscriptTail value slice (.ref l) (.int (k : Int) u)) Q E s := item_tup N hm hT ⟨by omega, by omega⟩ h hs
theorem item_BN {B : Nat → Addr} {l : Addr} {value slice : PySem.Expr} {n : Nat} {k : Nat} {u : Tok} {Q : Value → Shared → Prop}
    (N : News h₀ L s.heap news) (hm : (l, listOf [.ref (B 0), .ref (B 1), .ref (B 2), .ref (B 3), .ref (B 4)].toArray n) ∈ news) (hb : k < 5) (h : Q (.ref (B k)) s)
    (hs : subscripted slice false (.ref l) (.int (k : Int) u) = operate [.ref l, .int (k : Int) u] (getItem (.ref l) (.int (k : Int) u)) := by with_unfolding_all rfl) :
    wpAny (model prog w) A (subscriptTail value slice (.ref l) (.int (k : Int) u)) Q E s := item_B N hm ⟨by omega, by omega⟩ h hs
theorem set_rowN {B : Nat → Addr} {V : Nat → List Value} {nn : Nat → Nat} {tail : List (Addr × Obj)} {I : Addr} {o : Obj} {R : Nat → List Int} {ka kb : Nat} {t tv : Tok} {x : Int} {Q : Unit → Shared → Prop} (F : Fr h₀ L s.heap m) (N : News h₀ L s.heap ((I, o) :: rowsL B V nn tail))
    (hI : ∀ k, k < 5 → B k ≠ I) (inj : ∀ j k, j < 5 → k < 5 → B j = B k → j = k) (off : ∀ k, k < 5 → ∀ p ∈ tail, p.1 ≠ B k) (hV : ∀ j, j < 5 → IntsAre (V j) (R j)) (hR : ∀ j, j < 5 → (R j).length = 5) (ha : ka < 5) (hb : kb < 5)
    (h : ∀ V' h', Fr h₀ L h' m → News h₀ L h' ((I, o) :: rowsL B V' nn tail) → (∀ j, j < 5 → IntsAre (V' j) (setR R ka kb x j)) → Q () { s with heap := h' }) :
    wpAny (model prog w) A (setItem (.ref (B ka)) (.int (kb : Int) t) (.int x tv)) Q E s :=
  set_row (ka := (ka : Int)) (kb := (kb : Int)) F N hI inj off hV hR ⟨by omega, by omega⟩ ⟨by omega, by omega⟩ h
theorem setR_len {R : Nat → List Int} {a b : Nat} {x : Int} (h : ∀ j, j < 5 → (R j).length = 5) : ∀ j, j < 5 → (setR R a b x j).length = 5 := fun j hj => by
  unfold setR
  split
  · rw [List.length_set]; exact h j hj
  · exact h j hj
end
/-- the rows after the turns (a, 0) .. (a, b - 1) -/
def MM (X : Nat → Int) (a b j k : Nat) : Int := if (j < a ∧ k < a) ∨ (j = a ∧ k < b) ∨ (k = a ∧ j < b) then qdue (X j) (X k) else 0
def rowM (M : Nat → Nat → Int) (j : Nat) : List Int := [M j 0, M j 1, M j 2, M j 3, M j 4]
theorem rowM_len (M : Nat → Nat → Int) (j : Nat) : (rowM M j).length = 5 := rfl
theorem rowM_set (M : Nat → Nat → Int) (j b : Nat) (x : Int) (hb : b < 5) : (rowM M j).set b x = rowM (fun j' k => if k = b then x else M j' k) j := by
  match b, hb with
  | 0, _ => rfl
  | 1, _ => rfl
  | 2, _ => rfl
  | 3, _ => rfl
  | 4, _ => rfl
theorem setR_rowM (M : Nat → Nat → Int) (a b : Nat) (x : Int) (hb : b < 5) : setR (rowM M) a b x = rowM (fun j k => if j = a ∧ k = b then x else M j k) := funext fun j => by
  unfold setR
  by_cases h : j = a
  · rw [if_pos h, rowM_set M j b x hb]
    simp only [rowM, h, true_and]
  · rw [if_neg h]
    simp only [rowM, h, false_and, if_false]
theorem MM_yes (X : Nat → Int) {a b : Nat} (h : b < a) (ha : a < 5) (hq : qdue (X a) (X b) = 1) : setR (setR (rowM (MM X a b)) a b 1) b a 1 = rowM (MM X a (b + 1)) := by
  rw [setR_rowM _ _ _ _ (by omega), setR_rowM _ _ _ _ (by omega)]
  congr 1
  funext j k
  have hq' : qdue (X b) (X a) = 1 := by rw [qdue_symm]; exact hq
  unfold MM
  by_cases h1 : j = b ∧ k = a
  · rw [if_pos h1, h1.1, h1.2, if_pos (by omega), hq']
  · rw [if_neg h1]
    by_cases h2 : j = a ∧ k = b
    · rw [if_pos h2, h2.1, h2.2, if_pos (by omega), hq]
    · rw [if_neg h2]
      by_cases h3 : (j < a ∧ k < a) ∨ (j = a ∧ k < b) ∨ (k = a ∧ j < b)
      · rw [if_pos h3, if_pos (by omega)]
      · rw [if_neg h3, if_neg (by omega)]
theorem MM_no (X : Nat → Int) {a b : Nat} (h : b < a) (hq : qdue (X a) (X b) = 0) : MM X a b = MM X a (b + 1) := by
  funext j k
  have hq' : qdue (X b) (X a) = 0 := by rw [qdue_symm]; exact hq
  unfold MM
  by_cases h1 : j = b ∧ k = a
  · rw [h1.1, h1.2, if_neg (by omega), if_pos (by omega), hq']
  · by_cases h2 : j = a ∧ k = b
    · rw [h2.1, h2.2, if_neg (by omega), if_pos (by omega), hq]
    · by_cases h3 : (j < a ∧ k < a) ∨ (j = a ∧ k < b) ∨ (k = a ∧ j < b)
      · rw [if_pos h3, if_pos (by omega)]
      · rw [if_neg h3, if_neg (by omega)]
theorem MM_next (X : Nat → Int) (a : Nat) : MM X a a = MM X (a + 1) 0 := by
  funext j k
  unfold MM
  by_cases h1 : j = a ∧ k = a
  · rw [h1.1, h1.2, if_neg (by omega), if_pos (by omega), qdue_diag]
  · by_cases h3 : (j < a ∧ k < a) ∨ (j = a ∧ k < a) ∨ (k = a ∧ j < a)
    · rw [if_pos h3, if_pos (by omega)]
    · rw [if_neg h3, if_neg (by omega)]
theorem MM_zero (X : Nat → Int) (j : Nat) : rowM (MM X 0 0) j = [0, 0, 0, 0, 0] := by
  have h : ∀ k, MM X 0 0 j k = 0 := fun k => by unfold MM; rw [if_neg (by omega)]
  unfold rowM
  rw [h, h, h, h, h]
def qJ (B : Nat → Addr) (nn : Nat → Nat) (m0 : Str → Option Value) (T : List (Addr × Obj)) (X : Nat → Int) (i : Nat) (m : Str → Option Value) (nw : List (Addr × Obj)) : Prop :=
  ∃ ma mb mm V, m = qM m0 ma mb mm ∧ nw = rowsL B V nn T ∧ ∀ j, j < 5 → IntsAre (V j) (rowM (MM X i 0) j)
def qK (B : Nat → Addr) (nn : Nat → Nat) (m0 : Str → Option Value) (ma : Option Value) (T : List (Addr × Obj)) (X : Nat → Int) (i b : Nat) (m : Str → Option Value) (nw : List (Addr × Obj)) : Prop :=
  ∃ mb mm V, m = qM m0 ma mb mm ∧ nw = rowsL B V nn T ∧ ∀ j, j < 5 → IntsAre (V j) (rowM (MM X i b) j)
theorem turnQ {h₀ h' : Heap} {L I : Addr} {o : Obj} {s : Shared} {B : Nat → Addr} {V V' : Nat → List Value} {nn : Nat → Nat} {m0 m' : Str → Option Value} {ma mb mm : Option Value} {T : List (Addr × Obj)} {X : Nat → Int} {R : Nat → List Int} {i b : Nat} {tk' : Nat}
    (F : Fr h₀ L h' m') (N : News h₀ L h' ((I, o) :: rowsL B V' nn T)) (hV' : ∀ j, j < 5 → IntsAre (V' j) (R j)) (off : ∀ p ∈ rowsL B V nn T, p.1 ≠ I) (hm : m' = qM m0 ma mb mm) (hR : R = rowM (MM X i (b + 1))) :
    TurnE h₀ L I o (qK B nn m0 ma T X i (b + 1)) s .next { s with heap := h', toks := tk' } :=
  TurnE.mk (rowsL B V' nn T) F N (fun _ h => h) (rowsL_all (P := fun b => b ≠ I) (rowsL_B (P := fun b => b ≠ I) off) fun p hp => off p (rowsL_tail hp)) ⟨mb, mm, V', hm, rfl, fun j hj => hR ▸ hV' j hj⟩
theorem MM_full (X : Nat → Int) {j : Nat} (hj : j < 5) : rowM (MM X 5 0) j = [qdue (X j) (X 0), qdue (X j) (X 1), qdue (X j) (X 2), qdue (X j) (X 3), qdue (X j) (X 4)] := by
  have h : ∀ k, k < 5 → MM X 5 0 j k = qdue (X j) (X k) := fun k hk => by unfold MM; rw [if_pos (by omega)]
  unfold rowM
  rw [h 0 (by decide), h 1 (by decide), h 2 (by decide), h 3 (by decide), h 4 (by decide)]
end Mine
namespace Mine
section
variable {prog : Program} {w : World} {A : Around} {E : Value → Shared → Prop} {s : Shared} {h₀ : Heap} {L : Addr} {m : Str → Option Value} {env : Env} {elt iter : PySem.Expr} {x y d0 : Str} {px pos : Pos} {scope : Scope} {cl : List (Str × Addr)} {news : List (Addr × Obj)}
/-- the frame of a comprehension whose name is a cell, at K -/
def cellEnv (scope : Scope) (cl : List (Str × Addr)) (x : Str) (C K : Addr) (env : Env) : Env :=
  { scope := relabel scope env, locals := C, globals := env.globals, cells := (x, K) :: cl, qual := env.qual, func := none, code := env.code, frame := env.frame, builtins := env.builtins }
def CellOut (h₀ : Heap) (L : Addr) (m : Str → Option Value) (s : Shared) (all : List (Addr × Obj)) (P : Obj → Prop) (v : Value) (s' : Shared) : Prop :=
  ∃ l o h' tk', v = .ref l ∧ s' = { s with heap := h', toks := tk' } ∧ Fr h₀ L h' m ∧ News h₀ L h' ((l, o) :: all) ∧ (∀ p ∈ all, p.1 ≠ l) ∧ P o
theorem CellOut.mk {l : Addr} {o : Obj} {h' : Heap} {tk' : Nat} {all : List (Addr × Obj)} {P : Obj → Prop} (F : Fr h₀ L h' m) (N : News h₀ L h' ((l, o) :: all)) (d : LCg.Off1 l all) (p : P o) : CellOut h₀ L m s all P (.ref l) { s with heap := h', toks := tk' } :=
  ⟨l, o, h', tk', rfl, rfl, F, N, off1_mem d, p⟩
def CellTurn (prog : Program) (w : World) (A : Around) (h₀ : Heap) (L : Addr) (m : Str → Option Value) (env : Env) (elt : PySem.Expr) (x : Str) (scope : Scope) (cl : List (Str × Addr)) (s : Shared) (news : List (Addr × Obj)) (Pf : Int → Obj → Prop) : Prop :=
  ∀ k t I oI C oC K oK D ys nw h tk (E' : Value → Shared → Prop), (0 ≤ k ∧ k < 64) → oK.data = .cell (some (.int k t)) → Fr h₀ L h m → News h₀ L h ((I, oI) :: (C, oC) :: (K, oK) :: (D, LCg.lst ys) :: nw) →
    (∀ p ∈ nw, p.1 ≠ I) → (∀ p ∈ nw, p.1 ≠ C) → (∀ p ∈ nw, p.1 ≠ K) → (∀ p ∈ nw, p.1 ≠ D) → (@Ne Nat I C) → (@Ne Nat I K) → (@Ne Nat I D) → (@Ne Nat C K) → (@Ne Nat C D) → (@Ne Nat K D) → (∀ p ∈ news, p ∈ nw) →
    wpAny (model prog w) A (eval elt (cellEnv scope cl x C K env)) (CellOut h₀ L m { s with heap := h, toks := tk } ((I, oI) :: (C, oC) :: (K, oK) :: (D, LCg.lst ys) :: nw) (Pf k)) E' { s with heap := h, toks := tk }
def CellSrc (prog : Program) (w : World) (A : Around) (h₀ : Heap) (L : Addr) (m : Str → Option Value) (env : Env) (elt : PySem.Expr) (x : Str) (scope : Scope) (cl : List (Str × Addr)) (Q : Value → Shared → Prop) (xv : Value) (s₁ : Shared) : Prop :=
  ∃ ax n news Pf x0 x1 x2 x3 x4 t0 t1 t2 t3 t4, xv = .ref ax ∧ A.handled = none ∧ Fr h₀ L s₁.heap m ∧ News h₀ L s₁.heap news ∧ (ax, listOf [.int x0 t0, .int x1 t1, .int x2 t2, .int x3 t3, .int x4 t4].toArray n) ∈ news ∧
    (0 ≤ x0 ∧ x0 < 64) ∧ (0 ≤ x1 ∧ x1 < 64) ∧ (0 ≤ x2 ∧ x2 < 64) ∧ (0 ≤ x3 ∧ x3 < 64) ∧ (0 ≤ x4 ∧ x4 < 64) ∧
    (∀ g, CellTurn prog w A h₀ L m env elt x scope cl { s₁ with heap := g } news Pf) ∧
    (∀ l0 o0 l1 o1 l2 o2 l3 o3 l4 o4 D h' tk', Pf x0 o0 → Pf x1 o1 → Pf x2 o2 → Pf x3 o3 → Pf x4 o4 → (∀ p ∈ news, p.1 ≠ l0) → (∀ p ∈ news, p.1 ≠ l1) → (∀ p ∈ news, p.1 ≠ l2) → (∀ p ∈ news, p.1 ≠ l3) → (∀ p ∈ news, p.1 ≠ l4) → (∀ p ∈ news, p.1 ≠ D) →
      Fr h₀ L h' m → News h₀ L h' ((D, listOf [.ref l0, .ref l1, .ref l2, .ref l3, .ref l4].toArray 5) :: (l4, o4) :: (l3, o3) :: (l2, o2) :: (l1, o1) :: (l0, o0) :: news) → Q (.ref D) { s₁ with heap := h', toks := tk' })
theorem cell_name {M : Model} {C K c : Addr} {o : Obj} {n : Str} {p : Pos} {v : Value} {Q : Value → Shared → Prop} (N : News h₀ L s.heap news) (hc : ((x, K) :: cl).lookup n = some c) (hm : (c, o) ∈ news) (hd : o.data = .cell (some v)) (h : Q v s)
    (hk : (cellEnv scope cl x C K env).scope.kind = .function) (hx : (cellEnv scope cl x C K env).kindOf n = some .cell) (hb : (n == ("__debug__" : Str)) = false) : wpAny M A (eval (.Name n p) (cellEnv scope cl x C K env)) Q E s :=
  wpAny_Name (wpAny_loadName_cell hk hx hc ⟨o, N.get hm, hd⟩ h) hb
theorem CellSrc.mk {Q : Value → Shared → Prop} {ax : Addr} {n : Nat} {news : List (Addr × Obj)} (Pf : Int → Obj → Prop) {x0 x1 x2 x3 x4 : Int} {t0 t1 t2 t3 t4 : Tok} {s₁ : Shared} (hh : A.handled = none) (F : Fr h₀ L s₁.heap m) (N : News h₀ L s₁.heap news) (hm : (ax, listOf [.int x0 t0, .int x1 t1, .int x2 t2, .int x3 t3, .int x4 t4].toArray n) ∈ news)
    (h0 : 0 ≤ x0 ∧ x0 < 64) (h1 : 0 ≤ x1 ∧ x1 < 64) (h2 : 0 ≤ x2 ∧ x2 < 64) (h3 : 0 ≤ x3 ∧ x3 < 64) (h4 : 0 ≤ x4 ∧ x4 < 64)
    (turn : ∀ g, CellTurn prog w A h₀ L m env elt x scope cl { s₁ with heap := g } news Pf)
    (fin : ∀ l0 o0 l1 o1 l2 o2 l3 o3 l4 o4 D h' tk', Pf x0 o0 → Pf x1 o1 → Pf x2 o2 → Pf x3 o3 → Pf x4 o4 → (∀ p ∈ news, p.1 ≠ l0) → (∀ p ∈ news, p.1 ≠ l1) → (∀ p ∈ news, p.1 ≠ l2) → (∀ p ∈ news, p.1 ≠ l3) → (∀ p ∈ news, p.1 ≠ l4) → (∀ p ∈ news, p.1 ≠ D) →
      Fr h₀ L h' m → News h₀ L h' ((D, listOf [.ref l0, .ref l1, .ref l2, .ref l3, .ref l4].toArray 5) :: (l4, o4) :: (l3, o3) :: (l2, o2) :: (l1, o1) :: (l0, o0) :: news) → Q (.ref D) { s₁ with heap := h', toks := tk' }) :
    CellSrc prog w A h₀ L m env elt x scope cl Q (.ref ax) s₁ := ⟨ax, n, news, Pf, x0, x1, x2, x3, x4, t0, t1, t2, t3, t4, rfl, hh, F, N, hm, h0, h1, h2, h3, h4, turn, fin⟩
theorem ints_at : ∀ {vs : List Value} {ns : List Int}, IntsAre vs ns → ∀ {i : Nat} {v : Value}, vs[i]? = some v → ∃ k t, ns[i]? = some k ∧ v = .int k t
  | _, _, .nil, _, _, h => by simp at h
  | _, _, .cons k t r, 0, _, h => by cases h; exact ⟨k, t, rfl, rfl⟩
  | _, _, .cons k t r, i + 1, _, h => ints_at r (i := i) (by simpa using h)
/-- the rows that the turns have laid, newest first -/
def RowsP (Pf : Int → Obj → Prop) (news : List (Addr × Obj)) : List Int → List (Addr × Obj) → Prop
  | [], os => os = []
  | k :: ks, os => ∃ l o r, os = (l, o) :: r ∧ Pf k o ∧ (∀ p ∈ news, p.1 ≠ l) ∧ RowsP Pf news ks r
theorem rowsP_len {Pf : Int → Obj → Prop} {news : List (Addr × Obj)} : ∀ {ks : List Int} {os : List (Addr × Obj)}, RowsP Pf news ks os → os.length = ks.length
  | [], os, h => by rw [show os = [] from h]; rfl
  | k :: ks, os, h => by
    obtain ⟨l, o, r, rfl, _, _, hr⟩ := h
    rw [List.length_cons, List.length_cons, rowsP_len hr]
def refsOf (os : List (Addr × Obj)) : List Value := os.reverse.map fun p => .ref p.1
theorem refsOf_cons (l : Addr) (o : Obj) (r : List (Addr × Obj)) : refsOf ((l, o) :: r) = refsOf r ++ [.ref l] := by
  unfold refsOf; rw [List.reverse_cons, List.map_append]; rfl
theorem loop_C {I D C K ax : Addr} {its : List Value} {xs : List Int} {n : Nat} {news : List (Addr × Obj)} {Pf : Int → Obj → Prop} {sz : Shared} {RR : Result → Shared → Prop} {h₁ : Heap} {tk₁ : Nat} {m₁ : Str → Option Value} {v₁ : Option Value}
    (hh : A.handled = none) (hIx : ax ≠ I) (hi : IntsAre its xs) (hsm : its.length ≤ sizeLine) (hax : (ax, listOf its.toArray n) ∈ news) (hk : (cellEnv scope cl x C K env).scope.kind = .function) (hx : (cellEnv scope cl x C K env).kindOf x = some .cell)
    (hb : ∀ k ∈ xs, 0 ≤ k ∧ k < 64) (nIC : I ≠ C) (nIK : I ≠ K) (nID : I ≠ D) (nCK : C ≠ K) (nCD : C ≠ D) (nKD : K ≠ D)
    (oI : ∀ p ∈ news, p.1 ≠ I) (oC : ∀ p ∈ news, p.1 ≠ C) (oK : ∀ p ∈ news, p.1 ≠ K) (oD : ∀ p ∈ news, p.1 ≠ D) (fI : h₀.get? I = none) (fC : h₀.get? C = none) (fK : h₀.get? K = none) (fD : h₀.get? D = none)
    (lI : L ≠ I) (lC : L ≠ C) (lK : L ≠ K) (lD : L ≠ D) (turn : CellTurn prog w A h₀ L m env elt x scope cl sz news Pf) (hst : h₁.IsListIter I ax 0 ∧ h₁.IsList ax its.toArray)
    (F : Fr h₀ L h₁ m) (hN : h₁.Ns C m₁) (hK : h₁.IsCell K v₁) (N : News h₀ L h₁ ((D, LCg.lst []) :: news))
    (hRR : ∀ os h tk m', Fr h₀ L h m → News h₀ L h ((D, LCg.lst (refsOf os)) :: (os ++ news)) → h.Ns C m' → (∀ p ∈ os, p.1 ≠ C) → RowsP Pf news xs.reverse os → RR (.ok .next) { sz with heap := h, toks := tk }) :
    codeAny (model prog w) A (.compLoop (.ListComp elt [⟨.Name x px, iter, [], 0⟩] scope pos) 0 (.ref I) (.ref D) (cellEnv scope cl x C K env)) RR { sz with heap := h₁, toks := tk₁ } := by
  have W := Walks.list (prog := prog) (w := w) hh I ax hIx its.toArray
  have hsz : its.toArray.size = xs.length := by rw [List.size_toArray, hi.length]
  refine codeAny_compLoop_tests
    (fun k s' => ∃ h' tk i os m' v', s' = { sz with heap := h', toks := tk } ∧ i ≤ xs.length ∧ k = xs.length + 1 - i ∧ (h'.IsListIter I ax i ∧ h'.IsList ax its.toArray) ∧ Fr h₀ L h' m ∧ h'.Ns C m' ∧ h'.IsCell K v' ∧ News h₀ L h' ((D, LCg.lst (refsOf os)) :: (os ++ news)) ∧
      (∀ p ∈ os, p.1 ≠ I) ∧ (∀ p ∈ os, p.1 ≠ C) ∧ (∀ p ∈ os, p.1 ≠ K) ∧ (∀ p ∈ os, p.1 ≠ D) ∧ RowsP Pf news (xs.take i).reverse os) ?_ (xs.length + 1)
    ⟨h₁, _, 0, [], _, _, rfl, Nat.zero_le _, rfl, hst, F, hN, hK, N, (fun _ h => nomatch h), (fun _ h => nomatch h), (fun _ h => nomatch h), (fun _ h => nomatch h), rfl⟩
  rintro k s' ⟨h', tk, i, os, m', v', rfl, hle, rfl, hst', F', hn', hc', N', pI, pC, pK, pD, hR⟩
  have app : ∀ {Z : Addr}, (∀ p ∈ os, p.1 ≠ Z) → (∀ p ∈ news, p.1 ≠ Z) → ∀ p ∈ os ++ news, p.1 ≠ Z := fun h1 h2 p hp => (List.mem_append.mp hp).elim (h1 p) (h2 p)
  have aI := app pI oI
  have aC := app pC oC
  have aK := app pK oK
  have aD := app pD oD
  have NI : ∀ h₂ : Heap, (∀ b o, b ∉ [I] → h'.get? b = some o → h₂.get? b = some o) → News h₀ L h₂ ((D, LCg.lst (refsOf os)) :: (os ++ news)) := fun h₂ hk₂ => LCg.news_but N' hk₂ fun p hp => by
    rcases List.mem_cons.mp hp with rfl | hp
    · exact Ne.symm nID
    · exact aI p hp
  by_cases hlt : i < xs.length
  · refine W.item i _ _ _ (hsz ▸ hlt) hst' fun v h₂ tk₂ hPv hst₂ hk₂ => ?_
    obtain ⟨t, rfl⟩ : ∃ t, v = .int xs[i] t := by
      obtain ⟨kv, t, e1, e2⟩ := ints_at hi (i := i) (by simpa using hPv)
      rw [List.getElem?_eq_getElem hlt] at e1
      cases e1
      exact ⟨t, e2⟩
    have F₂ := LCg.fr_but F' hk₂ lI fI
    have N₂ := NI h₂ hk₂
    have hn₂ : h₂.Ns C m' := hn'.at' fun o e => hk₂ _ o (by simpa using Ne.symm nIC) e
    have hc₂ : h₂.IsCell K v' := by obtain ⟨o, e, d⟩ := hc'; exact ⟨o, hk₂ _ o (by simpa using Ne.symm nIK) e, d⟩
    refine wpAny_assign_Name (wpAny_storeName_cell hk hx (List.lookup_cons_self) hc₂ fun h₃ hc₃ hs₃ => ?_)
    refine wpAny_tests_nil ?_
    simp only [if_true]
    have hst₃ : h₃.IsListIter I ax (i + 1) ∧ h₃.IsList ax its.toArray := W.frame _ _ _ hst₂ fun b hb o e => hs₃.extBut b o (fun q => by
      subst q
      rcases List.mem_cons.mp hb with e | e
      · exact nIK e.symm
      · exact oK _ hax (List.mem_singleton.mp e).symm) e
    obtain ⟨oI', heI, _⟩ := id hst₃.1
    obtain ⟨oC', heC, hoC⟩ := LCg.ns_obj (hn₂.sameBut hs₃ nCK)
    obtain ⟨oK', heK, hdK⟩ := id hc₃
    have F₃ : Fr h₀ L h₃ m := F₂.change hs₃ (Ne.symm lK) fK
    have N₃ : News h₀ L h₃ ((I, oI') :: (C, oC') :: (K, oK') :: (D, LCg.lst (refsOf os)) :: (os ++ news)) := fun p hp => by
      rcases List.mem_cons.mp hp with rfl | hp
      · exact ⟨heI, Ne.symm lI, fI⟩
      rcases List.mem_cons.mp hp with rfl | hp
      · exact ⟨heC, Ne.symm lC, fC⟩
      rcases List.mem_cons.mp hp with rfl | hp
      · exact ⟨heK, Ne.symm lK, fK⟩
      have z := N₂ p hp
      refine ⟨hs₃.extBut _ _ ?_ z.1, z.2⟩
      rcases List.mem_cons.mp hp with rfl | hp
      · exact Ne.symm nKD
      · exact aK p hp
    refine wpAny_mono (turn xs[i] t I oI' C oC' K oK' D (refsOf os) (os ++ news) h₃ tk₂ _ (hb _ (List.getElem_mem hlt)) hdK F₃ N₃ aI aC aK aD nIC nIK nID nCK nCD nKD (fun p hp => List.mem_append_right _ hp)) (fun y s₄ h₄ => ?_) fun _ _ e => e
    obtain ⟨l, o, h₄, tk₄, rfl, rfl, F₄, N₄, off₄, hP⟩ := h₄
    have zI := (N₄ (I, oI') (List.mem_cons_of_mem _ List.mem_cons_self)).1
    have zC := (N₄ (C, oC') (List.mem_cons_of_mem _ (List.mem_cons_of_mem _ List.mem_cons_self))).1
    have zK := (N₄ (K, oK') (List.mem_cons_of_mem _ (List.mem_cons_of_mem _ (List.mem_cons_of_mem _ List.mem_cons_self)))).1
    have zD := (N₄ (D, LCg.lst (refsOf os)) (List.mem_cons_of_mem _ (List.mem_cons_of_mem _ (List.mem_cons_of_mem _ (List.mem_cons_of_mem _ List.mem_cons_self))))).1
    have eI : I ≠ l := off₄ (I, oI') List.mem_cons_self
    have eC : C ≠ l := off₄ (C, oC') (List.mem_cons_of_mem _ List.mem_cons_self)
    have eK : K ≠ l := off₄ (K, oK') (List.mem_cons_of_mem _ (List.mem_cons_of_mem _ List.mem_cons_self))
    have eD : D ≠ l := off₄ (D, LCg.lst (refsOf os)) (List.mem_cons_of_mem _ (List.mem_cons_of_mem _ (List.mem_cons_of_mem _ List.mem_cons_self)))
    have N₄' : News h₀ L h₄ (((l, o) :: os) ++ news) := fun p hp => by
      rcases List.mem_cons.mp hp with rfl | hp
      · exact N₄ _ List.mem_cons_self
      · exact N₄ _ (List.mem_cons_of_mem _ (List.mem_cons_of_mem _ (List.mem_cons_of_mem _ (List.mem_cons_of_mem _ (List.mem_cons_of_mem _ hp)))))
    have hst₄ : h₄.IsListIter I ax (i + 1) ∧ h₄.IsList ax its.toArray := LCg.list_st _ _ _ _ _ hst₃ heI zI F₄.keep N₄' (.inr ⟨_, List.mem_append_right _ hax, rfl, _, rfl⟩)
    have hlen : (refsOf os).toArray.size ≤ sizeLine := by
      have e := rowsP_len hR
      rw [List.length_reverse, List.length_take] at e
      rw [List.size_toArray]; unfold refsOf
      rw [List.length_map, List.length_reverse, e]
      exact Nat.le_trans (Nat.min_le_right _ _) (hi.length ▸ hsm)
    refine append_at (hsz := hlen) zD fun h₅ hs₅ hD₅ => ?_
    refine ⟨xs.length + 1 - (i + 1), by omega, h₅, tk₄, i + 1, (l, o) :: os, _, _, rfl, hlt, rfl, W.frame _ _ _ hst₄ fun b hb o' e => hs₅.extBut b o' (fun q => by
      subst q
      rcases List.mem_cons.mp hb with e | e
      · exact nID e.symm
      · exact oD _ hax (List.mem_singleton.mp e).symm) e, F₄.change hs₅ (Ne.symm lD) fD, (hoC.ns zC).sameBut hs₅ nCD, (show h₄.IsCell K _ from ⟨_, zK, hdK⟩).sameBut hs₅ nKD, fun p hp => ?_, ?_, ?_, ?_, ?_, ?_⟩
    · rcases List.mem_cons.mp hp with rfl | hp
      · exact ⟨hD₅.trans (congrArg some ((LCg.lst_snoc _ _).trans (congrArg LCg.lst (refsOf_cons l o os).symm))), Ne.symm lD, fD⟩
      · have z := N₄' p hp
        refine ⟨hs₅.extBut _ _ ?_ z.1, z.2⟩
        rcases List.mem_cons.mp hp with rfl | hp
        · exact Ne.symm eD
        · exact aD p hp
    · exact List.forall_mem_cons.mpr ⟨Ne.symm eI, pI⟩
    · exact List.forall_mem_cons.mpr ⟨Ne.symm eC, pC⟩
    · exact List.forall_mem_cons.mpr ⟨Ne.symm eK, pK⟩
    · exact List.forall_mem_cons.mpr ⟨Ne.symm eD, pD⟩
    · rw [List.take_succ, List.getElem?_eq_getElem hlt, List.reverse_append]
      exact ⟨l, o, os, rfl, hP, fun p hp => off₄ p (List.mem_cons_of_mem _ (List.mem_cons_of_mem _ (List.mem_cons_of_mem _ (List.mem_cons_of_mem _ (List.mem_append_right _ hp))))), hR⟩
  · obtain rfl : i = xs.length := Nat.le_antisymm hle (Nat.not_lt.mp hlt)
    refine W.done _ _ _ (by rw [hsz]; exact hst') fun h₂ tk₂ hk₂ => ?_
    rw [List.take_length] at hR
    exact hRR os h₂ tk₂ m' (LCg.fr_but F' hk₂ lI fI) (NI h₂ hk₂) (hn'.at' fun o e => hk₂ _ o (by simpa using Ne.symm nIC) e) pC hR
theorem env_C {M : Model} {globals : Addr} {qual : Str} {Q : Env → Shared → Prop} (hn : scope.names = [(d0, .local), (x, .cell), (y, .free)])
    (h : Q { scope := scope, locals := s.heap.objs.size, globals := globals, cells := (x, s.heap.objs.size + 1) :: cl, qual := qual, func := none, code := env.code, frame := env.frame, builtins := env.builtins }
      { s with heap := (s.heap.push { cls := .type "dict", data := .dict #[] }).push { cls := .type "cell", data := .cell none } }) :
    wpAny M A (newFunctionEnv scope globals cl [] qual none .none (some env)) Q E s := by
  simp only [newFunctionEnv, Option.isSome_some, if_true]
  refine wpAny_bind (wpAny_alloc ?_)
  refine wpAny_bind (wpAny_layCells _ (fun name kind cells => by cases hkc : kind == NameKind.cell <;> simp [hkc]) _ _ _ _ ?_)
  rw [hn]
  rw [show ({ s with heap := s.heap.push { cls := .type "dict", data := .dict #[] } } : Shared).heap.objs.size = s.heap.objs.size + 1 from Heap.size_push ..]
  exact wpAny_bind (wpAny_pure (wpAny_pure h))
theorem listcomp_C {Q : Value → Shared → Prop} (F₀ : Fr h₀ L s.heap m) (hclos : closureFor scope env = pure cl) (hn : scope.names = [(d0, .local), (x, .cell), (y, .free)]) (hkind : scope.kind = .function) (hd : d0 ≠ x)
    (h : wpAny (model prog w) A (eval iter env) (CellSrc prog w A h₀ L m env elt x scope cl Q) E s)
    (hs : ∀ x, foldedSetIterable iter env x = pure x := by intro _; rfl) :
    wpAny (model prog w) A (eval (.ListComp elt [⟨.Name x px, iter, [], 0⟩] scope pos) env) Q E s := by
  rw [eval_ListComp]
  have hnames : ∀ z ∈ scope.names, z.2 = .local → scope.names.lookup z.1 = some .local := by
    rw [hn]
    intro z hz hl
    rcases List.mem_cons.mp hz with rfl | hz
    · exact List.lookup_cons_self
    · simp only [List.mem_cons, List.not_mem_nil, or_false] at hz
      rcases hz with rfl | rfl <;> cases hl
  have hx : (relabel scope env).names.lookup x = some .cell := by
    have e : (relabel scope env).names = (d0, .local) :: (x, .cell) :: (if (NameKind.free == .free && env.scope.kind == .function && env.kindOf y == some .cell) then (y, .cell) else (y, .free)) :: [] := by
      unfold relabel
      rw [hn]
      rfl
    rw [e, List.lookup_cons, show (x == d0) = false from beq_eq_false_iff_ne.mpr (Ne.symm hd)]
    exact List.lookup_cons_self
  refine wpAny_comprehension_free (use := none) rfl hs hclos hkind hnames (wpAny_mono h (fun xv s₁ h₁ => ?_) fun _ _ e => e)
  obtain ⟨ax, n, news, Pf, x0, x1, x2, x3, x4, t0, t1, t2, t3, t4, rfl, hh, F, N, hm, b0, b1, b2, b3, b4, turn, fin⟩ := h₁
  have hl : s₁.heap.IsList ax _ := N.isList hm
  have hlt : ax < s₁.heap.objs.size := Heap.lt_size (N _ hm).1
  refine wpAny_pyIter_list hl ?_
  refine wpAny_newObj_type (env_C hn ?_)
  generalize hg1 : s₁.heap.push { cls := .type "list_iterator", data := .fields #[.ref ax, .int 0 0] } = g1
  have z1 : g1.objs.size = s₁.heap.objs.size + 1 := by rw [← hg1, Heap.size_push]
  generalize hg2 : g1.push { cls := .type "list", dict := none, data := .seq ([] : List Value).toArray } = g2
  have z2 : g2.objs.size = s₁.heap.objs.size + 1 + 1 := by rw [← hg2, Heap.size_push, z1]
  generalize hg3 : g2.push { cls := .type "dict", data := .dict #[] } = g3
  have z3 : g3.objs.size = s₁.heap.objs.size + 1 + 1 + 1 := by rw [← hg3, Heap.size_push, z2]
  generalize hg4 : g3.push { cls := .type "cell", data := .cell none } = g4
  have u4 : ∀ b o, g3.get? b = some o → g4.get? b = some o := fun b o e => hg4 ▸ Heap.get?_push_of_some _ e
  have u3 : ∀ b o, g2.get? b = some o → g4.get? b = some o := fun b o e => u4 b o (hg3 ▸ Heap.get?_push_of_some _ e)
  have u2 : ∀ b o, g1.get? b = some o → g4.get? b = some o := fun b o e => u3 b o (hg2 ▸ Heap.get?_push_of_some _ e)
  have u1 : ∀ b o, s₁.heap.get? b = some o → g4.get? b = some o := fun b o e => u2 b o (hg1 ▸ Heap.get?_push_of_some _ e)
  dsimp only
  rw [z1, z2]
  have fresh : ∀ a, s₁.heap.objs.size ≤ a → h₀.get? a = none := fun a ha => Heap.get?_none_of_le (Nat.le_trans (Nat.le_of_lt (Nat.lt_of_le_of_lt F.above F.ns.lt)) ha)
  have off : ∀ a, s₁.heap.objs.size ≤ a → ∀ p ∈ news, p.1 ≠ a := fun a ha p hp => Nat.ne_of_lt (Nat.lt_of_lt_of_le (Heap.lt_size (N p hp).1) ha)
  have offL : ∀ a, s₁.heap.objs.size ≤ a → L ≠ a := fun a ha => Nat.ne_of_lt (Nat.lt_of_lt_of_le F.ns.lt ha)
  have hI : g4.IsListIter s₁.heap.objs.size ax 0 := ⟨_, u2 _ _ (by rw [← hg1]; exact Heap.get?_push_size _ rfl), rfl, rfl⟩
  have hD : g4.get? (s₁.heap.objs.size + 1) = some (LCg.lst []) := by
    rw [← z1]; refine u3 _ _ ?_; rw [← hg2]; exact Heap.get?_push_size _ rfl
  have hC : g4.Ns (s₁.heap.objs.size + 1 + 1) (fun _ => none) := (z2 ▸ hg3 ▸ Heap.Ns.new g2 (.type "dict") : g3.Ns (s₁.heap.objs.size + 1 + 1) (fun _ => none)).keeps u4
  have hK : g4.IsCell (s₁.heap.objs.size + 1 + 1 + 1) none := by
    rw [← z3, ← hg4]; exact ⟨_, Heap.get?_push_size _ rfl, rfl⟩
  have hst : g4.IsListIter s₁.heap.objs.size ax 0 ∧ g4.IsList ax ([.int x0 t0, .int x1 t1, .int x2 t2, .int x3 t3, .int x4 t4] : List Value).toArray := ⟨hI, (N.grown u1).isList hm⟩
  have hsm : ([.int x0 t0, .int x1 t1, .int x2 t2, .int x3 t3, .int x4 t4] : List Value).length ≤ sizeLine := by rw [PySem.sizeLine_eq]; exact Nat.le_of_ble_eq_true rfl
  have n1 : @Ne Nat s₁.heap.objs.size (s₁.heap.objs.size + 1 + 1) := by omega
  have n2 : @Ne Nat s₁.heap.objs.size (s₁.heap.objs.size + 1 + 1 + 1) := by omega
  have n3 : @Ne Nat s₁.heap.objs.size (s₁.heap.objs.size + 1) := by omega
  have n4 : @Ne Nat (s₁.heap.objs.size + 1 + 1) (s₁.heap.objs.size + 1 + 1 + 1) := by omega
  have n5 : @Ne Nat (s₁.heap.objs.size + 1 + 1) (s₁.heap.objs.size + 1) := by omega
  have n6 : @Ne Nat (s₁.heap.objs.size + 1 + 1 + 1) (s₁.heap.objs.size + 1) := by omega
  have loop : ∀ tk, codeAny (model prog w) A (.compLoop (.ListComp elt [⟨.Name x px, iter, [], 0⟩] scope pos) 0 (.ref s₁.heap.objs.size) (.ref (s₁.heap.objs.size + 1)) (cellEnv scope cl x (s₁.heap.objs.size + 1 + 1) (s₁.heap.objs.size + 1 + 1 + 1) env))
      (compPost (model prog w) A E none Q (.ref (s₁.heap.objs.size + 1)) (s₁.heap.objs.size + 1 + 1)) { s₁ with heap := g4, toks := tk } := fun tk => by
    refine loop_C (sz := { s₁ with heap := g4 }) (xs := [x0, x1, x2, x3, x4]) hh (Nat.ne_of_lt hlt) (.cons _ _ (.cons _ _ (.cons _ _ (.cons _ _ (.cons _ _ .nil))))) hsm hm hkind hx ?_ n1 n2 n3 n4 n5 n6
      (off _ (Nat.le_refl _)) (off _ (by omega)) (off _ (by omega)) (off _ (by omega)) (fresh _ (Nat.le_refl _)) (fresh _ (by omega)) (fresh _ (by omega)) (fresh _ (by omega)) (offL _ (Nat.le_refl _)) (offL _ (by omega)) (offL _ (by omega)) (offL _ (by omega))
      (turn g4) hst (F.keeps u1) hC hK (fun p hp => ?_) ?_
    · intro k hk
      simp only [List.mem_cons, List.not_mem_nil, or_false] at hk
      rcases hk with rfl | rfl | rfl | rfl | rfl <;> assumption
    · rcases List.mem_cons.mp hp with rfl | hp
      · exact ⟨hD, Ne.symm (offL _ (by omega)), fresh _ (by omega)⟩
      · exact (N.grown u1) p hp
    · intro os h tk' m' F' N' hn' pC hR
      replace hR : RowsP Pf news [x4, x3, x2, x1, x0] os := hR
      obtain ⟨l4, o4, r4, rfl, p4, q4, hR⟩ := hR
      obtain ⟨l3, o3, r3, rfl, p3, q3, hR⟩ := hR
      obtain ⟨l2, o2, r2, rfl, p2, q2, hR⟩ := hR
      obtain ⟨l1, o1, r1, rfl, p1, q1, hR⟩ := hR
      obtain ⟨l0, o0, r0, rfl, p0, q0, hR⟩ := hR
      obtain rfl : r0 = [] := hR
      refine ⟨m', hn', fun h'' hs'' => fin l0 o0 l1 o1 l2 o2 l3 o3 l4 o4 _ h'' tk' p0 p1 p2 p3 p4 q0 q1 q2 q3 q4 (off _ (by omega)) (F'.change hs'' (Ne.symm (offL _ (by omega))) (fresh _ (by omega))) (fun p hp => ?_)⟩
      have z := N' p hp
      refine ⟨hs''.extBut _ _ ?_ z.1, z.2⟩
      rcases List.mem_cons.mp hp with rfl | hp
      · show s₁.heap.objs.size + 1 ≠ s₁.heap.objs.size + 1 + 1
        omega
      · rcases List.mem_append.mp (show p ∈ [(l4, o4), (l3, o3), (l2, o2), (l1, o1), (l0, o0)] ++ news from hp) with hp | hp
        · exact pC p hp
        · exact off _ (by omega) p hp
  exact codeAny_compStart_list (loop _) ((Walks.list (prog := prog) (w := w) hh _ ax (Nat.ne_of_lt hlt) _).self 0 _ _ _ hst (loop _))
end
end Mine
namespace Mine
open Flt in
theorem max_three_num {prog : Program} {w : World} {A : Around} {E : Value → Shared → Prop} {s : Shared} {Q : Value → Shared → Prop} {a b c : Value} (hh : A.handled = none) (ha : NumV a) (hb : NumV b) (hc : NumV c)
    (h : ∀ h' tk, (∀ c o, s.heap.get? c = some o → h'.get? c = some o) → Q (if ltV (if ltV a b then b else a) c then c else if ltV a b then b else a) { s with heap := h', toks := tk }) :
    wpAny (model prog w) A (call (.builtin "max") [a, b, c]) Q E s := by
  have hT : (s.heap.push { cls := .type "tuple", data := .seq #[a, b, c] }).IsTuple s.heap.objs.size #[a, b, c] := ⟨_, Heap.get?_push_size _ rfl, rfl, 0, rfl⟩
  refine call_max_three (wpAny_pyIter_tuple hT ?_)
  have hsz : (s.heap.push { cls := .type "tuple", data := .seq #[a, b, c] }).objs.size = s.heap.objs.size + 1 := Heap.size_push ..
  refine ⟨_, [_, s.heap.objs.size], [_], _, _, _, _, rfl, Walks.tuple (A := A.in1) hh _ s.heap.objs.size (by rw [hsz]; exact Nat.ne_of_lt (Nat.lt_succ_self _)) #[a, b, c],
    ⟨⟨_, Heap.get?_push_size _ rfl, rfl, rfl⟩, hT.push _⟩, fun c hc => ?_, by simp, cmpOf_gt #[a, b, c] (by simp [ha, hb, hc]), fun v h' tk hP hk => ?_⟩
  · show c < ((s.heap.push _).push _).objs.size
    rw [Heap.size_push, hsz]
    rcases List.mem_cons.mp hc with rfl | hc
    · rw [hsz]; exact Nat.lt_succ_self _
    · rcases List.mem_cons.mp hc with rfl | hc
      · exact Nat.lt_succ_of_lt (Nat.lt_succ_self _)
      · cases hc
  · have hold : ∀ c o, s.heap.get? c = some o → h'.get? c = some o := fun c o e => by
      refine hk c o (fun hm => ?_) (Heap.get?_push_of_some _ (Heap.get?_push_of_some _ e))
      rcases List.mem_cons.mp hm with e1 | hm
      · have := Heap.lt_size e; rw [e1, hsz] at this; exact Nat.lt_irrefl _ (Nat.lt_of_succ_lt this)
      · cases hm
    have := h h' tk hold
    have hv : v = if ltV (if ltV a b then b else a) c then c else if ltV a b then b else a := by
      cases h1 : ltV a b <;> cases h2 : ltV a c <;> cases h3 : ltV b c <;> simp [argBest, h1, h2, h3] at hP <;> subst hP <;> simp [h1, h2, h3]
    rw [hv]; exact this
open Flt in
theorem min_three_num {prog : Program} {w : World} {A : Around} {E : Value → Shared → Prop} {s : Shared} {Q : Value → Shared → Prop} {a b c : Value} (hh : A.handled = none) (ha : NumV a) (hb : NumV b) (hc : NumV c)
    (h : ∀ h' tk, (∀ c o, s.heap.get? c = some o → h'.get? c = some o) → Q (if ltV c (if ltV b a then b else a) then c else if ltV b a then b else a) { s with heap := h', toks := tk }) :
    wpAny (model prog w) A (call (.builtin "min") [a, b, c]) Q E s := by
  have hT : (s.heap.push { cls := .type "tuple", data := .seq #[a, b, c] }).IsTuple s.heap.objs.size #[a, b, c] := ⟨_, Heap.get?_push_size _ rfl, rfl, 0, rfl⟩
  refine call_min_three (wpAny_pyIter_tuple hT ?_)
  have hsz : (s.heap.push { cls := .type "tuple", data := .seq #[a, b, c] }).objs.size = s.heap.objs.size + 1 := Heap.size_push ..
  refine ⟨_, [_, s.heap.objs.size], [_], _, _, _, _, rfl, Walks.tuple (A := A.in1) hh _ s.heap.objs.size (by rw [hsz]; exact Nat.ne_of_lt (Nat.lt_succ_self _)) #[a, b, c],
    ⟨⟨_, Heap.get?_push_size _ rfl, rfl, rfl⟩, hT.push _⟩, fun c hc => ?_, by simp, cmpOf_lt #[a, b, c] (by simp [ha, hb, hc]), fun v h' tk hP hk => ?_⟩
  · show c < ((s.heap.push _).push _).objs.size
    rw [Heap.size_push, hsz]
    rcases List.mem_cons.mp hc with rfl | hc
    · rw [hsz]; exact Nat.lt_succ_self _
    · rcases List.mem_cons.mp hc with rfl | hc
      · exact Nat.lt_succ_of_lt (Nat.lt_succ_self _)
      · cases hc
  · have hold : ∀ c o, s.heap.get? c = some o → h'.get? c = some o := fun c o e => by
      refine hk c o (fun hm => ?_) (Heap.get?_push_of_some _ (Heap.get?_push_of_some _ e))
      rcases List.mem_cons.mp hm with e1 | hm
      · have := Heap.lt_size e; rw [e1, hsz] at this; exact Nat.lt_irrefl _ (Nat.lt_of_succ_lt this)
      · cases hm
    have := h h' tk hold
    have hv : v = if ltV c (if ltV b a then b else a) then c else if ltV b a then b else a := by
      cases h1 : ltV b a <;> cases h2 : ltV c a <;> cases h3 : ltV c b <;> simp [argBest, h1, h2, h3] at hP <;> subst hP <;> simp [h1, h2, h3]
    rw [hv]; exact this
theorem max3 {prog : Program} {w : World} {A : Around} {E : Value → Shared → Prop} {s : Shared} {Q : Value → Shared → Prop} {x y z : UInt64} {t u v : Tok} {h₀ : Heap} {L : Addr} {m : Str → Option Value} {news : List (Addr × Obj)}
    (hh : A.handled = none) (F : Fr h₀ L s.heap m) (N : News h₀ L s.heap news) {b1 b2 : Bool} (e1 : (Float64.cmp x y == some .lt) = b1) (e2 : (Float64.cmp (if b1 then y else x) z == some .lt) = b2)
    (h : ∀ h' tk t', Fr h₀ L h' m → News h₀ L h' news → Q (.float (if b2 then z else if b1 then y else x) t') { s with heap := h', toks := tk }) :
    wpAny (model prog w) A (call (.builtin "max") [.float x t, .float y u, .float z v]) Q E s := by
  refine max_three_num hh (.float x t) (.float y u) (.float z v) fun h' tk k => ?_
  have F' := F.keeps k
  have N' := N.grown k
  have e1' : Flt.ltV (.float x t) (.float y u) = b1 := e1
  rw [e1']
  cases b1 with
  | true =>
    have e2' : Flt.ltV (.float y u) (.float z v) = b2 := e2
    simp only [if_true, e2']
    cases b2 with
    | true => exact h h' tk v F' N'
    | false => exact h h' tk u F' N'
  | false =>
    have e2' : Flt.ltV (.float x t) (.float z v) = b2 := e2
    simp only [Bool.false_eq_true, if_false, e2']
    cases b2 with
    | true => exact h h' tk v F' N'
    | false => exact h h' tk t F' N'
theorem min3 {prog : Program} {w : World} {A : Around} {E : Value → Shared → Prop} {s : Shared} {Q : Value → Shared → Prop} {x y z : UInt64} {t u v : Tok} {h₀ : Heap} {L : Addr} {m : Str → Option Value} {news : List (Addr × Obj)}
    (hh : A.handled = none) (F : Fr h₀ L s.heap m) (N : News h₀ L s.heap news) {b1 b2 : Bool} (e1 : (Float64.cmp y x == some .lt) = b1) (e2 : (Float64.cmp z (if b1 then y else x) == some .lt) = b2)
    (h : ∀ h' tk t', Fr h₀ L h' m → News h₀ L h' news → Q (.float (if b2 then z else if b1 then y else x) t') { s with heap := h', toks := tk }) :
    wpAny (model prog w) A (call (.builtin "min") [.float x t, .float y u, .float z v]) Q E s := by
  refine min_three_num hh (.float x t) (.float y u) (.float z v) fun h' tk k => ?_
  have F' := F.keeps k
  have N' := N.grown k
  have e1' : Flt.ltV (.float y u) (.float x t) = b1 := e1
  rw [e1']
  cases b1 with
  | true =>
    have e2' : Flt.ltV (.float z v) (.float y u) = b2 := e2
    simp only [if_true, e2']
    cases b2 with
    | true => exact h h' tk v F' N'
    | false => exact h h' tk u F' N'
  | false =>
    have e2' : Flt.ltV (.float z v) (.float x t) = b2 := e2
    simp only [Bool.false_eq_true, if_false, e2']
    cases b2 with
    | true => exact h h' tk v F' N'
    | false => exact h h' tk t F' N'
local macro_rules | `(tactic| k_lt $h:ident) => `(tactic| (replace $h := allLt_of $h; (try simp only [AllLt] at $h:ident); (repeat (obtain ⟨_, $h:ident⟩ := $h:ident)); (try clear $h)))
local macro_rules | `(tactic| walk_at "FinE") => `(tactic| ((unfold LCg.FinE); intro D' h' tk' F' N' o1'; (have oAll9 := o1'); (try simp only [LCg.Off1] at o1'); (repeat (obtain ⟨_, o1'⟩ := o1')); (try clear o1'); (try simp only [List.nil_append, List.cons_append] at N'); (try k_sweep); (try dsimp only)))
local macro_rules | `(tactic| walk_at "FinA") => `(tactic| ((unfold LCg.FinA); intro D' h' tk' F' N' o1'; (have oAll9 := o1'); (try simp only [LCg.Off1] at o1'); (repeat (obtain ⟨_, o1'⟩ := o1')); (try clear o1'); (try simp only [List.nil_append, List.cons_append] at N'); (try k_sweep); (try dsimp only)))
local macro_rules | `(tactic| k_all) => `(tactic| first | exact List.forall_mem_nil _ | (refine List.forall_mem_cons.mpr ⟨by k_ne, ?_⟩; k_all))
local macro_rules | `(tactic| k_ne) => `(tactic| (refine neN ?_; (try dsimp only); first | assumption | (refine Ne.symm ?_; assumption) | exact Nat.ne_of_lt (by assumption) | exact Nat.ne_of_gt (by assumption) | omega))
local macro_rules | `(tactic| walk_at "call ref") => `(tactic| (k_extra "MyCall"))
local macro_rules | `(tactic| walk_at "CompSrc") => `(tactic| (k_extra "MySrc"))
local macro_rules | `(tactic| walk_at "CompSrcT") => `(tactic| (k_extra "MySrcT"))
local macro_rules | `(tactic| walk_at "ite") => `(tactic| (k_closed; k_dflt (first | refine ite_pos (by decide +kernel) ?_ | refine ite_neg (by decide +kernel) ?_)))
local macro_rules | `(tactic| walk_at "call builtin:max") => `(tactic| (k_here; k_dflt (refine' max3 rfl ?zF ?zN ?z1 ?z2 ?_; (case zF => k_asm); (case zN => k_asm); (case z1 => k_extra "max1"); (case z2 => k_extra "max2"); (intro h' tk' t' F' N'); (try k_sweep); (try simp only [if_true, if_false, Bool.false_eq_true]))))
local macro_rules | `(tactic| walk_at "call builtin:min") => `(tactic| (k_here; k_dflt (refine' min3 rfl ?zF ?zN ?z1 ?z2 ?_; (case zF => k_asm); (case zN => k_asm); (case z1 => k_extra "min1"); (case z2 => k_extra "min2"); (intro h' tk' t' F' N'); (try k_sweep); (try simp only [if_true, if_false, Bool.false_eq_true]))))
set_option maxHeartbeats 4000000 in
theorem tohsv0_con (w : World) (mean : ExcName → Option Value) (mg mb : Str → Option Value) (t1 t2 t3 : Tok) :
    ConO w mean mg mb 35 [.float 4607182418800017408 t1, .float 0 t2, .float 0 t3] 1 [] (fun o => ∃ y i q ty ti tq, o = { cls := .type "tuple", data := .seq #[.float y ty, .float i ti, .float q tq] } ∧ (Float64.cmp y 0 == some Ordering.eq) = true) := by
  w_on
  k_with_none
  unfold ConO
  k_fill
  intro dp un gd cn cs a ccd cl outer A₀ base h₀ L m news s Q E B F X N T hk hhid hd hu hret
  k_with "max1" => exact (show _ = false by decide +kernel)
  k_with "max2" => exact (show _ = false by decide +kernel)
  k_with "min1" => exact (show _ = true by decide +kernel)
  k_with "min2" => exact (show _ = false by decide +kernel)
  refine wpAny_call ?_
  k_dflt (refine' con_call ?k1 ?k2 ?k3 ?k4 ?k5 ?kH ?kA ?kF ?kK ?k6 ?k7 ?k8 ?k9 ?kB ?_ ?c2 ?c3 ?c4 ?c5; (case kA => exact rfl); (case kF => exact rfl); (case kK => assumption); (case k1 => assumption); (case k2 => assumption); (case k3 => assumption); (case k4 => assumption); (case k5 => assumption); (case kH => assumption); (case k6 => k_is); (case k7 => k_is); (case k8 => ktr_room); (case k9 => exact BindsTo.of_eq rfl); (case c5 => decide); (case kB => exact locs rfl); (case c2 => exact rfl); (case c3 => exact rfl); (case c4 => exact rfl); k_whole; intro g' L' h' F' N' B' X' T' G' l1'; (try k_lt l1'); (try dsimp only); (try k_fold))
  k_steps
  (try dsimp only); (try k_unfold); (try dsimp only)
  (refine' retO F N hret G' ?zf ?zn ?zs ?zm ?ze ?zp; (case zf => k_asm); (case zn => k_asm); (case zs => kcf_all); (case zm => k_mem); (case ze => first | assumption | k_all))
  exact ⟨_, _, _, _, _, _, rfl, by decide +kernel⟩
set_option maxHeartbeats 4000000 in
theorem tohsv1_con (w : World) (mean : ExcName → Option Value) (mg mb : Str → Option Value) (t1 t2 t3 : Tok) :
    ConO w mean mg mb 35 [.float 0 t1, .float 4607182418800017408 t2, .float 4607182418800017408 t3] 1 [] (fun o => ∃ y i q ty ti tq, o = { cls := .type "tuple", data := .seq #[.float y ty, .float i ti, .float q tq] } ∧ (Float64.cmp y 0 == some Ordering.eq) = false) := by
  w_on
  k_with_none
  unfold ConO
  k_fill
  intro dp un gd cn cs a ccd cl outer A₀ base h₀ L m news s Q E B F X N T hk hhid hd hu hret
  k_with "max1" => exact (show _ = true by decide +kernel)
  k_with "max2" => exact (show _ = false by decide +kernel)
  k_with "min1" => exact (show _ = false by decide +kernel)
  k_with "min2" => exact (show _ = false by decide +kernel)
  refine wpAny_call ?_
  k_dflt (refine' con_call ?k1 ?k2 ?k3 ?k4 ?k5 ?kH ?kA ?kF ?kK ?k6 ?k7 ?k8 ?k9 ?kB ?_ ?c2 ?c3 ?c4 ?c5; (case kA => exact rfl); (case kF => exact rfl); (case kK => assumption); (case k1 => assumption); (case k2 => assumption); (case k3 => assumption); (case k4 => assumption); (case k5 => assumption); (case kH => assumption); (case k6 => k_is); (case k7 => k_is); (case k8 => ktr_room); (case k9 => exact BindsTo.of_eq rfl); (case c5 => decide); (case kB => exact locs rfl); (case c2 => exact rfl); (case c3 => exact rfl); (case c4 => exact rfl); k_whole; intro g' L' h' F' N' B' X' T' G' l1'; (try k_lt l1'); (try dsimp only); (try k_fold))
  k_steps
  (try dsimp only); (try k_unfold); (try dsimp only)
  (refine' retO F N hret G' ?zf ?zn ?zs ?zm ?ze ?zp; (case zf => k_asm); (case zn => k_asm); (case zs => kcf_all); (case zm => k_mem); (case ze => first | assumption | k_all))
  exact ⟨_, _, _, _, _, _, rfl, by decide +kernel⟩
end Mine
namespace Mine
local macro_rules | `(tactic| k_lt $h:ident) => `(tactic| (replace $h := allLt_of $h; (try simp only [AllLt] at $h:ident); (repeat (obtain ⟨_, $h:ident⟩ := $h:ident)); (try clear $h)))
local macro_rules | `(tactic| walk_at "FinE") => `(tactic| ((unfold LCg.FinE); intro D' h' tk' F' N' o1'; (have oAll9 := o1'); (try simp only [LCg.Off1] at o1'); (repeat (obtain ⟨_, o1'⟩ := o1')); (try clear o1'); (try simp only [List.nil_append, List.cons_append] at N'); (try k_sweep); (try dsimp only)))
local macro_rules | `(tactic| walk_at "FinA") => `(tactic| ((unfold LCg.FinA); intro D' h' tk' F' N' o1'; (have oAll9 := o1'); (try simp only [LCg.Off1] at o1'); (repeat (obtain ⟨_, o1'⟩ := o1')); (try clear o1'); (try simp only [List.nil_append, List.cons_append] at N'); (try k_sweep); (try dsimp only)))
local macro_rules | `(tactic| k_all) => `(tactic| first | exact List.forall_mem_nil _ | (refine List.forall_mem_cons.mpr ⟨by k_ne, ?_⟩; k_all))
local macro_rules | `(tactic| k_ne) => `(tactic| (refine neN ?_; (try dsimp only); first | assumption | (refine Ne.symm ?_; assumption) | exact Nat.ne_of_lt (by assumption) | exact Nat.ne_of_gt (by assumption) | omega))
local macro_rules | `(tactic| walk_at "call ref") => `(tactic| (k_extra "MyCall"))
local macro_rules | `(tactic| walk_at "CompSrc") => `(tactic| (k_extra "MySrc"))
local macro_rules | `(tactic| walk_at "CompSrcT") => `(tactic| (k_extra "MySrcT"))
local macro_rules | `(tactic| walk_at "call builtin:list.append") => `(tactic| (k_here; k_dflt (show wpAny _ _ (call (Value.builtin "list.append") [Value.ref _, _]) _ _ _); k_dflt (refine' append_K ?k1 ?k2 ?k3 ?_ ?z; (case k1 => k_asm); (case k2 => k_asm); (case k3 => k_upd); (case z => size_fits); k_whole); intro h' F' N'; (try k_sweep)))
local macro_rules | `(tactic| walk_at "ite") => `(tactic| (k_closed; k_dflt (first | refine ite_pos (by decide +kernel) ?_ | refine ite_neg (by decide +kernel) ?_)))
abbrev tup3 (x y z : UInt64) (tx ty tz : Tok) : Obj := { cls := .type "tuple", data := .seq #[.float x tx, .float y ty, .float z tz] }
set_option maxHeartbeats 4000000 in
theorem hsv0_con (w : World) (mean : ExcName → Option Value) (mg mb : Str → Option Value) (h : UInt64) (t1 t2 t3 : Tok) (hh : h = 0) :
    ConO w mean mg mb 42 [.float h t1, .float 4607182418800017408 t2, .float 4607182418800017408 t3] 1 [] (fun o => ∃ x y z tx ty tz, o = tup3 x y z tx ty tz ∧ x = 4607182418800017408 ∧ y = 0 ∧ z = 0) := by
  subst hh
  w_on
  k_with_none
  unfold ConO
  k_fill
  intro dp un gd cn cs a ccd cl outer A₀ base h₀ L m news s Q E B F X N T hk hhid hd hu hret
  refine wpAny_call ?_
  k_dflt (refine' con_call ?k1 ?k2 ?k3 ?k4 ?k5 ?kH ?kA ?kF ?kK ?k6 ?k7 ?k8 ?k9 ?kB ?_ ?c2 ?c3 ?c4 ?c5; (case kA => exact rfl); (case kF => exact rfl); (case kK => assumption); (case k1 => assumption); (case k2 => assumption); (case k3 => assumption); (case k4 => assumption); (case k5 => assumption); (case kH => assumption); (case k6 => k_is); (case k7 => k_is); (case k8 => ktr_room); (case k9 => exact BindsTo.of_eq rfl); (case c5 => decide); (case kB => exact locs rfl); (case c2 => exact rfl); (case c3 => exact rfl); (case c4 => exact rfl); k_whole; intro g' L' h' F' N' B' X' T' G' l1'; (try k_lt l1'); (try dsimp only); (try k_fold))
  k_steps
  (try dsimp only); (try k_unfold); (try dsimp only)
  (refine' retO F N hret G' ?zf ?zn ?zs ?zm ?ze ?zp; (case zf => k_asm); (case zn => k_asm); (case zs => kcf_all); (case zm => k_mem); (case ze => first | assumption | k_all))
  exact ⟨_, _, _, _, _, _, rfl, by decide +kernel, by decide +kernel, by decide +kernel⟩
set_option maxHeartbeats 4000000 in
theorem hsv1_con (w : World) (mean : ExcName → Option Value) (mg mb : Str → Option Value) (h : UInt64) (t1 t2 t3 : Tok) (hh : h = 4602678819172646912) :
    ConO w mean mg mb 42 [.float h t1, .float 4607182418800017408 t2, .float 4607182418800017408 t3] 1 [] (fun o => ∃ x y z tx ty tz, o = tup3 x y z tx ty tz ∧ x = 0 ∧ y = 4607182418800017408 ∧ z = 4607182418800017408) := by
  subst hh
  w_on
  k_with_none
  unfold ConO
  k_fill
  intro dp un gd cn cs a ccd cl outer A₀ base h₀ L m news s Q E B F X N T hk hhid hd hu hret
  refine wpAny_call ?_
  k_dflt (refine' con_call ?k1 ?k2 ?k3 ?k4 ?k5 ?kH ?kA ?kF ?kK ?k6 ?k7 ?k8 ?k9 ?kB ?_ ?c2 ?c3 ?c4 ?c5; (case kA => exact rfl); (case kF => exact rfl); (case kK => assumption); (case k1 => assumption); (case k2 => assumption); (case k3 => assumption); (case k4 => assumption); (case k5 => assumption); (case kH => assumption); (case k6 => k_is); (case k7 => k_is); (case k8 => ktr_room); (case k9 => exact BindsTo.of_eq rfl); (case c5 => decide); (case kB => exact locs rfl); (case c2 => exact rfl); (case c3 => exact rfl); (case c4 => exact rfl); k_whole; intro g' L' h' F' N' B' X' T' G' l1'; (try k_lt l1'); (try dsimp only); (try k_fold))
  k_steps
  (try dsimp only); (try k_unfold); (try dsimp only)
  (refine' retO F N hret G' ?zf ?zn ?zs ?zm ?ze ?zp; (case zf => k_asm); (case zn => k_asm); (case zs => kcf_all); (case zm => k_mem); (case ze => first | assumption | k_all))
  exact ⟨_, _, _, _, _, _, rfl, by decide +kernel, by decide +kernel, by decide +kernel⟩
set_option maxHeartbeats 4000000 in
theorem hsv2_con (w : World) (mean : ExcName → Option Value) (mg mb : Str → Option Value) (h : UInt64) (t1 t2 t3 : Tok) (hh : h = 4607182418800017408) :
    ConO w mean mg mb 42 [.float h t1, .float 4607182418800017408 t2, .float 4607182418800017408 t3] 1 [] (fun o => ∃ x y z tx ty tz, o = tup3 x y z tx ty tz ∧ x = 4607182418800017408 ∧ y = 0 ∧ z = 0) := by
  subst hh
  w_on
  k_with_none
  unfold ConO
  k_fill
  intro dp un gd cn cs a ccd cl outer A₀ base h₀ L m news s Q E B F X N T hk hhid hd hu hret
  refine wpAny_call ?_
  k_dflt (refine' con_call ?k1 ?k2 ?k3 ?k4 ?k5 ?kH ?kA ?kF ?kK ?k6 ?k7 ?k8 ?k9 ?kB ?_ ?c2 ?c3 ?c4 ?c5; (case kA => exact rfl); (case kF => exact rfl); (case kK => assumption); (case k1 => assumption); (case k2 => assumption); (case k3 => assumption); (case k4 => assumption); (case k5 => assumption); (case kH => assumption); (case k6 => k_is); (case k7 => k_is); (case k8 => ktr_room); (case k9 => exact BindsTo.of_eq rfl); (case c5 => decide); (case kB => exact locs rfl); (case c2 => exact rfl); (case c3 => exact rfl); (case c4 => exact rfl); k_whole; intro g' L' h' F' N' B' X' T' G' l1'; (try k_lt l1'); (try dsimp only); (try k_fold))
  k_steps
  (try dsimp only); (try k_unfold); (try dsimp only)
  (refine' retO F N hret G' ?zf ?zn ?zs ?zm ?ze ?zp; (case zf => k_asm); (case zn => k_asm); (case zs => kcf_all); (case zm => k_mem); (case ze => first | assumption | k_all))
  exact ⟨_, _, _, _, _, _, rfl, by decide +kernel, by decide +kernel, by decide +kernel⟩
set_option maxHeartbeats 4000000 in
theorem hsv3_con (w : World) (mean : ExcName → Option Value) (mg mb : Str → Option Value) (h : UInt64) (t1 t2 t3 : Tok) (hh : h = 4609434218613702656) :
    ConO w mean mg mb 42 [.float h t1, .float 4607182418800017408 t2, .float 4607182418800017408 t3] 1 [] (fun o => ∃ x y z tx ty tz, o = tup3 x y z tx ty tz ∧ x = 0 ∧ y = 4607182418800017408 ∧ z = 4607182418800017408) := by
  subst hh
  w_on
  k_with_none
  unfold ConO
  k_fill
  intro dp un gd cn cs a ccd cl outer A₀ base h₀ L m news s Q E B F X N T hk hhid hd hu hret
  refine wpAny_call ?_
  k_dflt (refine' con_call ?k1 ?k2 ?k3 ?k4 ?k5 ?kH ?kA ?kF ?kK ?k6 ?k7 ?k8 ?k9 ?kB ?_ ?c2 ?c3 ?c4 ?c5; (case kA => exact rfl); (case kF => exact rfl); (case kK => assumption); (case k1 => assumption); (case k2 => assumption); (case k3 => assumption); (case k4 => assumption); (case k5 => assumption); (case kH => assumption); (case k6 => k_is); (case k7 => k_is); (case k8 => ktr_room); (case k9 => exact BindsTo.of_eq rfl); (case c5 => decide); (case kB => exact locs rfl); (case c2 => exact rfl); (case c3 => exact rfl); (case c4 => exact rfl); k_whole; intro g' L' h' F' N' B' X' T' G' l1'; (try k_lt l1'); (try dsimp only); (try k_fold))
  k_steps
  (try dsimp only); (try k_unfold); (try dsimp only)
  (refine' retO F N hret G' ?zf ?zn ?zs ?zm ?ze ?zp; (case zf => k_asm); (case zn => k_asm); (case zs => kcf_all); (case zm => k_mem); (case ze => first | assumption | k_all))
  exact ⟨_, _, _, _, _, _, rfl, by decide +kernel, by decide +kernel, by decide +kernel⟩
set_option maxHeartbeats 4000000 in
theorem hsv4_con (w : World) (mean : ExcName → Option Value) (mg mb : Str → Option Value) (h : UInt64) (t1 t2 t3 : Tok) (hh : h = 4611686018427387904) :
    ConO w mean mg mb 42 [.float h t1, .float 4607182418800017408 t2, .float 4607182418800017408 t3] 1 [] (fun o => ∃ x y z tx ty tz, o = tup3 x y z tx ty tz ∧ x = 4607182418800017408 ∧ y = 0 ∧ z = 0) := by
  subst hh
  w_on
  k_with_none
  unfold ConO
  k_fill
  intro dp un gd cn cs a ccd cl outer A₀ base h₀ L m news s Q E B F X N T hk hhid hd hu hret
  refine wpAny_call ?_
  k_dflt (refine' con_call ?k1 ?k2 ?k3 ?k4 ?k5 ?kH ?kA ?kF ?kK ?k6 ?k7 ?k8 ?k9 ?kB ?_ ?c2 ?c3 ?c4 ?c5; (case kA => exact rfl); (case kF => exact rfl); (case kK => assumption); (case k1 => assumption); (case k2 => assumption); (case k3 => assumption); (case k4 => assumption); (case k5 => assumption); (case kH => assumption); (case k6 => k_is); (case k7 => k_is); (case k8 => ktr_room); (case k9 => exact BindsTo.of_eq rfl); (case c5 => decide); (case kB => exact locs rfl); (case c2 => exact rfl); (case c3 => exact rfl); (case c4 => exact rfl); k_whole; intro g' L' h' F' N' B' X' T' G' l1'; (try k_lt l1'); (try dsimp only); (try k_fold))
  k_steps
  (try dsimp only); (try k_unfold); (try dsimp only)
  (refine' retO F N hret G' ?zf ?zn ?zs ?zm ?ze ?zp; (case zf => k_asm); (case zn => k_asm); (case zs => kcf_all); (case zm => k_mem); (case ze => first | assumption | k_all))
  exact ⟨_, _, _, _, _, _, rfl, by decide +kernel, by decide +kernel, by decide +kernel⟩
set_option maxHeartbeats 4000000 in
theorem hsv5_con (w : World) (mean : ExcName → Option Value) (mg mb : Str → Option Value) (h : UInt64) (t1 t2 t3 : Tok) (hh : h = 4612811918334230528) :
    ConO w mean mg mb 42 [.float h t1, .float 4607182418800017408 t2, .float 4607182418800017408 t3] 1 [] (fun o => ∃ x y z tx ty tz, o = tup3 x y z tx ty tz ∧ x = 0 ∧ y = 4607182418800017408 ∧ z = 4607182418800017408) := by
  subst hh
  w_on
  k_with_none
  unfold ConO
  k_fill
  intro dp un gd cn cs a ccd cl outer A₀ base h₀ L m news s Q E B F X N T hk hhid hd hu hret
  refine wpAny_call ?_
  k_dflt (refine' con_call ?k1 ?k2 ?k3 ?k4 ?k5 ?kH ?kA ?kF ?kK ?k6 ?k7 ?k8 ?k9 ?kB ?_ ?c2 ?c3 ?c4 ?c5; (case kA => exact rfl); (case kF => exact rfl); (case kK => assumption); (case k1 => assumption); (case k2 => assumption); (case k3 => assumption); (case k4 => assumption); (case k5 => assumption); (case kH => assumption); (case k6 => k_is); (case k7 => k_is); (case k8 => ktr_room); (case k9 => exact BindsTo.of_eq rfl); (case c5 => decide); (case kB => exact locs rfl); (case c2 => exact rfl); (case c3 => exact rfl); (case c4 => exact rfl); k_whole; intro g' L' h' F' N' B' X' T' G' l1'; (try k_lt l1'); (try dsimp only); (try k_fold))
  k_steps
  (try dsimp only); (try k_unfold); (try dsimp only)
  (refine' retO F N hret G' ?zf ?zn ?zs ?zm ?ze ?zp; (case zf => k_asm); (case zn => k_asm); (case zs => kcf_all); (case zm => k_mem); (case ze => first | assumption | k_all))
  exact ⟨_, _, _, _, _, _, rfl, by decide +kernel, by decide +kernel, by decide +kernel⟩
end Mine
namespace Mine
local macro_rules | `(tactic| k_lt $h:ident) => `(tactic| (replace $h := allLt_of $h; (try simp only [AllLt] at $h:ident); (repeat (obtain ⟨_, $h:ident⟩ := $h:ident)); (try clear $h)))
local macro_rules | `(tactic| walk_at "FinE") => `(tactic| ((unfold LCg.FinE); intro D' h' tk' F' N' o1'; (have oAll9 := o1'); (try simp only [LCg.Off1] at o1'); (repeat (obtain ⟨_, o1'⟩ := o1')); (try clear o1'); (try simp only [List.nil_append, List.cons_append] at N'); (try k_sweep); (try dsimp only)))
local macro_rules | `(tactic| walk_at "FinA") => `(tactic| ((unfold LCg.FinA); intro D' h' tk' F' N' o1'; (have oAll9 := o1'); (try simp only [LCg.Off1] at o1'); (repeat (obtain ⟨_, o1'⟩ := o1')); (try clear o1'); (try simp only [List.nil_append, List.cons_append] at N'); (try k_sweep); (try dsimp only)))
local macro_rules | `(tactic| k_all) => `(tactic| first | exact List.forall_mem_nil _ | (refine List.forall_mem_cons.mpr ⟨by k_ne, ?_⟩; k_all))
local macro_rules | `(tactic| k_ne) => `(tactic| (refine neN ?_; (try dsimp only); first | assumption | (refine Ne.symm ?_; assumption) | exact Nat.ne_of_lt (by assumption) | exact Nat.ne_of_gt (by assumption) | omega))
local macro_rules | `(tactic| walk_at "call ref") => `(tactic| (k_extra "MyCall"))
local macro_rules | `(tactic| walk_at "CompSrc") => `(tactic| (k_extra "MySrc"))
local macro_rules | `(tactic| walk_at "CompSrcT") => `(tactic| (k_extra "MySrcT"))
local macro_rules | `(tactic| walk_at "call builtin:list.append") => `(tactic| (k_here; k_dflt (show wpAny _ _ (call (Value.builtin "list.append") [Value.ref _, _]) _ _ _); k_dflt (refine' append_K ?k1 ?k2 ?k3 ?_ ?z; (case k1 => k_asm); (case k2 => k_asm); (case k3 => k_upd); (case z => size_fits); k_whole); intro h' F' N'; (try k_sweep)))
local macro_rules | `(tactic| walk_at "ite") => `(tactic| (k_closed; k_dflt (first | refine ite_pos (by decide +kernel) ?_ | refine ite_neg (by decide +kernel) ?_)))
theorem eq_known {prog : Program} {w : World} {A : Around} {E : Value → Shared → Prop} {s : Shared} {Q : Value → Shared → Prop} {a b : UInt64} {t u : Tok} {k : Bool} (hk : (Float64.cmp a b == some Ordering.eq) = k) (h : Q (.bool k) s) :
    wpAny (model prog w) A (compareOp .Eq (.float a t) (.float b u)) Q E s := AutoFloatOps.eq_0 (by rw [hk]; exact h)
local macro_rules | `(tactic| walk_at "compareOp Eq float float") => `(tactic| (refine' eq_known ?zk ?_; (case zk => with_reducible assumption)))
set_option maxHeartbeats 2000000 in
theorem reds_con (w : World) (mean : ExcName → Option Value) (mg mb : Str → Option Value) :
    ConO w mean mg mb 128 [] 2 []
      (fun o => ∃ n, o = listOf #[.bool true, .bool false, .bool true, .bool false, .bool true, .bool false] n) := by
  w_on
  k_with_none
  unfold ConO
  k_fill
  intro dp un gd cn cs a ccd cl outer A₀ base h₀ L m news s Q E B F X N T hk hhid hd hu hret
  k_with "MyCall" => (first
    | (k_dflt (refine' useO (hsv0_con w mean mg mb _ _ _ _ ?hh) ?k1 ?k2 ?k3 ?k4 ?k5 ?kK ?kH ?k8 ?k9 ?_; (case hh => decide +kernel); (case k1 => assumption); (case k2 => k_asm); (case k3 => k_asm); (case k4 => k_asm); (case k5 => k_asm); (case kK => first | exact rfl | assumption); (case kH => kcf_all); (case k8 => ktr_room); (case k9 => ktr_units); (intro l9 o9 h9 tk9 F9 N9 d9 hp9); (obtain ⟨x9, y9, z9, tx9, ty9, tz9, rfl, rfl, rfl, rfl⟩ := hp9); (replace d9 := off_of d9); (try simp only [LCg.Off1] at d9); (repeat (obtain ⟨_, d9⟩ := d9)); (try clear d9); (try k_sweep); (try dsimp only); (try k_fold)))
    | (k_dflt (refine' useO (hsv1_con w mean mg mb _ _ _ _ ?hh) ?k1 ?k2 ?k3 ?k4 ?k5 ?kK ?kH ?k8 ?k9 ?_; (case hh => decide +kernel); (case k1 => assumption); (case k2 => k_asm); (case k3 => k_asm); (case k4 => k_asm); (case k5 => k_asm); (case kK => first | exact rfl | assumption); (case kH => kcf_all); (case k8 => ktr_room); (case k9 => ktr_units); (intro l9 o9 h9 tk9 F9 N9 d9 hp9); (obtain ⟨x9, y9, z9, tx9, ty9, tz9, rfl, rfl, rfl, rfl⟩ := hp9); (replace d9 := off_of d9); (try simp only [LCg.Off1] at d9); (repeat (obtain ⟨_, d9⟩ := d9)); (try clear d9); (try k_sweep); (try dsimp only); (try k_fold)))
    | (k_dflt (refine' useO (hsv2_con w mean mg mb _ _ _ _ ?hh) ?k1 ?k2 ?k3 ?k4 ?k5 ?kK ?kH ?k8 ?k9 ?_; (case hh => decide +kernel); (case k1 => assumption); (case k2 => k_asm); (case k3 => k_asm); (case k4 => k_asm); (case k5 => k_asm); (case kK => first | exact rfl | assumption); (case kH => kcf_all); (case k8 => ktr_room); (case k9 => ktr_units); (intro l9 o9 h9 tk9 F9 N9 d9 hp9); (obtain ⟨x9, y9, z9, tx9, ty9, tz9, rfl, rfl, rfl, rfl⟩ := hp9); (replace d9 := off_of d9); (try simp only [LCg.Off1] at d9); (repeat (obtain ⟨_, d9⟩ := d9)); (try clear d9); (try k_sweep); (try dsimp only); (try k_fold)))
    | (k_dflt (refine' useO (hsv3_con w mean mg mb _ _ _ _ ?hh) ?k1 ?k2 ?k3 ?k4 ?k5 ?kK ?kH ?k8 ?k9 ?_; (case hh => decide +kernel); (case k1 => assumption); (case k2 => k_asm); (case k3 => k_asm); (case k4 => k_asm); (case k5 => k_asm); (case kK => first | exact rfl | assumption); (case kH => kcf_all); (case k8 => ktr_room); (case k9 => ktr_units); (intro l9 o9 h9 tk9 F9 N9 d9 hp9); (obtain ⟨x9, y9, z9, tx9, ty9, tz9, rfl, rfl, rfl, rfl⟩ := hp9); (replace d9 := off_of d9); (try simp only [LCg.Off1] at d9); (repeat (obtain ⟨_, d9⟩ := d9)); (try clear d9); (try k_sweep); (try dsimp only); (try k_fold)))
    | (k_dflt (refine' useO (hsv4_con w mean mg mb _ _ _ _ ?hh) ?k1 ?k2 ?k3 ?k4 ?k5 ?kK ?kH ?k8 ?k9 ?_; (case hh => decide +kernel); (case k1 => assumption); (case k2 => k_asm); (case k3 => k_asm); (case k4 => k_asm); (case k5 => k_asm); (case kK => first | exact rfl | assumption); (case kH => kcf_all); (case k8 => ktr_room); (case k9 => ktr_units); (intro l9 o9 h9 tk9 F9 N9 d9 hp9); (obtain ⟨x9, y9, z9, tx9, ty9, tz9, rfl, rfl, rfl, rfl⟩ := hp9); (replace d9 := off_of d9); (try simp only [LCg.Off1] at d9); (repeat (obtain ⟨_, d9⟩ := d9)); (try clear d9); (try k_sweep); (try dsimp only); (try k_fold)))
    | (k_dflt (refine' useO (hsv5_con w mean mg mb _ _ _ _ ?hh) ?k1 ?k2 ?k3 ?k4 ?k5 ?kK ?kH ?k8 ?k9 ?_; (case hh => decide +kernel); (case k1 => assumption); (case k2 => k_asm); (case k3 => k_asm); (case k4 => k_asm); (case k5 => k_asm); (case kK => first | exact rfl | assumption); (case kH => kcf_all); (case k8 => ktr_room); (case k9 => ktr_units); (intro l9 o9 h9 tk9 F9 N9 d9 hp9); (obtain ⟨x9, y9, z9, tx9, ty9, tz9, rfl, rfl, rfl, rfl⟩ := hp9); (replace d9 := off_of d9); (try simp only [LCg.Off1] at d9); (repeat (obtain ⟨_, d9⟩ := d9)); (try clear d9); (try k_sweep); (try dsimp only); (try k_fold)))
    | (k_dflt (refine' useO (tohsv0_con w mean mg mb _ _ _) ?k1 ?k2 ?k3 ?k4 ?k5 ?kK ?kH ?k8 ?k9 ?_; (case k1 => assumption); (case k2 => k_asm); (case k3 => k_asm); (case k4 => k_asm); (case k5 => k_asm); (case kK => first | exact rfl | assumption); (case kH => kcf_all); (case k8 => ktr_room); (case k9 => ktr_units); (intro l9 o9 h9 tk9 F9 N9 d9 hp9); (obtain ⟨y9, i9, q9, ty9, ti9, tq9, rfl, hq9⟩ := hp9); (replace d9 := off_of d9); (try simp only [LCg.Off1] at d9); (repeat (obtain ⟨_, d9⟩ := d9)); (try clear d9); (try k_sweep); (try dsimp only); (try k_fold)))
    | (k_dflt (refine' useO (tohsv1_con w mean mg mb _ _ _) ?k1 ?k2 ?k3 ?k4 ?k5 ?kK ?kH ?k8 ?k9 ?_; (case k1 => assumption); (case k2 => k_asm); (case k3 => k_asm); (case k4 => k_asm); (case k5 => k_asm); (case kK => first | exact rfl | assumption); (case kH => kcf_all); (case k8 => ktr_room); (case k9 => ktr_units); (intro l9 o9 h9 tk9 F9 N9 d9 hp9); (obtain ⟨y9, i9, q9, ty9, ti9, tq9, rfl, hq9⟩ := hp9); (replace d9 := off_of d9); (try simp only [LCg.Off1] at d9); (repeat (obtain ⟨_, d9⟩ := d9)); (try clear d9); (try k_sweep); (try dsimp only); (try k_fold))))
  refine wpAny_call ?_
  k_dflt (refine' con_call ?k1 ?k2 ?k3 ?k4 ?k5 ?kH ?kA ?kF ?kK ?k6 ?k7 ?k8 ?k9 ?kB ?_ ?c2 ?c3 ?c4 ?c5; (case kA => exact rfl); (case kF => exact rfl); (case kK => assumption); (case k1 => assumption); (case k2 => assumption); (case k3 => assumption); (case k4 => assumption); (case k5 => assumption); (case kH => assumption); (case k6 => k_is); (case k7 => k_is); (case k8 => ktr_room); (case k9 => exact BindsTo.of_eq rfl); (case c5 => decide); (case kB => exact locs rfl); (case c2 => exact rfl); (case c3 => exact rfl); (case c4 => exact rfl); k_whole; intro g' L' h' F' N' B' X' T' G' l1'; (try k_lt l1'); (try dsimp only); (try k_fold))
  k_steps
  (try dsimp only); (try k_unfold); (try dsimp only)
  (refine' retO F N hret G' ?zf ?zn ?zs ?zm ?ze ?zp; (case zf => k_asm); (case zn => k_asm); (case zs => kcf_all); (case zm => k_mem); (case ze => first | assumption | k_all))
  exact ⟨_, rfl⟩
end Mine
namespace Mine
local macro_rules | `(tactic| k_lt $h:ident) => `(tactic| (replace $h := allLt_of $h; (try simp only [AllLt] at $h:ident); (repeat (obtain ⟨_, $h:ident⟩ := $h:ident)); (try clear $h)))
local macro_rules | `(tactic| walk_at "FinE") => `(tactic| ((unfold LCg.FinE); intro D' h' tk' F' N' o1'; (have oAll9 := o1'); (try simp only [LCg.Off1] at o1'); (repeat (obtain ⟨_, o1'⟩ := o1')); (try clear o1'); (try simp only [List.nil_append, List.cons_append] at N'); (try k_sweep); (try dsimp only)))
local macro_rules | `(tactic| walk_at "FinA") => `(tactic| ((unfold LCg.FinA); intro D' h' tk' F' N' o1'; (have oAll9 := o1'); (try simp only [LCg.Off1] at o1'); (repeat (obtain ⟨_, o1'⟩ := o1')); (try clear o1'); (try simp only [List.nil_append, List.cons_append] at N'); (try k_sweep); (try dsimp only)))
local macro_rules | `(tactic| k_all) => `(tactic| first | exact List.forall_mem_nil _ | (refine List.forall_mem_cons.mpr ⟨by k_ne, ?_⟩; k_all))
local macro_rules | `(tactic| k_ne) => `(tactic| (refine neN ?_; (try dsimp only); first | assumption | (refine Ne.symm ?_; assumption) | exact Nat.ne_of_lt (by assumption) | exact Nat.ne_of_gt (by assumption) | omega))
local macro_rules | `(tactic| walk_at "call ref") => `(tactic| (k_extra "MyCall"))
local macro_rules | `(tactic| walk_at "CompSrc") => `(tactic| (k_extra "MySrc"))
local macro_rules | `(tactic| walk_at "CompSrcT") => `(tactic| (k_extra "MySrcT"))
local macro_rules | `(tactic| walk_at "exec While Compare cons nil") => `(tactic| (k_here; k_dflt (refine whl_start 100 ?_)))
local macro_rules | `(tactic| walk_at "newList") => `(tactic| (k_here; k_dflt (refine' newList_I ?zF ?zN ?zi ?_ ?zz; (case zF => k_asm); (case zN => k_asm); (case zi => (repeat' constructor)); (case zz => exact Nat.le_of_ble_eq_true rfl); (intro l' h' vs' hi' F' N' l1'); (try k_lt l1'); (try k_sweep))))
local macro_rules | `(tactic| walk_at "call builtin:len") => `(tactic| (k_here; k_dflt (refine' len_I ?zN ?zm ?zi ?zf ?_; (case zN => k_asm); (case zm => k_mem); (case zi => assumption); (case zf => first | decide | (simp only [List.length_append, List.length_map, List.length_cons, List.length_nil]; omega)); (intro t' tk'))))
local macro_rules | `(tactic| walk_at "binaryOp Add ref ref") => `(tactic| (k_here; k_dflt (refine' add_I ?zF ?zN ?zm ?zp ?zi ?zj ?zz ?_; (case zF => k_asm); (case zN => k_asm); (case zm => k_mem); (case zp => k_mem); (case zi => assumption); (case zj => assumption); (case zz => (rw [PySem.sizeLine_eq]; simp only [List.length_append, List.length_map, List.length_cons, List.length_nil]; first | done | decide | omega)); (intro l' h' vs' hi' F' N' l1'); (try k_lt l1'); (try k_sweep))))
local macro_rules | `(tactic| walk_at "eval ListComp") => `(tactic| (k_here; (with_reducible show wpAny _ _ (eval (Expr.ListComp _ [PySem.Comprehension.mk _ _ [] _] _ _) _) _ _ _); k_dflt (refine LCg.ListComp_U (F₀ := by k_asm) (by with_unfolding_all rfl) (by decide) (by rfl) (by decide) (by rfl) ?_)))
local macro_rules | `(tactic| walk_at "eval ListComp") => `(tactic| (k_here; (with_reducible show wpAny _ _ (eval (Expr.ListComp _ [PySem.Comprehension.mk _ _ [_] _] _ _) _) _ _ _); k_dflt (refine LCt.ListComp_T (F₀ := by k_asm) (by with_unfolding_all rfl) (by decide) (by rfl) (by decide) (by rfl) ?_)))
local macro_rules | `(tactic| walk_at "exec For Name Name cons nil") => `(tactic| (k_here; k_dflt (refine for_start ?_)))
local macro_rules | `(tactic| walk_at "pyIter ref") => `(tactic| (k_here; k_dflt (refine' iterL_start ?zF ?zN ?zm ?_; (case zF => k_asm); (case zN => k_asm); (case zm => k_mem); (intro I' o' h' F' N' l1' hI'); (try k_lt l1'); (try k_sweep))))
local macro_rules | `(tactic| walk_at "exec For Name Call cons nil") => `(tactic| (k_here; k_dflt (refine for_start ?_)))
local macro_rules | `(tactic| walk_at "pyIter ref") => `(tactic| (k_here; k_dflt (refine' iterR_start ?zF ?zN ?zr ?zs ?zn ?_; (case zF => k_asm); (case zN => k_asm); (case zr => with_reducible assumption); (case zs => first | decide | rfl | exact small_i (by assumption)); (case zn => first | exact rfl | decide | exact size_i (by assumption)); (intro I' h' F' N' l1'); (try k_lt l1'); (try k_sweep))))
local macro_rules | `(tactic| walk_at "ForRest") => `(tactic| (k_extra "MyFor"))
local macro_rules | `(tactic| walk_at "ForPost") => `(tactic| (dsimp only [ForPost]))
local macro_rules | `(tactic| walk_at "call builtin:list.append") => `(tactic| (k_here; k_dflt (show wpAny _ _ (call (Value.builtin "list.append") [Value.ref _, _]) _ _ _); k_dflt (refine' append_K ?k1 ?k2 ?k3 ?_ ?z; (case k1 => k_asm); (case k2 => k_asm); (case k3 => k_upd); (case z => size_fits); k_whole); intro h' F' N'; (try k_sweep)))
local macro_rules | `(tactic| walk_at "compareOp Eq ref ref") => `(tactic| (k_here; (with_reducible show wpAny _ _ (compareOp CmpOp.Eq (Value.ref _) (Value.ref _)) _ _ _); k_dflt (refine' ke_eq_ints ?za ?zb ?zi ?zj ?zu ?_; (case za => exact News.isList (by k_asm) (by k_mem)); (case zb => exact News.isList (by k_asm) (by k_mem)); (case zi => assumption); (case zj => assumption); (case zu => first | ke_room | ktr_units))))
abbrev redsA : Array Value := #[.bool true, .bool false, .bool true, .bool false, .bool true, .bool false]
def redB (k : Int) : Bool := [true, false, true, false, true, false].getD k.toNat false
abbrev disB (x t : Int) : Bool := redB (onesL32.getD (Builtin.bitAnd x t).toNat 0)
def filtG (x : Int) (l : List Int) (t : Int) : List Int := if disB x t = true then l else l ++ [t]
theorem filtG_no {x t : Int} {l : List Int} (h : disB x t = true) : filtG x l t = l := if_pos h
theorem filtG_yes {x t : Int} {l : List Int} (h : disB x t = false) : filtG x l t = l ++ [t] := if_neg (by rw [h]; decide)
theorem filtG_grows (x : Int) : KPfGrows (filtG x) := fun l k => by
  unfold filtG
  split
  · exact Nat.le_succ _
  · simp
def keptOf (lf : List Int) (start step : Int) : Nat → List Int
  | 0 => []
  | i + 1 => if (keptOf lf start step i).foldl (filtG (lf.getD (Int.fmod (start + step * (0 + (i : Int))) 32).toNat 0)) [] = [] then keptOf lf start step i ++ [Int.fmod (start + step * (0 + (i : Int))) 32] else keptOf lf start step i
theorem keptOf_len (lf : List Int) (start step : Int) : ∀ i, (keptOf lf start step i).length ≤ i
  | 0 => Nat.le_refl _
  | i + 1 => by
    have := keptOf_len lf start step i
    unfold keptOf
    split
    · rw [List.length_append]; exact Nat.succ_le_succ this
    · omega
theorem keptOf_mem (lf : List Int) (start step : Int) : ∀ i, ∀ t ∈ keptOf lf start step i, 0 ≤ t ∧ t < 32
  | 0 => fun t h => absurd h List.not_mem_nil
  | i + 1 => by
    have ih := keptOf_mem lf start step i
    unfold keptOf
    split
    · intro t ht
      rcases List.mem_append.mp ht with h | h
      · exact ih t h
      · rw [List.mem_singleton.mp h]; exact ⟨Int.fmod_nonneg_of_pos _ (by decide), Int.fmod_lt_of_pos _ (by decide)⟩
    · exact ih
theorem fb {x : Int} {lf : List Int} (h : lf.length = 32) : 0 ≤ Int.fmod x 32 ∧ Int.fmod x 32 < lf.length ∧ Int.fmod x 32 < 2 ^ 63 := by
  have h1 := Int.fmod_nonneg_of_pos x (b := 32) (by decide)
  have h2 := Int.fmod_lt_of_pos x (b := 32) (by decide)
  rw [h]; omega
theorem getD_b {lf : List Int} (hlf : ∀ x ∈ lf, 0 ≤ x ∧ x < 32) (n : Nat) : 0 ≤ lf.getD n 0 ∧ lf.getD n 0 < 32 := by
  by_cases h : n < lf.length
  · rw [List.getD_eq_getElem?_getD, List.getElem?_eq_getElem h]; exact hlf _ (List.getElem_mem h)
  · rw [List.getD_eq_getElem?_getD, List.getElem?_eq_none (by omega)]; exact ⟨by decide, by decide⟩
theorem onb {lf ns : List Int} {n : Nat} {t : Int} (hlf : ∀ x ∈ lf, 0 ≤ x ∧ x < 32) (hns : ∀ t ∈ ns, 0 ≤ t ∧ t < 32) (ht : t ∈ ns) :
    0 ≤ Builtin.bitAnd (lf.getD n 0) t ∧ Builtin.bitAnd (lf.getD n 0) t < (onesL32.length : Int) ∧ Builtin.bitAnd (lf.getD n 0) t < 2 ^ 63 := by
  have h1 := getD_b hlf n
  have h2 := hns t ht
  have h4 := and_le h1.1 h2.1
  have h5 : (onesL32.length : Int) = 32 := rfl
  omega
theorem red6 : ∀ n : Nat, n < 6 → redsA.toList[n]? = some (.bool (redB (n : Int))) := by
  intro n h
  match n, h with
  | 0, _ => rfl
  | 1, _ => rfl
  | 2, _ => rfl
  | 3, _ => rfl
  | 4, _ => rfl
  | 5, _ => rfl
theorem ones5 : ∀ n : Nat, 0 ≤ onesL32.getD n 0 ∧ onesL32.getD n 0 < 6 := by
  have h : ∀ n : Nat, n < 32 → 0 ≤ onesL32.getD n 0 ∧ onesL32.getD n 0 < 6 := by decide
  intro n
  by_cases hn : n < 32
  · exact h n hn
  · rw [List.getD_eq_getElem?_getD, List.getElem?_eq_none (show onesL32.length ≤ n by simpa [onesL32] using Nat.le_of_not_lt hn)]; exact ⟨by decide, by decide⟩
theorem red_at {k : Int} (h : 0 ≤ k ∧ k < 6) : redsA.toList[k.toNat]? = some (.bool (redB k)) := by
  obtain ⟨n, rfl⟩ := Int.eq_ofNat_of_zero_le h.1
  exact red6 n (by omega)
theorem kept_sz {vs : List Value} {ns : List Int} (h : IntsAre vs ns) (hl : ns.length ≤ 32) : vs.toArray.size ≤ sizeLine := by
  rw [List.size_toArray, h.length, sizeLine_eq]; omega
theorem kci_filt {prog : Program} {w : World} {A : Around} {h₀ : Heap} {L : Addr} {m : Str → Option Value} {env : Env} {ct elt : PySem.Expr} {x : Str} {scope : Scope} {cl : List (Str × Addr)} {s : Shared} {S : List (Addr × Obj) → Prop} {Fin : List Value → List (Addr × Obj) → Prop} {news : List (Addr × Obj)}
    {vs : List Value} {ns : List Int} (lf : List Int) {o : Obj} {sv : Int} {ts : Tok} (_hd : o.data = .cell (some (.int sv ts))) (hi : IntsAre vs ns)
    (turn : ∀ k t I oI C oC D m₂ ys l h tk (E' : Value → Shared → Prop), k ∈ ns → IntsAre ys l → LCg.NsObj oC m₂ → m₂ x = some (.int k t) → Fr h₀ L h m → News h₀ L h ((I, oI) :: (C, oC) :: (D, LCg.lst ys) :: news) → LCg.Off3 I C D news → ((@Ne Nat I C) ∧ (@Ne Nat I D) ∧ (@Ne Nat C D)) → KPfMark →
      wpAny (model prog w) A (isTrue ct (compEnvC scope cl C env) (eval ct (compEnvC scope cl C env))) (fun b s' => if b = true then wpAny (model prog w) A (eval elt (compEnvC scope cl C env)) (LCg.CompEnd h₀ L m { s with heap := h, toks := tk } I oI C oC D (LCg.lst ys) S (fun y news' => KCiEl news l (filtG (lf.getD sv.toNat 0) l k) y news')) E' s'
        else LCg.CompEnd h₀ L m { s with heap := h, toks := tk } I oI C oC D (LCg.lst ys) S (fun _ news' => KCiNo news l (filtG (lf.getD sv.toNat 0) l k) news') Value.none s') E' { s with heap := h, toks := tk })
    (fin : KPfDone (∀ ys, IntsAre ys (ns.foldl (filtG (lf.getD sv.toNat 0)) []) → ys.length ≤ vs.toArray.size → Fin ys news)) : LCt.CompRestT prog w A h₀ L m env ct elt x scope cl s S (fun i v => vs.toArray[i]? = some v) Fin vs.toArray.size 0 [] news :=
  kci_list (filtG (lf.getD sv.toNat 0)) hi turn fin (filtG_grows _)
local macro_rules | `(tactic| walk_at "CompSrcT") => `(tactic| (k_here; k_dflt (refine LCt.CompSrcT.ledger (by rfl) (by k_asm) (by k_asm) (by k_mem) (by exact kept_sz (by assumption) (by assumption)) ?_; intro g'; (refine' kci_filt _ ?zd ?zi (fun k' t' I' oI' C' oC' D' m' ys' l' h' tk' E' hk' hI' hC' hx' F' N' off' ne' hMark' => ?_) ?_); (case zd => assumption); (case zi => assumption); (all_goals (try (simp only [LCg.Off3] at off'; (repeat (obtain ⟨⟨_, _, _⟩, off'⟩ := off')); (try clear off'); obtain ⟨_, _, _⟩ := ne'))); kcf_last)))
local macro_rules | `(tactic| walk_at "subscriptTail Name Name ref int") => `(tactic| (k_here; k_dflt (refine' item_ints ?zN ?zm ?zi ?zb ?_; (case zN => k_asm); (case zm => k_mem); (case zi => assumption); (case zb => exact fb (by with_reducible assumption)); intro t')))
local macro_rules | `(tactic| walk_at "subscriptTail Name BinOp ref int") => `(tactic| (k_here; k_dflt (refine' item_ints ?zN ?zm ?zi ?zb ?_; (case zN => k_asm); (case zm => k_mem); (case zi => assumption); (case zb => exact onb (by with_reducible assumption) (by with_reducible assumption) (by with_reducible assumption)); intro t')))
local macro_rules | `(tactic| walk_at "subscriptTail Name Subscript ref int") => `(tactic| (k_here; k_dflt (refine' item_val (vs := redsA.toList) ?zN ?zm ?z0 ?z1 ?zv ?_; (case zN => k_asm); (case zm => k_mem); (case z0 => exact (ones5 _).1); (case z1 => exact Int.lt_trans (ones5 _).2 (by decide)); (case zv => exact red_at (ones5 _)))))
local macro_rules | `(tactic| walk_at "KCiEl") => `(tactic| (k_dflt (refine' kci_el ?kce (by with_unfolding_all rfl) (by with_unfolding_all rfl)); (case kce => exact filtG_yes (by with_reducible assumption))))
local macro_rules | `(tactic| walk_at "KCiNo") => `(tactic| (k_dflt (refine' kci_no ?kce (by with_unfolding_all rfl)); (case kce => exact filtG_no (by with_reducible assumption))))
def keptM (kp : Addr) (start step : Int) (t1 t2 : Tok) (mk : Option Value) : Str → Option Value := fun y => if y = Str.ofString "k" then mk else if y = Str.ofString "kept" then some (.ref kp) else if y = Str.ofString "step" then some (.int step t2) else if y = Str.ofString "start" then some (.int start t1) else none
theorem keptM_upd (kp : Addr) (start step : Int) (t1 t2 : Tok) (mk : Option Value) (v : Value) : (fun y => if y = Str.ofString "k" then some v else keptM kp start step t1 t2 mk y) = keptM kp start step t1 t2 (some v) := funext fun y => by
  unfold keptM
  by_cases h : y = Str.ofString "k"
  · rw [if_pos h, if_pos h]
  · rw [if_neg h, if_neg h, if_neg h]
theorem keptM_none (kp : Addr) (start step : Int) (t1 t2 : Tok) : (fun y => if y = Str.ofString "kept" then some (.ref kp) else if y = Str.ofString "step" then some (.int step t2) else if y = Str.ofString "start" then some (.int start t1) else none) = keptM kp start step t1 t2 none := funext fun y => by
  unfold keptM
  by_cases h : y = Str.ofString "k"
  · subst h; rfl
  · rw [if_neg h]
theorem ints_snoc {vs : List Value} {ns : List Int} {n : Int} {t : Tok} (h : IntsAre vs ns) : IntsAre (vs ++ [.int n t]) (ns ++ [n]) := by
  induction h with
  | nil => exact .cons n t .nil
  | cons a u _ ih => exact .cons a u ih
def keptJ (lf : List Int) (start step : Int) (t1 t2 : Tok) (cS cR cO cL l : Addr) (lo : Obj) (i : Nat) (m : Str → Option Value) (nw : List (Addr × Obj)) : Prop :=
  ∃ kp vk n oS xS mk lr nr lo9 vo no oR oO oL, m = keptM kp start step t1 t2 mk ∧ IntsAre vk (keptOf lf start step i) ∧ oS.data = .cell xS ∧ oR.data = .cell (some (.ref lr)) ∧ oO.data = .cell (some (.ref lo9)) ∧ oL.data = .cell (some (.ref l)) ∧ IntsAre vo onesL32 ∧
    nw = (kp, listOf vk.toArray n) :: [(lr, listOf redsA nr), (lo9, listOf vo.toArray no), (cS, oS), (cR, oR), (cO, oO), (cL, oL), (l, lo)] ∧
    (∀ p ∈ [(lr, listOf redsA nr), (lo9, listOf vo.toArray no), (cS, oS), (cR, oR), (cO, oO), (cL, oL), (l, lo)], p.1 ≠ kp) ∧ (∀ p ∈ [(lr, listOf redsA nr), (lo9, listOf vo.toArray no), (cR, oR), (cO, oO), (cL, oL), (l, lo)], p.1 ≠ cS)
set_option maxHeartbeats 8000000 in
theorem kept_con (w : World) (mean : ExcName → Option Value) (mg mb : Str → Option Value) (l : Addr) (vs : List Value) (nl : Nat) (lf : List Int) (start step : Int) (t1 t2 : Tok) (hi : IntsAre vs lf) (hlen : lf.length = 32) (hlf : ∀ x ∈ lf, 0 ≤ x ∧ x < 32) :
    ConO w mean mg mb 133 [.ref l, .int start t1, .int step t2] 12 [(l, listOf vs.toArray nl)]
      (fun o => ∃ vs n, o = listOf vs.toArray n ∧ IntsAre vs (keptOf lf start step 32)) := by
  w_on
  k_with_none
  unfold ConO
  k_fill
  intro dp un gd cn cs a ccd cl outer A₀ base h₀ L m news s Q E B F X N T hk hhid hd hu hret
  k_with "MyCall" => (first
    | (k_dflt (refine' useO (ones32_con w mean mg mb _) ?k1 ?k2 ?k3 ?k4 ?k5 ?kK ?kH ?k8 ?k9 ?_; (case k1 => assumption); (case k2 => k_asm); (case k3 => k_asm); (case k4 => k_asm); (case k5 => k_asm); (case kK => first | exact rfl | assumption); (case kH => kcf_all); (case k8 => ktr_room); (case k9 => ktr_units); (intro l9 o9 h9 tk9 F9 N9 d9 hp9); (obtain ⟨vs9, n9, rfl, hi9⟩ := hp9); (replace d9 := off_of d9); (try simp only [LCg.Off1] at d9); (repeat (obtain ⟨_, d9⟩ := d9)); (try clear d9); (try k_sweep); (try dsimp only); (try k_fold)))
    | (k_dflt (refine' useO (reds_con w mean mg mb) ?k1 ?k2 ?k3 ?k4 ?k5 ?kK ?kH ?k8 ?k9 ?_; (case k1 => assumption); (case k2 => k_asm); (case k3 => k_asm); (case k4 => k_asm); (case k5 => k_asm); (case kK => first | exact rfl | assumption); (case kH => kcf_all); (case k8 => ktr_room); (case k9 => ktr_units); (intro l9 o9 h9 tk9 F9 N9 d9 hp9); (obtain ⟨n9, rfl⟩ := hp9); (replace d9 := off_of d9); (try simp only [LCg.Off1] at d9); (repeat (obtain ⟨_, d9⟩ := d9)); (try clear d9); (try k_sweep); (try dsimp only); (try k_fold))))
  refine wpAny_call ?_
  k_dflt (refine' con_callCM (fun y => if y = Str.ofString "step" then some (.int step t2) else if y = Str.ofString "start" then some (.int start t1) else none) (fun y => if y = Str.ofString "left" then some (.ref l) else none) ?k1 ?k2 ?k3 ?k4 ?k5 ?kH ?kA ?kF ?kK ?k6 ?k7 ?k8 ?k9 ?kB ?kD ?km ?kc ?_ ?c2 ?c3 ?c4; (case kA => exact rfl); (case kF => exact rfl); (case kK => assumption); (case k1 => assumption); (case k2 => assumption); (case k3 => assumption); (case k4 => assumption); (case k5 => assumption); (case kH => assumption); (case k6 => k_is); (case k7 => k_is); (case k8 => ktr_room); (case k9 => exact BindsTo.of_eq rfl); (case kB => exact rfl); (case kD => decide +kernel); (case km => exact fun _ => by with_unfolding_all rfl); (case kc => exact fun _ => by with_unfolding_all rfl); (case c2 => exact rfl); (case c3 => exact rfl); (case c4 => exact rfl); k_whole; intro g' L' h' tk' cells' F' N' Y' B' X' T' G' l1'; (try k_lt l1'); k_cells Y'; (try simp only [List.cons_append, List.nil_append] at N'); (try dsimp only); (try k_fold))
  k_steps
  k_dflt (refine' forR_ind (a := 0) (keptJ lf start step t1 t2 (L' + 1 + 1 + 1 + 1) (L' + 1 + 1 + 1) (L' + 1 + 1) (L' + 1) l (listOf vs.toArray nl)) ?hE rfl ?hstep ?hfin 32 0 _ _ _ _ rfl ?hj ?hF ?hN ?hoff)
  case hE => first | passes_own | with_unfolding_all passes_own
  case hF => k_asm
  case hN => k_asm
  case hoff => k_all
  case hj => exact ⟨_, _, _, _, _, none, _, _, _, _, _, _, _, _, keptM_none _ _ _ _ _, (by assumption), (by assumption), (by assumption), (by assumption), (by with_unfolding_all assumption), (by assumption), rfl, (by k_all), (by k_all)⟩
  case hfin =>
    intro m1 nw h tk hj F1 N1
    obtain ⟨kp, vk, n, oS, xS, mk, lr, nr, lo9, vo, no, oR, oO, oL, rfl, hik, dS, dR, dO, dL, hio, rfl, off1, off2⟩ := hj
    dsimp only
    k_steps
    (try dsimp only); (try k_unfold); (try dsimp only)
    have ofl : ∀ q ∈ [(l, listOf vs.toArray nl)], q.1 ≠ kp := fun q hq => off1 q (by rw [List.mem_singleton.mp hq]; k_mem)
    (refine' retO F N hret G' ?zf ?zn ?zs ?zm ?ze ?zp; (case zf => k_asm); (case zn => k_asm); (case zs => kcf_all); (case zm => k_mem); (case ze => first | assumption | k_all))
    exact ⟨_, _, rfl, hik⟩
  case hstep =>
    intro i t m1 nw I o h tk hi32 hj F1 N1 off3
    obtain ⟨kp, vk, n, oS, xS, mk, lr, nr, lo9, vo, no, oR, oO, oL, rfl, hik, dS, dR, dO, dL, hio, rfl, off1, off2⟩ := hj
    (replace off1 := off_of off1); (try simp only [LCg.Off1] at off1); (repeat (obtain ⟨_, off1⟩ := off1)); (try clear off1)
    (replace off2 := off_of off2); (try simp only [LCg.Off1] at off2); (repeat (obtain ⟨_, off2⟩ := off2)); (try clear off2)
    (replace off3 := off_of off3); (try simp only [LCg.Off1] at off3); (repeat (obtain ⟨_, off3⟩ := off3)); (try clear off3)
    have hkl := Nat.le_trans (keptOf_len lf start step i) (Nat.le_of_lt hi32)
    have hkm := keptOf_mem lf start step i
    have hks : keptOf lf start step (i + 1) = if (keptOf lf start step i).foldl (filtG (lf.getD (Int.fmod (start + step * (0 + (i : Int))) 32).toNat 0)) [] = [] then keptOf lf start step i ++ [Int.fmod (start + step * (0 + (i : Int))) 32] else keptOf lf start step i := rfl
    generalize keptOf lf start step i = kn at hik hkl hkm hks
    k_steps
    · rw [if_pos (of_decide_eq_true (by with_reducible assumption))] at hks
      k_dflt (refine' TurnE.mk ((kp, listOf (vk.toArray.push _) _) :: [(lr, listOf redsA nr), (lo9, listOf vo.toArray no), (L' + 1 + 1 + 1 + 1, _), (L' + 1 + 1 + 1, oR), (L' + 1 + 1, oO), (L' + 1, oL), (l, listOf vs.toArray nl)]) ?tF ?tN ?tS ?tO ?tJ)
      case tF => k_asm
      case tN => k_asm
      case tS => (repeat' (first | exact List.forall_mem_nil _ | refine List.forall_mem_cons.mpr ⟨?_, ?_⟩ | exact List.mem_cons_self | refine List.mem_cons_of_mem _ ?_))
      case tO => k_all
      case tJ => exact ⟨kp, vk ++ [_], _, _, _, _, lr, nr, lo9, vo, no, oR, oO, oL, keptM_upd _ _ _ _ _ _ _, hks ▸ ints_snoc hik, (by assumption), dR, dO, dL, hio, congrArg (fun a => (kp, listOf a _) :: _) (List.push_toArray _ _), (by k_all), (by k_all)⟩
    · rw [if_neg (of_decide_eq_false (by with_reducible assumption))] at hks
      k_dflt (refine' TurnE.mk ((kp, listOf vk.toArray n) :: [(lr, listOf redsA nr), (lo9, listOf vo.toArray no), (L' + 1 + 1 + 1 + 1, _), (L' + 1 + 1 + 1, oR), (L' + 1 + 1, oO), (L' + 1, oL), (l, listOf vs.toArray nl)]) ?tF ?tN ?tS ?tO ?tJ)
      case tF => k_asm
      case tN => k_asm
      case tS => (repeat' (first | exact List.forall_mem_nil _ | refine List.forall_mem_cons.mpr ⟨?_, ?_⟩ | exact List.mem_cons_self | refine List.mem_cons_of_mem _ ?_))
      case tO => k_all
      case tJ => exact ⟨kp, vk, n, _, _, _, lr, nr, lo9, vo, no, oR, oO, oL, keptM_upd _ _ _ _ _ _ _, hks ▸ hik, (by assumption), dR, dO, dL, hio, rfl, (by k_all), (by k_all)⟩
end Mine
namespace Mine
local macro_rules | `(tactic| k_lt $h:ident) => `(tactic| (replace $h := allLt_of $h; (try simp only [AllLt] at $h:ident); (repeat (obtain ⟨_, $h:ident⟩ := $h:ident)); (try clear $h)))
local macro_rules | `(tactic| walk_at "FinE") => `(tactic| ((unfold LCg.FinE); intro D' h' tk' F' N' o1'; (have oAll9 := o1'); (try simp only [LCg.Off1] at o1'); (repeat (obtain ⟨_, o1'⟩ := o1')); (try clear o1'); (try simp only [List.nil_append, List.cons_append] at N'); (try k_sweep); (try dsimp only)))
local macro_rules | `(tactic| walk_at "FinA") => `(tactic| ((unfold LCg.FinA); intro D' h' tk' F' N' o1'; (have oAll9 := o1'); (try simp only [LCg.Off1] at o1'); (repeat (obtain ⟨_, o1'⟩ := o1')); (try clear o1'); (try simp only [List.nil_append, List.cons_append] at N'); (try k_sweep); (try dsimp only)))
local macro_rules | `(tactic| k_all) => `(tactic| first | exact List.forall_mem_nil _ | (refine List.forall_mem_cons.mpr ⟨by k_ne, ?_⟩; k_all))
local macro_rules | `(tactic| k_ne) => `(tactic| (refine neN ?_; (try dsimp only); first | assumption | (refine Ne.symm ?_; assumption) | exact Nat.ne_of_lt (by assumption) | exact Nat.ne_of_gt (by assumption) | omega))
local macro_rules | `(tactic| walk_at "call ref") => `(tactic| (k_extra "MyCall"))
local macro_rules | `(tactic| walk_at "CompSrc") => `(tactic| (k_extra "MySrc"))
local macro_rules | `(tactic| walk_at "CompSrcT") => `(tactic| (k_extra "MySrcT"))
local macro_rules | `(tactic| walk_at "eval ListComp") => `(tactic| (k_here; (with_reducible show wpAny _ _ (eval (Expr.ListComp _ [PySem.Comprehension.mk _ _ [] _] _ _) _) _ _ _); k_dflt (refine LCg.ListComp_U (F₀ := by k_asm) (by with_unfolding_all rfl) (by decide) (by rfl) (by decide) (by rfl) ?_)))
local macro_rules | `(tactic| walk_at "eval ListComp") => `(tactic| (k_here; (with_reducible show wpAny _ _ (eval (Expr.ListComp _ [PySem.Comprehension.mk _ _ [_] _] _ _) _) _ _ _); k_dflt (refine LCt.ListComp_T (F₀ := by k_asm) (by with_unfolding_all rfl) (by decide) (by rfl) (by decide) (by rfl) ?_)))
def neG (v : Int) (l : List Int) (u : Int) : List Int := if u ≠ v then l ++ [u] else l
theorem neG_yes {v u : Int} {l : List Int} (h : u ≠ v) : neG v l u = l ++ [u] := if_pos h
theorem neG_no {v u : Int} {l : List Int} (h : ¬ u ≠ v) : neG v l u = l := if_neg h
theorem neG_grows (v : Int) : KPfGrows (neG v) := fun l k => by
  unfold neG
  split
  · simp
  · exact Nat.le_succ _
def othersOf (v : Int) : List Int := (rangeKs 0 5).foldl (neG v) []
theorem kci_ne {prog : Program} {w : World} {A : Around} {h₀ : Heap} {L : Addr} {m : Str → Option Value} {env : Env} {ct elt : PySem.Expr} {x : Str} {scope : Scope} {cl : List (Str × Addr)} {s : Shared} {S : List (Addr × Obj) → Prop} {Fin : List Value → List (Addr × Obj) → Prop} {news : List (Addr × Obj)}
    {n : Nat} {a : Int} {o : Obj} {v : Int} {tv : Tok} (_hd : o.data = .cell (some (.int v tv)))
    (turn : ∀ k t I oI C oC D m₂ ys l h tk (E' : Value → Shared → Prop), a ≤ k → k < a + (n : Int) → IntsAre ys l → LCg.NsObj oC m₂ → m₂ x = some (.int k t) → Fr h₀ L h m → News h₀ L h ((I, oI) :: (C, oC) :: (D, LCg.lst ys) :: news) → LCg.Off3 I C D news → ((@Ne Nat I C) ∧ (@Ne Nat I D) ∧ (@Ne Nat C D)) → KPfMark →
      wpAny (model prog w) A (isTrue ct (compEnvC scope cl C env) (eval ct (compEnvC scope cl C env))) (fun b s' => if b = true then wpAny (model prog w) A (eval elt (compEnvC scope cl C env)) (LCg.CompEnd h₀ L m { s with heap := h, toks := tk } I oI C oC D (LCg.lst ys) S (fun y news' => KCiEl news l (neG v l k) y news')) E' s'
        else LCg.CompEnd h₀ L m { s with heap := h, toks := tk } I oI C oC D (LCg.lst ys) S (fun _ news' => KCiNo news l (neG v l k) news') Value.none s') E' { s with heap := h, toks := tk })
    (fin : KPfDone (∀ ys, IntsAre ys ((rangeKs a n).foldl (neG v) []) → ys.length ≤ n → Fin ys news)) : LCt.CompRestT prog w A h₀ L m env ct elt x scope cl s S (fun i v => ∃ t, v = .int (a + (i : Int)) t) Fin n 0 [] news :=
  kci_range (neG v) turn fin (neG_grows v)
local macro_rules | `(tactic| walk_at "CompSrcT") => `(tactic| (k_here; k_dflt (refine LCt.CompSrcT.range (by rfl) (by k_asm) (by k_asm) (by assumption) (by first | decide | rfl) (by first | rfl | decide) (by exact Nat.le_of_ble_eq_true rfl) ?_; intro g'; (refine' kci_ne ?zd (fun k' t' I' oI' C' oC' D' m' ys' l' h' tk' E' hlo' hhi' hI' hC' hx' F' N' off' ne' hMark' => ?_) ?_); (case zd => assumption); (all_goals (try (simp only [LCg.Off3] at off'; (repeat (obtain ⟨⟨_, _, _⟩, off'⟩ := off')); (try clear off'); obtain ⟨_, _, _⟩ := ne'))); kcf_last)))
theorem ints4 {ys : List Value} {a b c d : Int} (h : IntsAre ys [a, b, c, d]) : ∃ t0 t1 t2 t3, ys = [.int a t0, .int b t1, .int c t2, .int d t3] := by
  cases h with
  | cons _ t0 h =>
  cases h with
  | cons _ t1 h =>
  cases h with
  | cons _ t2 h =>
  cases h with
  | cons _ t3 h =>
  cases h
  exact ⟨t0, t1, t2, t3, rfl⟩
theorem others4 {v : Int} (hv : 0 ≤ v ∧ v < 5) : ∃ a b c d, othersOf v = [a, b, c, d] ∧ (0 ≤ a ∧ a < 5) ∧ (0 ≤ b ∧ b < 5) ∧ (0 ≤ c ∧ c < 5) ∧ (0 ≤ d ∧ d < 5) := by
  have h : v = 0 ∨ v = 1 ∨ v = 2 ∨ v = 3 ∨ v = 4 := by omega
  rcases h with rfl | rfl | rfl | rfl | rfl
  · exact ⟨1, 2, 3, 4, by decide, by decide, by decide, by decide, by decide⟩
  · exact ⟨0, 2, 3, 4, by decide, by decide, by decide, by decide, by decide⟩
  · exact ⟨0, 1, 3, 4, by decide, by decide, by decide, by decide, by decide⟩
  · exact ⟨0, 1, 2, 4, by decide, by decide, by decide, by decide, by decide⟩
  · exact ⟨0, 1, 2, 3, by decide, by decide, by decide, by decide, by decide⟩
def pairedOf (R : Nat → List Int) (v : Int) : Int := match othersOf v with
  | [a, b, c, d] => Int.fmod ((R a.toNat).getD b.toNat 0 * (R c.toNat).getD d.toNat 0 + (R a.toNat).getD c.toNat 0 * (R b.toNat).getD d.toNat 0 + (R a.toNat).getD d.toNat 0 * (R b.toNat).getD c.toNat 0) 2
  | _ => 0
theorem rb {R : Nat → List Int} (h : ∀ k, k < 5 → (R k).length = 5) {a b : Int} (ha : 0 ≤ a ∧ a < 5) (hb : 0 ≤ b ∧ b < 5) : 0 ≤ b ∧ b < ((R a.toNat).length : Int) ∧ b < 2 ^ 63 := by
  rw [h a.toNat (by omega)]; omega
local macro_rules | `(tactic| walk_at "subscriptTail Name Name ref int") => `(tactic| (k_here; k_dflt (refine' item_row ?zN ?zm ?zi ?zb ?_; (case zN => k_asm); (case zm => k_mem); (case zi => assumption); (case zb => with_reducible assumption)); intro aj' vj' nj' hmj' hij'))
local macro_rules | `(tactic| walk_at "subscriptTail Name Name ref int") => `(tactic| (k_here; k_dflt (refine' item_ints ?zN ?zm ?zi ?zb ?_; (case zN => k_asm); (case zm => ((repeat (first | assumption | refine List.mem_cons_of_mem _ ?_)); done)); (case zi => assumption); (case zb => exact rb (by with_reducible assumption) (by with_reducible assumption) (by with_reducible assumption)); intro t')))
theorem mok {a b : Int} (h : 0 ≤ a ∧ a ≤ 1) : IntMulOk a b := IntMulOk.of_left (PySem.intBits_le_64 (by omega) (by omega))
local macro_rules | `(tactic| walk_at "binaryOp Mult int int") => `(tactic| ((with_reducible refine' mul_int ?_ ?zok); (case zok => (refine mok ?_; with_reducible apply_assumption))))
set_option maxHeartbeats 4000000 in
theorem paired_con (w : World) (mean : ExcName → Option Value) (mg mb : Str → Option Value) (r a0 a1 a2 a3 a4 : Addr) (n0 n1 n2 n3 n4 nr : Nat) (v0 v1 v2 v3 v4 : List Value) (r0 r1 r2 r3 r4 : List Int) (v : Int) (tv : Tok)
    (i0 : IntsAre v0 r0) (i1 : IntsAre v1 r1) (i2 : IntsAre v2 r2) (i3 : IntsAre v3 r3) (i4 : IntsAre v4 r4)
    (e0 : r0.length = 5) (e1 : r1.length = 5) (e2 : r2.length = 5) (e3 : r3.length = 5) (e4 : r4.length = 5) (hv : 0 ≤ v ∧ v < 5) (h01 : ∀ k j, 0 ≤ ([r0, r1, r2, r3, r4].getD k []).getD j 0 ∧ ([r0, r1, r2, r3, r4].getD k []).getD j 0 ≤ 1) :
    ConV w mean mg mb 138 [.ref r, .int v tv] 2 [(r, listOf [.ref a0, .ref a1, .ref a2, .ref a3, .ref a4].toArray nr), (a0, listOf v0.toArray n0), (a1, listOf v1.toArray n1), (a2, listOf v2.toArray n2), (a3, listOf v3.toArray n3), (a4, listOf v4.toArray n4)]
      (fun o => ∃ t, o = .int (pairedOf (fun k => [r0, r1, r2, r3, r4].getD k []) v) t) := by
  w_on
  k_with_none
  unfold ConV
  k_fill
  intro dp un gd cn cs a ccd cl outer A₀ base h₀ L m news s Q E B F X N T hk hhid hd hu hret
  refine wpAny_call ?_
  k_dflt (refine' con_callCM (fun y => if y = Str.ofString "due" then some (.ref r) else none) (fun y => if y = Str.ofString "v" then some (.int v tv) else none) ?k1 ?k2 ?k3 ?k4 ?k5 ?kH ?kA ?kF ?kK ?k6 ?k7 ?k8 ?k9 ?kB ?kD ?km ?kc ?_ ?c2 ?c3 ?c4; (case kA => exact rfl); (case kF => exact rfl); (case kK => assumption); (case k1 => assumption); (case k2 => assumption); (case k3 => assumption); (case k4 => assumption); (case k5 => assumption); (case kH => assumption); (case k6 => k_is); (case k7 => k_is); (case k8 => ktr_room); (case k9 => exact BindsTo.of_eq rfl); (case kB => exact rfl); (case kD => decide +kernel); (case km => exact fun _ => by with_unfolding_all rfl); (case kc => exact fun _ => by with_unfolding_all rfl); (case c2 => exact rfl); (case c3 => exact rfl); (case c4 => exact rfl); k_whole; intro g' L' h' tk' cells' F' N' Y' B' X' T' G' l1'; (try k_lt l1'); k_cells Y'; (try simp only [List.cons_append, List.nil_append] at N'); (try dsimp only); (try k_fold))
  have hR := rowsIn5 (R := fun k => [r0, r1, r2, r3, r4].getD k []) (nws := [(r, listOf [.ref a0, .ref a1, .ref a2, .ref a3, .ref a4].toArray nr), (a0, listOf v0.toArray n0), (a1, listOf v1.toArray n1), (a2, listOf v2.toArray n2), (a3, listOf v3.toArray n3), (a4, listOf v4.toArray n4)]) (a0 := a0) (a1 := a1) (a2 := a2) (a3 := a3) (a4 := a4) i0 i1 i2 i3 i4 (by k_mem) (by k_mem) (by k_mem) (by k_mem) (by k_mem)
  have hR5 : ∀ k, k < 5 → ((fun k => [r0, r1, r2, r3, r4].getD k []) k).length = 5 := fun k hk => by
    match k, hk with
    | 0, _ => exact e0
    | 1, _ => exact e1
    | 2, _ => exact e2
    | 3, _ => exact e3
    | 4, _ => exact e4
  have hR01 : ∀ k j, 0 ≤ ((fun k => [r0, r1, r2, r3, r4].getD k []) k).getD j 0 ∧ ((fun k => [r0, r1, r2, r3, r4].getD k []) k).getD j 0 ≤ 1 := h01
  clear h01
  generalize (fun k => [r0, r1, r2, r3, r4].getD k []) = R at hR hR5 hret hR01
  obtain ⟨xa, xb, xc, xd, hx, ha, hb, hc, hd9⟩ := others4 hv
  k_steps
  have hI8 : IntsAre ys (othersOf v) := by assumption
  obtain ⟨t0, t1, t2, t3, rfl⟩ := ints4 (hx ▸ hI8)
  k_steps
  (try dsimp only); (try k_unfold); (try dsimp only)
  (refine' retV F N hret G' ?zf ?zn ?zs ?zp; (case zf => k_asm); (case zn => k_asm); (case zs => kcf_all))
  unfold pairedOf
  rw [hx]
  exact ⟨_, rfl⟩
end Mine
namespace Mine
section
variable {prog : Program} {w : World} {A : Around} {E : Value → Shared → Prop} {s : Shared} {h₀ : Heap} {L : Addr} {news : List (Addr × Obj)} {Q : Value → Shared → Prop}
theorem readI {h : Heap} {D : Addr} {vs : List Value} {n : Nat} {ns : List Int} (N : News h₀ L h news) (hm : (D, listOf vs.toArray n) ∈ news) (hi : IntsAre vs ns) : Reads h (.ref D) (.list (ns.map PyData.int)) [D] :=
  reads_newData (N.isList hm) (ke_carried hi)
theorem ne_rows {a b a0 a1 a2 a3 a4 b0 b1 b2 b3 b4 : Addr} {n n' n0 n1 n2 n3 n4 k0 k1 k2 k3 k4 : Nat} {v0 v1 v2 v3 v4 u0 u1 u2 u3 u4 : List Value} {r0 r1 r2 r3 r4 : List Int}
    (N : News h₀ L s.heap news) (ma : (a, listOf [.ref a0, .ref a1, .ref a2, .ref a3, .ref a4].toArray n) ∈ news) (mb : (b, listOf [.ref b0, .ref b1, .ref b2, .ref b3, .ref b4].toArray n') ∈ news)
    (m0 : (a0, listOf v0.toArray n0) ∈ news) (m1 : (a1, listOf v1.toArray n1) ∈ news) (m2 : (a2, listOf v2.toArray n2) ∈ news) (m3 : (a3, listOf v3.toArray n3) ∈ news) (m4 : (a4, listOf v4.toArray n4) ∈ news)
    (p0 : (b0, listOf u0.toArray k0) ∈ news) (p1 : (b1, listOf u1.toArray k1) ∈ news) (p2 : (b2, listOf u2.toArray k2) ∈ news) (p3 : (b3, listOf u3.toArray k3) ∈ news) (p4 : (b4, listOf u4.toArray k4) ∈ news)
    (i0 : IntsAre v0 r0) (i1 : IntsAre v1 r1) (i2 : IntsAre v2 r2) (i3 : IntsAre v3 r3) (i4 : IntsAre v4 r4)
    (j0 : IntsAre u0 r0) (j1 : IntsAre u1 r1) (j2 : IntsAre u2 r2) (j3 : IntsAre u3 r3) (j4 : IntsAre u4 r4) (hu : A.units + 64 < cLine) (h : Q (.bool false) s) :
    wpAny (model prog w) A (compareOp .NotEq (.ref a) (.ref b)) Q E s := by
  refine ne_dataH_same (da := .list [.list (r0.map PyData.int), .list (r1.map PyData.int), .list (r2.map PyData.int), .list (r3.map PyData.int), .list (r4.map PyData.int)]) (db := .list [.list (r0.map PyData.int), .list (r1.map PyData.int), .list (r2.map PyData.int), .list (r3.map PyData.int), .list (r4.map PyData.int)])
    (reads_list_at (N.get ma) rfl rfl (.cons (readI N m0 i0) (.cons (readI N m1 i1) (.cons (readI N m2 i2) (.cons (readI N m3 i3) (.cons (readI N m4 i4) .nil))))))
    (reads_list_at (N.get mb) rfl rfl (.cons (readI N p0 j0) (.cons (readI N p1 j1) (.cons (readI N p2 j2) (.cons (readI N p3 j3) (.cons (readI N p4 j4) .nil)))))) ?_ ?_ hu ?_ ?_
  · simp [SeqAt.shaped, PyData.canLayAll0, PyData.canLay0, PyData.depth, PyData.depthAll, ke_canLayAll0, ke_depthAll]
  · simp [SeqAt.shaped, PyData.canLayAll0, PyData.canLay0, PyData.depth, PyData.depthAll, ke_canLayAll0, ke_depthAll]
  · refine SeqAt.noMix_of_shape (.list (.list .int)) rfl _ _ (list_has ?_) (list_has ?_) <;>
    · intro x hx
      simp only [List.mem_cons, List.not_mem_nil, or_false] at hx
      rcases hx with rfl | rfl | rfl | rfl | rfl <;> exact list_map_has fun _ => rfl
  · have e : PySem.Spec.same (.list [.list (r0.map PyData.int), .list (r1.map PyData.int), .list (r2.map PyData.int), .list (r3.map PyData.int), .list (r4.map PyData.int)]) (.list [.list (r0.map PyData.int), .list (r1.map PyData.int), .list (r2.map PyData.int), .list (r3.map PyData.int), .list (r4.map PyData.int)]) = true := by
      simp only [PySem.Spec.same, PySem.Spec.sameAll, ke_sameAll, decide_true, Bool.and_true]
    rw [e]; exact h
end
def agG (lf : List Int) (l : List Int) (k : Int) : List Int := if (lf.getD k.toNat 0 == 0) = true then l ++ [k] else l
theorem agG_yes {lf l : List Int} {k : Int} (h : (lf.getD k.toNat 0 == 0) = true) : agG lf l k = l ++ [k] := if_pos h
theorem agG_no {lf l : List Int} {k : Int} (h : (lf.getD k.toNat 0 == 0) = false) : agG lf l k = l := if_neg (by rw [h]; decide)
theorem agG_grows (lf : List Int) : KPfGrows (agG lf) := fun l k => by
  unfold agG
  split
  · simp
  · exact Nat.le_succ _
def odG (R : Nat → List Int) (l : List Int) (k : Int) : List Int := if pairedOf R k = 1 then l ++ [2 ^ k.toNat] else l
theorem odG_yes {R : Nat → List Int} {l : List Int} {k : Int} (h : decide (pairedOf R k = 1) = true) : odG R l k = l ++ [2 ^ k.toNat] := if_pos (of_decide_eq_true h)
theorem odG_no {R : Nat → List Int} {l : List Int} {k : Int} (h : decide (pairedOf R k = 1) = false) : odG R l k = l := if_neg (of_decide_eq_false h)
theorem odG_grows (R : Nat → List Int) : KPfGrows (odG R) := fun l k => by
  unfold odG
  split
  · simp
  · exact Nat.le_succ _
theorem b32 {k : Int} {lf : List Int} (h0 : (0 : Int) ≤ k) (h1 : k < 0 + ((32 : Nat) : Int)) (e : lf.length = 32) : 0 ≤ k ∧ k < lf.length ∧ k < 2 ^ 63 := by omega
theorem b5 {k : Int} (h0 : (0 : Int) ≤ k) (h1 : k < 0 + ((5 : Nat) : Int)) : 0 ≤ k ∧ k < 5 := by omega
theorem b5le {k : Int} (h1 : k < 0 + ((5 : Nat) : Int)) : k ≤ 1000000 := by omega
def rowQ (p : List Int) (a : Int) : List Int := p.map (qdue a)
theorem rows01 (a b c d e : Int) (R : List (List Int)) (hR : ∀ r ∈ R, ∃ x, r = [qdue x a, qdue x b, qdue x c, qdue x d, qdue x e]) : ∀ k j, 0 ≤ (R.getD k []).getD j 0 ∧ (R.getD k []).getD j 0 ≤ 1 := by
  intro k j
  by_cases h : k < R.length
  · have e1 : R.getD k [] = R[k] := by rw [List.getD_eq_getElem?_getD, List.getElem?_eq_getElem h]; rfl
    obtain ⟨x, hx⟩ := hR _ (List.getElem_mem h)
    rw [e1, hx]
    match j with
    | 0 => exact qdue_01 _ _
    | 1 => exact qdue_01 _ _
    | 2 => exact qdue_01 _ _
    | 3 => exact qdue_01 _ _
    | 4 => exact qdue_01 _ _
    | n + 5 => exact ⟨by simp, by simp⟩
  · have e1 : R.getD k [] = [] := by rw [List.getD_eq_getElem?_getD, List.getElem?_eq_none (by omega)]; rfl
    rw [e1]; exact ⟨by simp, by simp⟩
end Mine
namespace Mine
local macro_rules | `(tactic| k_lt $h:ident) => `(tactic| (replace $h := allLt_of $h; (try simp only [AllLt] at $h:ident); (repeat (obtain ⟨_, $h:ident⟩ := $h:ident)); (try clear $h)))
local macro_rules | `(tactic| walk_at "FinE") => `(tactic| ((unfold LCg.FinE); intro D' h' tk' F' N' o1'; (have oAll9 := o1'); (try simp only [LCg.Off1] at o1'); (repeat (obtain ⟨_, o1'⟩ := o1')); (try clear o1'); (try simp only [List.nil_append, List.cons_append] at N'); (try k_sweep); (try dsimp only)))
local macro_rules | `(tactic| walk_at "FinA") => `(tactic| ((unfold LCg.FinA); intro D' h' tk' F' N' o1'; (have oAll9 := o1'); (try simp only [LCg.Off1] at o1'); (repeat (obtain ⟨_, o1'⟩ := o1')); (try clear o1'); (try simp only [List.nil_append, List.cons_append] at N'); (try k_sweep); (try dsimp only)))
local macro_rules | `(tactic| k_all) => `(tactic| first | exact List.forall_mem_nil _ | (refine List.forall_mem_cons.mpr ⟨by k_ne, ?_⟩; k_all))
local macro_rules | `(tactic| k_ne) => `(tactic| (refine neN ?_; (try dsimp only); first | assumption | (refine Ne.symm ?_; assumption) | exact Nat.ne_of_lt (by assumption) | exact Nat.ne_of_gt (by assumption) | omega))
local macro_rules | `(tactic| walk_at "call ref") => `(tactic| (k_extra "MyCall"))
local macro_rules | `(tactic| walk_at "CompSrc") => `(tactic| (k_extra "MySrc"))
local macro_rules | `(tactic| walk_at "CompSrcT") => `(tactic| (k_extra "MySrcT"))
local macro_rules | `(tactic| walk_at "exec While Compare cons nil") => `(tactic| (k_here; k_dflt (refine whl_start 100 ?_)))
local macro_rules | `(tactic| walk_at "newList") => `(tactic| (k_here; k_dflt (refine' newList_I ?zF ?zN ?zi ?_ ?zz; (case zF => k_asm); (case zN => k_asm); (case zi => (repeat' constructor)); (case zz => exact Nat.le_of_ble_eq_true rfl); (intro l' h' vs' hi' F' N' l1'); (try k_lt l1'); (try k_sweep))))
local macro_rules | `(tactic| walk_at "call builtin:len") => `(tactic| (k_here; k_dflt (refine' len_I ?zN ?zm ?zi ?zf ?_; (case zN => k_asm); (case zm => k_mem); (case zi => assumption); (case zf => first | decide | (simp only [List.length_append, List.length_map, List.length_cons, List.length_nil]; omega)); (intro t' tk'))))
local macro_rules | `(tactic| walk_at "binaryOp Add ref ref") => `(tactic| (k_here; k_dflt (refine' add_I ?zF ?zN ?zm ?zp ?zi ?zj ?zz ?_; (case zF => k_asm); (case zN => k_asm); (case zm => k_mem); (case zp => k_mem); (case zi => assumption); (case zj => assumption); (case zz => (rw [PySem.sizeLine_eq]; simp only [List.length_append, List.length_map, List.length_cons, List.length_nil]; first | done | decide | omega)); (intro l' h' vs' hi' F' N' l1'); (try k_lt l1'); (try k_sweep))))
local macro_rules | `(tactic| walk_at "eval ListComp") => `(tactic| (k_here; (with_reducible show wpAny _ _ (eval (Expr.ListComp _ [PySem.Comprehension.mk _ _ [] _] _ _) _) _ _ _); k_dflt (refine LCg.ListComp_U (F₀ := by k_asm) (by with_unfolding_all rfl) (by decide) (by rfl) (by decide) (by rfl) ?_)))
local macro_rules | `(tactic| walk_at "eval ListComp") => `(tactic| (k_here; (with_reducible show wpAny _ _ (eval (Expr.ListComp _ [PySem.Comprehension.mk _ _ [_] _] _ _) _) _ _ _); k_dflt (refine LCt.ListComp_T (F₀ := by k_asm) (by with_unfolding_all rfl) (by decide) (by rfl) (by decide) (by rfl) ?_)))
local macro_rules | `(tactic| walk_at "exec For Name Name cons nil") => `(tactic| (k_here; k_dflt (refine for_start ?_)))
local macro_rules | `(tactic| walk_at "pyIter ref") => `(tactic| (k_here; k_dflt (refine' iterL_start ?zF ?zN ?zm ?_; (case zF => k_asm); (case zN => k_asm); (case zm => k_mem); (intro I' o' h' F' N' l1' hI'); (try k_lt l1'); (try k_sweep))))
local macro_rules | `(tactic| walk_at "exec For Name Call cons nil") => `(tactic| (k_here; k_dflt (refine for_start ?_)))
local macro_rules | `(tactic| walk_at "pyIter ref") => `(tactic| (k_here; k_dflt (refine' iterR_start ?zF ?zN ?zr ?zs ?zn ?_; (case zF => k_asm); (case zN => k_asm); (case zr => with_reducible assumption); (case zs => first | decide | rfl | exact small_i (by assumption)); (case zn => first | exact rfl | decide | exact size_i (by assumption)); (intro I' h' F' N' l1'); (try k_lt l1'); (try k_sweep))))
local macro_rules | `(tactic| walk_at "ForRest") => `(tactic| (k_extra "MyFor"))
local macro_rules | `(tactic| walk_at "ForPost") => `(tactic| (dsimp only [ForPost]))
theorem row_b {k : Int} {r : List Int} (h0 : (0:Int) ≤ k) (h1 : k < 0 + ((5:Nat):Int)) (e : r.length = 5) : 0 ≤ k ∧ k < r.length ∧ k < 2^63 := by omega
def rowG (r : List Int) (l : List Int) (k : Int) : List Int := if r.getD k.toNat 0 = 1 then l ++ [2 ^ k.toNat] else l
theorem rowG_yes {r l : List Int} {k : Int} (h : decide (r.getD k.toNat 0 = 1) = true) : rowG r l k = l ++ [2 ^ k.toNat] := if_pos (of_decide_eq_true h)
theorem rowG_no {r l : List Int} {k : Int} (h : decide (r.getD k.toNat 0 = 1) = false) : rowG r l k = l := if_neg (of_decide_eq_false h)
theorem rowG_grows (r : List Int) : KPfGrows (rowG r) := fun l k => by
  unfold rowG
  split
  · simp
  · exact Nat.le_succ _
theorem kci_row {prog : Program} {w : World} {A : Around} {h₀ : Heap} {L : Addr} {m : Str → Option Value} {env : Env} {ct elt : PySem.Expr} {x : Str} {scope : Scope} {cl : List (Str × Addr)} {s : Shared} {S : List (Addr × Obj) → Prop} {Fin : List Value → List (Addr × Obj) → Prop} {news : List (Addr × Obj)}
    {n : Nat} {a : Int} {o : Obj} {aj : Addr} {vj : List Value} {nj : Nat} {rj : List Int} (_hd : o.data = .cell (some (.ref aj))) (_hm : (aj, listOf vj.toArray nj) ∈ news) (_hi : IntsAre vj rj)
    (turn : ∀ k t I oI C oC D m₂ ys l h tk (E' : Value → Shared → Prop), a ≤ k → k < a + (n : Int) → IntsAre ys l → LCg.NsObj oC m₂ → m₂ x = some (.int k t) → Fr h₀ L h m → News h₀ L h ((I, oI) :: (C, oC) :: (D, LCg.lst ys) :: news) → LCg.Off3 I C D news → ((@Ne Nat I C) ∧ (@Ne Nat I D) ∧ (@Ne Nat C D)) → KPfMark →
      wpAny (model prog w) A (isTrue ct (compEnvC scope cl C env) (eval ct (compEnvC scope cl C env))) (fun b s' => if b = true then wpAny (model prog w) A (eval elt (compEnvC scope cl C env)) (LCg.CompEnd h₀ L m { s with heap := h, toks := tk } I oI C oC D (LCg.lst ys) S (fun y news' => KCiEl news l (rowG rj l k) y news')) E' s'
        else LCg.CompEnd h₀ L m { s with heap := h, toks := tk } I oI C oC D (LCg.lst ys) S (fun _ news' => KCiNo news l (rowG rj l k) news') Value.none s') E' { s with heap := h, toks := tk })
    (fin : KPfDone (∀ ys, IntsAre ys ((rangeKs a n).foldl (rowG rj) []) → ys.length ≤ n → Fin ys news)) : LCt.CompRestT prog w A h₀ L m env ct elt x scope cl s S (fun i v => ∃ t, v = .int (a + (i : Int)) t) Fin n 0 [] news :=
  kci_range (rowG rj) turn fin (rowG_grows rj)
local macro_rules | `(tactic| walk_at "CompSrcT") => `(tactic| (k_here; k_dflt (refine LCt.CompSrcT.range (by rfl) (by k_asm) (by k_asm) (by assumption) (by first | decide | rfl) (by first | rfl | decide) (by exact Nat.le_of_ble_eq_true rfl) ?_; intro g'; (refine' kci_row ?zd ?zm ?zi (fun k' t' I' oI' C' oC' D' m' ys' l' h' tk' E' hlo' hhi' hI' hC' hx' F' N' off' ne' hMark' => ?_) ?_); (case zd => assumption); (case zm => first | ((repeat (first | assumption | refine List.mem_cons_of_mem _ ?_)); done) | k_mem); (case zi => assumption); (all_goals (try (simp only [LCg.Off3] at off'; (repeat (obtain ⟨⟨_, _, _⟩, off'⟩ := off')); (try clear off'); obtain ⟨_, _, _⟩ := ne'))); kcf_last)))
local macro_rules | `(tactic| walk_at "CompSrc") => `(tactic| (k_here; k_dflt (refine LCg.CompSrc.ledger (by rfl) (by k_asm) (by k_asm) (by k_mem) (by first | size_fits | (rw [List.size_toArray, PySem.sizeLine_eq]; (have hl9 := IntsAre.length (by assumption)); (simp only [List.length_append, List.length_map, List.length_cons, List.length_nil] at hl9); omega)) ?_; intro g'; (refine' kcf_list _ (by assumption) (fun k' t' I' oI' C' oC' D' m' ys' h' tk' E' hk' hC' hx' F' N' off' ne' hMark' => ?_) ?_); (all_goals (try (simp only [LCg.Off3] at off'; (repeat (obtain ⟨⟨_, _, _⟩, off'⟩ := off')); (try clear off'); obtain ⟨_, _, _⟩ := ne'))); kcf_last)))
local macro_rules | `(tactic| walk_at "subscriptTail Name Name ref int") => `(tactic| (k_here; k_dflt (refine' item_ints ?zN ?zm ?zi ?zb ?_; (case zN => k_asm); (case zm => first | ((repeat (first | assumption | refine List.mem_cons_of_mem _ ?_)); done) | k_mem); (case zi => assumption); (case zb => exact row_b (by with_reducible assumption) (by with_reducible assumption) (by with_reducible assumption)); intro t')))
theorem pw0 {k : Int} (h0 : (0:Int) ≤ k) : 0 ≤ k := h0
theorem pw1 {k : Int} (h1 : k < 0 + ((5:Nat):Int)) : k ≤ 1000000 := by omega
local macro_rules | `(tactic| walk_at "binaryOp Pow int int") => `(tactic| (k_here; (with_reducible refine' pow_int_small ?kb1 ?kb2 ?kb3 ?_); (case kb1 => exact pw0 (by with_reducible assumption)); (case kb2 => exact pw1 (by with_reducible assumption)); (case kb3 => decide)))
local macro_rules | `(tactic| walk_at "KCiEl") => `(tactic| (k_dflt (refine' kci_el ?kce (by with_unfolding_all rfl) (by with_unfolding_all rfl)); (case kce => exact rowG_yes (by with_reducible assumption))))
local macro_rules | `(tactic| walk_at "KCiNo") => `(tactic| (k_dflt (refine' kci_no ?kce (by with_unfolding_all rfl)); (case kce => exact rowG_no (by with_reducible assumption))))
def maskOf (r : List Int) : Int := ((rangeKs 0 5).foldl (rowG r) []).sum
def leftOf (R : List (List Int)) : List Int := R.foldl (fun l r => l ++ l.map (fun s => Builtin.bitXor s (maskOf r))) [0]
theorem leftOf_snoc (R : List (List Int)) (r : List Int) : leftOf (R ++ [r]) = leftOf R ++ (leftOf R).map (fun s => Builtin.bitXor s (maskOf r)) := by
  unfold leftOf; rw [List.foldl_append]; rfl
theorem leftOf_len (R : List (List Int)) : (leftOf R).length = 2 ^ R.length := by
  have h : ∀ (R : List (List Int)) (l : List Int), (R.foldl (fun l r => l ++ l.map (fun s => Builtin.bitXor s (maskOf r))) l).length = l.length * 2 ^ R.length := by
    intro R
    induction R with
    | nil => intro l; simp
    | cons r R ih => intro l; rw [List.foldl_cons, ih]; simp [Nat.pow_succ]; rw [← Nat.mul_two, Nat.mul_assoc, Nat.mul_comm 2]
  have h1 := h R [0]
  rw [List.length_singleton, Nat.one_mul] at h1
  exact h1
def leftM (r lp : Addr) : Str → Option Value := fun y => if y = Str.ofString "left" then some (.ref lp) else if y = Str.ofString "rows" then some (.ref r) else none
theorem leftM_upd (r lp l' : Addr) : (fun y => if y = Str.ofString "left" then some (Value.ref l') else leftM r lp y) = leftM r l' := funext fun y => by
  unfold leftM
  by_cases h : y = Str.ofString "left"
  · rw [if_pos h, if_pos h]
  · rw [if_neg h, if_neg h, if_neg h]
def leftJ (r cM cR : Addr) (hid : List (Addr × Obj)) (R : List (List Int)) (i : Nat) (m : Str → Option Value) (nw : List (Addr × Obj)) : Prop :=
  ∃ lp vl n oM oR xM xR, m = leftM r lp ∧ IntsAre vl (leftOf (R.take i)) ∧ oM.data = .cell xM ∧ oR.data = .cell xR ∧ lp ≠ cM ∧ lp ≠ cR ∧ (∀ q ∈ hid, q.1 ≠ lp) ∧ nw = (lp, listOf vl.toArray n) :: (cM, oM) :: (cR, oR) :: hid
set_option maxHeartbeats 8000000 in
theorem left_con (w : World) (mean : ExcName → Option Value) (mg mb : Str → Option Value) (r a0 a1 a2 a3 a4 : Addr) (n0 n1 n2 n3 n4 nr : Nat) (v0 v1 v2 v3 v4 : List Value) (r0 r1 r2 r3 r4 : List Int)
    (i0 : IntsAre v0 r0) (i1 : IntsAre v1 r1) (i2 : IntsAre v2 r2) (i3 : IntsAre v3 r3) (i4 : IntsAre v4 r4)
    (e0 : r0.length = 5) (e1 : r1.length = 5) (e2 : r2.length = 5) (e3 : r3.length = 5) (e4 : r4.length = 5) :
    ConO w mean mg mb 121 [.ref r] 2 [(r, listOf [.ref a0, .ref a1, .ref a2, .ref a3, .ref a4].toArray nr), (a0, listOf v0.toArray n0), (a1, listOf v1.toArray n1), (a2, listOf v2.toArray n2), (a3, listOf v3.toArray n3), (a4, listOf v4.toArray n4)]
      (fun o => ∃ vs n, o = listOf vs.toArray n ∧ IntsAre vs (leftOf [r0, r1, r2, r3, r4])) := by
  w_on
  k_with_none
  unfold ConO
  k_fill
  intro dp un gd cn cs a ccd cl outer A₀ base h₀ L m news s Q E B F X N T hk hhid hd hu hret
  refine wpAny_call ?_
  k_dflt (refine' con_callCM (fun y => if y = Str.ofString "rows" then some (.ref r) else none) (fun _ => none) ?k1 ?k2 ?k3 ?k4 ?k5 ?kH ?kA ?kF ?kK ?k6 ?k7 ?k8 ?k9 ?kB ?kD ?km ?kc ?_ ?c2 ?c3 ?c4; (case kA => exact rfl); (case kF => exact rfl); (case kK => assumption); (case k1 => assumption); (case k2 => assumption); (case k3 => assumption); (case k4 => assumption); (case k5 => assumption); (case kH => assumption); (case k6 => k_is); (case k7 => k_is); (case k8 => ktr_room); (case k9 => exact BindsTo.of_eq rfl); (case kB => exact rfl); (case kD => decide +kernel); (case km => exact fun _ => by with_unfolding_all rfl); (case kc => exact fun _ => by with_unfolding_all rfl); (case c2 => exact rfl); (case c3 => exact rfl); (case c4 => exact rfl); k_whole; intro g' L' h' tk' cells' F' N' Y' B' X' T' G' l1'; (try k_lt l1'); k_cells Y'; (try simp only [List.cons_append, List.nil_append] at N'); (try dsimp only); (try k_fold))
  k_steps
  have hR := rowsIn5 (R := fun k => [r0, r1, r2, r3, r4].getD k []) (nws := [(r, listOf [.ref a0, .ref a1, .ref a2, .ref a3, .ref a4].toArray nr), (a0, listOf v0.toArray n0), (a1, listOf v1.toArray n1), (a2, listOf v2.toArray n2), (a3, listOf v3.toArray n3), (a4, listOf v4.toArray n4)]) (a0 := a0) (a1 := a1) (a2 := a2) (a3 := a3) (a4 := a4) i0 i1 i2 i3 i4 (by k_mem) (by k_mem) (by k_mem) (by k_mem) (by k_mem)
  k_dflt (refine' forL_ind (l := r) (vs := [.ref a0, .ref a1, .ref a2, .ref a3, .ref a4]) (n := nr) (leftJ r (L' + 1 + 1) (L' + 1) [(r, listOf [.ref a0, .ref a1, .ref a2, .ref a3, .ref a4].toArray nr), (a0, listOf v0.toArray n0), (a1, listOf v1.toArray n1), (a2, listOf v2.toArray n2), (a3, listOf v3.toArray n3), (a4, listOf v4.toArray n4)] [r0, r1, r2, r3, r4]) ?hE rfl ?hl ?hstep ?hfin 5 0 _ _ _ _ _ rfl ?hj ?hF ?hN ?hoff ?hI)
  case hE => first | passes_own | with_unfolding_all passes_own
  case hF => k_asm
  case hN => k_asm
  case hI => assumption
  case hoff => k_all
  case hj => exact ⟨_, _, _, _, _, _, _, rfl, (by assumption), (by assumption), (by assumption), (by k_ne), (by k_ne), (by k_all), rfl⟩
  case hl =>
    intro i m nw hj
    obtain ⟨lp, vl, n9, oM, oR, xM, xR, rfl, hi9, dM, dR, ne1, ne2, offl, rfl⟩ := hj
    exact List.mem_cons_of_mem _ (List.mem_cons_of_mem _ (List.mem_cons_of_mem _ List.mem_cons_self))
  case hfin =>
    intro m1 nw h tk hj F1 N1
    obtain ⟨lp, vl, n9, oM, oR, xM, xR, rfl, hi9, dM, dR, ne1, ne2, offl, rfl⟩ := hj
    dsimp only
    k_steps
    (try dsimp only); (try k_unfold); (try dsimp only)
    (refine' retO F N hret G' ?zf ?zn ?zs ?zm ?ze ?zp; (case zf => k_asm); (case zn => k_asm); (case zs => kcf_all); (case zm => k_mem); (case ze => first | assumption | k_all))
    exact ⟨_, _, rfl, hi9⟩
  case hstep =>
    intro i v m1 nw I o h tk hv hj F1 N1 off1 hc1
    obtain ⟨lp, vl, n9, oM, oR, xM, xR, rfl, hi9, dM, dR, ne1, ne2, offl, rfl⟩ := hj
    have hi5 : i < 5 := (List.getElem?_eq_some_iff.mp hv).1
    obtain ⟨aj, vj, nj, ev, hmj, hij⟩ := hR i hi5
    have hlj : ([r0, r1, r2, r3, r4].getD i []).length = 5 := by
      match i, hi5 with
      | 0, _ => exact e0
      | 1, _ => exact e1
      | 2, _ => exact e2
      | 3, _ => exact e3
      | 4, _ => exact e4
    rw [ev] at hv
    cases hv
    (replace off1 := off_of off1); (try simp only [LCg.Off1] at off1); (repeat (obtain ⟨_, off1⟩ := off1)); (try clear off1)
    generalize hrj : (fun k => [r0, r1, r2, r3, r4].getD k []) i = rj at hij
    replace hlj : rj.length = 5 := by rw [← hrj]; exact hlj
    have hlen : (leftOf (List.take i [r0, r1, r2, r3, r4])).length = 2 ^ i := by rw [leftOf_len, List.length_take, Nat.min_eq_left (show i ≤ [r0, r1, r2, r3, r4].length from Nat.le_of_lt hi5)]
    have hlen2 : (leftOf (List.take i [r0, r1, r2, r3, r4])).length ≤ 16 := by rw [hlen]; exact Nat.pow_le_pow_right (by decide) (show i ≤ 4 by omega)
    have hsn : leftOf (List.take (i + 1) [r0, r1, r2, r3, r4]) = leftOf (List.take i [r0, r1, r2, r3, r4]) ++ (leftOf (List.take i [r0, r1, r2, r3, r4])).map (fun s => Builtin.bitXor s (maskOf rj)) := by
      rw [← leftOf_snoc, ← hrj]
      congr 1
      match i, hi5 with
      | 0, _ => rfl
      | 1, _ => rfl
      | 2, _ => rfl
      | 3, _ => rfl
      | 4, _ => rfl
    generalize leftOf (List.take i [r0, r1, r2, r3, r4]) = lf at hi9 hlen hlen2 hsn
    clear hR
    k_steps
    k_dflt (refine' TurnE.mk ((_, listOf (List.toArray _) _) :: (L' + 1 + 1, _) :: (L' + 1, _) :: [(r, listOf [.ref a0, .ref a1, .ref a2, .ref a3, .ref a4].toArray nr), (a0, listOf v0.toArray n0), (a1, listOf v1.toArray n1), (a2, listOf v2.toArray n2), (a3, listOf v3.toArray n3), (a4, listOf v4.toArray n4)]) ?tF ?tN ?tS ?tO ?tJ)
    case tF => k_asm
    case tN => k_asm
    case tS => (repeat' (first | exact List.forall_mem_nil _ | refine List.forall_mem_cons.mpr ⟨?_, ?_⟩ | exact List.mem_cons_self | refine List.mem_cons_of_mem _ ?_))
    case tO => k_all
    case tJ => exact ⟨_, _, _, _, _, _, _, leftM_upd _ _ _, hsn ▸ (by assumption), (by assumption), (by assumption), (by k_ne), (by k_ne), (by k_all), rfl⟩
end Mine
namespace Mine
def bi (b : Bool) : Int := if b = true then 1 else 0
def mat (a b c d e f g h i j : Bool) : List (List Int) := [[0, bi a, bi b, bi c, bi d], [bi a, 0, bi e, bi f, bi g], [bi b, bi e, 0, bi h, bi i], [bi c, bi f, bi h, 0, bi j], [bi d, bi g, bi i, bi j, 0]]
theorem bi_of {u v : Int} : qdue u v = bi (decide (qdue u v = 1)) := by
  have h := qdue_01 u v
  unfold bi
  by_cases e : qdue u v = 1
  · rw [if_pos (decide_eq_true e)]; exact e
  · rw [if_neg (by simpa using e)]; omega
theorem rowsG (p q r s t : Int) : ∃ R0 R1 R2 R3 R4 : List Int,
    [qdue p p, qdue p q, qdue p r, qdue p s, qdue p t] = R0 ∧ [qdue q p, qdue q q, qdue q r, qdue q s, qdue q t] = R1 ∧ [qdue r p, qdue r q, qdue r r, qdue r s, qdue r t] = R2 ∧
    [qdue s p, qdue s q, qdue s r, qdue s s, qdue s t] = R3 ∧ [qdue t p, qdue t q, qdue t r, qdue t s, qdue t t] = R4 ∧
    R0.length = 5 ∧ R1.length = 5 ∧ R2.length = 5 ∧ R3.length = 5 ∧ R4.length = 5 ∧
    (∀ k j, 0 ≤ ([R0, R1, R2, R3, R4].getD k []).getD j 0 ∧ ([R0, R1, R2, R3, R4].getD k []).getD j 0 ≤ 1) ∧ ∃ a b c d e f g h i j, [R0, R1, R2, R3, R4] = mat a b c d e f g h i j := by
  refine ⟨_, _, _, _, _, rfl, rfl, rfl, rfl, rfl, rfl, rfl, rfl, rfl, rfl, ?_, decide (qdue p q = 1), decide (qdue p r = 1), decide (qdue p s = 1), decide (qdue p t = 1), decide (qdue q r = 1), decide (qdue q s = 1), decide (qdue q t = 1), decide (qdue r s = 1), decide (qdue r t = 1), decide (qdue s t = 1), ?_⟩
  · refine rows01 p q r s t _ ?_
    intro x hx
    simp only [List.mem_cons, List.not_mem_nil, or_false] at hx
    rcases hx with rfl | rfl | rfl | rfl | rfl <;> exact ⟨_, rfl⟩
  · unfold mat
    rw [← bi_of, ← bi_of, ← bi_of, ← bi_of, ← bi_of, ← bi_of, ← bi_of, ← bi_of, ← bi_of, ← bi_of, qdue_diag, qdue_diag, qdue_diag, qdue_diag, qdue_diag, qdue_symm q p, qdue_symm r p, qdue_symm s p, qdue_symm t p, qdue_symm r q, qdue_symm s q, qdue_symm t q, qdue_symm s r, qdue_symm t r, qdue_symm t s]
theorem mask_b (r : List Int) : 0 ≤ maskOf r ∧ maskOf r < 32 := by
  have h : ∀ p0 p1 p2 p3 p4 : Prop, ∀ [Decidable p0] [Decidable p1] [Decidable p2] [Decidable p3] [Decidable p4],
      let l0 : List Int := if p0 then [] ++ [1] else []
      let l1 := if p1 then l0 ++ [2] else l0
      let l2 := if p2 then l1 ++ [4] else l1
      let l3 := if p3 then l2 ++ [8] else l2
      let l4 := if p4 then l3 ++ [16] else l3
      0 ≤ l4.sum ∧ l4.sum < 32 := by
    intro p0 p1 p2 p3 p4 _ _ _ _ _
    by_cases h0 : p0 <;> by_cases h1 : p1 <;> by_cases h2 : p2 <;> by_cases h3 : p3 <;> by_cases h4 : p4 <;> simp only [h0, h1, h2, h3, h4, if_true, if_false] <;> decide
  exact h (r.getD 0 0 = 1) (r.getD 1 0 = 1) (r.getD 2 0 = 1) (r.getD 3 0 = 1) (r.getD 4 0 = 1)
theorem xor_b {s m : Int} (hs : 0 ≤ s ∧ s < 32) (hm : 0 ≤ m ∧ m < 32) : 0 ≤ Builtin.bitXor s m ∧ Builtin.bitXor s m < 32 := by
  have h : ∀ a : Fin 32, ∀ b : Fin 32, 0 ≤ Builtin.bitXor (a.val : Int) (b.val : Int) ∧ Builtin.bitXor (a.val : Int) (b.val : Int) < 32 := by decide +kernel
  obtain ⟨a, rfl⟩ := Int.eq_ofNat_of_zero_le hs.1
  obtain ⟨b, rfl⟩ := Int.eq_ofNat_of_zero_le hm.1
  exact h ⟨a, by omega⟩ ⟨b, by omega⟩
theorem left_b (R : List (List Int)) : ∀ x ∈ leftOf R, 0 ≤ x ∧ x < 32 := by
  have h : ∀ (R : List (List Int)) (l : List Int), (∀ x ∈ l, 0 ≤ x ∧ x < 32) → ∀ x ∈ R.foldl (fun l r => l ++ l.map (fun s => Builtin.bitXor s (maskOf r))) l, 0 ≤ x ∧ x < 32 := by
    intro R
    induction R with
    | nil => intro l hl; exact hl
    | cons r R ih =>
      intro l hl
      rw [List.foldl_cons]
      refine ih _ ?_
      intro x hx
      rcases List.mem_append.mp hx with h | h
      · exact hl x h
      · obtain ⟨y, hy, rfl⟩ := List.mem_map.mp h
        exact xor_b (hl y hy) (mask_b r)
  exact h R [0] (by intro x hx; rw [List.mem_singleton.mp hx]; decide)
end Mine
namespace Mine
theorem cnt_split (p q : Nat → Bool) : ∀ l : List Nat, l.countP p = l.countP (fun t => p t && q t) + l.countP (fun t => p t && !q t)
  | [] => rfl
  | x :: r => by
    have ih := cnt_split p q r
    simp only [List.countP_cons]
    cases p x <;> cases q x <;> simp <;> omega
theorem cnt_swap (P : Nat → Nat → Bool) (l : List Nat) : ∀ k : List Nat, (k.map fun v => l.countP (P v)).sum = (l.map fun t => k.countP fun v => P v t).sum
  | [] => by
    have h : ∀ l : List Nat, (l.map fun t => ([] : List Nat).countP fun v => P v t).sum = 0 := by
      intro l
      induction l with
      | nil => rfl
      | cons y l ihl => rw [List.map_cons, List.sum_cons, ihl]; rfl
    rw [h]; rfl
  | x :: r => by
    have ih := cnt_swap P l r
    have h : ∀ l : List Nat, (l.map fun t => (x :: r).countP fun v => P v t).sum = l.countP (P x) + (l.map fun t => r.countP fun v => P v t).sum := by
      intro l
      induction l with
      | nil => rfl
      | cons y l ihl =>
        rw [List.map_cons, List.sum_cons, ihl, List.map_cons, List.sum_cons, List.countP_cons, List.countP_cons]
        omega
    rw [h, List.map_cons, List.sum_cons, ih]
theorem cnt_two (p : Nat → Bool) (x y : Nat) : ∀ l : List Nat, (l.map fun v => if p v = true then x + y else y).sum = x * l.countP p + y * l.length
  | [] => rfl
  | v :: r => by
    have ih := cnt_two p x y r
    simp only [List.map_cons, List.sum_cons, ih, List.countP_cons, List.length_cons, Nat.mul_add, Nat.mul_one]
    cases p v <;> simp <;> omega
theorem sum_mul2 (f : Nat → Nat) : ∀ l : List Nat, 2 * (l.map f).sum = (l.map fun v => 2 * f v).sum
  | [] => rfl
  | v :: r => by
    have ih := sum_mul2 f r
    simp only [List.map_cons, List.sum_cons, ← ih, Nat.mul_add]
theorem sum_congr' {f g : Nat → Nat} : ∀ {l : List Nat}, (∀ v ∈ l, f v = g v) → (l.map f).sum = (l.map g).sum := fun h => by rw [List.map_congr_left h]
theorem xor_perm : ∀ u : Fin 32, ((List.range 32).map (fun t => t ^^^ u.val)).Perm (List.range 32) := by decide +kernel
theorem cnt_flip (p q : Nat → Bool) {u : Nat} (hu : u < 32) (hp : ∀ t, t < 32 → p (t ^^^ u) = p t) (hq : ∀ t, t < 32 → q (t ^^^ u) = !q t) : (List.range 32).countP (fun t => p t && q t) = (List.range 32).countP (fun t => p t && !q t) := by
  rw [← (xor_perm ⟨u, hu⟩).countP_eq, List.countP_map]
  refine List.countP_congr fun t ht => ?_
  have ht := List.mem_range.mp ht
  simp only [Function.comp]
  rw [hp t ht, hq t ht]
theorem cnt_half (p q : Nat → Bool) {u : Nat} (hu : u < 32) (hp : ∀ t, t < 32 → p (t ^^^ u) = p t) (hq : ∀ t, t < 32 → q (t ^^^ u) = !q t) : 2 * (List.range 32).countP (fun t => p t && !q t) = (List.range 32).countP p := by
  rw [cnt_split p q, cnt_flip p q hu hp hq]; omega
theorem xor32 {s t : Nat} (hs : s < 32) (ht : t < 32) : s ^^^ t < 32 := Nat.xor_lt_two_pow (n := 5) hs ht
theorem xor_back (s t : Nat) : (s ^^^ t) ^^^ t = s := by rw [Nat.xor_assoc, Nat.xor_self, Nat.xor_zero]
/-- Witt: the square of a set that is its own perp -/
theorem witt (B : Nat → Nat → Bool) (κ : Nat → Bool) (hs : ∀ s t, s < 32 → t < 32 → B s t = B t s) (ha : ∀ s t u, B s (t ^^^ u) = (B s t ^^ B s u))
    (hk : ∀ v, v < 32 → (κ v = true ↔ ∀ t, t < 32 → κ t = true → B v t = false)) :
    (List.range 32).countP κ * (List.range 32).countP κ = 32 * (List.range 32).countP (fun v => (List.range 32).all fun t => !B v t) := by
  have hc : ∀ v, v < 32 → 2 * (List.range 32).countP (fun t => κ t && !B v t) = if κ v = true then (List.range 32).countP κ + (List.range 32).countP κ else (List.range 32).countP κ := by
    intro v hv
    by_cases h : κ v = true
    · rw [if_pos h]
      have e : (List.range 32).countP (fun t => κ t && !B v t) = (List.range 32).countP κ := List.countP_congr fun t ht => by
        have ht := List.mem_range.mp ht
        cases hκ : κ t with
        | false => simp
        | true => rw [(hk v hv).mp h t ht hκ]; simp
      rw [e]; omega
    · rw [if_neg h]
      have hx : ∃ u, u < 32 ∧ κ u = true ∧ B v u = true := by
        apply Classical.byContradiction
        intro hn
        refine h ((hk v hv).mpr fun t ht hκ => ?_)
        cases hb : B v t with
        | false => rfl
        | true => exact absurd ⟨t, ht, hκ, hb⟩ hn
      obtain ⟨u, hu, hκ, hb⟩ := hx
      have closed : ∀ t, t < 32 → κ t = true → κ (t ^^^ u) = true := fun t ht hκt => (hk _ (xor32 ht hu)).mpr fun r hr hκr => by
        rw [hs _ _ (xor32 ht hu) hr, ha, hs r t hr ht, hs r u hr hu, (hk t ht).mp hκt r hr hκr, (hk u hu).mp hκ r hr hκr]; rfl
      refine cnt_half κ (B v) hu (fun t ht => ?_) (fun t ht => by rw [ha, hb, Bool.xor_true])
      cases h1 : κ t with
      | true => exact closed t ht h1
      | false =>
        cases h2 : κ (t ^^^ u) with
        | false => rfl
        | true =>
          have h3 := closed _ (xor32 ht hu) h2
          rw [xor_back, h1] at h3
          exact h3.symm
  have hd : ∀ t, t < 32 → 2 * (List.range 32).countP (fun v => !B v t) = if ((List.range 32).all fun v => !B t v) = true then 32 + 32 else 32 := by
    intro t ht
    by_cases h : ((List.range 32).all fun v => !B t v) = true
    · rw [if_pos h]
      have e : (List.range 32).countP (fun v => !B v t) = (List.range 32).countP (fun _ => true) := List.countP_congr fun v hv => by
        have h1 := List.all_eq_true.mp h v hv
        have h2 := List.mem_range.mp hv
        rw [hs v t h2 ht, h1]
      rw [e, List.countP_true, List.length_range]
    · rw [if_neg h]
      have hx : ∃ u, u < 32 ∧ B t u = true := by
        apply Classical.byContradiction
        intro hn
        refine h (List.all_eq_true.mpr fun v hv => ?_)
        cases hb : B t v with
        | false => rfl
        | true => exact absurd ⟨v, List.mem_range.mp hv, hb⟩ hn
      obtain ⟨u, hu, hb⟩ := hx
      have e := cnt_half (fun _ => true) (fun v => B v t) hu (fun _ _ => rfl) (fun v hv => by
        show B (v ^^^ u) t = !B v t
        rw [hs _ _ (xor32 hv hu) ht, ha, hb, Bool.xor_true, hs t v ht hv])
      simp only [Bool.true_and, List.countP_true, List.length_range] at e
      exact e
  have s1 : 2 * ((List.range 32).map fun v => (List.range 32).countP (fun t => κ t && !B v t)).sum = (List.range 32).countP κ * (List.range 32).countP κ + (List.range 32).countP κ * 32 := by
    rw [sum_mul2, sum_congr' fun v hv => hc v (List.mem_range.mp hv), cnt_two, List.length_range]
  have s2 : ((List.range 32).map fun v => (List.range 32).countP (fun t => κ t && !B v t)).sum = ((List.range 32).map fun t => (List.range 32).countP (fun v => κ t && !B v t)).sum := cnt_swap (fun v t => κ t && !B v t) _ _
  have s3 : 2 * ((List.range 32).map fun t => (List.range 32).countP (fun v => κ t && !B v t)).sum = 32 * (List.range 32).countP (fun v => (List.range 32).all fun t => !B v t) + 32 * (List.range 32).countP κ := by
    rw [sum_mul2]
    have e : ∀ t ∈ List.range 32, 2 * (List.range 32).countP (fun v => κ t && !B v t) = (if ((List.range 32).all fun v => !B t v) = true then 32 + 0 else 0) + (if κ t = true then 32 + 0 else 0) := by
      intro t ht
      have ht := List.mem_range.mp ht
      have h1 := hd t ht
      cases hκ : κ t with
      | true =>
        simp only [Bool.true_and, if_true]
        rw [h1]
        split <;> rfl
      | false =>
        have h2 : ¬ ((List.range 32).all fun v => !B t v) = true := by
          intro h
          have h3 := (hk t ht).mpr fun r hr _ => by
            have := List.all_eq_true.mp h r (List.mem_range.mpr hr)
            simpa using this
          rw [hκ] at h3
          cases h3
        rw [if_neg h2]
        simp
    rw [sum_congr' e]
    have h4 : ∀ l : List Nat, (l.map fun t => (if ((List.range 32).all fun v => !B t v) = true then 32 + 0 else 0) + (if κ t = true then 32 + 0 else 0)).sum = (l.map fun t => (if ((List.range 32).all fun v => !B t v) = true then 32 + 0 else 0)).sum + (l.map fun t => (if κ t = true then 32 + 0 else 0)).sum := by
      intro l
      induction l with
      | nil => rfl
      | cons x r ih =>
        simp only [List.map_cons, List.sum_cons]
        rw [ih]; omega
    rw [h4, cnt_two (fun t => (List.range 32).all fun v => !B t v) 32 0, cnt_two κ 32 0]
    omega
  rw [s2] at s1
  omega
end Mine
namespace Mine
def par (x t : Nat) : Bool := (((((x.testBit 0 && t.testBit 0) ^^ (x.testBit 1 && t.testBit 1)) ^^ (x.testBit 2 && t.testBit 2)) ^^ (x.testBit 3 && t.testBit 3)) ^^ (x.testBit 4 && t.testBit 4))
theorem par_xor (x y t : Nat) : par (x ^^^ y) t = (par x t ^^ par y t) := by
  unfold par
  simp only [Nat.testBit_xor, Bool.and_xor_distrib_right]
  simp only [Bool.xor_assoc, Bool.xor_comm, Bool.xor_left_comm]
theorem par_comm (x t : Nat) : par x t = par t x := by
  unfold par
  simp only [Bool.and_comm]
theorem par_xor' (x t u : Nat) : par x (t ^^^ u) = (par x t ^^ par x u) := by rw [par_comm, par_xor, par_comm t, par_comm u]
theorem par_zero (t : Nat) : par 0 t = false := by
  unfold par
  simp only [Nat.zero_testBit, Bool.false_and, Bool.xor_false]
def sel (c : Bool) (m x : Nat) : Nat := if c = true then x ^^^ m else x
theorem par_sel (c : Bool) (m x t : Nat) : par (sel c m x) t = (par x t ^^ (c && par m t)) := by
  cases c
  · show par x t = _
    rw [Bool.false_and, Bool.xor_false]
  · show par (x ^^^ m) t = _
    rw [par_xor, Bool.true_and]
theorem sel_lt {c : Bool} {m x : Nat} (hm : m < 32) (hx : x < 32) : sel c m x < 32 := by
  unfold sel; split
  · exact xor32 hx hm
  · exact hx
def mk5 (a b c d e : Bool) : Nat := a.toNat + 2 * b.toNat + 4 * c.toNat + 8 * d.toNat + 16 * e.toNat
theorem mk5_bits : ∀ a b c d e : Bool, (mk5 a b c d e).testBit 0 = a ∧ (mk5 a b c d e).testBit 1 = b ∧ (mk5 a b c d e).testBit 2 = c ∧ (mk5 a b c d e).testBit 3 = d ∧ (mk5 a b c d e).testBit 4 = e ∧ mk5 a b c d e < 32 := by decide
theorem par_mk5 (a b c d e : Bool) (t : Nat) : par (mk5 a b c d e) t = (((((a && t.testBit 0) ^^ (b && t.testBit 1)) ^^ (c && t.testBit 2)) ^^ (d && t.testBit 3)) ^^ (e && t.testBit 4)) := by
  obtain ⟨h0, h1, h2, h3, h4, _⟩ := mk5_bits a b c d e
  unfold par
  rw [h0, h1, h2, h3, h4]
def LXn (m0 m1 m2 m3 m4 s : Nat) : Nat := sel (s.testBit 4) m4 (sel (s.testBit 3) m3 (sel (s.testBit 2) m2 (sel (s.testBit 1) m1 (sel (s.testBit 0) m0 0))))
theorem LXn_lt {m0 m1 m2 m3 m4 s : Nat} (h0 : m0 < 32) (h1 : m1 < 32) (h2 : m2 < 32) (h3 : m3 < 32) (h4 : m4 < 32) : LXn m0 m1 m2 m3 m4 s < 32 := sel_lt h4 (sel_lt h3 (sel_lt h2 (sel_lt h1 (sel_lt h0 (by decide)))))
theorem par_LXn (m0 m1 m2 m3 m4 s t : Nat) : par (LXn m0 m1 m2 m3 m4 s) t = (((((s.testBit 0 && par m0 t) ^^ (s.testBit 1 && par m1 t)) ^^ (s.testBit 2 && par m2 t)) ^^ (s.testBit 3 && par m3 t)) ^^ (s.testBit 4 && par m4 t)) := by
  unfold LXn
  rw [par_sel, par_sel, par_sel, par_sel, par_sel, par_zero, Bool.false_xor]
/-- the row that s picks -/
def gx (a b c d e f g h i j : Bool) (s : Nat) : Nat := LXn (mk5 false a b c d) (mk5 a false e f g) (mk5 b e false h i) (mk5 c f h false j) (mk5 d g i j false) s
def pr (m x y u v : Bool) : Bool := (m && (x && v)) ^^ (m && (u && y))
theorem gx_pr (a b c d e f g h i j : Bool) (s t : Nat) : par (gx a b c d e f g h i j s) t =
    (pr a (s.testBit 0) (t.testBit 0) (s.testBit 1) (t.testBit 1) ^^ (pr b (s.testBit 0) (t.testBit 0) (s.testBit 2) (t.testBit 2) ^^ (pr c (s.testBit 0) (t.testBit 0) (s.testBit 3) (t.testBit 3) ^^ (pr d (s.testBit 0) (t.testBit 0) (s.testBit 4) (t.testBit 4) ^^
    (pr e (s.testBit 1) (t.testBit 1) (s.testBit 2) (t.testBit 2) ^^ (pr f (s.testBit 1) (t.testBit 1) (s.testBit 3) (t.testBit 3) ^^ (pr g (s.testBit 1) (t.testBit 1) (s.testBit 4) (t.testBit 4) ^^
    (pr h (s.testBit 2) (t.testBit 2) (s.testBit 3) (t.testBit 3) ^^ (pr i (s.testBit 2) (t.testBit 2) (s.testBit 4) (t.testBit 4) ^^ pr j (s.testBit 3) (t.testBit 3) (s.testBit 4) (t.testBit 4)))))))))) := by
  unfold gx pr
  rw [par_LXn, par_mk5, par_mk5, par_mk5, par_mk5, par_mk5]
  generalize s.testBit 0 = s0
  generalize s.testBit 1 = s1
  generalize s.testBit 2 = s2
  generalize s.testBit 3 = s3
  generalize s.testBit 4 = s4
  generalize t.testBit 0 = t0
  generalize t.testBit 1 = t1
  generalize t.testBit 2 = t2
  generalize t.testBit 3 = t3
  generalize t.testBit 4 = t4
  simp only [Bool.false_and, Bool.false_xor, Bool.xor_false, Bool.and_xor_distrib_left]
  simp only [Bool.and_left_comm s0, Bool.and_left_comm s1, Bool.and_left_comm s2, Bool.and_left_comm s3, Bool.and_left_comm s4]
  generalize (a && (s0 && t1)) = x01
  generalize (a && (s1 && t0)) = x10
  generalize (b && (s0 && t2)) = x02
  generalize (b && (s2 && t0)) = x20
  generalize (c && (s0 && t3)) = x03
  generalize (c && (s3 && t0)) = x30
  generalize (d && (s0 && t4)) = x04
  generalize (d && (s4 && t0)) = x40
  generalize (e && (s1 && t2)) = x12
  generalize (e && (s2 && t1)) = x21
  generalize (f && (s1 && t3)) = x13
  generalize (f && (s3 && t1)) = x31
  generalize (g && (s1 && t4)) = x14
  generalize (g && (s4 && t1)) = x41
  generalize (h && (s2 && t3)) = x23
  generalize (h && (s3 && t2)) = x32
  generalize (i && (s2 && t4)) = x24
  generalize (i && (s4 && t2)) = x42
  generalize (j && (s3 && t4)) = x34
  generalize (j && (s4 && t3)) = x43
  haveI h1 : Std.Commutative (α := Bool) Bool.xor := ⟨Bool.xor_comm⟩
  haveI h2 : Std.Associative (α := Bool) Bool.xor := ⟨Bool.xor_assoc⟩
  ac_rfl
theorem pr_symm (m x y u v : Bool) : pr m x y u v = pr m y x v u := by
  unfold pr
  rw [Bool.and_comm x v, Bool.and_comm u y, Bool.xor_comm]
theorem pr_diag (m x u : Bool) : pr m x x u u = false := by
  unfold pr
  rw [Bool.and_comm u x, Bool.xor_self]
theorem gx_symm (a b c d e f g h i j : Bool) (s t : Nat) : par (gx a b c d e f g h i j s) t = par (gx a b c d e f g h i j t) s := by
  rw [gx_pr, gx_pr, pr_symm a, pr_symm b, pr_symm c, pr_symm d, pr_symm e, pr_symm f, pr_symm g, pr_symm h, pr_symm i, pr_symm j]
theorem gx_diag (a b c d e f g h i j : Bool) (s : Nat) : par (gx a b c d e f g h i j s) s = false := by
  rw [gx_pr, pr_diag, pr_diag, pr_diag, pr_diag, pr_diag, pr_diag, pr_diag, pr_diag, pr_diag, pr_diag]; rfl
theorem gx_lt (a b c d e f g h i j : Bool) (s : Nat) : gx a b c d e f g h i j s < 32 := by
  have q := fun a b c d e => (mk5_bits a b c d e).2.2.2.2.2
  exact LXn_lt (q _ _ _ _ _) (q _ _ _ _ _) (q _ _ _ _ _) (q _ _ _ _ _) (q _ _ _ _ _)
theorem dis_par : ∀ x t : Fin 32, disB (x.val : Int) (t.val : Int) = !par x.val t.val := by decide +kernel
theorem rad_par : ∀ x : Fin 32, ((List.range 32).all fun t => !par x.val t) = (x.val == 0) := by decide +kernel
theorem xor_nat : ∀ x y : Fin 32, Builtin.bitXor (x.val : Int) (y.val : Int) = ((x.val ^^^ y.val : Nat) : Int) := by decide +kernel
def seli (f : Int → Int → Int) (c : Bool) (m x : Int) : Int := if c = true then f x m else x
def lfi (f : Int → Int → Int) (M0 M1 M2 M3 M4 : Int) : List Int := [M0, M1, M2, M3, M4].foldl (fun l M => l ++ l.map (fun s => f s M)) [0]
theorem lfi_at (f : Int → Int → Int) (M0 M1 M2 M3 M4 : Int) : ∀ s : Nat, s < 32 → (lfi f M0 M1 M2 M3 M4).getD s 0 = seli f (s.testBit 4) M4 (seli f (s.testBit 3) M3 (seli f (s.testBit 2) M2 (seli f (s.testBit 1) M1 (seli f (s.testBit 0) M0 0)))) := by
  intro s hs
  match s, hs with
  | 0, _ => rfl
  | 1, _ => rfl
  | 2, _ => rfl
  | 3, _ => rfl
  | 4, _ => rfl
  | 5, _ => rfl
  | 6, _ => rfl
  | 7, _ => rfl
  | 8, _ => rfl
  | 9, _ => rfl
  | 10, _ => rfl
  | 11, _ => rfl
  | 12, _ => rfl
  | 13, _ => rfl
  | 14, _ => rfl
  | 15, _ => rfl
  | 16, _ => rfl
  | 17, _ => rfl
  | 18, _ => rfl
  | 19, _ => rfl
  | 20, _ => rfl
  | 21, _ => rfl
  | 22, _ => rfl
  | 23, _ => rfl
  | 24, _ => rfl
  | 25, _ => rfl
  | 26, _ => rfl
  | 27, _ => rfl
  | 28, _ => rfl
  | 29, _ => rfl
  | 30, _ => rfl
  | 31, _ => rfl
  | n + 32, h => exact absurd h (by omega)
theorem leftOf_lfi (r0 r1 r2 r3 r4 : List Int) : leftOf [r0, r1, r2, r3, r4] = lfi Builtin.bitXor (maskOf r0) (maskOf r1) (maskOf r2) (maskOf r3) (maskOf r4) := rfl
theorem seli_nat {c : Bool} {m x : Nat} (hm : m < 32) (hx : x < 32) : seli Builtin.bitXor c (m : Int) (x : Int) = ((sel c m x : Nat) : Int) := by
  cases c
  · rfl
  · exact xor_nat ⟨x, hx⟩ ⟨m, hm⟩
theorem mask_mk : ∀ a b c d e : Bool, maskOf [bi a, bi b, bi c, bi d, bi e] = ((mk5 a b c d e : Nat) : Int) := by decide +kernel
theorem left_gx (a b c d e f g h i j : Bool) {s : Nat} (hs : s < 32) : (leftOf (mat a b c d e f g h i j)).getD s 0 = ((gx a b c d e f g h i j s : Nat) : Int) := by
  have q := fun a b c d e => (mk5_bits a b c d e).2.2.2.2.2
  show (leftOf [[bi false, bi a, bi b, bi c, bi d], [bi a, bi false, bi e, bi f, bi g], [bi b, bi e, bi false, bi h, bi i], [bi c, bi f, bi h, bi false, bi j], [bi d, bi g, bi i, bi j, bi false]]).getD s 0 = _
  rw [leftOf_lfi, lfi_at _ _ _ _ _ _ s hs, mask_mk, mask_mk, mask_mk, mask_mk, mask_mk]
  have z : (0 : Int) = ((0 : Nat) : Int) := rfl
  rw [z, seli_nat (q _ _ _ _ _) (by decide), seli_nat (q _ _ _ _ _) (sel_lt (q _ _ _ _ _) (by decide)), seli_nat (q _ _ _ _ _) (sel_lt (q _ _ _ _ _) (sel_lt (q _ _ _ _ _) (by decide))),
    seli_nat (q _ _ _ _ _) (sel_lt (q _ _ _ _ _) (sel_lt (q _ _ _ _ _) (sel_lt (q _ _ _ _ _) (by decide)))), seli_nat (q _ _ _ _ _) (sel_lt (q _ _ _ _ _) (sel_lt (q _ _ _ _ _) (sel_lt (q _ _ _ _ _) (sel_lt (q _ _ _ _ _) (by decide)))))]
  rfl
end Mine
namespace Mine
structure LeftIs (R : List (List Int)) (lf : List Int) : Prop where
  e : leftOf R = lf
structure KeptIs (lf : List Int) (d : Int) (kn : List Int) : Prop where
  e : keptOf lf (Int.fmod d 32) (Int.fdiv d 32 * 2 + 1) 32 = kn
structure AgIs (lf ag : List Int) : Prop where
  e : (rangeKs 0 32).foldl (agG lf) [] = ag
structure OdIs (R : List (List Int)) (od : Int) : Prop where
  e : ((rangeKs 0 5).foldl (odG (fun k => R.getD k [])) []).sum = od

end Mine
namespace Mine
theorem fold_filt (x : Int) : ∀ (l acc : List Int), l.foldl (filtG x) acc = acc ++ l.filter (fun t => !disB x t)
  | [], acc => by simp
  | t :: r, acc => by
    rw [List.foldl_cons, fold_filt x r]
    unfold filtG
    cases h : disB x t
    · rw [if_neg (by decide), List.append_assoc, List.filter_cons_of_pos (by rw [h]; rfl)]; rfl
    · rw [if_pos rfl, List.filter_cons_of_neg (by rw [h]; decide)]
theorem filt_nil (x : Int) (l : List Int) : l.foldl (filtG x) [] = [] ↔ ∀ t ∈ l, disB x t = true := by
  rw [fold_filt, List.nil_append, List.filter_eq_nil_iff]
  constructor
  · intro h t ht
    have := h t ht
    simpa using this
  · intro h t ht
    rw [h t ht]; decide
theorem fold_ag (lf : List Int) : ∀ (l acc : List Int), l.foldl (agG lf) acc = acc ++ l.filter (fun k => lf.getD k.toNat 0 == 0)
  | [], acc => by simp
  | t :: r, acc => by
    rw [List.foldl_cons, fold_ag lf r]
    unfold agG
    cases h : (lf.getD t.toNat 0 == 0)
    · rw [if_neg (by decide), List.filter_cons_of_neg (by rw [h]; decide)]
    · rw [if_pos rfl, List.append_assoc, List.filter_cons_of_pos (p := fun k : Int => lf.getD k.toNat 0 == 0) h]; rfl
section
variable {lf : List Int} {start step : Int}
def sk (start step : Int) (k : Nat) : Int := Int.fmod (start + step * (0 + (k : Int))) 32
def agr (lf : List Int) (s t : Int) : Bool := disB (lf.getD s.toNat 0) t
theorem kept_succ (i : Nat) : keptOf lf start step (i + 1) = if ∀ t ∈ keptOf lf start step i, agr lf (sk start step i) t = true then keptOf lf start step i ++ [sk start step i] else keptOf lf start step i := by
  show (if (keptOf lf start step i).foldl (filtG (lf.getD (sk start step i).toNat 0)) [] = [] then keptOf lf start step i ++ [sk start step i] else keptOf lf start step i) = _
  have e : (∀ t ∈ keptOf lf start step i, agr lf (sk start step i) t = true) ↔ (keptOf lf start step i).foldl (filtG (lf.getD (sk start step i).toNat 0)) [] = [] := (filt_nil _ _).symm
  by_cases h : (keptOf lf start step i).foldl (filtG (lf.getD (sk start step i).toNat 0)) [] = []
  · rw [if_pos h, if_pos (e.mpr h)]
  · rw [if_neg h, if_neg fun h' => h (e.mp h')]
theorem sk_b (k : Nat) : 0 ≤ sk start step k ∧ sk start step k < 32 := ⟨Int.fmod_nonneg_of_pos _ (by decide), Int.fmod_lt_of_pos _ (by decide)⟩
theorem kept_at : ∀ i, ∀ t ∈ keptOf lf start step i, ∃ k, k < i ∧ t = sk start step k
  | 0, t, h => absurd h List.not_mem_nil
  | i + 1, t, h => by
    rw [kept_succ] at h
    split at h
    · rcases List.mem_append.mp h with h | h
      · obtain ⟨k, hk, e⟩ := kept_at i t h
        exact ⟨k, Nat.lt_succ_of_lt hk, e⟩
      · exact ⟨i, Nat.lt_succ_self i, List.mem_singleton.mp h⟩
    · obtain ⟨k, hk, e⟩ := kept_at i t h
      exact ⟨k, Nat.lt_succ_of_lt hk, e⟩
theorem kept_mono (i : Nat) : ∀ t ∈ keptOf lf start step i, t ∈ keptOf lf start step (i + 1) := by
  intro t h
  rw [kept_succ]
  split
  · exact List.mem_append_left _ h
  · exact h
theorem kept_pair (hd : ∀ s, 0 ≤ s ∧ s < 32 → agr lf s s = true) (hs : ∀ s t, 0 ≤ s ∧ s < 32 → 0 ≤ t ∧ t < 32 → agr lf s t = agr lf t s) :
    ∀ i, ∀ s ∈ keptOf lf start step i, ∀ t ∈ keptOf lf start step i, agr lf s t = true
  | 0, s, h => absurd h List.not_mem_nil
  | i + 1, s, h => by
    have ih := kept_pair hd hs i
    rw [kept_succ] at h ⊢
    split at h
    · rename_i hc
      rw [if_pos hc]
      intro t ht
      rcases List.mem_append.mp h with h | h
      · rcases List.mem_append.mp ht with ht | ht
        · exact ih s h t ht
        · rw [List.mem_singleton.mp ht, hs s _ (keptOf_mem _ _ _ _ s h) (sk_b i)]
          exact hc s h
      · rw [List.mem_singleton.mp h]
        rcases List.mem_append.mp ht with ht | ht
        · exact hc t ht
        · rw [List.mem_singleton.mp ht]; exact hd _ (sk_b i)
    · rename_i hc
      rw [if_neg hc]
      exact ih s h
theorem kept_max : ∀ i k, k < i → (∀ t ∈ keptOf lf start step i, agr lf (sk start step k) t = true) → sk start step k ∈ keptOf lf start step i
  | 0, k, h, _ => absurd h (Nat.not_lt_zero k)
  | i + 1, k, h, ha => by
    by_cases hk : k < i
    · exact kept_mono i _ (kept_max i k hk fun t ht => ha t (kept_mono i t ht))
    · obtain rfl : k = i := by omega
      rw [kept_succ, if_pos fun t ht => ha t (kept_mono k t ht)]
      exact List.mem_append_right _ (List.mem_singleton.mpr rfl)
theorem kept_nodup (hi : ∀ k l, k < 32 → l < 32 → sk start step k = sk start step l → k = l) : ∀ i, i ≤ 32 → (keptOf lf start step i).Nodup
  | 0, _ => List.nodup_nil
  | i + 1, h => by
    have ih := kept_nodup hi i (Nat.le_of_succ_le h)
    rw [kept_succ]
    split
    · rw [List.nodup_append]
      refine ⟨ih, List.pairwise_singleton _ _, fun a ha b hb e => ?_⟩
      obtain ⟨k, hk, ek⟩ := kept_at i a ha
      rw [List.mem_singleton.mp hb, ek] at e
      have := hi k i (by omega) (by omega) e
      omega
    · exact ih
end
theorem cnt_add (p : Nat → Bool) (s : Nat) (hp : p s = false) : ∀ R : List Nat, R.Nodup → s ∈ R → R.countP (fun v => p v || v == s) = R.countP p + 1
  | [], _, h => absurd h List.not_mem_nil
  | x :: r, hnd, h => by
    obtain ⟨h1, h2⟩ := List.nodup_cons.mp hnd
    rw [List.countP_cons, List.countP_cons]
    by_cases e : x = s
    · subst e
      have hc : r.countP (fun v => p v || v == x) = r.countP p := List.countP_congr fun v hv => by
        have : (v == x) = false := beq_eq_false_iff_ne.mpr fun e => h1 (e ▸ hv)
        rw [this, Bool.or_false]
      rw [hc, hp]; simp
    · rcases List.mem_cons.mp h with h | h
      · exact absurd h.symm e
      · rw [cnt_add p s hp r h2 h, show (x == s) = false from beq_eq_false_iff_ne.mpr e, Bool.or_false]
        omega
theorem cnt_list : ∀ l : List Int, l.Nodup → (∀ t ∈ l, 0 ≤ t ∧ t < 32) → (List.range 32).countP (fun v : Nat => decide ((v : Int) ∈ l)) = l.length
  | [], _, _ => by simp
  | x :: r, hnd, hb => by
    obtain ⟨h1, h2⟩ := List.nodup_cons.mp hnd
    have ih := cnt_list r h2 fun t ht => hb t (List.mem_cons_of_mem _ ht)
    obtain ⟨n, rfl⟩ := Int.eq_ofNat_of_zero_le (hb x List.mem_cons_self).1
    have hn : n < 32 := by have := (hb _ List.mem_cons_self).2; omega
    rw [List.length_cons, ← ih, ← cnt_add (fun v : Nat => decide ((v : Int) ∈ r)) n (decide_eq_false h1) _ List.nodup_range (List.mem_range.mpr hn)]
    refine List.countP_congr fun v _ => ?_
    simp only [List.mem_cons, Bool.decide_or, Bool.or_eq_true, decide_eq_true_eq, beq_iff_eq]
    constructor
    · rintro (h | h)
      · exact .inr (by omega)
      · exact .inl h
    · rintro (h | h)
      · exact .inr h
      · exact .inl (by rw [h])
end Mine
namespace Mine
theorem getD_get (l : List Int) {v : Nat} (h : v < l.length) : l.getD v 0 = l[v] := by
  rw [List.getD_eq_getElem?_getD, List.getElem?_eq_getElem h]; rfl
theorem form16 {q : Int} (hq : 0 ≤ q) : ∃ c r : Int, q = 16 * c + r ∧ (r = 0 ∨ r = 1 ∨ r = 2 ∨ r = 3 ∨ r = 4 ∨ r = 5 ∨ r = 6 ∨ r = 7 ∨ r = 8 ∨ r = 9 ∨ r = 10 ∨ r = 11 ∨ r = 12 ∨ r = 13 ∨ r = 14 ∨ r = 15) := ⟨q / 16, q % 16, by omega, by omega⟩
theorem mul32 (c s k : Int) : (32 * c + s) * k = 32 * (c * k) + s * k := by rw [Int.add_mul, Int.mul_assoc]
theorem sk_mod (st c s : Int) (k : Nat) : sk st (32 * c + s) k = (st + (32 * (c * (k : Int)) + s * (k : Int))) % 32 := by
  unfold sk
  rw [Int.fmod_eq_emod_of_nonneg _ (by decide), Int.zero_add, mul32]
theorem sk_inj {st q : Int} (hq : 0 ≤ q) : ∀ k l : Nat, k < 32 → l < 32 → sk st (q * 2 + 1) k = sk st (q * 2 + 1) l → k = l := by
  intro k l hk hl h
  obtain ⟨c, r, rfl, hr⟩ := form16 hq
  have e : ∀ s : Int, 2 * r + 1 = s → (16 * c + r) * 2 + 1 = 32 * c + s := fun s hs => by omega
  rcases hr with rfl | rfl | rfl | rfl | rfl | rfl | rfl | rfl | rfl | rfl | rfl | rfl | rfl | rfl | rfl | rfl
  · rw [e 1 (by decide), sk_mod, sk_mod] at h
    generalize c * (k : Int) = x at h
    generalize c * (l : Int) = y at h
    omega
  · rw [e 3 (by decide), sk_mod, sk_mod] at h
    generalize c * (k : Int) = x at h
    generalize c * (l : Int) = y at h
    omega
  · rw [e 5 (by decide), sk_mod, sk_mod] at h
    generalize c * (k : Int) = x at h
    generalize c * (l : Int) = y at h
    omega
  · rw [e 7 (by decide), sk_mod, sk_mod] at h
    generalize c * (k : Int) = x at h
    generalize c * (l : Int) = y at h
    omega
  · rw [e 9 (by decide), sk_mod, sk_mod] at h
    generalize c * (k : Int) = x at h
    generalize c * (l : Int) = y at h
    omega
  · rw [e 11 (by decide), sk_mod, sk_mod] at h
    generalize c * (k : Int) = x at h
    generalize c * (l : Int) = y at h
    omega
  · rw [e 13 (by decide), sk_mod, sk_mod] at h
    generalize c * (k : Int) = x at h
    generalize c * (l : Int) = y at h
    omega
  · rw [e 15 (by decide), sk_mod, sk_mod] at h
    generalize c * (k : Int) = x at h
    generalize c * (l : Int) = y at h
    omega
  · rw [e 17 (by decide), sk_mod, sk_mod] at h
    generalize c * (k : Int) = x at h
    generalize c * (l : Int) = y at h
    omega
  · rw [e 19 (by decide), sk_mod, sk_mod] at h
    generalize c * (k : Int) = x at h
    generalize c * (l : Int) = y at h
    omega
  · rw [e 21 (by decide), sk_mod, sk_mod] at h
    generalize c * (k : Int) = x at h
    generalize c * (l : Int) = y at h
    omega
  · rw [e 23 (by decide), sk_mod, sk_mod] at h
    generalize c * (k : Int) = x at h
    generalize c * (l : Int) = y at h
    omega
  · rw [e 25 (by decide), sk_mod, sk_mod] at h
    generalize c * (k : Int) = x at h
    generalize c * (l : Int) = y at h
    omega
  · rw [e 27 (by decide), sk_mod, sk_mod] at h
    generalize c * (k : Int) = x at h
    generalize c * (l : Int) = y at h
    omega
  · rw [e 29 (by decide), sk_mod, sk_mod] at h
    generalize c * (k : Int) = x at h
    generalize c * (l : Int) = y at h
    omega
  · rw [e 31 (by decide), sk_mod, sk_mod] at h
    generalize c * (k : Int) = x at h
    generalize c * (l : Int) = y at h
    omega
theorem sk_surj {st q v : Int} (hq : 0 ≤ q) (hv : 0 ≤ v ∧ v < 32) : ∃ k : Nat, k < 32 ∧ sk st (q * 2 + 1) k = v := by
  obtain ⟨c, r, rfl, hr⟩ := form16 hq
  have e : ∀ s : Int, 2 * r + 1 = s → (16 * c + r) * 2 + 1 = 32 * c + s := fun s hs => by omega
  rcases hr with rfl | rfl | rfl | rfl | rfl | rfl | rfl | rfl | rfl | rfl | rfl | rfl | rfl | rfl | rfl | rfl
  · obtain ⟨n, hn⟩ := Int.eq_ofNat_of_zero_le (show 0 ≤ (1 * (v - st)) % 32 by omega)
    refine ⟨n, by omega, ?_⟩
    rw [e 1 (by decide), sk_mod]
    generalize c * (n : Int) = x
    omega
  · obtain ⟨n, hn⟩ := Int.eq_ofNat_of_zero_le (show 0 ≤ (11 * (v - st)) % 32 by omega)
    refine ⟨n, by omega, ?_⟩
    rw [e 3 (by decide), sk_mod]
    generalize c * (n : Int) = x
    omega
  · obtain ⟨n, hn⟩ := Int.eq_ofNat_of_zero_le (show 0 ≤ (13 * (v - st)) % 32 by omega)
    refine ⟨n, by omega, ?_⟩
    rw [e 5 (by decide), sk_mod]
    generalize c * (n : Int) = x
    omega
  · obtain ⟨n, hn⟩ := Int.eq_ofNat_of_zero_le (show 0 ≤ (23 * (v - st)) % 32 by omega)
    refine ⟨n, by omega, ?_⟩
    rw [e 7 (by decide), sk_mod]
    generalize c * (n : Int) = x
    omega
  · obtain ⟨n, hn⟩ := Int.eq_ofNat_of_zero_le (show 0 ≤ (25 * (v - st)) % 32 by omega)
    refine ⟨n, by omega, ?_⟩
    rw [e 9 (by decide), sk_mod]
    generalize c * (n : Int) = x
    omega
  · obtain ⟨n, hn⟩ := Int.eq_ofNat_of_zero_le (show 0 ≤ (3 * (v - st)) % 32 by omega)
    refine ⟨n, by omega, ?_⟩
    rw [e 11 (by decide), sk_mod]
    generalize c * (n : Int) = x
    omega
  · obtain ⟨n, hn⟩ := Int.eq_ofNat_of_zero_le (show 0 ≤ (5 * (v - st)) % 32 by omega)
    refine ⟨n, by omega, ?_⟩
    rw [e 13 (by decide), sk_mod]
    generalize c * (n : Int) = x
    omega
  · obtain ⟨n, hn⟩ := Int.eq_ofNat_of_zero_le (show 0 ≤ (15 * (v - st)) % 32 by omega)
    refine ⟨n, by omega, ?_⟩
    rw [e 15 (by decide), sk_mod]
    generalize c * (n : Int) = x
    omega
  · obtain ⟨n, hn⟩ := Int.eq_ofNat_of_zero_le (show 0 ≤ (17 * (v - st)) % 32 by omega)
    refine ⟨n, by omega, ?_⟩
    rw [e 17 (by decide), sk_mod]
    generalize c * (n : Int) = x
    omega
  · obtain ⟨n, hn⟩ := Int.eq_ofNat_of_zero_le (show 0 ≤ (27 * (v - st)) % 32 by omega)
    refine ⟨n, by omega, ?_⟩
    rw [e 19 (by decide), sk_mod]
    generalize c * (n : Int) = x
    omega
  · obtain ⟨n, hn⟩ := Int.eq_ofNat_of_zero_le (show 0 ≤ (29 * (v - st)) % 32 by omega)
    refine ⟨n, by omega, ?_⟩
    rw [e 21 (by decide), sk_mod]
    generalize c * (n : Int) = x
    omega
  · obtain ⟨n, hn⟩ := Int.eq_ofNat_of_zero_le (show 0 ≤ (7 * (v - st)) % 32 by omega)
    refine ⟨n, by omega, ?_⟩
    rw [e 23 (by decide), sk_mod]
    generalize c * (n : Int) = x
    omega
  · obtain ⟨n, hn⟩ := Int.eq_ofNat_of_zero_le (show 0 ≤ (9 * (v - st)) % 32 by omega)
    refine ⟨n, by omega, ?_⟩
    rw [e 25 (by decide), sk_mod]
    generalize c * (n : Int) = x
    omega
  · obtain ⟨n, hn⟩ := Int.eq_ofNat_of_zero_le (show 0 ≤ (19 * (v - st)) % 32 by omega)
    refine ⟨n, by omega, ?_⟩
    rw [e 27 (by decide), sk_mod]
    generalize c * (n : Int) = x
    omega
  · obtain ⟨n, hn⟩ := Int.eq_ofNat_of_zero_le (show 0 ≤ (21 * (v - st)) % 32 by omega)
    refine ⟨n, by omega, ?_⟩
    rw [e 29 (by decide), sk_mod]
    generalize c * (n : Int) = x
    omega
  · obtain ⟨n, hn⟩ := Int.eq_ofNat_of_zero_le (show 0 ≤ (31 * (v - st)) % 32 by omega)
    refine ⟨n, by omega, ?_⟩
    rw [e 31 (by decide), sk_mod]
    generalize c * (n : Int) = x
    omega
def agN (p0 p1 p2 p3 p4 p5 p6 p7 p8 p9 : Bool) : List Nat := (List.range 32).filter fun v => gx p0 p1 p2 p3 p4 p5 p6 p7 p8 p9 v == 0
def odI (p0 p1 p2 p3 p4 p5 p6 p7 p8 p9 : Bool) : Int := ((rangeKs 0 5).foldl (odG (fun k => (mat p0 p1 p2 p3 p4 p5 p6 p7 p8 p9).getD k [])) []).sum
def chk (p0 p1 p2 p3 p4 p5 p6 p7 p8 p9 : Bool) : Bool := if 0 < odI p0 p1 p2 p3 p4 p5 p6 p7 p8 p9 then ((agN p0 p1 p2 p3 p4 p5 p6 p7 p8 p9).map fun i : Nat => (0 : Int) + (i : Int)) == [0, odI p0 p1 p2 p3 p4 p5 p6 p7 p8 p9] else (agN p0 p1 p2 p3 p4 p5 p6 p7 p8 p9).length == 32 || (agN p0 p1 p2 p3 p4 p5 p6 p7 p8 p9).length == 8
theorem chk0 : ∀ d e f g h i j : Bool, chk false false false d e f g h i j = true := by decide +kernel
theorem chk1 : ∀ d e f g h i j : Bool, chk true false false d e f g h i j = true := by decide +kernel
theorem chk2 : ∀ d e f g h i j : Bool, chk false true false d e f g h i j = true := by decide +kernel
theorem chk3 : ∀ d e f g h i j : Bool, chk true true false d e f g h i j = true := by decide +kernel
theorem chk4 : ∀ d e f g h i j : Bool, chk false false true d e f g h i j = true := by decide +kernel
theorem chk5 : ∀ d e f g h i j : Bool, chk true false true d e f g h i j = true := by decide +kernel
theorem chk6 : ∀ d e f g h i j : Bool, chk false true true d e f g h i j = true := by decide +kernel
theorem chk7 : ∀ d e f g h i j : Bool, chk true true true d e f g h i j = true := by decide +kernel
theorem chk_all (p0 p1 p2 p3 p4 p5 p6 p7 p8 p9 : Bool) : chk p0 p1 p2 p3 p4 p5 p6 p7 p8 p9 = true := by
  cases p0 <;> cases p1 <;> cases p2
  · exact chk0 p3 p4 p5 p6 p7 p8 p9
  · exact chk4 p3 p4 p5 p6 p7 p8 p9
  · exact chk2 p3 p4 p5 p6 p7 p8 p9
  · exact chk6 p3 p4 p5 p6 p7 p8 p9
  · exact chk1 p3 p4 p5 p6 p7 p8 p9
  · exact chk5 p3 p4 p5 p6 p7 p8 p9
  · exact chk3 p3 p4 p5 p6 p7 p8 p9
  · exact chk7 p3 p4 p5 p6 p7 p8 p9
theorem agr_nat (p0 p1 p2 p3 p4 p5 p6 p7 p8 p9 : Bool) {s t : Nat} (hs : s < 32) (ht : t < 32) : agr (leftOf (mat p0 p1 p2 p3 p4 p5 p6 p7 p8 p9)) (s : Int) (t : Int) = !par (gx p0 p1 p2 p3 p4 p5 p6 p7 p8 p9 s) t := by
  unfold agr
  rw [Int.toNat_natCast, left_gx p0 p1 p2 p3 p4 p5 p6 p7 p8 p9 hs]
  exact dis_par ⟨_, gx_lt p0 p1 p2 p3 p4 p5 p6 p7 p8 p9 s⟩ ⟨t, ht⟩
theorem ag_eq (p0 p1 p2 p3 p4 p5 p6 p7 p8 p9 : Bool) : (rangeKs 0 32).foldl (agG (leftOf (mat p0 p1 p2 p3 p4 p5 p6 p7 p8 p9))) [] = (agN p0 p1 p2 p3 p4 p5 p6 p7 p8 p9).map fun i : Nat => (0 : Int) + (i : Int) := by
  rw [fold_ag, List.nil_append]
  unfold rangeKs agN
  rw [List.filter_map]
  refine congrArg _ (List.filter_congr fun v hv => ?_)
  have hv := List.mem_range.mp hv
  show ((leftOf (mat p0 p1 p2 p3 p4 p5 p6 p7 p8 p9)).getD ((0 : Int) + (v : Int)).toNat 0 == 0) = (gx p0 p1 p2 p3 p4 p5 p6 p7 p8 p9 v == 0)
  rw [Int.zero_add, Int.toNat_natCast, left_gx p0 p1 p2 p3 p4 p5 p6 p7 p8 p9 hv]
  by_cases h : gx p0 p1 p2 p3 p4 p5 p6 p7 p8 p9 v = 0
  · rw [h]; rfl
  · rw [show (gx p0 p1 p2 p3 p4 p5 p6 p7 p8 p9 v == 0) = false from beq_eq_false_iff_ne.mpr h]
    exact beq_eq_false_iff_ne.mpr (by omega)
theorem kept_sq (p0 p1 p2 p3 p4 p5 p6 p7 p8 p9 : Bool) {start q : Int} (hq : 0 ≤ q) : (keptOf (leftOf (mat p0 p1 p2 p3 p4 p5 p6 p7 p8 p9)) start (q * 2 + 1) 32).length * (keptOf (leftOf (mat p0 p1 p2 p3 p4 p5 p6 p7 p8 p9)) start (q * 2 + 1) 32).length = 32 * (agN p0 p1 p2 p3 p4 p5 p6 p7 p8 p9).length := by
  have nat : ∀ s : Int, 0 ≤ s ∧ s < 32 → ∃ n : Nat, n < 32 ∧ s = (n : Int) := fun s hs => ⟨s.toNat, by omega, by omega⟩
  have hd : ∀ s, 0 ≤ s ∧ s < 32 → agr (leftOf (mat p0 p1 p2 p3 p4 p5 p6 p7 p8 p9)) s s = true := fun s hs => by
    obtain ⟨n, hn, rfl⟩ := nat s hs
    rw [agr_nat p0 p1 p2 p3 p4 p5 p6 p7 p8 p9 hn hn, gx_diag]; rfl
  have hs : ∀ s t, 0 ≤ s ∧ s < 32 → 0 ≤ t ∧ t < 32 → agr (leftOf (mat p0 p1 p2 p3 p4 p5 p6 p7 p8 p9)) s t = agr (leftOf (mat p0 p1 p2 p3 p4 p5 p6 p7 p8 p9)) t s := fun s t hs ht => by
    obtain ⟨n, hn, rfl⟩ := nat s hs
    obtain ⟨m, hm, rfl⟩ := nat t ht
    rw [agr_nat p0 p1 p2 p3 p4 p5 p6 p7 p8 p9 hn hm, agr_nat p0 p1 p2 p3 p4 p5 p6 p7 p8 p9 hm hn, gx_symm]
  have hp := kept_pair (start := start) (step := q * 2 + 1) hd hs 32
  have hb := keptOf_mem (leftOf (mat p0 p1 p2 p3 p4 p5 p6 p7 p8 p9)) start (q * 2 + 1) 32
  have hx := kept_max (lf := leftOf (mat p0 p1 p2 p3 p4 p5 p6 p7 p8 p9)) (start := start) (step := q * 2 + 1) 32
  have hn := kept_nodup (lf := leftOf (mat p0 p1 p2 p3 p4 p5 p6 p7 p8 p9)) (start := start) (step := q * 2 + 1) (sk_inj hq) 32 (Nat.le_refl _)
  generalize keptOf (leftOf (mat p0 p1 p2 p3 p4 p5 p6 p7 p8 p9)) start (q * 2 + 1) 32 = kn at hp hb hx hn
  have w := witt (fun s t => par (gx p0 p1 p2 p3 p4 p5 p6 p7 p8 p9 s) t) (fun v : Nat => decide ((v : Int) ∈ kn)) (fun s t _ _ => gx_symm p0 p1 p2 p3 p4 p5 p6 p7 p8 p9 s t) (fun s t u => par_xor' _ t u) (fun v hv => by
    rw [decide_eq_true_eq]
    constructor
    · intro h t ht hκ
      have h1 := hp _ h _ (of_decide_eq_true hκ)
      rw [agr_nat p0 p1 p2 p3 p4 p5 p6 p7 p8 p9 hv ht] at h1
      simpa using h1
    · intro h
      obtain ⟨k, hk, e⟩ := sk_surj (st := start) hq (v := (v : Int)) ⟨by omega, by omega⟩
      rw [← e]
      refine hx k hk fun t ht => ?_
      obtain ⟨m, hm, rfl⟩ := nat t (hb t ht)
      rw [e, agr_nat p0 p1 p2 p3 p4 p5 p6 p7 p8 p9 hv hm, h m hm (decide_eq_true ht)]; rfl)
  rw [cnt_list kn hn hb] at w
  rw [w]
  unfold agN
  rw [← List.countP_eq_length_filter]
  refine congrArg _ (List.countP_congr fun v hv => ?_)
  rw [rad_par ⟨_, gx_lt p0 p1 p2 p3 p4 p5 p6 p7 p8 p9 v⟩]
theorem sq_of {k n m : Nat} (h : k * k = 32 * n) (e : m * m = 32 * n) : k = m := by
  rw [← e] at h
  exact Nat.mul_self_inj.mp h
theorem law_math {R : List (List Int)} {lf ag kn : List Int} {od d : Int} (hG : ∃ p0 p1 p2 p3 p4 p5 p6 p7 p8 p9, R = mat p0 p1 p2 p3 p4 p5 p6 p7 p8 p9) (hlf : LeftIs R lf) (hag : AgIs lf ag) (hkn : KeptIs lf d kn) (hod : OdIs R od) (hd : 0 ≤ d ∧ d < 3072) :
    (0 < od → ag = [0, od] ∧ (kn.length : Int) = 8) ∧ (¬ 0 < od → lf = (List.replicate (Int.toNat 32) [0]).flatten → (ag.length : Int) = 32 ∧ (kn.length : Int) = 32) ∧ (¬ 0 < od → ¬ lf = (List.replicate (Int.toNat 32) [0]).flatten → (ag.length : Int) = 8 ∧ (kn.length : Int) = 16) := by
  obtain ⟨p0, p1, p2, p3, p4, p5, p6, p7, p8, p9, rfl⟩ := hG
  obtain ⟨rfl⟩ := hlf
  obtain ⟨rfl⟩ := hag
  obtain ⟨rfl⟩ := hkn
  obtain ⟨rfl⟩ := hod
  have hq : 0 ≤ Int.fdiv d 32 := Int.fdiv_nonneg hd.1 (by decide)
  have sq := kept_sq p0 p1 p2 p3 p4 p5 p6 p7 p8 p9 (start := Int.fmod d 32) hq
  have hc := chk_all p0 p1 p2 p3 p4 p5 p6 p7 p8 p9
  rw [ag_eq p0 p1 p2 p3 p4 p5 p6 p7 p8 p9]
  unfold chk at hc
  change (0 < odI p0 p1 p2 p3 p4 p5 p6 p7 p8 p9 → (agN p0 p1 p2 p3 p4 p5 p6 p7 p8 p9).map (fun i : Nat => (0 : Int) + (i : Int)) = [0, odI p0 p1 p2 p3 p4 p5 p6 p7 p8 p9] ∧ _) ∧ (¬ 0 < odI p0 p1 p2 p3 p4 p5 p6 p7 p8 p9 → _ → _ ∧ _) ∧ (¬ 0 < odI p0 p1 p2 p3 p4 p5 p6 p7 p8 p9 → _ → _ ∧ _)
  rw [List.length_map]
  have all0 : (agN p0 p1 p2 p3 p4 p5 p6 p7 p8 p9).length = 32 ↔ ∀ v : Nat, v < 32 → gx p0 p1 p2 p3 p4 p5 p6 p7 p8 p9 v = 0 := by
    have h := List.length_filter_eq_length_iff (l := List.range 32) (p := fun v => gx p0 p1 p2 p3 p4 p5 p6 p7 p8 p9 v == 0)
    rw [List.length_range] at h
    unfold agN
    rw [h]
    constructor
    · intro h v hv
      exact beq_iff_eq.mp (h v (List.mem_range.mpr hv))
    · intro h v hv
      exact beq_iff_eq.mpr (h v (List.mem_range.mp hv))
  have zs : (List.replicate (Int.toNat 32) [(0 : Int)]).flatten = List.replicate 32 0 := by decide
  have hl : (leftOf (mat p0 p1 p2 p3 p4 p5 p6 p7 p8 p9)).length = 32 := leftOf_len _
  have zero : leftOf (mat p0 p1 p2 p3 p4 p5 p6 p7 p8 p9) = List.replicate 32 0 ↔ (agN p0 p1 p2 p3 p4 p5 p6 p7 p8 p9).length = 32 := by
    rw [all0]
    constructor
    · intro h v hv
      have h1 := left_gx p0 p1 p2 p3 p4 p5 p6 p7 p8 p9 hv
      rw [h, getD_get _ (by rw [List.length_replicate]; exact hv), List.getElem_replicate] at h1
      omega
    · intro h
      refine List.ext_getElem (by rw [hl, List.length_replicate]) fun v h1 h2 => ?_
      have hv : v < 32 := hl ▸ h1
      rw [List.getElem_replicate, ← getD_get _ h1, left_gx p0 p1 p2 p3 p4 p5 p6 p7 p8 p9 hv, h v hv]; rfl
  rw [zs]
  refine ⟨fun h => ?_, fun h hz => ?_, fun h hz => ?_⟩
  · rw [if_pos h] at hc
    have h1 := beq_iff_eq.mp hc
    have h2 : (agN p0 p1 p2 p3 p4 p5 p6 p7 p8 p9).length = 2 := by rw [← List.length_map (f := fun i : Nat => (0 : Int) + (i : Int)), h1]; rfl
    rw [h2] at sq
    have h3 := sq_of sq (m := 8) rfl
    exact ⟨h1, by rw [h3]; rfl⟩
  · have h2 := zero.mp hz
    rw [h2] at sq
    have h3 := sq_of sq (m := 32) rfl
    exact ⟨by rw [h2]; rfl, by rw [h3]; rfl⟩
  · rw [if_neg h] at hc
    rcases Bool.or_eq_true_iff.mp hc with h2 | h2
    · exact absurd (zero.mpr (beq_iff_eq.mp h2)) hz
    · replace h2 := beq_iff_eq.mp h2
      rw [h2] at sq
      have h3 := sq_of sq (m := 16) rfl
      exact ⟨by rw [h2]; rfl, by rw [h3]; rfl⟩
end Mine
namespace Mine
local macro_rules | `(tactic| k_lt $h:ident) => `(tactic| (replace $h := allLt_of $h; (try simp only [AllLt] at $h:ident); (repeat (obtain ⟨_, $h:ident⟩ := $h:ident)); (try clear $h)))
local macro_rules | `(tactic| walk_at "FinE") => `(tactic| ((unfold LCg.FinE); intro D' h' tk' F' N' o1'; (have oAll9 := o1'); (try simp only [LCg.Off1] at o1'); (repeat (obtain ⟨_, o1'⟩ := o1')); (try clear o1'); (try simp only [List.nil_append, List.cons_append] at N'); (try k_sweep); (try dsimp only)))
local macro_rules | `(tactic| walk_at "FinA") => `(tactic| ((unfold LCg.FinA); intro D' h' tk' F' N' o1'; (have oAll9 := o1'); (try simp only [LCg.Off1] at o1'); (repeat (obtain ⟨_, o1'⟩ := o1')); (try clear o1'); (try simp only [List.nil_append, List.cons_append] at N'); (try k_sweep); (try dsimp only)))
local macro_rules | `(tactic| k_all) => `(tactic| first | exact List.forall_mem_nil _ | (refine List.forall_mem_cons.mpr ⟨by k_ne, ?_⟩; k_all))
local macro_rules | `(tactic| k_ne) => `(tactic| (refine neN ?_; (try dsimp only); first | assumption | (refine Ne.symm ?_; assumption) | exact Nat.ne_of_lt (by assumption) | exact Nat.ne_of_gt (by assumption) | omega))
local macro_rules | `(tactic| walk_at "call ref") => `(tactic| (k_extra "MyCall"))
local macro_rules | `(tactic| walk_at "CompSrc") => `(tactic| (k_extra "MySrc"))
local macro_rules | `(tactic| walk_at "CompSrcT") => `(tactic| (k_extra "MySrcT"))
local macro_rules | `(tactic| walk_at "exec While Compare cons nil") => `(tactic| (k_here; k_dflt (refine whl_start 100 ?_)))
local macro_rules | `(tactic| walk_at "newList") => `(tactic| (k_here; k_dflt (refine' newList_I ?zF ?zN ?zi ?_ ?zz; (case zF => k_asm); (case zN => k_asm); (case zi => (repeat' constructor)); (case zz => exact Nat.le_of_ble_eq_true rfl); (intro l' h' vs' hi' F' N' l1'); (try k_lt l1'); (try k_sweep))))
local macro_rules | `(tactic| walk_at "call builtin:len") => `(tactic| (k_here; k_dflt (refine' len_I ?zN ?zm ?zi ?zf ?_; (case zN => k_asm); (case zm => k_mem); (case zi => assumption); (case zf => first | decide | (simp only [List.length_append, List.length_map, List.length_cons, List.length_nil]; omega)); (intro t' tk'))))
local macro_rules | `(tactic| walk_at "binaryOp Add ref ref") => `(tactic| (k_here; k_dflt (refine' add_I ?zF ?zN ?zm ?zp ?zi ?zj ?zz ?_; (case zF => k_asm); (case zN => k_asm); (case zm => k_mem); (case zp => k_mem); (case zi => assumption); (case zj => assumption); (case zz => (rw [PySem.sizeLine_eq]; simp only [List.length_append, List.length_map, List.length_cons, List.length_nil]; first | done | decide | omega)); (intro l' h' vs' hi' F' N' l1'); (try k_lt l1'); (try k_sweep))))
local macro_rules | `(tactic| walk_at "eval ListComp") => `(tactic| (k_here; (with_reducible show wpAny _ _ (eval (Expr.ListComp _ [PySem.Comprehension.mk _ _ [] _] _ _) _) _ _ _); k_dflt (refine LCg.ListComp_U (F₀ := by k_asm) (by with_unfolding_all rfl) (by decide) (by rfl) (by decide) (by rfl) ?_)))
local macro_rules | `(tactic| walk_at "eval ListComp") => `(tactic| (k_here; (with_reducible show wpAny _ _ (eval (Expr.ListComp _ [PySem.Comprehension.mk _ _ [_] _] _ _) _) _ _ _); k_dflt (refine LCt.ListComp_T (F₀ := by k_asm) (by with_unfolding_all rfl) (by decide) (by rfl) (by decide) (by rfl) ?_)))
local macro_rules | `(tactic| walk_at "subscriptTail Name Slice ref ref") => `(tactic| (k_here; (with_reducible show wpAny _ _ (subscriptTail _ (PySem.Expr.Slice _ _ none _) (Value.ref _) (Value.ref _)) _ _ _); k_dflt (refine' kmk_slice_ints ?zwF ?zwN ?zwl ?zwp ?zwq ?zwi ?zwm ?zwc ?_ ?zws ?zwt ?zwz; (case zwF => k_asm); (case zwN => k_asm); (case zwl => kmk_list); (case zwp => kmk_part); (case zwq => kmk_part); (case zwi => assumption); (case zwm => first | (with_reducible refine' kmk_upto ?zi1 ?zi2; (case zi1 => assumption); (case zi2 => first | decide | exact Int.natCast_nonneg _)) | (with_reducible refine' kmk_from ?zi1 ?zi2; (case zi1 => assumption); (case zi2 => first | decide | exact Int.natCast_nonneg _))); (case zwc => kmk_len); (case zws => with_unfolding_all rfl); (case zwt => kmk_pure); (case zwz => (refine' kmk_sz (by assumption) ?_; rw [PySem.sizeLine_eq]; (try simp only [List.length_append, List.length_map, List.length_take, List.length_drop, List.length_cons, List.length_nil]); omega))); intro D' ws' h' F' N' l1 hI' hC' hL'; (try simp only [Int.reduceNeg, Int.neg_neg, Int.reduceToNat] at hI' hC' hL'); (try k_lt l1); (try k_sweep)))
local macro_rules | `(tactic| walk_at "CompSrc") => `(tactic| (k_here; k_dflt (refine LCg.CompSrc.ledger (by rfl) (by k_asm) (by k_asm) (by k_mem) (by first | size_fits | (rw [List.size_toArray, PySem.sizeLine_eq]; (have hl9 := IntsAre.length (by assumption)); (simp only [List.length_append, List.length_map, List.length_take, List.length_drop, List.length_cons, List.length_nil] at hl9); omega)) ?_; intro g'; (refine' kcf_list _ (by assumption) (fun k' t' I' oI' C' oC' D' m' ys' h' tk' E' hk' hC' hx' F' N' off' ne' hMark' => ?_) ?_); (all_goals (try (simp only [LCg.Off3] at off'; (repeat (obtain ⟨⟨_, _, _⟩, off'⟩ := off')); (try clear off'); obtain ⟨_, _, _⟩ := ne'))); kcf_last)))
def drawnOf (ns : List Int) : List Int := (ns.take 6 ++ [25, 24, 12, 42, 17, 101].drop ((ns.take 6).length : Int).toNat).map (fun x => Int.fmod x 3072)
/-- a call that is handed a list of the base and hands back a new object -/
abbrev ConB (w : World) (mean : ExcName → Option Value) (mg mb : Str → Option Value) (f : Addr) (sc : Addr) (vs : List Value) (n : Nat) (post : Obj → Prop) : Prop :=
  ∀ (dp un : Nat) (gd : Option (List Code)) (cn : Str) (cs : Scope) (a : Addr) (ccd : Value) (cl : List (Str × Addr)) (outer : List Env) (A₀ : Around) (base h₀ : Heap) (L : Addr) (m : Str → Option Value) (news : List (Addr × Obj)) (s : Shared) (Q E : Value → Shared → Prop),
    Below A₀ base outer h₀ → Fr h₀ L s.heap m → (hd.heap_39 w.params).In h₀ → News h₀ L s.heap news → topP mean mg mb h₀ → cs.kind = .function → h₀.IsList sc vs.toArray → dp + n < recursionLimit → un + 8 * n < cLine →
    (∀ l o h' tk', Fr h₀ L h' m → News h₀ L h' ((l, o) :: news) → (∀ p ∈ news, p.1 ≠ l) → post o → Q (.ref l) { s with heap := h', toks := tk' }) →
    wpAny (model PySem.Challenge.rw_tp0020_01.row.prog w) (ktrTop dp un gd cn cs L a ccd cl outer) (call (.ref f) [.ref sc]) Q E s
theorem isList_keeps {h g : Heap} {l : Addr} {vs : Array Value} (k : ∀ b o, h.get? b = some o → g.get? b = some o) (H : h.IsList l vs) : g.IsList l vs := by
  obtain ⟨o, e, r⟩ := H
  exact ⟨o, k _ _ e, r⟩
set_option maxHeartbeats 8000000 in
theorem drawn_con (w : World) (mean : ExcName → Option Value) (mg mb : Str → Option Value) (sc : Addr) (vs : List Value) (ns : List Int) (hI : IntsAre vs ns) (hlen : ns.length ≤ 63) :
    ConB w mean mg mb 89 sc vs 2 (fun o => ∃ vs n, o = listOf vs.toArray n ∧ IntsAre vs (drawnOf ns)) := by
  w_on
  k_with_none
  unfold ConB
  k_fill
  intro dp un gd cn cs a ccd cl outer A₀ base h₀ L m news s Q E B F X N T hk hL hd hu hret
  have hhid : ∀ p ∈ ([] : List (Addr × Obj)), p ∈ news := List.forall_mem_nil _
  refine wpAny_call ?_
  k_dflt (refine' con_callM (fun y => if y = Str.ofString "script" then some (.ref sc) else none) ?k1 ?k2 ?k3 ?k4 ?k5 ?kH ?kA ?kF ?kK ?k6 ?k7 ?k8 ?k9 ?kB ?km ?_ ?c2 ?c3 ?c4 ?c5; (case kA => exact rfl); (case kF => exact rfl); (case kK => assumption); (case k1 => assumption); (case k2 => assumption); (case k3 => assumption); (case k4 => assumption); (case k5 => assumption); (case kH => assumption); (case k6 => k_is); (case k7 => k_is); (case k8 => ktr_room); (case k9 => exact BindsTo.of_eq rfl); (case c5 => decide); (case kB => exact locs rfl); (case km => exact (lookM_eq _).trans (by with_unfolding_all rfl)); (case c2 => exact rfl); (case c3 => exact rfl); (case c4 => exact rfl); k_whole; intro g' L' h' F' N' B' X' T' G' l1'; (try k_lt l1'); (try dsimp only); (try k_fold))
  have hLg : g'.IsList sc vs.toArray := isList_keeps (fun b o e => G'.old b o e (List.not_mem_nil)) (isList_keeps (fun b o e => F.keep b o e) hL)
  clear hL
  k_steps
  (try dsimp only); (try k_unfold); (try dsimp only)
  have hh9 : ∀ q ∈ ([] : List (Addr × Obj)), q.1 ≠ L' := List.forall_mem_nil _
  (refine' retO F N hret G' ?zf ?zn ?zs ?zm ?ze ?zp; (case zf => k_asm); (case zn => k_asm); (case zs => kcf_all); (case zm => k_mem); (case ze => first | assumption | k_all))
  refine ⟨_, _, rfl, ?_⟩
  assumption
end Mine
namespace Mine
local macro_rules | `(tactic| k_lt $h:ident) => `(tactic| (replace $h := allLt_of $h; (try simp only [AllLt] at $h:ident); (repeat (obtain ⟨_, $h:ident⟩ := $h:ident)); (try clear $h)))
local macro_rules | `(tactic| walk_at "FinE") => `(tactic| ((unfold LCg.FinE); intro D' h' tk' F' N' o1'; (have oAll9 := o1'); (try simp only [LCg.Off1] at o1'); (repeat (obtain ⟨_, o1'⟩ := o1')); (try clear o1'); (try simp only [List.nil_append, List.cons_append] at N'); (try k_sweep); (try dsimp only)))
local macro_rules | `(tactic| walk_at "FinA") => `(tactic| ((unfold LCg.FinA); intro D' h' tk' F' N' o1'; (have oAll9 := o1'); (try simp only [LCg.Off1] at o1'); (repeat (obtain ⟨_, o1'⟩ := o1')); (try clear o1'); (try simp only [List.nil_append, List.cons_append] at N'); (try k_sweep); (try dsimp only)))
local macro_rules | `(tactic| k_all) => `(tactic| first | exact List.forall_mem_nil _ | (refine List.forall_mem_cons.mpr ⟨by k_ne, ?_⟩; k_all))
local macro_rules | `(tactic| k_ne) => `(tactic| (refine neN ?_; (try dsimp only); first | assumption | (refine Ne.symm ?_; assumption) | exact Nat.ne_of_lt (by assumption) | exact Nat.ne_of_gt (by assumption) | omega))
local macro_rules | `(tactic| walk_at "call ref") => `(tactic| (k_extra "MyCall"))
local macro_rules | `(tactic| walk_at "CompSrc") => `(tactic| (k_extra "MySrc"))
local macro_rules | `(tactic| walk_at "CompSrcT") => `(tactic| (k_extra "MySrcT"))
local macro_rules | `(tactic| walk_at "eval ListComp") => `(tactic| (k_here; (with_reducible show wpAny _ _ (eval (Expr.ListComp _ [PySem.Comprehension.mk _ _ [] _] _ _) _) _ _ _); k_dflt (refine LCg.ListComp_U (F₀ := by k_asm) (by with_unfolding_all rfl) (by decide) (by rfl) (by decide) (by rfl) ?_)))
local macro_rules | `(tactic| walk_at "eval ListComp") => `(tactic| (k_here; (with_reducible show wpAny _ _ (eval (Expr.ListComp _ [PySem.Comprehension.mk _ _ [_] _] _ _) _) _ _ _); k_dflt (refine LCt.ListComp_T (F₀ := by k_asm) (by with_unfolding_all rfl) (by decide) (by rfl) (by decide) (by rfl) ?_)))
local macro_rules | `(tactic| walk_at "subscriptTail Name Slice ref ref") => `(tactic| (k_here; (with_reducible show wpAny _ _ (subscriptTail _ (PySem.Expr.Slice _ _ none _) (Value.ref _) (Value.ref _)) _ _ _); k_dflt (refine' kmk_slice_ints ?zwF ?zwN ?zwl ?zwp ?zwq ?zwi ?zwm ?zwc ?_ ?zws ?zwt ?zwz; (case zwF => k_asm); (case zwN => k_asm); (case zwl => kmk_list); (case zwp => kmk_part); (case zwq => kmk_part); (case zwi => assumption); (case zwm => first | (with_reducible refine' kmk_upto ?zi1 ?zi2; (case zi1 => assumption); (case zi2 => first | decide | exact Int.natCast_nonneg _)) | (with_reducible refine' kmk_from ?zi1 ?zi2; (case zi1 => assumption); (case zi2 => first | decide | exact Int.natCast_nonneg _))); (case zwc => kmk_len); (case zws => with_unfolding_all rfl); (case zwt => kmk_pure); (case zwz => (refine' kmk_sz (by assumption) ?_; rw [PySem.sizeLine_eq]; (try simp only [List.length_append, List.length_map, List.length_take, List.length_drop, List.length_cons, List.length_nil]); omega))); intro D' ws' h' F' N' l1 hI' hC' hL'; (try simp only [Int.reduceNeg, Int.neg_neg, Int.reduceToNat] at hI' hC' hL'); (try k_lt l1); (try k_sweep)))
local macro_rules | `(tactic| walk_at "CompSrc") => `(tactic| (k_here; k_dflt (refine LCg.CompSrc.ledger (by rfl) (by k_asm) (by k_asm) (by k_mem) (by first | size_fits | (rw [List.size_toArray, PySem.sizeLine_eq]; (have hl9 := IntsAre.length (by assumption)); (simp only [List.length_append, List.length_map, List.length_take, List.length_drop, List.length_cons, List.length_nil] at hl9); omega)) ?_; intro g'; (refine' kcf_list _ (by assumption) (fun k' t' I' oI' C' oC' D' m' ys' h' tk' E' hk' hC' hx' F' N' off' ne' hMark' => ?_) ?_); (all_goals (try (simp only [LCg.Off3] at off'; (repeat (obtain ⟨⟨_, _, _⟩, off'⟩ := off')); (try clear off'); obtain ⟨_, _, _⟩ := ne'))); kcf_last)))
def signL : List Str := [Str.ofString "(", Str.ofString ")", Str.ofString "[", Str.ofString "]", Str.ofString ":", Str.ofString ",", Str.ofString ";", Str.ofString "+", Str.ofString "-", Str.ofString "*", Str.ofString "/", Str.ofString "|", Str.ofString "&", Str.ofString "<", Str.ofString ">", Str.ofString "=", Str.ofString ".", Str.ofString "%", Str.ofString "{", Str.ofString "}", Str.ofString "==", Str.ofString "!=", Str.ofString "<=", Str.ofString ">=", Str.ofString "~", Str.ofString "^", Str.ofString "<<", Str.ofString ">>", Str.ofString "**", Str.ofString "+=", Str.ofString "-=", Str.ofString "*=", Str.ofString "/=", Str.ofString "%=", Str.ofString "&=", Str.ofString "|=", Str.ofString "^=", Str.ofString "<<=", Str.ofString ">>=", Str.ofString "**=", Str.ofString "//", Str.ofString "//=", Str.ofString "@", Str.ofString "@=", Str.ofString "->", Str.ofString "...", Str.ofString ":=", Str.ofString "!"]
theorem sign_at {l : List (Str × Tok)} (e : l.map (·.1) = signL) {n : Nat} (h : n < 48) : ∃ t, (strValues l)[n]? = some (.str (signL.getD n default) t) := by
  have hl : l.length = 48 := by rw [← List.length_map (f := (·.1)), e]; rfl
  have h1 : n < l.length := by omega
  refine ⟨(l[n]).2, ?_⟩
  unfold strValues
  rw [List.getElem?_map, List.getElem?_eq_getElem h1, ← e, List.getD_eq_getElem?_getD, List.getElem?_map, List.getElem?_eq_getElem h1]
  rfl
theorem item_sign {prog : Program} {w : World} {A : Around} {E : Value → Shared → Prop} {s : Shared} {h₀ : Heap} {L l : Addr} {news : List (Addr × Obj)} {value slice : PySem.Expr} {ls : List (Str × Tok)} {n : Nat} {k : Int} {u : Tok} {Q : Value → Shared → Prop}
    (N : News h₀ L s.heap news) (hm : (l, listOf (strValues ls).toArray n) ∈ news) (e : ls.map (·.1) = signL) (hb : 0 ≤ k ∧ k < 48) (h : ∀ t, Q (.str (signL.getD k.toNat default) t) s)
    (hs : subscripted slice false (.ref l) (.int k u) = operate [.ref l, .int k u] (getItem (.ref l) (.int k u)) := by with_unfolding_all rfl) :
    wpAny (model prog w) A (subscriptTail value slice (.ref l) (.int k u)) Q E s := by
  obtain ⟨t, e'⟩ := sign_at e (n := k.toNat) (by omega)
  exact item_val N hm hb.1 (by omega) e' (h t) hs
theorem tok_at (w : World) (n : Nat) (h : n < 48) : ∃ t, nsIn (hd.heap_39 w.params) 75 (signL.getD n default) = some (some (.int (7 + (n : Int)) t)) := by
  have hfill : PySem.Challenge.rw_tp0020_01.row.prog = PySem.Challenge.rw_tp0020_01.row.prog ∧ hd.heap_39 w.params = hd.heap_39 w.params := by
    k_fill
    exact ⟨rfl, rfl⟩
  clear hfill
  match n, h with
  | 0, _ => exact ⟨_, (show nsIn (hd.heap_39 w.params) 75 (Str.ofString "(") = some (some (.int 7 _)) by k_is)⟩
  | 1, _ => exact ⟨_, (show nsIn (hd.heap_39 w.params) 75 (Str.ofString ")") = some (some (.int 8 _)) by k_is)⟩
  | 2, _ => exact ⟨_, (show nsIn (hd.heap_39 w.params) 75 (Str.ofString "[") = some (some (.int 9 _)) by k_is)⟩
  | 3, _ => exact ⟨_, (show nsIn (hd.heap_39 w.params) 75 (Str.ofString "]") = some (some (.int 10 _)) by k_is)⟩
  | 4, _ => exact ⟨_, (show nsIn (hd.heap_39 w.params) 75 (Str.ofString ":") = some (some (.int 11 _)) by k_is)⟩
  | 5, _ => exact ⟨_, (show nsIn (hd.heap_39 w.params) 75 (Str.ofString ",") = some (some (.int 12 _)) by k_is)⟩
  | 6, _ => exact ⟨_, (show nsIn (hd.heap_39 w.params) 75 (Str.ofString ";") = some (some (.int 13 _)) by k_is)⟩
  | 7, _ => exact ⟨_, (show nsIn (hd.heap_39 w.params) 75 (Str.ofString "+") = some (some (.int 14 _)) by k_is)⟩
  | 8, _ => exact ⟨_, (show nsIn (hd.heap_39 w.params) 75 (Str.ofString "-") = some (some (.int 15 _)) by k_is)⟩
  | 9, _ => exact ⟨_, (show nsIn (hd.heap_39 w.params) 75 (Str.ofString "*") = some (some (.int 16 _)) by k_is)⟩
  | 10, _ => exact ⟨_, (show nsIn (hd.heap_39 w.params) 75 (Str.ofString "/") = some (some (.int 17 _)) by k_is)⟩
  | 11, _ => exact ⟨_, (show nsIn (hd.heap_39 w.params) 75 (Str.ofString "|") = some (some (.int 18 _)) by k_is)⟩
  | 12, _ => exact ⟨_, (show nsIn (hd.heap_39 w.params) 75 (Str.ofString "&") = some (some (.int 19 _)) by k_is)⟩
  | 13, _ => exact ⟨_, (show nsIn (hd.heap_39 w.params) 75 (Str.ofString "<") = some (some (.int 20 _)) by k_is)⟩
  | 14, _ => exact ⟨_, (show nsIn (hd.heap_39 w.params) 75 (Str.ofString ">") = some (some (.int 21 _)) by k_is)⟩
  | 15, _ => exact ⟨_, (show nsIn (hd.heap_39 w.params) 75 (Str.ofString "=") = some (some (.int 22 _)) by k_is)⟩
  | 16, _ => exact ⟨_, (show nsIn (hd.heap_39 w.params) 75 (Str.ofString ".") = some (some (.int 23 _)) by k_is)⟩
  | 17, _ => exact ⟨_, (show nsIn (hd.heap_39 w.params) 75 (Str.ofString "%") = some (some (.int 24 _)) by k_is)⟩
  | 18, _ => exact ⟨_, (show nsIn (hd.heap_39 w.params) 75 (Str.ofString "{") = some (some (.int 25 _)) by k_is)⟩
  | 19, _ => exact ⟨_, (show nsIn (hd.heap_39 w.params) 75 (Str.ofString "}") = some (some (.int 26 _)) by k_is)⟩
  | 20, _ => exact ⟨_, (show nsIn (hd.heap_39 w.params) 75 (Str.ofString "==") = some (some (.int 27 _)) by k_is)⟩
  | 21, _ => exact ⟨_, (show nsIn (hd.heap_39 w.params) 75 (Str.ofString "!=") = some (some (.int 28 _)) by k_is)⟩
  | 22, _ => exact ⟨_, (show nsIn (hd.heap_39 w.params) 75 (Str.ofString "<=") = some (some (.int 29 _)) by k_is)⟩
  | 23, _ => exact ⟨_, (show nsIn (hd.heap_39 w.params) 75 (Str.ofString ">=") = some (some (.int 30 _)) by k_is)⟩
  | 24, _ => exact ⟨_, (show nsIn (hd.heap_39 w.params) 75 (Str.ofString "~") = some (some (.int 31 _)) by k_is)⟩
  | 25, _ => exact ⟨_, (show nsIn (hd.heap_39 w.params) 75 (Str.ofString "^") = some (some (.int 32 _)) by k_is)⟩
  | 26, _ => exact ⟨_, (show nsIn (hd.heap_39 w.params) 75 (Str.ofString "<<") = some (some (.int 33 _)) by k_is)⟩
  | 27, _ => exact ⟨_, (show nsIn (hd.heap_39 w.params) 75 (Str.ofString ">>") = some (some (.int 34 _)) by k_is)⟩
  | 28, _ => exact ⟨_, (show nsIn (hd.heap_39 w.params) 75 (Str.ofString "**") = some (some (.int 35 _)) by k_is)⟩
  | 29, _ => exact ⟨_, (show nsIn (hd.heap_39 w.params) 75 (Str.ofString "+=") = some (some (.int 36 _)) by k_is)⟩
  | 30, _ => exact ⟨_, (show nsIn (hd.heap_39 w.params) 75 (Str.ofString "-=") = some (some (.int 37 _)) by k_is)⟩
  | 31, _ => exact ⟨_, (show nsIn (hd.heap_39 w.params) 75 (Str.ofString "*=") = some (some (.int 38 _)) by k_is)⟩
  | 32, _ => exact ⟨_, (show nsIn (hd.heap_39 w.params) 75 (Str.ofString "/=") = some (some (.int 39 _)) by k_is)⟩
  | 33, _ => exact ⟨_, (show nsIn (hd.heap_39 w.params) 75 (Str.ofString "%=") = some (some (.int 40 _)) by k_is)⟩
  | 34, _ => exact ⟨_, (show nsIn (hd.heap_39 w.params) 75 (Str.ofString "&=") = some (some (.int 41 _)) by k_is)⟩
  | 35, _ => exact ⟨_, (show nsIn (hd.heap_39 w.params) 75 (Str.ofString "|=") = some (some (.int 42 _)) by k_is)⟩
  | 36, _ => exact ⟨_, (show nsIn (hd.heap_39 w.params) 75 (Str.ofString "^=") = some (some (.int 43 _)) by k_is)⟩
  | 37, _ => exact ⟨_, (show nsIn (hd.heap_39 w.params) 75 (Str.ofString "<<=") = some (some (.int 44 _)) by k_is)⟩
  | 38, _ => exact ⟨_, (show nsIn (hd.heap_39 w.params) 75 (Str.ofString ">>=") = some (some (.int 45 _)) by k_is)⟩
  | 39, _ => exact ⟨_, (show nsIn (hd.heap_39 w.params) 75 (Str.ofString "**=") = some (some (.int 46 _)) by k_is)⟩
  | 40, _ => exact ⟨_, (show nsIn (hd.heap_39 w.params) 75 (Str.ofString "//") = some (some (.int 47 _)) by k_is)⟩
  | 41, _ => exact ⟨_, (show nsIn (hd.heap_39 w.params) 75 (Str.ofString "//=") = some (some (.int 48 _)) by k_is)⟩
  | 42, _ => exact ⟨_, (show nsIn (hd.heap_39 w.params) 75 (Str.ofString "@") = some (some (.int 49 _)) by k_is)⟩
  | 43, _ => exact ⟨_, (show nsIn (hd.heap_39 w.params) 75 (Str.ofString "@=") = some (some (.int 50 _)) by k_is)⟩
  | 44, _ => exact ⟨_, (show nsIn (hd.heap_39 w.params) 75 (Str.ofString "->") = some (some (.int 51 _)) by k_is)⟩
  | 45, _ => exact ⟨_, (show nsIn (hd.heap_39 w.params) 75 (Str.ofString "...") = some (some (.int 52 _)) by k_is)⟩
  | 46, _ => exact ⟨_, (show nsIn (hd.heap_39 w.params) 75 (Str.ofString ":=") = some (some (.int 53 _)) by k_is)⟩
  | 47, _ => exact ⟨_, (show nsIn (hd.heap_39 w.params) 75 (Str.ofString "!") = some (some (.int 54 _)) by k_is)⟩
  | n + 48, h => exact absurd h (by omega)
theorem tok_item {w : World} {A : Around} {E : Value → Shared → Prop} {s : Shared} {h₀ : Heap} {L : Addr} {m : Str → Option Value} {value slice : PySem.Expr} {k : Int} {u : Tok} {Q : Value → Shared → Prop}
    (F : Fr h₀ L s.heap m) (X : (hd.heap_39 w.params).In h₀) (hb : 0 ≤ k ∧ k < 48) (h : ∀ t, Q (.int (7 + k) t) { s with toks := s.toks + 1 })
    (hs : subscripted slice false (.ref 75) (.str (signL.getD k.toNat default) u) = operate [.ref 75, .str (signL.getD k.toNat default) u] (getItem (.ref 75) (.str (signL.getD k.toNat default) u)) := by with_unfolding_all rfl) :
    wpAny (model PySem.Challenge.rw_tp0020_01.row.prog w) A (subscriptTail value slice (.ref 75) (.str (signL.getD k.toNat default) u)) Q E s := by
  obtain ⟨t, e⟩ := tok_at w k.toNat (by omega)
  have e2 : (7 : Int) + (k.toNat : Int) = 7 + k := by omega
  rw [e2] at e
  refine' topItem_K F X ?l ?k e (h t) hs
  case l => k_is
  case k => k_keys
theorem m48 (x : Int) : 0 ≤ Int.fmod x 48 ∧ Int.fmod x 48 < 48 := ⟨Int.fmod_nonneg_of_pos x (by decide), Int.fmod_lt_of_pos x (by decide)⟩
local macro_rules | `(tactic| walk_at "subscriptTail Name BinOp ref int") => `(tactic| (k_here; k_dflt (refine' item_sign ?zN ?zm ?ze ?zb ?_; (case zN => k_asm); (case zm => k_mem); (case ze => exact Eq.trans (by assumption) (by decide +kernel)); (case zb => exact m48 _); intro t')))
local macro_rules | `(tactic| walk_at "subscriptTail Name Subscript ref str") => `(tactic| (k_here; k_dflt (refine' tok_item ?zF ?zX ?zb ?_; (case zF => k_asm); (case zX => k_asm); (case zb => exact m48 _); intro t')))
set_option maxHeartbeats 4000000 in
theorem words_con (w : World) (mean : ExcName → Option Value) (mg mb : Str → Option Value) (d : Addr) (vd : List Value) (nd : Nat) (ds : List Int) (hi : IntsAre vd ds) (hlen : ds.length = 6) :
    ConO w mean mg mb 94 [.ref d] 2 [(d, listOf vd.toArray nd)] (fun o => ∃ vs n, o = listOf vs.toArray n ∧ IntsAre vs ((ds.take 5).map (fun x => 7 + Int.fmod x 48))) := by
  w_on
  k_with_none
  unfold ConO
  k_fill
  intro dp un gd cn cs a ccd cl outer A₀ base h₀ L m news s Q E B F X N T hk hhid hd hu hret
  refine wpAny_call ?_
  k_dflt (refine' con_callCM (fun y => if y = Str.ofString "drawn" then some (.ref d) else none) (fun _ => none) ?k1 ?k2 ?k3 ?k4 ?k5 ?kH ?kA ?kF ?kK ?k6 ?k7 ?k8 ?k9 ?kB ?kD ?km ?kc ?_ ?c2 ?c3 ?c4; (case kA => exact rfl); (case kF => exact rfl); (case kK => assumption); (case k1 => assumption); (case k2 => assumption); (case k3 => assumption); (case k4 => assumption); (case k5 => assumption); (case kH => assumption); (case k6 => k_is); (case k7 => k_is); (case k8 => ktr_room); (case k9 => exact BindsTo.of_eq rfl); (case kB => exact rfl); (case kD => decide +kernel); (case km => exact fun _ => by with_unfolding_all rfl); (case kc => exact fun _ => by with_unfolding_all rfl); (case c2 => exact rfl); (case c3 => exact rfl); (case c4 => exact rfl); k_whole; intro g' L' h' tk' cells' F' N' Y' B' X' T' G' l1'; (try k_lt l1'); k_cells Y'; (try simp only [List.cons_append, List.nil_append] at N'); (try dsimp only); (try k_fold))
  k_steps
  (try dsimp only); (try k_unfold); (try dsimp only)
  (refine' retO F N hret G' ?zf ?zn ?zs ?zm ?ze ?zp; (case zf => k_asm); (case zn => k_asm); (case zs => kcf_all); (case zm => k_mem); (case ze => first | assumption | k_all))
  refine ⟨_, _, rfl, ?_⟩
  assumption
end Mine
namespace Mine
local macro_rules | `(tactic| k_lt $h:ident) => `(tactic| (replace $h := allLt_of $h; (try simp only [AllLt] at $h:ident); (repeat (obtain ⟨_, $h:ident⟩ := $h:ident)); (try clear $h)))
local macro_rules | `(tactic| walk_at "FinE") => `(tactic| ((unfold LCg.FinE); intro D' h' tk' F' N' o1'; (have oAll9 := o1'); (try simp only [LCg.Off1] at o1'); (repeat (obtain ⟨_, o1'⟩ := o1')); (try clear o1'); (try simp only [List.nil_append, List.cons_append] at N'); (try k_sweep); (try dsimp only)))
local macro_rules | `(tactic| walk_at "FinA") => `(tactic| ((unfold LCg.FinA); intro D' h' tk' F' N' o1'; (have oAll9 := o1'); (try simp only [LCg.Off1] at o1'); (repeat (obtain ⟨_, o1'⟩ := o1')); (try clear o1'); (try simp only [List.nil_append, List.cons_append] at N'); (try k_sweep); (try dsimp only)))
local macro_rules | `(tactic| k_all) => `(tactic| first | exact List.forall_mem_nil _ | (refine List.forall_mem_cons.mpr ⟨by k_ne, ?_⟩; k_all))
local macro_rules | `(tactic| k_ne) => `(tactic| (refine neN ?_; (try dsimp only); first | assumption | (refine Ne.symm ?_; assumption) | exact Nat.ne_of_lt (by assumption) | exact Nat.ne_of_gt (by assumption) | omega))
local macro_rules | `(tactic| walk_at "call ref") => `(tactic| (k_extra "MyCall"))
local macro_rules | `(tactic| walk_at "CompSrc") => `(tactic| (k_extra "MySrc"))
local macro_rules | `(tactic| walk_at "CompSrcT") => `(tactic| (k_extra "MySrcT"))
local macro_rules | `(tactic| walk_at "exec For Name Name cons nil") => `(tactic| (k_here; k_dflt (refine for_start ?_)))
local macro_rules | `(tactic| walk_at "pyIter ref") => `(tactic| (k_here; k_dflt (refine' iterL_start ?zF ?zN ?zm ?_; (case zF => k_asm); (case zN => k_asm); (case zm => k_mem); (intro I' o' h' F' N' l1' hI'); (try k_lt l1'); (try k_sweep))))
local macro_rules | `(tactic| walk_at "exec For Name Call cons nil") => `(tactic| (k_here; k_dflt (refine for_start ?_)))
local macro_rules | `(tactic| walk_at "pyIter ref") => `(tactic| (k_here; k_dflt (refine' iterR_start ?zF ?zN ?zr ?zs ?zn ?_; (case zF => k_asm); (case zN => k_asm); (case zr => with_reducible assumption); (case zs => first | decide | rfl | exact small_i (by assumption)); (case zn => first | exact rfl | decide | exact size_i (by assumption)); (intro I' h' F' N' l1'); (try k_lt l1'); (try k_sweep))))
local macro_rules | `(tactic| walk_at "ForRest") => `(tactic| (k_extra "MyFor"))
local macro_rules | `(tactic| walk_at "ForPost") => `(tactic| (dsimp only [ForPost]))
local macro_rules | `(tactic| walk_at "pyIter ref") => `(tactic| (k_here; k_dflt (refine' iterR_start ?zF ?zN ?zr ?zs ?zn ?_; (case zF => k_asm); (case zN => k_asm); (case zr => with_reducible assumption); (case zs => exact small_i (by assumption)); (case zn => exact size_i (by assumption)); (intro I' h' F' N' l1'); (have hAll9 := l1'); (try k_sweep))))
local macro_rules | `(tactic| k_lt $h:ident) => `(tactic| ((have hAll9 := $h); (replace $h := allLt_of $h); (try simp only [AllLt] at $h:ident); (repeat (obtain ⟨_, $h:ident⟩ := $h:ident)); (try clear $h)))
theorem txt0 : Str.ofString "257 \"" ++ Txt.mul (Str.ofString "\"") 0 ++ Str.ofString "k" = Str.ofString "257 \"k" := by decide +kernel
theorem txt1 : Str.ofString "257 \"" ++ Txt.mul (Str.ofString "\"") 1 ++ Str.ofString "k" = Str.ofString "257 \"\"k" := by decide +kernel
theorem txt2 : Str.ofString "257 \"" ++ Txt.mul (Str.ofString "\"") 2 ++ Str.ofString "k" = Str.ofString "257 \"\"\"k" := by decide +kernel
theorem txt3 : Str.ofString "257 \"" ++ Txt.mul (Str.ofString "\"") 3 ++ Str.ofString "k" = Str.ofString "257 \"\"\"\"k" := by decide +kernel
theorem txt4 : Str.ofString "257 \"" ++ Txt.mul (Str.ofString "\"") 4 ++ Str.ofString "k" = Str.ofString "257 \"\"\"\"\"k" := by decide +kernel
theorem txt5 : Str.ofString "257 \"" ++ Txt.mul (Str.ofString "\"") 5 ++ Str.ofString "k" = Str.ofString "257 \"\"\"\"\"\"k" := by decide +kernel
theorem txt6 : Str.ofString "257 \"" ++ Txt.mul (Str.ofString "\"") 6 ++ Str.ofString "k" = Str.ofString "257 \"\"\"\"\"\"\"k" := by decide +kernel
theorem sz5 {a b c d e : Value} : #[a, b, c, d, e].size ≤ sizeLine := by
  show 5 ≤ sizeLine
  rw [sizeLine_eq]; decide
local macro_rules | `(tactic| walk_at "CompSrc") => `(tactic| (k_here; k_dflt (refine LCg.CompSrc.ledger (by rfl) (by k_asm) (by k_asm) (by first | k_mem | kcf_m) (by exact sz5) ?_; intro g'; (first
  | ((with_reducible show LCg.CompRest _ _ _ _ _ _ _ (PySem.Expr.Call _ [_, _, PySem.Expr.BinOp _ Operator.Mod _ _] _ _) _ _ _ _ _ _ _ _ _ _ _); refine' comp_tup loP (by assumption) (by assumption) (by assumption) (by assumption) (by assumption) ?_ ?_; rotate_left; (focus (k_extra "FinA9")))
  | ((with_reducible show LCg.CompRest _ _ _ _ _ _ _ (PySem.Expr.Call _ [_, _, PySem.Expr.BinOp _ Operator.FloorDiv _ _] _ _) _ _ _ _ _ _ _ _ _ _ _); refine' comp_tup hiP (by assumption) (by assumption) (by assumption) (by assumption) (by assumption) ?_ ?_; rotate_left; (focus (k_extra "FinB9")))
  | ((with_reducible show LCg.CompRest _ _ _ _ _ _ _ (PySem.Expr.BinOp _ Operator.Mult _ _) _ _ _ _ _ _ _ _ _ _ _); refine' comp_rows (by assumption) (by assumption) (by assumption) (by assumption) (by assumption) ?_ ?_; rotate_left; (focus (k_extra "FinC9")))); rotate_left; (focus (unfold NewTurn; intro k' t' I' oI' C' oC' D' m' ys' nw' h' tk' E' hk' hC' hx' F' N' off' ne' sub'; obtain ⟨_, _, _⟩ := ne')))))
local macro_rules | `(tactic| walk_at "CompEnd") => `(tactic| (k_dflt (refine' newEnd ?eF ?eN ?eS ?eD ?eO ?eI ?eP; (case eF => assumption); (case eN => assumption); (case eS => kcf_all); (case eD => first | exact fun p hp => ‹∀ p ∈ (_ :: _), p.1 ≠ _› p (by kcf_m) | exact fun p hp => Nat.ne_of_lt (‹∀ p ∈ (_ :: _), p.1 < _› p (by kcf_m))); (case eO => assumption); (case eI => exact Or.inr ⟨_, List.mem_cons_of_mem _ ((show ∀ p ∈ _, p ∈ _ by assumption) _ (by first | k_mem | kcf_m)), rfl, _, rfl⟩); (case eP => first | exact ⟨_, _, _, rfl⟩ | exact ⟨_, _, rfl, by assumption⟩))))
local macro_rules | `(tactic| walk_at "subscriptTail Name Name ref int") => `(tactic| (k_here; k_dflt (refine' item_BN ?zN ?zm ?zb ?_; (case zN => k_asm); (case zm => ((repeat (first | assumption | refine List.mem_cons_of_mem _ ?_ | refine rowsL_tail ?_)); done)); (case zb => assumption))))
local macro_rules | `(tactic| walk_at "subscriptTail Name Name ref int") => `(tactic| (k_here; k_dflt (refine' item_tupN ?zN ?zm ?zi ?zb ?_; (case zN => k_asm); (case zm => ((repeat (first | assumption | refine List.mem_cons_of_mem _ ?_ | refine rowsL_tail ?_)); done)); (case zi => assumption); (case zb => assumption)); intro aj' oj' hmj' hpj'; obtain ⟨_, _, _, e9'⟩ := hpj'; subst e9'))
local macro_rules | `(tactic| walk_at "setItem ref int") => `(tactic| (k_here; k_dflt (refine' set_rowN ?zF ?zN ?zI ?zj ?zo ?zV ?zR ?za ?zb ?_; (case zF => k_asm); (case zN => k_asm); (case zI => assumption); (case zj => assumption); (case zo => assumption); (case zV => assumption); (case zR => first | exact fun j _ => rowM_len _ _ | exact setR_len fun j _ => rowM_len _ _); (case za => assumption); (case zb => assumption)); intro V' h' F' N' hV'; (try k_sweep)))
local macro_rules | `(tactic| walk_at "binaryOp Mult str int") => `(tactic| ((with_reducible show wpAny _ _ (binaryOp _ _ (Value.int (pc _ _ + pc _ _) _)) _ _ _); k_extra "Split9"))
set_option maxHeartbeats 4000000 in
theorem quarrels_con (w : World) (mean : ExcName → Option Value) (mg mb : Str → Option Value) (wd : Addr) (nd : Nat) (x0 x1 x2 x3 x4 : Int) (t0 t1 t2 t3 t4 : Tok)
    (h0 : 0 ≤ x0 ∧ x0 < 64) (h1 : 0 ≤ x1 ∧ x1 < 64) (h2 : 0 ≤ x2 ∧ x2 < 64) (h3 : 0 ≤ x3 ∧ x3 < 64) (h4 : 0 ≤ x4 ∧ x4 < 64) :
    ConN w mean mg mb 104 [.ref wd] 4 [(wd, listOf [.int x0 t0, .int x1 t1, .int x2 t2, .int x3 t3, .int x4 t4].toArray nd)]
      (fun r nw => ∃ l B V nn n, r = .ref l ∧ nw = (l, listOf [.ref (B 0), .ref (B 1), .ref (B 2), .ref (B 3), .ref (B 4)].toArray n) :: rowsL B V nn [] ∧ ∀ j, j < 5 → IntsAre (V j) (rowM (MM (five x0 x1 x2 x3 x4) 5 0) j)) := by
  w_on
  k_with_none
  unfold ConN
  k_fill
  intro dp un gd cn cs a ccd cl outer A₀ base h₀ L m news s Q E B F X N T hk hhid hd hu hret
  k_with "MyCall" => (first
    | (k_dflt (refine' useV (shared2_i w mean mg mb ?hh1 ?hh2) ?k1 ?k2 ?k3 ?k4 ?k5 ?kK ?kH ?k8 ?k9 ?_; (case k1 => assumption); (case k2 => k_asm); (case k3 => k_asm); (case k4 => k_asm); (case k5 => k_asm); (case kK => first | exact rfl | assumption); (case kH => (repeat' (first | exact List.forall_mem_nil _ | refine List.forall_mem_cons.mpr ⟨?_, ?_⟩ | assumption | refine List.mem_cons_of_mem _ ?_ | refine rowsL_tail ?_))); (case hh1 => exact hX _ (by assumption)); (case hh2 => exact hX _ (by assumption)); (case k8 => ktr_room); (case k9 => ktr_units); (intro r9 h9 tk9 F9 N9 hp9); (obtain ⟨tp9, rfl⟩ := hp9); (try k_sweep); (try dsimp only); (try k_fold)))
    | ((with_reducible show wpAny _ _ (call (Value.ref 74) [Value.str (Str.ofString "257 \"" ++ Txt.mul (Str.ofString "\"") 0 ++ Str.ofString "k") _]) _ _ _); rw [txt0]; (k_dflt (refine' useV (parse0_con w mean mg mb _) ?k1 ?k2 ?k3 ?k4 ?k5 ?kK ?kH ?k8 ?k9 ?_; (case k1 => assumption); (case k2 => k_asm); (case k3 => k_asm); (case k4 => k_asm); (case k5 => k_asm); (case kK => first | exact rfl | assumption); (case kH => kcf_all); (case k8 => ktr_room); (case k9 => ktr_units); (intro r9 h9 tk9 F9 N9 hp9); (obtain ⟨tp9, rfl⟩ := hp9); (try k_sweep); (try dsimp only); (try k_fold))))
    | ((with_reducible show wpAny _ _ (call (Value.ref 74) [Value.str (Str.ofString "257 \"" ++ Txt.mul (Str.ofString "\"") 1 ++ Str.ofString "k") _]) _ _ _); rw [txt1]; (k_dflt (refine' useV (parse1_con w mean mg mb _) ?k1 ?k2 ?k3 ?k4 ?k5 ?kK ?kH ?k8 ?k9 ?_; (case k1 => assumption); (case k2 => k_asm); (case k3 => k_asm); (case k4 => k_asm); (case k5 => k_asm); (case kK => first | exact rfl | assumption); (case kH => kcf_all); (case k8 => ktr_room); (case k9 => ktr_units); (intro r9 h9 tk9 F9 N9 hp9); (obtain ⟨tp9, rfl⟩ := hp9); (try k_sweep); (try dsimp only); (try k_fold))))
    | ((with_reducible show wpAny _ _ (call (Value.ref 74) [Value.str (Str.ofString "257 \"" ++ Txt.mul (Str.ofString "\"") 2 ++ Str.ofString "k") _]) _ _ _); rw [txt2]; (k_dflt (refine' useV (parse2_con w mean mg mb _) ?k1 ?k2 ?k3 ?k4 ?k5 ?kK ?kH ?k8 ?k9 ?_; (case k1 => assumption); (case k2 => k_asm); (case k3 => k_asm); (case k4 => k_asm); (case k5 => k_asm); (case kK => first | exact rfl | assumption); (case kH => kcf_all); (case k8 => ktr_room); (case k9 => ktr_units); (intro r9 h9 tk9 F9 N9 hp9); (obtain ⟨tp9, rfl⟩ := hp9); (try k_sweep); (try dsimp only); (try k_fold))))
    | ((with_reducible show wpAny _ _ (call (Value.ref 74) [Value.str (Str.ofString "257 \"" ++ Txt.mul (Str.ofString "\"") 3 ++ Str.ofString "k") _]) _ _ _); rw [txt3]; (k_dflt (refine' useV (parse3_con w mean mg mb _) ?k1 ?k2 ?k3 ?k4 ?k5 ?kK ?kH ?k8 ?k9 ?_; (case k1 => assumption); (case k2 => k_asm); (case k3 => k_asm); (case k4 => k_asm); (case k5 => k_asm); (case kK => first | exact rfl | assumption); (case kH => kcf_all); (case k8 => ktr_room); (case k9 => ktr_units); (intro r9 h9 tk9 F9 N9 hp9); (obtain ⟨tp9, rfl⟩ := hp9); (try k_sweep); (try dsimp only); (try k_fold))))
    | ((with_reducible show wpAny _ _ (call (Value.ref 74) [Value.str (Str.ofString "257 \"" ++ Txt.mul (Str.ofString "\"") 4 ++ Str.ofString "k") _]) _ _ _); rw [txt4]; (k_dflt (refine' useV (parse4_con w mean mg mb _) ?k1 ?k2 ?k3 ?k4 ?k5 ?kK ?kH ?k8 ?k9 ?_; (case k1 => assumption); (case k2 => k_asm); (case k3 => k_asm); (case k4 => k_asm); (case k5 => k_asm); (case kK => first | exact rfl | assumption); (case kH => kcf_all); (case k8 => ktr_room); (case k9 => ktr_units); (intro r9 h9 tk9 F9 N9 hp9); (obtain ⟨tp9, rfl⟩ := hp9); (try k_sweep); (try dsimp only); (try k_fold))))
    | ((with_reducible show wpAny _ _ (call (Value.ref 74) [Value.str (Str.ofString "257 \"" ++ Txt.mul (Str.ofString "\"") 5 ++ Str.ofString "k") _]) _ _ _); rw [txt5]; (k_dflt (refine' useV (parse5_con w mean mg mb _) ?k1 ?k2 ?k3 ?k4 ?k5 ?kK ?kH ?k8 ?k9 ?_; (case k1 => assumption); (case k2 => k_asm); (case k3 => k_asm); (case k4 => k_asm); (case k5 => k_asm); (case kK => first | exact rfl | assumption); (case kH => kcf_all); (case k8 => ktr_room); (case k9 => ktr_units); (intro r9 h9 tk9 F9 N9 hp9); (obtain ⟨tp9, rfl⟩ := hp9); (try k_sweep); (try dsimp only); (try k_fold))))
    | ((with_reducible show wpAny _ _ (call (Value.ref 74) [Value.str (Str.ofString "257 \"" ++ Txt.mul (Str.ofString "\"") 6 ++ Str.ofString "k") _]) _ _ _); rw [txt6]; (k_dflt (refine' useV (parse6_con w mean mg mb _) ?k1 ?k2 ?k3 ?k4 ?k5 ?kK ?kH ?k8 ?k9 ?_; (case k1 => assumption); (case k2 => k_asm); (case k3 => k_asm); (case k4 => k_asm); (case k5 => k_asm); (case kK => first | exact rfl | assumption); (case kH => kcf_all); (case k8 => ktr_room); (case k9 => ktr_units); (intro r9 h9 tk9 F9 N9 hp9); (obtain ⟨tp9, rfl⟩ := hp9); (try k_sweep); (try dsimp only); (try k_fold))))
    | (k_dflt (refine' useO (wh_con w mean mg mb _ _ _) ?k1 ?k2 ?k3 ?k4 ?k5 ?kK ?kH ?k8 ?k9 ?_; (case k1 => assumption); (case k2 => k_asm); (case k3 => k_asm); (case k4 => k_asm); (case k5 => k_asm); (case kK => first | exact rfl | assumption); (case kH => kcf_all); (case k8 => ktr_room); (case k9 => ktr_units); (intro l9 o9 h9 tk9 F9 N9 d9 hp9); (obtain ⟨ty9, ti9, tq9, rfl⟩ := hp9); (replace d9 := off_of d9); (try simp only [LCg.Off1] at d9); (repeat (obtain ⟨_, d9⟩ := d9)); (try clear d9); (try k_sweep); (try dsimp only); (try k_fold)))
    | (k_dflt (refine' useO (hi_con w mean mg mb _ _ _ _ ?hh) ?k1 ?k2 ?k3 ?k4 ?k5 ?kK ?kH ?k8 ?k9 ?_; (case hh => assumption); (case k1 => assumption); (case k2 => k_asm); (case k3 => k_asm); (case k4 => k_asm); (case k5 => k_asm); (case kK => first | exact rfl | assumption); (case kH => kcf_all); (case k8 => ktr_room); (case k9 => ktr_units); (intro l9 o9 h9 tk9 F9 N9 d9 hp9); (obtain ⟨ty9, ti9, tq9, rfl⟩ := hp9); (have d8 := d9); (replace d9 := off_of d9); (try simp only [LCg.Off1] at d9); (repeat (obtain ⟨_, d9⟩ := d9)); (try clear d9); (try k_sweep); (try dsimp only); (try k_fold)))
    | (k_dflt (refine' useO (lo_con w mean mg mb _ _ _ _) ?k1 ?k2 ?k3 ?k4 ?k5 ?kK ?kH ?k8 ?k9 ?_; (case k1 => assumption); (case k2 => k_asm); (case k3 => k_asm); (case k4 => k_asm); (case k5 => k_asm); (case kK => first | exact rfl | assumption); (case kH => kcf_all); (case k8 => ktr_room); (case k9 => ktr_units); (intro l9 o9 h9 tk9 F9 N9 d9 hp9); (obtain ⟨ty9, ti9, tq9, rfl⟩ := hp9); (have d8 := d9); (replace d9 := off_of d9); (try simp only [LCg.Off1] at d9); (repeat (obtain ⟨_, d9⟩ := d9)); (try clear d9); (try k_sweep); (try dsimp only); (try k_fold))))
  k_with "Split9" => (rcases hm7 with hq9 | hq9 | hq9 | hq9 | hq9 | hq9 | hq9 <;> rw [hq9])
  k_with "FinA9" => (intro ysA nwA subA hTA; unfold LCg.FinA; intro DA hpA tkA FA NA oA; (have hwA : (wd, _) ∈ nwA := subA (wd, listOf [.int x0 t0, .int x1 t1, .int x2 t2, .int x3 t3, .int x4 t4].toArray nd) (by k_mem)); (have hhA : (l9, whT ty9 ti9 tq9) ∈ nwA := subA _ (by k_mem)); (try dsimp only))
  k_with "FinB9" => (intro ysB nwB subB hTB; unfold LCg.FinA; intro DB hpB tkB FB NB oB; (have hwB := subB _ (List.mem_cons_of_mem _ hwA)); (have hhB := subB _ (List.mem_cons_of_mem _ hhA)); (have hDA := subB _ List.mem_cons_self); (replace hTA := hTA.mono (fun p hp => subB _ (List.mem_cons_of_mem _ hp))); (try dsimp only))
  k_with "FinC9" => (intro BB VV nn hVz hinj hoffB; unfold LCg.FinA; intro DC hpC tkC FC NC oC; (try dsimp only))
  refine wpAny_call ?_
  k_dflt (refine' con_callM (fun y => if y = Str.ofString "words" then some (.ref wd) else none) ?k1 ?k2 ?k3 ?k4 ?k5 ?kH ?kA ?kF ?kK ?k6 ?k7 ?k8 ?k9 ?kB ?km ?_ ?c2 ?c3 ?c4 ?c5; (case kA => exact rfl); (case kF => exact rfl); (case kK => assumption); (case k1 => assumption); (case k2 => assumption); (case k3 => assumption); (case k4 => assumption); (case k5 => assumption); (case kH => assumption); (case k6 => k_is); (case k7 => k_is); (case k8 => ktr_room); (case k9 => exact BindsTo.of_eq rfl); (case c5 => decide); (case kB => exact locs rfl); (case km => exact (lookM_eq _).trans (by with_unfolding_all rfl)); (case c2 => exact rfl); (case c3 => exact rfl); (case c4 => exact rfl); k_whole; intro g' L' h' F' N' B' X' T' G' l1'; (try k_lt l1'); (try dsimp only); (try k_fold))
  k_steps
  have hX : ∀ k, k < 5 → 0 ≤ five x0 x1 x2 x3 x4 k ∧ five x0 x1 x2 x3 x4 k < 64 := fun k hk => by
    match k, hk with
    | 0, _ => exact h0
    | 1, _ => exact h1
    | 2, _ => exact h2
    | 3, _ => exact h3
    | 4, _ => exact h4
  have hoC := off1_mem oC
  obtain ⟨T, hT⟩ : ∃ T, T = (DC, listOf [Value.ref (BB 0), Value.ref (BB 1), Value.ref (BB 2), Value.ref (BB 3), Value.ref (BB 4)].toArray 5) :: (DB, LCg.lst ysB) :: nwB := ⟨_, rfl⟩
  have hrr : (DC, listOf [Value.ref (BB 0), Value.ref (BB 1), Value.ref (BB 2), Value.ref (BB 3), Value.ref (BB 4)].toArray 5) ∈ T := by rw [hT]; exact List.mem_cons_self
  have hfl : (DA, listOf ysA.toArray ysA.length) ∈ T := by rw [hT]; exact List.mem_cons_of_mem _ (List.mem_cons_of_mem _ hDA)
  have hsl : (DB, listOf ysB.toArray ysB.length) ∈ T := by rw [hT]; exact List.mem_cons_of_mem _ List.mem_cons_self
  have hwh : (l9, whT ty9 ti9 tq9) ∈ T := by rw [hT]; exact List.mem_cons_of_mem _ (List.mem_cons_of_mem _ hhB)
  have hwd : (wd, listOf [.int x0 t0, .int x1 t1, .int x2 t2, .int x3 t3, .int x4 t4].toArray nd) ∈ T := by rw [hT]; exact List.mem_cons_of_mem _ (List.mem_cons_of_mem _ hwB)
  have hTA2 := hTA.mono (nw' := T) (fun p hp => by rw [hT]; exact List.mem_cons_of_mem _ (List.mem_cons_of_mem _ hp))
  have hTB2 := hTB.mono (nw' := T) (fun p hp => by rw [hT]; exact List.mem_cons_of_mem _ (List.mem_cons_of_mem _ hp))
  have hoffT : ∀ k, k < 5 → ∀ p ∈ T, p.1 ≠ BB k := fun k hk p hp => by
    rw [hT] at hp
    rcases List.mem_cons.mp hp with rfl | hp
    · exact Ne.symm (hoC _ (rowsL_at hk))
    · exact hoffB k hk p hp
  have hwdC : wd ≠ DC := hoC _ (rowsL_tail (List.mem_cons_of_mem _ hwB))
  k_dflt (refine' forR0 (n := 5) (qJ BB nn (fun z => if z = Str.ofString "rows" then some (.ref DC) else if z = Str.ofString "second" then some (.ref DB) else if z = Str.ofString "first" then some (.ref DA) else if z = Str.ofString "white" then some (.ref l9) else if z = Str.ofString "words" then some (.ref wd) else none) T (five x0 x1 x2 x3 x4)) ?hE rfl ?hstep ?hfin _ (rowsL BB VV nn T) _ _ ?hj ?hF ?hN ?hoff)
  case hE => first | passes_own | with_unfolding_all passes_own
  case hF => k_asm
  case hN => exact news_sub (by assumption) (hT ▸ perm1)
  case hoff =>
    intro p hp
    rw [hT] at hp
    exact Nat.ne_of_lt ((show ∀ p ∈ (DC, LCg.lst [Value.ref (BB 0), Value.ref (BB 1), Value.ref (BB 2), Value.ref (BB 3), Value.ref (BB 4)]) :: rowsL BB VV nn ((DB, LCg.lst ysB) :: nwB), p.1 < _ by assumption) p (perm3 p hp))
  case hj => exact ⟨none, none, none, VV, qM_none _ rfl rfl rfl, rfl, fun j hj => (MM_zero _ j) ▸ hVz j hj⟩
  all_goals clear hVz hoffB oC oA oB hTA hTB hDA hwA hhA hwB hhB subA subB
  case hfin =>
    intro m1 nw h tk hj F1 N1
    obtain ⟨ma, mb9, mm, V1, rfl, rfl, hV1⟩ := hj
    dsimp only
    k_steps
    (try dsimp only); (try k_unfold); (try dsimp only)
    refine retN ((DC, listOf [Value.ref (BB 0), Value.ref (BB 1), Value.ref (BB 2), Value.ref (BB 3), Value.ref (BB 4)].toArray 5) :: rowsL BB V1 nn []) F N hret G' F1 N1 ?_ ?_ ?_ ?_
    · intro p hp
      rw [List.mem_singleton.mp hp]
      exact rowsL_tail hwd
    · intro p hp
      rcases List.mem_cons.mp hp with rfl | hp
      · exact rowsL_tail hrr
      · exact rowsL_grow hp
    · intro p hp q hq
      rw [List.mem_singleton.mp hq]
      rcases List.mem_cons.mp hp with rfl | hp
      · exact hwdC
      · exact rowsL_all (P := fun b => wd ≠ b) (fun k hk => hoffT k hk _ hwd) (List.forall_mem_nil _) p hp
    · exact ⟨DC, BB, V1, nn, 5, rfl, rfl, hV1⟩
  case hstep =>
    intro i t m1 nw I o h tk hi5 hj F1 N1 off1
    obtain ⟨ma, mb9, mm, V1, rfl, rfl, hV1⟩ := hj
    k_steps
    k_dflt (refine' forR0 (n := i) (qK BB nn (fun z => if z = Str.ofString "rows" then some (.ref DC) else if z = Str.ofString "second" then some (.ref DB) else if z = Str.ofString "first" then some (.ref DA) else if z = Str.ofString "white" then some (.ref l9) else if z = Str.ofString "words" then some (.ref wd) else none) (some (.int (i : Int) t)) ((I, o) :: T) (five x0 x1 x2 x3 x4) i) ?hE2 rfl ?hs2 ?hf2 _ (rowsL BB V1 nn ((I, o) :: T)) _ _ ?hj2 ?hF2 ?hN2 ?hoff2)
    case hE2 => first | passes_own | with_unfolding_all passes_own
    case hF2 => k_asm
    case hN2 => exact news_sub (by assumption) (fun p hp => List.mem_cons.mpr ((List.mem_cons.mp hp).imp id (perm3 p)))
    case hoff2 => exact fun p hp => Nat.ne_of_lt ((show ∀ p ∈ (I, o) :: rowsL BB V1 nn T, p.1 < _ by assumption) p (perm3 p hp))
    case hj2 => exact ⟨mb9, mm, V1, qM_a _ _ _ _ _, rfl, hV1⟩
    case hf2 =>
      intro m2 nw2 h2 tk2 hj2 F2 N2
      obtain ⟨mb2, mm2, V2, rfl, rfl, hV2⟩ := hj2
      dsimp only
      k_steps
      refine TurnE.mk (rowsL BB V2 nn T) F2 N2 perm2 (rowsL_all (P := fun b => b ≠ I) (rowsL_B (P := fun b => b ≠ I) off1) (fun p hp => off1 p (rowsL_tail hp))) ⟨_, _, _, V2, rfl, rfl, (MM_next _ i) ▸ hV2⟩
    case hs2 =>
      intro b t2 m2 nw2 I2 o2 h2 tk2 hbi hj2 F2 N2 off2
      obtain ⟨mb2, mm2, V2, rfl, rfl, hV2⟩ := hj2
      have hb5 : b < 5 := Nat.lt_trans hbi hi5
      have hm7 := marks7 (hX i hi5) (hX b hb5)
      have hI2 : ∀ k, k < 5 → BB k ≠ I2 := rowsL_B (P := fun b => b ≠ I2) off2
      have hoffI : ∀ k, k < 5 → ∀ p ∈ (I, o) :: T, p.1 ≠ BB k := fun k hk p hp => by
        rcases List.mem_cons.mp hp with rfl | hp
        · exact Ne.symm (rowsL_B (P := fun b => b ≠ I) off1 k hk)
        · exact hoffT k hk p hp
      k_steps
      all_goals (refine' turnQ ?tF ?tN ?tV off2 ?tM ?tR; (case tF => k_asm); (case tN => k_asm); (case tV => assumption); (case tM => exact qM_bm _ _ _ _ _ _); (case tR => first | exact MM_yes _ hbi hi5 (by rw [qdue_pc, hq9]; rfl) | exact congrArg rowM (MM_no _ hbi (by rw [qdue_pc, hq9]; rfl))))
end Mine
namespace Mine
local macro_rules | `(tactic| k_lt $h:ident) => `(tactic| (replace $h := allLt_of $h; (try simp only [AllLt] at $h:ident); (repeat (obtain ⟨_, $h:ident⟩ := $h:ident)); (try clear $h)))
local macro_rules | `(tactic| walk_at "FinE") => `(tactic| ((unfold LCg.FinE); intro D' h' tk' F' N' o1'; (have oAll9 := o1'); (try simp only [LCg.Off1] at o1'); (repeat (obtain ⟨_, o1'⟩ := o1')); (try clear o1'); (try simp only [List.nil_append, List.cons_append] at N'); (try k_sweep); (try dsimp only)))
local macro_rules | `(tactic| walk_at "FinA") => `(tactic| ((unfold LCg.FinA); intro D' h' tk' F' N' o1'; (have oAll9 := o1'); (try simp only [LCg.Off1] at o1'); (repeat (obtain ⟨_, o1'⟩ := o1')); (try clear o1'); (try simp only [List.nil_append, List.cons_append] at N'); (try k_sweep); (try dsimp only)))
local macro_rules | `(tactic| k_all) => `(tactic| first | exact List.forall_mem_nil _ | (refine List.forall_mem_cons.mpr ⟨by k_ne, ?_⟩; k_all))
local macro_rules | `(tactic| k_ne) => `(tactic| (refine neN ?_; (try dsimp only); first | assumption | (refine Ne.symm ?_; assumption) | exact Nat.ne_of_lt (by assumption) | exact Nat.ne_of_gt (by assumption) | omega))
local macro_rules | `(tactic| walk_at "call ref") => `(tactic| (k_extra "MyCall"))
local macro_rules | `(tactic| walk_at "CompSrc") => `(tactic| (k_extra "MySrc"))
local macro_rules | `(tactic| walk_at "CompSrcT") => `(tactic| (k_extra "MySrcT"))
set_option maxHeartbeats 4000000 in
theorem iseof_con (w : World) (mean : ExcName → Option Value) (mg mb : Str → Option Value) (x : Int) (t1 : Tok) :
    ConV w mean mg mb 84 [.int x t1] 1 [] (fun r => r = .bool (x == 0)) := by
  w_on
  k_with_none
  unfold ConV
  k_fill
  intro dp un gd cn cs a ccd cl outer A₀ base h₀ L m news s Q E B F X N T hk hhid hd hu hret
  refine wpAny_call ?_
  k_dflt (refine' con_callM (fun y => if y = Str.ofString "x" then some (.int x t1) else none) ?k1 ?k2 ?k3 ?k4 ?k5 ?kH ?kA ?kF ?kK ?k6 ?k7 ?k8 ?k9 ?kB ?km ?_ ?c2 ?c3 ?c4 ?c5; (case kA => exact rfl); (case kF => exact rfl); (case kK => assumption); (case k1 => assumption); (case k2 => assumption); (case k3 => assumption); (case k4 => assumption); (case k5 => assumption); (case kH => assumption); (case k6 => k_is); (case k7 => k_is); (case k8 => ktr_room); (case k9 => exact BindsTo.of_eq rfl); (case c5 => decide); (case kB => exact locs rfl); (case km => exact (lookM_eq _).trans (by with_unfolding_all rfl)); (case c2 => exact rfl); (case c3 => exact rfl); (case c4 => exact rfl); k_whole; intro g' L' h' F' N' B' X' T' G' l1'; (try k_lt l1'); (try dsimp only); (try k_fold))
  k_steps
  (try dsimp only); (try k_unfold); (try dsimp only)
  (refine' retV F N hret G' ?zf ?zn ?zs ?zp; (case zf => k_asm); (case zn => k_asm); (case zs => kcf_all))
  rfl
end Mine
namespace Mine
local macro_rules | `(tactic| k_lt $h:ident) => `(tactic| (replace $h := allLt_of $h; (try simp only [AllLt] at $h:ident); (repeat (obtain ⟨_, $h:ident⟩ := $h:ident)); (try clear $h)))
local macro_rules | `(tactic| walk_at "FinE") => `(tactic| ((unfold LCg.FinE); intro D' h' tk' F' N' o1'; (have oAll9 := o1'); (try simp only [LCg.Off1] at o1'); (repeat (obtain ⟨_, o1'⟩ := o1')); (try clear o1'); (try simp only [List.nil_append, List.cons_append] at N'); (try k_sweep); (try dsimp only)))
local macro_rules | `(tactic| walk_at "FinA") => `(tactic| ((unfold LCg.FinA); intro D' h' tk' F' N' o1'; (have oAll9 := o1'); (try simp only [LCg.Off1] at o1'); (repeat (obtain ⟨_, o1'⟩ := o1')); (try clear o1'); (try simp only [List.nil_append, List.cons_append] at N'); (try k_sweep); (try dsimp only)))
local macro_rules | `(tactic| k_all) => `(tactic| first | exact List.forall_mem_nil _ | (refine List.forall_mem_cons.mpr ⟨by k_ne, ?_⟩; k_all))
local macro_rules | `(tactic| k_ne) => `(tactic| (refine neN ?_; (try dsimp only); first | assumption | (refine Ne.symm ?_; assumption) | exact Nat.ne_of_lt (by assumption) | exact Nat.ne_of_gt (by assumption) | omega))
local macro_rules | `(tactic| walk_at "call ref") => `(tactic| (k_extra "MyCall"))
local macro_rules | `(tactic| walk_at "CompSrc") => `(tactic| (k_extra "MySrc"))
local macro_rules | `(tactic| walk_at "CompSrcT") => `(tactic| (k_extra "MySrcT"))
local macro_rules | `(tactic| walk_at "exec While Compare cons nil") => `(tactic| (k_here; k_dflt (refine whl_start 100 ?_)))
local macro_rules | `(tactic| walk_at "newList") => `(tactic| (k_here; k_dflt (refine' newList_I ?zF ?zN ?zi ?_ ?zz; (case zF => k_asm); (case zN => k_asm); (case zi => (repeat' constructor)); (case zz => exact Nat.le_of_ble_eq_true rfl); (intro l' h' vs' hi' F' N' l1'); (try k_lt l1'); (try k_sweep))))
local macro_rules | `(tactic| walk_at "call builtin:len") => `(tactic| (k_here; k_dflt (refine' len_I ?zN ?zm ?zi ?zf ?_; (case zN => k_asm); (case zm => k_mem); (case zi => assumption); (case zf => first | decide | (simp only [List.length_append, List.length_map, List.length_cons, List.length_nil]; omega)); (intro t' tk'))))
local macro_rules | `(tactic| walk_at "binaryOp Add ref ref") => `(tactic| (k_here; k_dflt (refine' add_I ?zF ?zN ?zm ?zp ?zi ?zj ?zz ?_; (case zF => k_asm); (case zN => k_asm); (case zm => k_mem); (case zp => k_mem); (case zi => assumption); (case zj => assumption); (case zz => (rw [PySem.sizeLine_eq]; simp only [List.length_append, List.length_map, List.length_cons, List.length_nil]; first | done | decide | omega)); (intro l' h' vs' hi' F' N' l1'); (try k_lt l1'); (try k_sweep))))
local macro_rules | `(tactic| walk_at "eval ListComp") => `(tactic| (k_here; (with_reducible show wpAny _ _ (eval (Expr.ListComp _ [PySem.Comprehension.mk _ _ [] _] _ _) _) _ _ _); k_dflt (refine LCg.ListComp_U (F₀ := by k_asm) (by with_unfolding_all rfl) (by decide) (by rfl) (by decide) (by rfl) ?_)))
local macro_rules | `(tactic| walk_at "eval ListComp") => `(tactic| (k_here; (with_reducible show wpAny _ _ (eval (Expr.ListComp _ [PySem.Comprehension.mk _ _ [_] _] _ _) _) _ _ _); k_dflt (refine LCt.ListComp_T (F₀ := by k_asm) (by with_unfolding_all rfl) (by decide) (by rfl) (by decide) (by rfl) ?_)))
local macro_rules | `(tactic| walk_at "subscriptTail Name Slice ref ref") => `(tactic| (k_here; (with_reducible show wpAny _ _ (subscriptTail _ (PySem.Expr.Slice _ _ none _) (Value.ref _) (Value.ref _)) _ _ _); k_dflt (refine' kmk_slice_ints ?zwF ?zwN ?zwl ?zwp ?zwq ?zwi ?zwm ?zwc ?_ ?zws ?zwt ?zwz; (case zwF => k_asm); (case zwN => k_asm); (case zwl => kmk_list); (case zwp => kmk_part); (case zwq => kmk_part); (case zwi => assumption); (case zwm => first | (with_reducible refine' kmk_upto ?zi1 ?zi2; (case zi1 => assumption); (case zi2 => first | decide | exact Int.natCast_nonneg _)) | (with_reducible refine' kmk_from ?zi1 ?zi2; (case zi1 => assumption); (case zi2 => first | decide | exact Int.natCast_nonneg _))); (case zwc => kmk_len); (case zws => with_unfolding_all rfl); (case zwt => kmk_pure); (case zwz => (refine' kmk_sz (by assumption) ?_; rw [PySem.sizeLine_eq]; (try simp only [List.length_append, List.length_map, List.length_take, List.length_drop, List.length_cons, List.length_nil]); omega))); intro D' ws' h' F' N' l1 hI' hC' hL'; (try simp only [Int.reduceNeg, Int.neg_neg, Int.reduceToNat] at hI' hC' hL'); (try k_lt l1); (try k_sweep)))
local macro_rules | `(tactic| walk_at "compareOp Eq ref ref") => `(tactic| (k_here; (with_reducible show wpAny _ _ (compareOp CmpOp.Eq (Value.ref _) (Value.ref _)) _ _ _); k_dflt (refine' ke_eq_ints ?za ?zb ?zi ?zj ?zu ?_; (case za => exact News.isList (by k_asm) (by k_mem)); (case zb => exact News.isList (by k_asm) (by k_mem)); (case zi => assumption); (case zj => assumption); (case zu => first | ke_room | ktr_units))))
theorem kept_ex (lf : List Int) (d : Int) : ∃ kn : List Int, KeptIs lf d kn ∧ kn.length ≤ 32 := ⟨_, ⟨rfl⟩, keptOf_len _ _ _ _⟩
theorem left_ex (R0 R1 R2 R3 R4 : List Int) : ∃ lf, LeftIs [R0, R1, R2, R3, R4] lf ∧ lf.length = 32 ∧ (∀ x ∈ lf, 0 ≤ x ∧ x < 32) := ⟨_, ⟨rfl⟩, leftOf_len _, left_b _⟩
theorem agG_yes' {lf l : List Int} {k : Int} (h : lf.getD k.toNat 0 = 0) : agG lf l k = l ++ [k] := agG_yes (by rw [h]; rfl)
theorem agG_no' {lf l : List Int} {k : Int} (h : ¬ lf.getD k.toNat 0 = 0) : agG lf l k = l := agG_no (beq_eq_false_iff_ne.mpr h)
theorem cleanF {g h : Heap} {L : Addr} {m : Str → Option Value} (m₀ : Str → Option Value) (F : Fr g L h m) (e : m = m₀) : Fr g L h m₀ := e ▸ F
theorem m3072 (x : Int) : 0 ≤ Int.fmod x 3072 ∧ Int.fmod x 3072 < 3072 := ⟨Int.fmod_nonneg_of_pos x (by decide), Int.fmod_lt_of_pos x (by decide)⟩
theorem drawn6 (ns : List Int) : ∃ d0 d1 d2 d3 d4 d5, drawnOf ns = [d0, d1, d2, d3, d4, d5] ∧ (0 ≤ d5 ∧ d5 < 3072) := by
  match ns with
  | [] => exact ⟨_, _, _, _, _, _, rfl, m3072 _⟩
  | [a] => exact ⟨_, _, _, _, _, _, rfl, m3072 _⟩
  | [a, b] => exact ⟨_, _, _, _, _, _, rfl, m3072 _⟩
  | [a, b, c] => exact ⟨_, _, _, _, _, _, rfl, m3072 _⟩
  | [a, b, c, d] => exact ⟨_, _, _, _, _, _, rfl, m3072 _⟩
  | [a, b, c, d, e] => exact ⟨_, _, _, _, _, _, rfl, m3072 _⟩
  | a :: b :: c :: d :: e :: f :: r => exact ⟨_, _, _, _, _, _, rfl, m3072 _⟩
theorem ints5 {ys : List Value} {a b c d e : Int} (h : IntsAre ys [a, b, c, d, e]) : ∃ t0 t1 t2 t3 t4, ys = [.int a t0, .int b t1, .int c t2, .int d t3, .int e t4] := by
  cases h with
  | cons _ t0 h =>
  cases h with
  | cons _ t1 h =>
  cases h with
  | cons _ t2 h =>
  cases h with
  | cons _ t3 h =>
  cases h with
  | cons _ t4 h =>
  cases h
  exact ⟨t0, t1, t2, t3, t4, rfl⟩
theorem b64 (x : Int) : 0 ≤ 7 + Int.fmod x 48 ∧ 7 + Int.fmod x 48 < 64 := by
  have h1 := Int.fmod_nonneg_of_pos x (b := 48) (by decide)
  have h2 := Int.fmod_lt_of_pos x (b := 48) (by decide)
  omega
section
variable {w : World} {mean : ExcName → Option Value} {mg mb : Str → Option Value} {f : Addr} {vs : List Value} {n : Nat} {dp un : Nat} {gd : Option (List Code)} {cn : Str} {cs : Scope} {a : Addr} {ccd : Value} {cl : List (Str × Addr)} {outer : List Env} {A₀ : Around} {base h₀ : Heap} {L : Addr} {m : Str → Option Value} {news : List (Addr × Obj)} {s : Shared} {Q E : Value → Shared → Prop}
theorem useB {sc : Addr} {post : Obj → Prop} (c : ConB w mean mg mb f sc vs n post) (B : Below A₀ base outer h₀) (F : Fr h₀ L s.heap m) (X : (hd.heap_39 w.params).In h₀) (N : News h₀ L s.heap news) (T : topP mean mg mb h₀) (hk : cs.kind = .function) (hh : h₀.IsList sc vs.toArray) (hd : dp + n < recursionLimit) (hu : un + 8 * n < cLine)
    (ret : ∀ l o h' tk', Fr h₀ L h' m → News h₀ L h' ((l, o) :: news) → (∀ p ∈ news, p.1 ≠ l) → post o → Q (.ref l) { s with heap := h', toks := tk' }) :
    wpAny (model PySem.Challenge.rw_tp0020_01.row.prog w) (ktrTop dp un gd cn cs L a ccd cl outer) (call (.ref f) [.ref sc]) Q E s := c _ _ _ _ _ _ _ _ _ _ _ _ _ _ _ _ _ _ B F X N T hk hh hd hu ret
end
local macro_rules | `(tactic| k_mem) => `(tactic| (with_reducible ((repeat (first | exact List.mem_cons_self | refine List.mem_cons_of_mem _ ?_ | assumption)); done)))
local macro_rules | `(tactic| walk_at "eval ListComp") => `(tactic| (k_here; (with_reducible show wpAny _ _ (eval (PySem.Expr.ListComp (PySem.Expr.ListComp _ _ _ _) _ _ _) _) _ _ _); k_dflt (refine listcomp_C (F₀ := by k_asm) (by with_unfolding_all rfl) (by rfl) (by rfl) (by decide) ?_)))
local macro_rules | `(tactic| walk_at "eval Name") => `(tactic| ((with_reducible show wpAny _ _ (eval (PySem.Expr.Name _ _) (cellEnv _ _ _ _ _ _)) _ _ _); k_dflt (refine' cell_name ?zN ?zc ?zm ?zd ?_ ?zk ?zx ?zb; (case zN => k_asm); (case zc => exact rfl); (case zm => k_mem); (case zd => assumption); (case zk => exact rfl); (case zx => exact rfl); (case zb => decide))))
local macro_rules | `(tactic| walk_at "CellSrc") => `(tactic| (k_here; k_extra "MyCell"))
local macro_rules | `(tactic| walk_at "CellOut") => `(tactic| (k_dflt (refine' CellOut.mk ?cF ?cN ?cD ?cP; (case cF => assumption); (case cN => assumption); (case cD => assumption); (case cP => exact ⟨_, _, rfl, by assumption⟩))))
local macro_rules | `(tactic| walk_at "CompSrc") => `(tactic| (k_here; k_dflt (refine LCg.CompSrc.ledger (by rfl) (by k_asm) (by k_asm) (by k_mem) (by first | size_fits | (rw [List.size_toArray, PySem.sizeLine_eq]; (have hl9 := IntsAre.length (by assumption)); (simp only [List.length_append, List.length_map, List.length_take, List.length_drop, List.length_cons, List.length_nil] at hl9); omega)) ?_; intro g'; (refine' kcf_list _ (by assumption) (fun k' t' I' oI' C' oC' D' m' ys' h' tk' E' hk' hC' hx' F' N' off' ne' hMark' => ?_) ?_); (all_goals (try (have offAll9 := off'; simp only [LCg.Off3] at off'; (repeat (obtain ⟨⟨_, _, _⟩, off'⟩ := off')); (try clear off'); obtain ⟨_, _, _⟩ := ne'))); kcf_last)))
def Stop9 (pz9 : Prop) : Prop := pz9
theorem stop9 {pz9 : Prop} (h : Stop9 pz9) : pz9 := h
local macro_rules | `(tactic| walk_at "call ref") => `(tactic| (refine stop9 ?_))
local macro_rules | `(tactic| walk_at "call ref") => `(tactic| (k_extra "MyCall"))
local macro_rules | `(tactic| walk_at "compareOp NotEq ref ref") => `(tactic| (k_here; (with_reducible show wpAny _ _ (compareOp CmpOp.NotEq (Value.ref _) (Value.ref _)) _ _ _); k_dflt (refine' ne_rows ?zN ?zma ?zmb ?y0 ?y1 ?y2 ?y3 ?y4 ?p0 ?p1 ?p2 ?p3 ?p4 ?i0 ?i1 ?i2 ?i3 ?i4 ?j0 ?j1 ?j2 ?j3 ?j4 ?zu ?_; (case zN => k_asm); (case zma => k_mem); (case zmb => k_mem); (case y0 => k_mem); (case y1 => k_mem); (case y2 => k_mem); (case y3 => k_mem); (case y4 => k_mem); (case p0 => k_mem); (case p1 => k_mem); (case p2 => k_mem); (case p3 => k_mem); (case p4 => k_mem); (case i0 => assumption); (case i1 => assumption); (case i2 => assumption); (case i3 => assumption); (case i4 => assumption); (case j0 => assumption); (case j1 => assumption); (case j2 => assumption); (case j3 => assumption); (case j4 => assumption); (case zu => first | ke_room | ktr_units))))
local macro_rules | `(tactic| walk_at "CompSrcT") => `(tactic| (k_here; k_dflt (refine LCt.CompSrcT.range (by rfl) (by k_asm) (by k_asm) (by assumption) (by first | decide | rfl) (by first | rfl | decide) (by exact Nat.le_of_ble_eq_true rfl) ?_; intro g'; (first | k_extra "MyAg" | k_extra "MyOd"))))
local macro_rules | `(tactic| walk_at "subscriptTail Name Name ref int") => `(tactic| (k_here; k_dflt (refine' item_ints ?zN ?zm ?zi ?zb ?_; (case zN => k_asm); (case zm => k_mem); (case zi => assumption); (case zb => exact b32 (by with_reducible assumption) (by with_reducible assumption) (by with_reducible assumption)); intro t')))
local macro_rules | `(tactic| walk_at "binaryOp Pow int int") => `(tactic| (k_here; (with_reducible refine' pow_int_small ?kb1 ?kb2 ?kb3 ?_); (case kb1 => with_reducible assumption); (case kb2 => exact b5le (by with_reducible assumption)); (case kb3 => decide)))
local macro_rules | `(tactic| walk_at "KCiEl") => `(tactic| (k_dflt (refine' kci_el ?kce (by with_unfolding_all rfl) (by with_unfolding_all rfl)); (case kce => first | exact agG_yes (by with_reducible assumption) | exact agG_yes' (by with_reducible assumption) | exact odG_yes (by with_reducible assumption))))
local macro_rules | `(tactic| walk_at "KCiNo") => `(tactic| (k_dflt (refine' kci_no ?kce (by with_unfolding_all rfl)); (case kce => first | exact agG_no (by with_reducible assumption) | exact agG_no' (by with_reducible assumption) | exact odG_no (by with_reducible assumption))))
inductive Mark9 : Prop
  | mk : Mark9
inductive Mark8 : Prop
  | mk : Mark8
local macro_rules | `(tactic| walk_at "compareOp Gt int int") => `(tactic| ((fail_if_success (have hm9 : Mark9 := by with_reducible assumption)); (refine stop9 ?_)))
theorem eq_b {prog : Program} {w : World} {A : Around} {E : Value → Shared → Prop} {s : Shared} {a b : Addr} {xs ys : List Value} {ns ms : List Int} {Q : Value → Shared → Prop} {v : Bool} (ha : s.heap.IsList a xs.toArray) (hb : s.heap.IsList b ys.toArray) (hi : IntsAre xs ns) (hj : IntsAre ys ms) (hu : A.units + 64 < cLine) (hv : decide (ns = ms) = v) (h : Q (.bool v) s) :
    wpAny (model prog w) A (compareOp .Eq (.ref a) (.ref b)) Q E s := ke_eq_ints ha hb hi hj hu (by rw [hv]; exact h)
theorem len_b {prog : Program} {w : World} {A : Around} {E : Value → Shared → Prop} {s : Shared} {h₀ : Heap} {L l : Addr} {news : List (Addr × Obj)} {vs : List Value} {n : Nat} {ns : List Int} {c : Int} {Q : Value → Shared → Prop} (N : News h₀ L s.heap news) (hm : (l, listOf vs.toArray n) ∈ news) (hi : IntsAre vs ns) (hfit : ns.length ≤ 32) (hc : (ns.length : Int) = c) (h : ∀ t tk, Q (.int c t) { s with toks := tk }) : wpAny (model prog w) A (call (.builtin "len") [.ref l]) Q E s :=
  len_I N hm hi (Nat.lt_of_le_of_lt hfit (by decide)) (fun t tk => by rw [hc]; exact h t tk)
local macro_rules | `(tactic| walk_at "call builtin:len") => `(tactic| (k_here; k_dflt (refine' len_b ?zN ?zm ?zi ?zf ?zc ?_; (case zN => k_asm); (case zm => k_mem); (case zi => assumption); (case zf => with_reducible assumption); (case zc => with_reducible assumption); (intro t' tk'))))
local macro_rules | `(tactic| walk_at "compareOp Eq ref ref") => `(tactic| (k_here; (with_reducible show wpAny _ _ (compareOp CmpOp.Eq (Value.ref _) (Value.ref _)) _ _ _); k_dflt (refine' eq_b ?za ?zb ?zi ?zj ?zu ?zd ?_; (case za => exact News.isList (by k_asm) (by k_mem)); (case zb => exact News.isList (by k_asm) (by k_mem)); (case zi => assumption); (case zj => assumption); (case zu => first | ke_room | ktr_units); (case zd => first | exact decide_eq_true (by with_reducible assumption) | exact decide_eq_false (by with_reducible assumption)))))
local macro_rules | `(tactic| walk_at "compareOp Eq ref ref") => `(tactic| ((fail_if_success (have hm9 : Mark8 := by with_reducible assumption)); (refine stop9 ?_)))
theorem ag_ex (lf : List Int) : ∃ ag : List Int, AgIs lf ag ∧ ag.length ≤ 32 := ⟨_, ⟨rfl⟩, by
  have h := kpf_len (agG_grows lf) (rangeKs 0 32) []
  rw [rangeKs_length] at h
  simpa using h⟩
theorem od_ex (R : List (List Int)) : ∃ od : Int, OdIs R od := ⟨_, ⟨rfl⟩⟩
theorem news4 {h₀ h : Heap} {L : Addr} {a b c d e0 e1 e2 e3 e4 e5 e6 e7 e8 e9 e10 e11 e12 x : Addr × Obj} {rest : List (Addr × Obj)} (N : News h₀ L h (a :: b :: c :: d :: e0 :: e1 :: e2 :: e3 :: e4 :: e5 :: e6 :: e7 :: e8 :: e9 :: e10 :: e11 :: e12 :: x :: rest)) : News h₀ L h [b, c, d, x] := fun p hp => N p (by
  simp only [List.mem_cons, List.not_mem_nil, or_false] at hp ⊢
  rcases hp with rfl | rfl | rfl | rfl <;> simp)
set_option maxHeartbeats 2500000 in
theorem law_holds : PySem.Challenge.rw_tp0020_01.Holds := Mine.hd (by
  k_go0
  all_goals try k_fold
  rename_i w s0 s1 mg mb G Y fa o pm doc ho hg KX X V GL T B TE TW wa wb M wc wd' hcd ns hs hlay0 hL1 hr1 hl2 wA wB sc vs wC hL ra w1 r0 hI hr hc1 hc2 K0 hD h1 tk1 F0 cL cD cP dL dD dP N0 X0
  clear X0 hD G Y V GL B TE TW M hcd
  have dL1 : cL.data = .cell none := by with_unfolding_all exact dL
  have dD1 : cD.data = .cell none := by with_unfolding_all exact dD
  have dP1 : cP.data = .cell none := by with_unfolding_all exact dP
  have F1 := cleanF (fun y => if y = Str.ofString "script" then some (.ref sc) else none) F0 (by with_unfolding_all rfl)
  clear dL dD dP F0
  have hend : ∀ h' tk' m', Fr s1.heap s1.heap.objs.size h' m' → qk (.ret (.bool true)) { s1 with heap := h', toks := tk' } := fun h' tk' m' F => by wrow_close
  clear_value qk
  have hlen : ns.length ≤ 63 := by omega
  obtain ⟨d0, d1, d2, d3, d4, d5, hds, hd5⟩ := drawn6 ns
  k_with_none
  k_with "MyCall" => (first
    | ((with_reducible show wpAny _ _ (call (Value.ref 89) _) _ _ _); (k_dflt (refine' useB (drawn_con w (ExcName.means s0.heap) mg mb sc vs ns hI hlen) ?k1 ?k2 ?k3 ?k4 ?k5 ?kK ?kH ?k8 ?k9 ?_; (case k1 => assumption); (case k2 => k_asm); (case k3 => k_asm); (case k4 => k_asm); (case k5 => k_asm); (case kK => first | exact rfl | assumption); (case kH => exact hL); (case k8 => ktr_room); (case k9 => ktr_units); (intro lD oD h9 tk9 F9 N9 d9 hp9); (obtain ⟨vsD, nD, rfl, hiD⟩ := hp9); (rw [hds] at hiD); (replace d9 := off_of d9); (try simp only [LCg.Off1] at d9); (repeat (obtain ⟨_, d9⟩ := d9)); (try clear d9); (try k_sweep); (try dsimp only); (try k_fold))))
    | ((with_reducible show wpAny _ _ (call (Value.ref 94) _) _ _ _); (k_dflt (refine' useO (words_con w (ExcName.means s0.heap) mg mb lD vsD nD [d0, d1, d2, d3, d4, d5] hiD rfl) ?k1 ?k2 ?k3 ?k4 ?k5 ?kK ?kH ?k8 ?k9 ?_; (case k1 => assumption); (case k2 => k_asm); (case k3 => k_asm); (case k4 => k_asm); (case k5 => k_asm); (case kK => first | exact rfl | assumption); (case kH => kcf_all); (case k8 => ktr_room); (case k9 => ktr_units); (intro lW oW h9 tk9 F9 N9 d9 hp9); (obtain ⟨vsW, nW, rfl, hiW⟩ := hp9); (obtain ⟨tw0, tw1, tw2, tw3, tw4, rfl⟩ := ints5 (a := 7 + Int.fmod d0 48) (b := 7 + Int.fmod d1 48) (c := 7 + Int.fmod d2 48) (d := 7 + Int.fmod d3 48) (e := 7 + Int.fmod d4 48) hiW); (replace d9 := off_of d9); (try simp only [LCg.Off1] at d9); (repeat (obtain ⟨_, d9⟩ := d9)); (try clear d9); (try k_sweep); (try dsimp only); (try k_fold))))
    | ((with_reducible show wpAny _ _ (call (Value.ref 104) _) _ _ _); (k_dflt (refine' useN (quarrels_con w (ExcName.means s0.heap) mg mb lW nW _ _ _ _ _ tw0 tw1 tw2 tw3 tw4 (b64 d0) (b64 d1) (b64 d2) (b64 d3) (b64 d4)) ?k1 ?k2 ?k3 ?k4 ?k5 ?kK ?kH ?k8 ?k9 ?_; (case k1 => assumption); (case k2 => k_asm); (case k3 => k_asm); (case k4 => k_asm); (case k5 => k_asm); (case kK => first | exact rfl | assumption); (case kH => kcf_all); (case k8 => ktr_room); (case k9 => ktr_units); (intro rR nwR h9 tk9 F9 N9 d9 hp9); (obtain ⟨lR, BR, VR, nnR, nR, rfl, rfl, hVR⟩ := hp9); (have dd0 := off_of (d9 _ List.mem_cons_self)); (have dd1 := off_of (d9 _ (List.mem_cons_of_mem _ (rowsL_at (k := 0) (by decide))))); (have dd2 := off_of (d9 _ (List.mem_cons_of_mem _ (rowsL_at (k := 1) (by decide))))); (have dd3 := off_of (d9 _ (List.mem_cons_of_mem _ (rowsL_at (k := 2) (by decide))))); (have dd4 := off_of (d9 _ (List.mem_cons_of_mem _ (rowsL_at (k := 3) (by decide))))); (have dd5 := off_of (d9 _ (List.mem_cons_of_mem _ (rowsL_at (k := 4) (by decide))))); (clear d9); (try simp only [LCg.Off1] at dd0); (repeat (obtain ⟨_, dd0⟩ := dd0)); (try clear dd0); (try simp only [LCg.Off1] at dd1); (repeat (obtain ⟨_, dd1⟩ := dd1)); (try clear dd1); (try simp only [LCg.Off1] at dd2); (repeat (obtain ⟨_, dd2⟩ := dd2)); (try clear dd2); (try simp only [LCg.Off1] at dd3); (repeat (obtain ⟨_, dd3⟩ := dd3)); (try clear dd3); (try simp only [LCg.Off1] at dd4); (repeat (obtain ⟨_, dd4⟩ := dd4)); (try clear dd4); (try simp only [LCg.Off1] at dd5); (repeat (obtain ⟨_, dd5⟩ := dd5)); (try clear dd5); (have i0 := hVR 0 (by decide)); (have i1 := hVR 1 (by decide)); (have i2 := hVR 2 (by decide)); (have i3 := hVR 3 (by decide)); (have i4 := hVR 4 (by decide)); (clear hVR); (rw [MM_full _ (by decide)] at i0 i1 i2 i3 i4); (unfold rowsL at N9); (generalize BR 0 = b0 at *); (generalize BR 1 = b1 at *); (generalize BR 2 = b2 at *); (generalize BR 3 = b3 at *); (generalize BR 4 = b4 at *); (generalize VR 0 = v0 at *); (generalize VR 1 = v1 at *); (generalize VR 2 = v2 at *); (generalize VR 3 = v3 at *); (generalize VR 4 = v4 at *); (generalize nnR 0 = n0 at *); (generalize nnR 1 = n1 at *); (generalize nnR 2 = n2 at *); (generalize nnR 3 = n3 at *); (generalize nnR 4 = n4 at *); (simp only [List.cons_append, List.nil_append] at N9); (try k_sweep); (try dsimp only); (try k_fold))))
    | ((with_reducible show wpAny _ _ (call (Value.ref 116) _) _ _ _); (k_dflt (refine' useV (qdue_con w (ExcName.means s0.heap) mg mb _ _ _ _ ?hv9 ?hx9) ?k1 ?k2 ?k3 ?k4 ?k5 ?kK ?kH ?k8 ?k9 ?_; (case hv9 => assumption); (case hx9 => exact hpl _ (by assumption)); (case k1 => assumption); (case k2 => k_asm); (case k3 => k_asm); (case k4 => k_asm); (case k5 => k_asm); (case kK => first | exact rfl | assumption); (case kH => kcf_all); (case k8 => ktr_room); (case k9 => ktr_units); (intro r9 h9 tk9 F9 N9 hp9); (obtain ⟨tq9, rfl⟩ := hp9); (try k_sweep); (try dsimp only); (try k_fold))))
    | ((with_reducible show wpAny _ _ (call (Value.ref 121) _) _ _ _); (k_dflt (refine' useO (left_con w (ExcName.means s0.heap) mg mb lR b0 b1 b2 b3 b4 n0 n1 n2 n3 n4 nR v0 v1 v2 v3 v4 R0 R1 R2 R3 R4 i0 i1 i2 i3 i4 x0 x1 x2 x3 x4) ?k1 ?k2 ?k3 ?k4 ?k5 ?kK ?kH ?k8 ?k9 ?_; (case k1 => assumption); (case k2 => k_asm); (case k3 => k_asm); (case k4 => k_asm); (case k5 => k_asm); (case kK => first | exact rfl | assumption); (case kH => kcf_all); (case k8 => ktr_room); (case k9 => ktr_units); (intro lL oL9 h9 tk9 F9 N9 d9 hp9); (obtain ⟨vsL, nL, rfl, hiL⟩ := hp9); (obtain ⟨lf, hlf, hl32, hlfb⟩ := left_ex R0 R1 R2 R3 R4); (rw [hlf.e] at hiL); (replace d9 := off_of d9); (try simp only [LCg.Off1] at d9); (repeat (obtain ⟨_, d9⟩ := d9)); (try clear d9); (try k_sweep); (try dsimp only); (try k_fold))))
    | ((with_reducible show wpAny _ _ (call (Value.ref 84) _) _ _ _); (k_dflt (refine' useV (iseof_con w (ExcName.means s0.heap) mg mb _ _) ?k1 ?k2 ?k3 ?k4 ?k5 ?kK ?kH ?k8 ?k9 ?_; (case k1 => assumption); (case k2 => k_asm); (case k3 => k_asm); (case k4 => k_asm); (case k5 => k_asm); (case kK => first | exact rfl | assumption); (case kH => kcf_all); (case k8 => ktr_room); (case k9 => ktr_units); (intro r9 h9 tk9 F9 N9 hp9); (subst hp9); (try k_sweep); (try dsimp only); (try k_fold))))
    | ((with_reducible show wpAny _ _ (call (Value.ref 133) _) _ _ _); (k_dflt (refine' useO (kept_con w (ExcName.means s0.heap) mg mb lL vsL nL lf _ _ _ _ hiL hl32 hlfb) ?k1 ?k2 ?k3 ?k4 ?k5 ?kK ?kH ?k8 ?k9 ?_; (case k1 => assumption); (case k2 => k_asm); (case k3 => k_asm); (case k4 => k_asm); (case k5 => k_asm); (case kK => first | exact rfl | assumption); (case kH => kcf_all); (case k8 => ktr_room); (case k9 => ktr_units); (intro lK oK9 h9 tk9 F9 N9 d9 hp9); (obtain ⟨vsK, nK, rfl, hiK⟩ := hp9); (rw [show List.getD [d0, d1, d2, d3, d4, d5] (Int.toNat 5) 0 = d5 from rfl] at hiK); (obtain ⟨kn, hkn, hkl⟩ := kept_ex lf d5); (rw [hkn.e] at hiK); (replace d9 := off_of d9); (try simp only [LCg.Off1] at d9); (repeat (obtain ⟨_, d9⟩ := d9)); (try clear d9); (try k_sweep); (try dsimp only); (try k_fold))))
    | ((with_reducible show wpAny _ _ (call (Value.ref 138) _) _ _ _); (k_dflt (refine' useV (paired_con w (ExcName.means s0.heap) mg mb lU l0 l1 l2 l3 l4 z0 z1 z2 z3 z4 5 u0 u1 u2 u3 u4 R0 R1 R2 R3 R4 _ _ iu0 iu1 iu2 iu3 iu4 x0 x1 x2 x3 x4 ?hv9 h01) ?k1 ?k2 ?k3 ?k4 ?k5 ?kK ?kH ?k8 ?k9 ?_; (case hv9 => exact b5 (by with_reducible assumption) (by with_reducible assumption)); (case k1 => assumption); (case k2 => k_asm); (case k3 => k_asm); (case k4 => k_asm); (case k5 => k_asm); (case kK => first | exact rfl | assumption); (case kH => kcf_all); (case k8 => ktr_room); (case k9 => ktr_units); (intro r9 h9 tk9 F9 N9 hp9); (obtain ⟨tq9, rfl⟩ := hp9); (try k_sweep); (try dsimp only); (try k_fold)))))
  k_with "MyAg" => ((with_reducible show LCt.CompRestT _ _ _ _ _ _ _ _ (PySem.Expr.Name _ _) _ _ _ _ _ _ _ _ _ _ _); (refine' kci_range (agG lf) (fun kA tA IA oIA CA oCA DA mA ysA lA hA tkA EA hloA hhiA hIA hCA hxA FA NA offA neA hMarkA => ?_) ?_ (agG_grows lf)); (all_goals (try (simp only [LCg.Off3] at offA; (repeat (obtain ⟨⟨_, _, _⟩, offA⟩ := offA)); (try clear offA); obtain ⟨_, _, _⟩ := neA))); kcf_last)
  k_with "MyOd" => ((refine' kci_range (odG (fun k => [R0, R1, R2, R3, R4].getD k [])) (fun kA tA IA oIA CA oCA DA mA ysA lA hA tkA EA hloA hhiA hIA hCA hxA FA NA offA neA hMarkA => ?_) ?_ (odG_grows _)); (all_goals (try (simp only [LCg.Off3] at offA; (repeat (obtain ⟨⟨_, _, _⟩, offA⟩ := offA)); (try clear offA); obtain ⟨_, _, _⟩ := neA))); kcf_last)
  k_with "MyCell" => ((obtain ⟨tp0, tp1, tp2, tp3, tp4, rfl⟩ := ints5 (a := 7 + Int.fmod d0 48) (b := 7 + Int.fmod d1 48) (c := 7 + Int.fmod d2 48) (d := 7 + Int.fmod d3 48) (e := 7 + Int.fmod d4 48) (by assumption)); (k_dflt (refine' CellSrc.mk (fun k o => ∃ vs n, o = listOf vs.toArray n ∧ IntsAre vs [qdue k (7 + Int.fmod d0 48), qdue k (7 + Int.fmod d1 48), qdue k (7 + Int.fmod d2 48), qdue k (7 + Int.fmod d3 48), qdue k (7 + Int.fmod d4 48)]) rfl ?kF9 ?kN9 ?km9 (b64 _) (b64 _) (b64 _) (b64 _) (b64 _) ?kt9 ?kf9; (case kF9 => k_asm); (case kN9 => k_asm); (case km9 => k_mem))); (focus ((repeat (rename @Ne Nat _ _ => hx9; clear hx9)); (repeat (rename @LT.lt Nat _ _ _ => hx9; clear hx9)); (repeat (rename LCg.Off1 _ _ => hx9; clear hx9)); intro g9; unfold CellTurn; intro kv tv I' oI' C' oC' K' oK' D' ys' nw' h' tk' E' hk' hoK' F' N' o1 o2 o3 o4 ne1 ne2 ne3 ne4 ne5 ne6 sub'; (have mA := sub' _ List.mem_cons_self); (have mP := sub' (s1.heap.objs.size + 1, _) (by repeat (first | exact List.mem_cons_self | refine List.mem_cons_of_mem _ ?_))); clear sub'; dsimp only)); rotate_left; (focus (intro l0 o0 l1 o1 l2 o2 l3 o3 l4 o4 lU hpU tkU p0 p1 p2 p3 p4 e0 e1 e2 e3 e4 eU FU NU; (obtain ⟨u0, z0, rfl, iu0⟩ := p0); (obtain ⟨u1, z1, rfl, iu1⟩ := p1); (obtain ⟨u2, z2, rfl, iu2⟩ := p2); (obtain ⟨u3, z3, rfl, iu3⟩ := p3); (obtain ⟨u4, z4, rfl, iu4⟩ := p4); (replace e0 := off_of e0); (try simp only [LCg.Off1] at e0); (repeat (obtain ⟨_, e0⟩ := e0)); (try clear e0); (replace e1 := off_of e1); (try simp only [LCg.Off1] at e1); (repeat (obtain ⟨_, e1⟩ := e1)); (try clear e1); (replace e2 := off_of e2); (try simp only [LCg.Off1] at e2); (repeat (obtain ⟨_, e2⟩ := e2)); (try clear e2); (replace e3 := off_of e3); (try simp only [LCg.Off1] at e3); (repeat (obtain ⟨_, e3⟩ := e3)); (try clear e3); (replace e4 := off_of e4); (try simp only [LCg.Off1] at e4); (repeat (obtain ⟨_, e4⟩ := e4)); (try clear e4); (replace eU := off_of eU); (try simp only [LCg.Off1] at eU); (repeat (obtain ⟨_, eU⟩ := eU)); (try clear eU); (have NV : News _ _ hpU [(lU, listOf ([.ref l0, .ref l1, .ref l2, .ref l3, .ref l4] : List Value).toArray 5), (l4, listOf u4.toArray z4), (l3, listOf u3.toArray z3), (l2, listOf u2.toArray z2), (l1, listOf u1.toArray z1), (l0, listOf u0.toArray z0), (lR, listOf ([.ref b0, .ref b1, .ref b2, .ref b3, .ref b4] : List Value).toArray nR), (b4, listOf v4.toArray n4), (b3, listOf v3.toArray n3), (b2, listOf v2.toArray n2), (b1, listOf v1.toArray n1), (b0, listOf v0.toArray n0), (lD, listOf vsD.toArray nD), (s1.heap.objs.size + 1 + 1 + 1, cL), (s1.heap.objs.size + 1 + 1, cD)] := fun p hp => NU p (by revert p; (repeat' (first | exact List.forall_mem_nil _ | refine List.forall_mem_cons.mpr ⟨?_, ?_⟩ | exact List.mem_cons_self | refine List.mem_cons_of_mem _ ?_)))); (have oD : ∀ p ∈ [(lU, listOf ([.ref l0, .ref l1, .ref l2, .ref l3, .ref l4] : List Value).toArray 5), (l4, listOf u4.toArray z4), (l3, listOf u3.toArray z3), (l2, listOf u2.toArray z2), (l1, listOf u1.toArray z1), (l0, listOf u0.toArray z0), (lR, listOf ([.ref b0, .ref b1, .ref b2, .ref b3, .ref b4] : List Value).toArray nR), (b4, listOf v4.toArray n4), (b3, listOf v3.toArray n3), (b2, listOf v2.toArray n2), (b1, listOf v1.toArray n1), (b0, listOf v0.toArray n0), (lD, listOf vsD.toArray nD)], p.1 ≠ s1.heap.objs.size + 1 + 1 := by k_all); (have oL : ∀ p ∈ [(lU, listOf ([.ref l0, .ref l1, .ref l2, .ref l3, .ref l4] : List Value).toArray 5), (l4, listOf u4.toArray z4), (l3, listOf u3.toArray z3), (l2, listOf u2.toArray z2), (l1, listOf u1.toArray z1), (l0, listOf u0.toArray z0), (lR, listOf ([.ref b0, .ref b1, .ref b2, .ref b3, .ref b4] : List Value).toArray nR), (b4, listOf v4.toArray n4), (b3, listOf v3.toArray n3), (b2, listOf v2.toArray n2), (b1, listOf v1.toArray n1), (b0, listOf v0.toArray n0), (lD, listOf vsD.toArray nD)], p.1 ≠ s1.heap.objs.size + 1 + 1 + 1 := by k_all); (clear NU); (repeat (rename @Ne Nat _ _ => hx9; clear hx9)); (repeat (rename @LT.lt Nat _ _ _ => hx9; clear hx9)); (repeat (rename LCg.Off1 _ _ => hx9; clear hx9)); (have oN : @Ne Nat (s1.heap.objs.size + 1 + 1) (s1.heap.objs.size + 1 + 1 + 1) := by omega); (replace oD := off_of oD); (simp only [LCg.Off1] at oD); (repeat (obtain ⟨_, oD⟩ := oD)); (try clear oD); (replace oL := off_of oL); (simp only [LCg.Off1] at oL); (repeat (obtain ⟨_, oL⟩ := oL)); (try clear oL); (obtain ⟨R0, R1, R2, R3, R4, q0, q1, q2, q3, q4, x0, x1, x2, x3, x4, h01, hG⟩ := rowsG (7 + Int.fmod d0 48) (7 + Int.fmod d1 48) (7 + Int.fmod d2 48) (7 + Int.fmod d3 48) (7 + Int.fmod d4 48)); (replace i0 : IntsAre v0 R0 := by rw [← q0]; exact i0); (replace i1 : IntsAre v1 R1 := by rw [← q1]; exact i1); (replace i2 : IntsAre v2 R2 := by rw [← q2]; exact i2); (replace i3 : IntsAre v3 R3 := by rw [← q3]; exact i3); (replace i4 : IntsAre v4 R4 := by rw [← q4]; exact i4); (rw [q0] at iu0); (rw [q1] at iu1); (rw [q2] at iu2); (rw [q3] at iu3); (rw [q4] at iu4); (clear q0 q1 q2 q3 q4); (try dsimp only); (clear hiW); (try k_sweep))))
  have hpl : ∀ x ∈ [7 + Int.fmod d0 48, 7 + Int.fmod d1 48, 7 + Int.fmod d2 48, 7 + Int.fmod d3 48, 7 + Int.fmod d4 48], 0 ≤ x ∧ x < 64 := by
    intro x hx
    simp only [List.mem_cons, List.not_mem_nil, or_false] at hx
    rcases hx with rfl | rfl | rfl | rfl | rfl <;> exact b64 _
  k_steps
  rename News _ _ _ _ => NZ
  replace NZ := news4 NZ
  (repeat (rename @Ne Nat _ _ => hx9; clear hx9)); (repeat (rename @LT.lt Nat _ _ _ => hx9; clear hx9)); (repeat (rename LCg.Off1 _ _ => hx9; clear hx9))
  rename IntsAre _ (List.foldl (odG _) [] _) => hOd
  clear hOd
  rename IntsAre _ (List.foldl (agG lf) [] _) => hAg
  obtain ⟨ag, hag, hagl⟩ := ag_ex lf
  rename List.length _ = List.length (List.foldl (odG _) [] _) => hx9; clear hx9
  rename List.length _ = List.length (List.foldl (agG lf) [] _) => hx9; clear hx9
  replace hAg : IntsAre _ ((rangeKs 0 32).foldl (agG lf) []) := hAg
  rw [hag.e] at hAg
  obtain ⟨od, hod⟩ := od_ex [R0, R1, R2, R3, R4]
  have hod' : (List.foldl (odG fun k => [R0, R1, R2, R3, R4].getD k []) [] (rangeKs 0 ((5 + 0 - Nat.succ 0) / 1 + 1))).sum = od := hod.e
  rename Fr _ _ _ _ => FZ
  rw [hod'] at FZ
  rw [hod']
  (try clear hx9); clear hI hr hc1 x0 x1 x2 x3 x4 hlfb
  clear hod' i0 i1 i2 i3 i4 iu0 iu1 iu2 iu3 iu4 h01
  have mk9 : Mark9 := .mk
  unfold Stop9
  obtain ⟨m1, m2, m3⟩ := law_math hG hlf hag hkn hod hd5
  clear hG hlf hag hkn hod hds hd5
  k_steps
  · obtain ⟨e1, e2⟩ := m1 (by assumption)
    clear m1 m2 m3
    unfold Stop9
    have mk8 : Mark8 := .mk
    k_steps
    exact hend _ _ _ (by k_asm)
  · by_cases e1 : lf = (List.replicate (Int.toNat 32) [0]).flatten
    · obtain ⟨e2, e3⟩ := m2 (by assumption) e1
      clear m1 m2 m3
      unfold Stop9
      have mk8 : Mark8 := .mk
      k_steps
      exact hend _ _ _ (by k_asm)
    · obtain ⟨e2, e3⟩ := m3 (by assumption) e1
      clear m1 m2 m3
      unfold Stop9
      have mk8 : Mark8 := .mk
      k_steps
      exact hend _ _ _ (by k_asm))

end Mine
theorem PySem.Challenge.cw_tp0020_01_holds : PySem.Challenge.rw_tp0020_01.Holds := by
  exact Mine.law_holds
