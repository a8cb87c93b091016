import PyProof.Rows.All
import Wide.All
import OpenK.AllK
import Wide.FinOn
import Wide.Txt2
import Lean
import PySem.Challenge.RW_xg0064_01
open PySem PySem.W PyProof.Rows
set_option Elab.async false
set_option compiler.extract_closed false
set_option maxRecDepth 100000
set_option maxHeartbeats 8000000
set_option rowWalk.seconds 0
set_option pp.deepTerms false
set_option pp.proofs false
open_top Mine.hd for PySem.Challenge.rw_xg0064_01
namespace Mine

section
section
variable {prog : Program} {w : World} {A A₀ : Around} {s : Shared} {K : Frag} {L : Addr} {h₀ base : Heap} {m mg mb : Str → Option Value} {news tabs : List (Addr × Obj)} {p : Program} {loose : List Str} {mean : ExcName → Option Value}

/-- what a call kept of the objects that it was not handed -/
noncomputable def Kept (news tabs : List (Addr × Obj)) (h : Heap) : Prop := ∀ q ∈ news, (∀ t ∈ tabs, t.1 ≠ q.1) → h.get? q.1 = some q.2

theorem enter_keep {env : Env} {outer : List Env} {R : Result → Shared → Prop} {name qual : Str} {params : Arguments} {body : List Stmt} {scope : Scope} {dV kV doc pm cdv ct oc : Value} {an od : Option Addr} {osl : Array (Option Value)} {f : Addr} {args : Args} {binds : List (Str × Value)}
    (B : Below A₀ base outer h₀) (F : Fr h₀ L s.heap m) (X₀ : K.In h₀) (N : News h₀ L s.heap news) (T : Top p loose mean mg mb h₀) (tabs : List (Addr × Obj)) (hsub : ∀ q ∈ tabs, q ∈ news)
    (hA : A.frames = some (env :: outer)) (hf : env.frame = some L) (hke : env.scope.kind = .function)
    (ho : K.lookup f = some ⟨oc, od, .func (fnOf name qual params body scope dV kV doc pm an cdv ct), osl⟩) (hcd : codeIn K cdv qual = true) (hroom : A.depth < recursionLimit)
    (hbind : BindsTo s (fnOf name qual params body scope dV kV doc pm an cdv ct) args binds) (hloc : ∀ y ∈ binds, scope.names.lookup y.1 = some .local)
    (h : ∀ g L' h₁, Fr h₀ L g m → Fr g L' h₁ (fun y => binds.reverse.lookup y) → News g L' h₁ tabs → Below A base (env :: outer) g → K.In g → Top p loose mean mg mb g → (∀ q ∈ tabs, q.1 < L') → (∀ q ∈ news, (∀ t ∈ tabs, t.1 ≠ q.1) → g.get? q.1 = some q.2) →
      wpAny (model prog w) (A.deeper (envOf qual scope L' f cdv)) (execs body (envOf qual scope L' f cdv))
        (fun fl s' => LeaveK h₀ L m g (fun r s'' => Kept news tabs s''.heap → R r s'') (match fl with | .ret v => v | _ => .none) s')
        (fun e s' => wpAny (model prog w) (A.deeper (envOf qual scope L' f cdv)) (leaving (envOf qual scope L' f cdv) e) (fun _ s'' => R (.error e) s'') (fun e' s'' => R (.error e') s'') s')
        { s with heap := h₁, toks := s.toks + binds.length })
    (hco : scope.isCoroutine = false) (hgen : scope.isGenerator = false) (hk : scope.kind = .function)
    (hcell : ∀ x ∈ scope.names, x.2 ≠ .cell) : codeAny (model prog w) A (.call (.ref f) args) R s := by
  have Nt : News h₀ L s.heap tabs := fun q hq => N q (hsub q hq)
  have keep₀ : ∀ q ∈ news, (∀ t ∈ tabs, t.1 ≠ q.1) → (hideAll s.heap (tabs.map (·.1))).get? q.1 = some q.2 := fun q hq hne => hideAll_get _ (N q hq).1 fun hm => by
    obtain ⟨t, ht, e⟩ := List.mem_map.mp hm
    exact hne t ht e
  have hlim : h₀.NoLimit := T.nolimit
  obtain ⟨FG, BG, st, lv⟩ := groundX (R := R) B F Nt hA hf hke
  refine codeAny_call_def (fd := fnX name qual params body scope [] dV kV doc pm an cdv ct) (body := body) (binds := binds) hroom ((X₀.keeps F.keep) _ _ ho) rfl (hlim.keeps F.keep) (codeRec_of (X₀.keeps F.keep) hcd) rfl hbind hcell hloc (fun h₁ hns hk₁ => ?_) hco hgen hk
  refine wpAny_mono (h _ s.heap.objs.size h₁ FG ⟨hns, fun b o e => hk₁ b o (of_hideAll _ e), Nat.le_of_eq (hideAll_size _ _)⟩
    (fun q hq => ⟨hk₁ _ _ (Nt q hq).1, Nat.ne_of_lt (Heap.lt_size (Nt q hq).1), hideAll_none _ (List.mem_map_of_mem hq)⟩) BG (X₀.keeps st) (T.keeps st) (fun q hq => Heap.lt_size (Nt q hq).1) keep₀) (fun fl s' hl => ?_) fun _ _ y => y
  refine lv _ _ ?_
  obtain ⟨L₂, m₂, news₂, F₂, N₂, k⟩ := hl
  refine ⟨L₂, m₂, news₂, F₂, N₂, fun a b => k a b fun q hq hne => ?_⟩
  exact F₂.keep _ _ (keep₀ q hq hne)

/-- the ledger after a call: what the call hands back, and what it kept -/
theorem news_after {h' : Heap} {news' : List (Addr × Obj)} (N : News h₀ L s.heap news) (N' : News h₀ L h' news') (k : Kept news tabs h') :
    ∀ out : List (Addr × Obj), (∀ q ∈ out, q ∈ news' ∨ (q ∈ news ∧ ∀ t ∈ tabs, t.1 ≠ q.1)) → News h₀ L h' out := fun out ho q hq => by
  rcases ho q hq with h | ⟨h, hn⟩
  · exact N' q h
  · exact ⟨k q h hn, (N q h).2⟩

theorem news_after0 {h' : Heap} {news' : List (Addr × Obj)} (N : News h₀ L s.heap news) (N' : News h₀ L h' news') (k : Kept news [] h') : News h₀ L h' (news' ++ news) :=
  news_after N N' k _ fun q hq => (List.mem_append.mp hq).imp id fun h => ⟨h, fun _ ht => nomatch ht⟩
end
section
variable {prog : Program} {w : World} {A A₀ : Around} {s : Shared} {K : Frag} {L : Addr} {h₀ base : Heap} {m mg mb : Str → Option Value} {news tabs : List (Addr × Obj)} {p : Program} {loose : List Str} {mean : ExcName → Option Value}

theorem enter_keepC {env : Env} {outer : List Env} {R : Result → Shared → Prop} {name qual : Str} {params : Arguments} {body : List Stmt} {scope : Scope} {dV kV doc pm cdv ct oc : Value} {an od : Option Addr} {osl : Array (Option Value)} {f : Addr} {args : Args} {binds : List (Str × Value)}
    (B : Below A₀ base outer h₀) (F : Fr h₀ L s.heap m) (X₀ : K.In h₀) (N : News h₀ L s.heap news) (T : Top p loose mean mg mb h₀) (tabs : List (Addr × Obj)) (hsub : ∀ q ∈ tabs, q ∈ news)
    (hA : A.frames = some (env :: outer)) (hf : env.frame = some L) (hke : env.scope.kind = .function)
    (ho : K.lookup f = some ⟨oc, od, .func (fnOf name qual params body scope dV kV doc pm an cdv ct), osl⟩) (hcd : codeIn K cdv qual = true) (hroom : A.depth < recursionLimit)
    (hbind : BindsTo s (fnOf name qual params body scope dV kV doc pm an cdv ct) args binds) (hkind : (binds.all fun y => scope.names.lookup y.1 == some .local || scope.names.lookup y.1 == some .cell) = true)
    (hnd : ((cellsFrom 0 scope.names []).map (·.1)).Nodup)
    (h : ∀ g L' h₁ tk cells, Fr h₀ L g m → Fr g L' h₁ (bindL (envOfC qual scope L' f cdv).kindOf binds fun _ => none) → News g L' h₁ (cells ++ tabs) →
      CellsAre (bindC (envOfC qual scope L' f cdv).kindOf binds fun _ => none) (cellsFrom (L' + 1) scope.names []) cells → Below A base (env :: outer) g → K.In g → Top p loose mean mg mb g → (∀ q ∈ tabs, q.1 < L') → (∀ q ∈ news, (∀ t ∈ tabs, t.1 ≠ q.1) → g.get? q.1 = some q.2) →
      wpAny (model prog w) (A.deeper (envOfC qual scope L' f cdv)) (execs body (envOfC qual scope L' f cdv))
        (fun fl s' => LeaveK h₀ L m g (fun r s'' => Kept news tabs s''.heap → R r s'') (match fl with | .ret v => v | _ => .none) s')
        (fun e s' => wpAny (model prog w) (A.deeper (envOfC qual scope L' f cdv)) (leaving (envOfC qual scope L' f cdv) e) (fun _ s'' => R (.error e) s'') (fun e' s'' => R (.error e') s'') s')
        { s with heap := h₁, toks := tk })
    (hco : scope.isCoroutine = false) (hgen : scope.isGenerator = false) (hk : scope.kind = .function) : codeAny (model prog w) A (.call (.ref f) args) R s := by
  have Nt : News h₀ L s.heap tabs := fun q hq => N q (hsub q hq)
  have keep₀ : ∀ q ∈ news, (∀ t ∈ tabs, t.1 ≠ q.1) → (hideAll s.heap (tabs.map (·.1))).get? q.1 = some q.2 := fun q hq hne => hideAll_get _ (N q hq).1 fun hm => by
    obtain ⟨t, ht, e⟩ := List.mem_map.mp hm
    exact hne t ht e
  have hlim : h₀.NoLimit := T.nolimit
  obtain ⟨FG, BG, st, lv⟩ := groundX (R := R) B F Nt hA hf hke
  refine codeAny_call_function (fd := fnX name qual params body scope [] dV kV doc pm an cdv ct) (body := body) hroom ((X₀.keeps F.keep) _ _ ho) rfl hco hgen rfl (codeRec_of (X₀.keeps F.keep) hcd) (hbind _ _ _ _ ?_)
  refine wpAny_newFunctionEnv_cells hk (kindsX hkind _) fun env' he s' x => ?_
  subst he
  refine ⟨(hlim.keeps F.keep).keeps x.toInCall.keep, codeAny_func ?_⟩
  obtain ⟨h₁, tk, rfl, _⟩ := x.done
  have hk₁ := x.toInCall.keep
  obtain ⟨cells, NC, Y⟩ := Cl.news (h₀ := s.heap) (Nat.le_refl _) fun n c hm => ⟨x.cell n c (lookup_of_mem_nodup (cellsFrom_names scope.names 0 (s.heap.objs.size + 1) [] [] rfl ▸ hnd) hm), x.above n c hm⟩
  refine wpAny_mono (h _ s.heap.objs.size h₁ tk cells FG ⟨x.toInCall.ns, fun b o e => hk₁ b o (of_hideAll _ e), Nat.le_of_eq (hideAll_size _ _)⟩ (fun q hq => ?_) Y BG (X₀.keeps st) (T.keeps st) (fun q hq => Heap.lt_size (Nt q hq).1) keep₀) (fun fl s' hl => ?_) fun _ _ y => y
  · rcases List.mem_append.mp hq with hq | hq
    · refine ⟨(NC q hq).1, (NC q hq).2.1, ?_⟩
      cases e : (hideAll s.heap (tabs.map (·.1))).get? q.1 with
      | none => rfl
      | some o => have := of_hideAll _ e; rw [(NC q hq).2.2] at this; cases this
    · exact ⟨hk₁ _ _ (Nt q hq).1, Nat.ne_of_lt (Heap.lt_size (Nt q hq).1), hideAll_none _ (List.mem_map_of_mem hq)⟩
  · refine lv _ _ ?_
    obtain ⟨L₂, m₂, news₂, F₂, N₂, k⟩ := hl
    refine ⟨L₂, m₂, news₂, F₂, N₂, fun a b => k a b fun q hq hne => ?_⟩
    exact F₂.keep _ _ (keep₀ q hq hne)
end
theorem news_back {s : Shared} {h₀ h' : Heap} {L : Addr} {news tabs news' : List (Addr × Obj)} (N : News h₀ L s.heap news) (hsub : ∀ t ∈ tabs, t ∈ news) (N' : News h₀ L h' news') (hs : ∀ t ∈ tabs, t ∈ news') (k : Kept news tabs h') : News h₀ L h' (news' ++ news) := fun q hq => by
  rcases List.mem_append.mp hq with hq | hq
  · exact N' q hq
  · by_cases e : ∃ t ∈ tabs, t.1 = q.1
    · obtain ⟨t, ht, e⟩ := e
      have h1 := (N t (hsub t ht)).1
      have h2 := (N q hq).1
      rw [e, h2] at h1
      have e2 : t = q := Prod.ext e (Option.some.inj h1).symm
      exact N' q (e2 ▸ hs t ht)
    · exact ⟨k q hq fun t ht e' => e ⟨t, ht, e'⟩, (N q hq).2⟩
theorem news_sub {h₀ h : Heap} {L : Addr} {news news' : List (Addr × Obj)} (N : News h₀ L h news') (hs : ∀ q ∈ news, q ∈ news') : News h₀ L h news := fun q hq => N q (hs q hq)
theorem fresh_of {g h' : Heap} {L' d : Addr} {o : Obj} {news tabs news' : List (Addr × Obj)} (N' : News g L' h' news') (hp : (d, o) ∈ news') (G : ∀ q ∈ news, (∀ t ∈ tabs, t.1 ≠ q.1) → g.get? q.1 = some q.2) :
    ∀ q ∈ news, (∀ t ∈ tabs, t.1 ≠ q.1) → q.1 ≠ d := fun q hq hne e => by
  have h1 := G q hq hne
  rw [e, (N' _ hp).2.2] at h1
  cases h1

/-- a code's table: empty, or with the one nested def's code -/
noncomputable def TabSt (pos : Pos) (qual : Str) (ps : Array Value) (c1 : Addr) (o1 : Obj) : Prop :=
  ps = #[] ∨ (ps = #[rawInt pos.line, rawInt pos.col, .ref c1] ∧ ∃ vs t, o1.data = .fields vs ∧ vs[1]? = some (.str qual t))
theorem TabSt.full {pos : Pos} {qual : Str} {c1 : Addr} {o1 : Obj} {vs : Array Value} {t : Tok} (h1 : o1.data = .fields vs) (h2 : vs[1]? = some (.str qual t)) : TabSt pos qual #[rawInt pos.line, rawInt pos.col, .ref c1] c1 o1 := .inr ⟨rfl, vs, t, h1, h2⟩

section
variable {M : Model} {A : Around} {E : Value → Shared → Prop} {s : Shared} {h₀ : Heap} {L a c P : Addr} {m mg mb : Str → Option Value} {cn : Str} {cs : Scope} {ccd : Value} {cl : List (Str × Addr)} {news : List (Addr × Obj)} {g : Obj → List (Addr × Obj)}
  {p : Program} {loose : List Str} {mean : ExcName → Option Value} {name qual : Str} {params : Arguments} {body : List Stmt} {scope : Scope} {ps : Array Value} {pos : Pos} {firstLine : Nat} {clos : List (Str × Addr)}

theorem nest_any {Q : Value → Shared → Prop} {c1 : Addr} {o1 : Obj} {Bd : Nat} (F : Fr h₀ L s.heap m) (N : News h₀ L s.heap news) (T : Top p loose mean mg mb h₀) (C : CodeHd h₀ c P) (hcd : ccd = .ref c) (U : UpdF P (tabObj ps) news g)
    (hst : TabSt pos qual ps c1 o1) (hm1 : (c1, o1) ∈ news) (hB : @LT.lt Nat _ Bd c1) (hBn : ∃ q ∈ news, @LE.le Nat _ Bd q.1)
    (hcl : closureFor scope (envX cn cs L a ccd cl) = pure clos)
    (h : ∀ f c' oc vs t ctv doc h' tk, Fr h₀ L h' m →
      News h₀ L h' ((f, fnMade name qual params body scope clos doc ((mg "__name__").getD .none) c' ctv) :: (c', oc) :: g (tabObj #[rawInt pos.line, rawInt pos.col, .ref c'])) →
      oc.data = .fields vs → vs[1]? = some (.str qual t) → (∀ q ∈ news, q.1 < f) → @LT.lt Nat _ c' f → @LT.lt Nat _ Bd c' → (@Eq Nat c' c1 ∨ AllLt c' news) → Q (.ref f) { s with heap := h', toks := tk }) :
    wpAny M A (makeFunction name qual params (.stmts body) scope (envX cn cs L a ccd cl) [] [] [] pos firstLine) Q E s := by
  rcases hst with rfl | ⟨rfl, vs, t, e1, e2⟩
  · refine nest_K F N T C hcd U True.intro rfl hcl fun f c' oc vs t ctv doc h' tk F' N' d1 d2 l1 l2 => ?_
    obtain ⟨q, hq, hle⟩ := hBn
    exact h f c' oc vs t ctv doc h' tk F' N' d1 d2 (fun q hq => Nat.lt_trans (l1 q hq) l2) l2 (Nat.lt_of_le_of_lt hle (l1 q hq)) (.inr (allLt_of l1))
  · obtain ⟨pre, post, rfl, hg, _, _⟩ := U.split
    refine nestHit_K F N T C hcd (List.mem_append_right _ (.head _)) ?_ ?_ hcl (c' := c1) fun f ctv doc h' tk F' N' l1 => ?_
    · simp [TriplesOk, rawInt]
    · simp [codeAmong, rawInt]
    · refine h f c1 o1 vs t ctv doc h' tk F' (fun q hq => ?_) e1 e2 l1 (l1 _ hm1) hB (.inl rfl)
      rw [hg] at hq
      rcases List.mem_cons.mp hq with rfl | hq
      · exact N' _ (.head _)
      · rcases List.mem_cons.mp hq with rfl | hq
        · exact N' _ (.tail _ hm1)
        · exact N' _ (.tail _ hq)
end
end
/-- the greatest, the least of three floats as max and min pick them -/
noncomputable def fmax3 (x y z : UInt64) : UInt64 := let k := if (Float64.cmp x y == some .lt) = true then y else x; if (Float64.cmp k z == some .lt) = true then z else k
noncomputable def fmin3 (x y z : UInt64) : UInt64 := let k := if (Float64.cmp y x == some .lt) = true then y else x; if (Float64.cmp z k == some .lt) = true then z else k
section
variable {prog : Program} {w : World} {A : Around} {E : Value → Shared → Prop} {s : Shared} {Q : Value → Shared → Prop} {x y z : UInt64} {t u v : Tok} {h₀ : Heap} {L : Addr} {m : Str → Option Value} {news : List (Addr × Obj)}

theorem best3 {P : Nat → Value → Prop} {bt : Nat → Nat → Bool} {a b c : Value} (hP : ∀ i r, P i r ↔ (#[a, b, c] : Array Value)[i]? = some r) {r : Value} (h : P (argBest bt 2) r) :
    r = if bt 1 0 then (if bt 2 1 then c else b) else (if bt 2 0 then c else a) := by
  rw [hP] at h
  cases h1 : bt 1 0 with
  | true => cases h2 : bt 2 1 with
    | true => simp [argBest, h1, h2] at h; simp [h]
    | false => simp [argBest, h1, h2] at h; simp [h]
  | false => cases h2 : bt 2 0 with
    | true => simp [argBest, h1, h2] at h; simp [h]
    | false => simp [argBest, h1, h2] at h; simp [h]

theorem max_three_f (hh : A.handled = none) (F : Fr h₀ L s.heap m) (N : News h₀ L s.heap news)
    (h : ∀ h' tk k, Fr h₀ L h' m → News h₀ L h' news → Q (.float (fmax3 x y z) k) { s with heap := h', toks := tk }) :
    wpAny (model prog w) A (call (.builtin "max") [.float x t, .float y u, .float z v]) Q E s := by
  have hT : (s.heap.push { cls := .type "tuple", data := .seq #[.float x t, .float y u, .float z v] }).IsTuple s.heap.objs.size #[.float x t, .float y u, .float z v] := ⟨_, Heap.get?_push_size _ rfl, rfl, 0, rfl⟩
  refine call_max_three (wpAny_pyIter_tuple hT ?_)
  have hsz : (s.heap.push { cls := .type "tuple", data := .seq #[.float x t, .float y u, .float z v] }).objs.size = s.heap.objs.size + 1 := Heap.size_push ..
  refine ⟨_, [_, s.heap.objs.size], [_], _, _, _, _, rfl, Walks.tuple (A := A.in1) hh _ s.heap.objs.size (by rw [hsz]; exact Nat.ne_of_lt (Nat.lt_succ_self _)) #[.float x t, .float y u, .float z v],
    ⟨⟨_, Heap.get?_push_size _ rfl, rfl, rfl⟩, hT.push _⟩, fun c hc => ?_, by simp, Flt.cmpOf_gt #[.float x t, .float y u, .float z v] (by simp [Flt.NumV.float]), fun r h' tk hP hk => ?_⟩
  · show c < ((s.heap.push _).push _).objs.size
    rw [Heap.size_push, hsz]
    simp only [List.mem_cons, List.not_mem_nil, or_false] at hc
    rcases hc with rfl | rfl
    · exact Nat.lt_succ_of_le (Nat.le_of_eq hsz)
    · exact Nat.lt_succ_of_lt (Nat.lt_succ_self _)
  · have hold : ∀ c o, s.heap.get? c = some o → h'.get? c = some o := fun c o e => by
      refine hk c o (fun hm => ?_) (Heap.get?_push_of_some _ (Heap.get?_push_of_some _ e))
      rcases List.mem_cons.mp hm with e1 | hm
      · have := Heap.lt_size e; rw [e1, hsz] at this; exact Nat.lt_irrefl _ (Nat.lt_of_succ_lt this)
      · cases hm
    have e := best3 (P := fun i v' => (#[Value.float x t, .float y u, .float z v] : Array Value)[i]? = some v') (fun _ _ => Iff.rfl) hP
    have e2 : ∃ k, r = .float (fmax3 x y z) k := by
      refine ⟨if (Float64.cmp x y == some .lt) = true then (if (Float64.cmp y z == some .lt) = true then v else u) else (if (Float64.cmp x z == some .lt) = true then v else t), ?_⟩
      rw [e]
      unfold fmax3
      show (if (Float64.cmp x y == some Ordering.lt) = true then (if (Float64.cmp y z == some Ordering.lt) = true then Value.float z v else .float y u) else (if (Float64.cmp x z == some Ordering.lt) = true then Value.float z v else .float x t)) = _
      by_cases h1 : (Float64.cmp x y == some Ordering.lt) = true
      · by_cases h2 : (Float64.cmp y z == some Ordering.lt) = true <;> simp [h1, h2]
      · by_cases h2 : (Float64.cmp x z == some Ordering.lt) = true <;> simp [h1, h2]
    obtain ⟨k, rfl⟩ := e2
    exact h h' tk k (F.grownK hold) (N.grown hold)

theorem min_three_f (hh : A.handled = none) (F : Fr h₀ L s.heap m) (N : News h₀ L s.heap news)
    (h : ∀ h' tk k, Fr h₀ L h' m → News h₀ L h' news → Q (.float (fmin3 x y z) k) { s with heap := h', toks := tk }) :
    wpAny (model prog w) A (call (.builtin "min") [.float x t, .float y u, .float z v]) Q E s := by
  have hT : (s.heap.push { cls := .type "tuple", data := .seq #[.float x t, .float y u, .float z v] }).IsTuple s.heap.objs.size #[.float x t, .float y u, .float z v] := ⟨_, Heap.get?_push_size _ rfl, rfl, 0, rfl⟩
  refine call_min_three (wpAny_pyIter_tuple hT ?_)
  have hsz : (s.heap.push { cls := .type "tuple", data := .seq #[.float x t, .float y u, .float z v] }).objs.size = s.heap.objs.size + 1 := Heap.size_push ..
  refine ⟨_, [_, s.heap.objs.size], [_], _, _, _, _, rfl, Walks.tuple (A := A.in1) hh _ s.heap.objs.size (by rw [hsz]; exact Nat.ne_of_lt (Nat.lt_succ_self _)) #[.float x t, .float y u, .float z v],
    ⟨⟨_, Heap.get?_push_size _ rfl, rfl, rfl⟩, hT.push _⟩, fun c hc => ?_, by simp, Flt.cmpOf_lt #[.float x t, .float y u, .float z v] (by simp [Flt.NumV.float]), fun r h' tk hP hk => ?_⟩
  · show c < ((s.heap.push _).push _).objs.size
    rw [Heap.size_push, hsz]
    simp only [List.mem_cons, List.not_mem_nil, or_false] at hc
    rcases hc with rfl | rfl
    · exact Nat.lt_succ_of_le (Nat.le_of_eq hsz)
    · exact Nat.lt_succ_of_lt (Nat.lt_succ_self _)
  · have hold : ∀ c o, s.heap.get? c = some o → h'.get? c = some o := fun c o e => by
      refine hk c o (fun hm => ?_) (Heap.get?_push_of_some _ (Heap.get?_push_of_some _ e))
      rcases List.mem_cons.mp hm with e1 | hm
      · have := Heap.lt_size e; rw [e1, hsz] at this; exact Nat.lt_irrefl _ (Nat.lt_of_succ_lt this)
      · cases hm
    have e := best3 (P := fun i v' => (#[Value.float x t, .float y u, .float z v] : Array Value)[i]? = some v') (fun _ _ => Iff.rfl) hP
    have e2 : ∃ k, r = .float (fmin3 x y z) k := by
      refine ⟨if (Float64.cmp y x == some .lt) = true then (if (Float64.cmp z y == some .lt) = true then v else u) else (if (Float64.cmp z x == some .lt) = true then v else t), ?_⟩
      rw [e]
      unfold fmin3
      show (if (Float64.cmp y x == some Ordering.lt) = true then (if (Float64.cmp z y == some Ordering.lt) = true then Value.float z v else .float y u) else (if (Float64.cmp z x == some Ordering.lt) = true then Value.float z v else .float x t)) = _
      by_cases h1 : (Float64.cmp y x == some Ordering.lt) = true
      · by_cases h2 : (Float64.cmp z y == some Ordering.lt) = true <;> simp [h1, h2]
      · by_cases h2 : (Float64.cmp z x == some Ordering.lt) = true <;> simp [h1, h2]
    obtain ⟨k, rfl⟩ := e2
    exact h h' tk k (F.grownK hold) (N.grown hold)
end
section
local macro_rules | `(tactic| walk_at "mine enter0") => `(tactic| (refine' wpAny_call (enter_keep ?k1 ?k2 ?k3 ?k4 ?k5 [] (fun _ hm => nomatch hm) ?kA ?kF ?kK ?k6 ?k7 ?k8 ?k9 ?kB ?_ ?c2 ?c3 ?c4 ?c5); (case kA => first | exact rfl | assumption); (case kF => first | exact rfl | assumption); (case kK => first | exact rfl | assumption); (case k1 => k_asm); (case k2 => k_asm); (case k3 => k_asm); (case k4 => k_asm); (case k5 => k_asm); (case k6 => k_is); (case k7 => k_is); (case k8 => first | k_room | (simp only [depth_deeper] at *; omega)); (case k9 => exact BindsTo.of_eq rfl); (case c5 => decide); (case kB => exact locs rfl); (case c2 => exact rfl); (case c3 => exact rfl); (case c4 => exact rfl); k_whole; intro g' L' h' FG' F' N' B' X' T' l0' G'; (try dsimp only); (try k_lift B'); (try k_fold)))

noncomputable def hsvI (h : UInt64) : Int := Flt.toInt Float64.truncOf (Float64.mul h 4618441417868443648)
noncomputable def hsvF (h s v : UInt64) : UInt64 × UInt64 × UInt64 :=
  let f := Float64.sub (Float64.mul h 4618441417868443648) (Float64.ofInt (hsvI h))
  let p := Float64.mul v (Float64.sub 4607182418800017408 s)
  let q := Float64.mul v (Float64.sub 4607182418800017408 (Float64.mul s f))
  let t := Float64.mul v (Float64.sub 4607182418800017408 (Float64.mul s (Float64.sub 4607182418800017408 f)))
  if (hsvI h).fmod 6 = 0 then (v, t, p) else if (hsvI h).fmod 6 = 1 then (q, v, p) else if (hsvI h).fmod 6 = 2 then (p, v, t)
  else if (hsvI h).fmod 6 = 3 then (p, q, v) else if (hsvI h).fmod 6 = 4 then (t, p, v) else (v, p, q)
abbrev tup3 (x y z : UInt64) (a b c : Tok) : Obj := { cls := .type "tuple", data := .seq #[.float x a, .float y b, .float z c] }
theorem fmod6 (x : Int) (h0 : x.fmod 6 ≠ 0) (h1 : x.fmod 6 ≠ 1) (h2 : x.fmod 6 ≠ 2) (h3 : x.fmod 6 ≠ 3) (h4 : x.fmod 6 ≠ 4) : x.fmod 6 = 5 := by
  have a := Int.fmod_nonneg_of_pos x (show (0 : Int) < 6 by decide)
  have b := Int.fmod_lt_of_pos x (show (0 : Int) < 6 by decide)
  omega
theorem hsv_ok {w : World} {p : Program} {loose : List Str} {mean : ExcName → Option Value} {mg mb : Str → Option Value}
  {cn : Str} {cs : Scope} {a : Addr} {ccd : Value} {cl : List (Str × Addr)} {base h₀ : Heap} {L : Addr} {m : Str → Option Value} {news : List (Addr × Obj)} {s : Shared} {Q E : Value → Shared → Prop}
  (hF sF vF : UInt64) (t1 t2 t3 : Tok) (e1 : (Float64.cmp sF 0 == some Ordering.eq) = false) (e2 : Float64.isNaN (Float64.mul hF 4618441417868443648) = false) (e3 : Float64.isInf (Float64.mul hF 4618441417868443648) = false)
  (e4 : (Flt.toInt Float64.truncOf (Float64.mul hF 4618441417868443648)).natAbs < 100)
  (B : Below callerA base [] h₀) (F : Fr h₀ L s.heap m) (X : (Mine.hd.heap_39 w.params).In h₀) (N : News h₀ L s.heap news) (T : Top p loose mean mg mb h₀) (hk : cs.kind = .function)
  (ret : ∀ (x y z : UInt64) (u1 u2 u3 : Tok) (q : Addr) (h' : Heap) (tk' : Nat), hsvF hF sF vF = (x, y, z) → Fr h₀ L h' m → News h₀ L h' ((q, tup3 x y z u1 u2 u3) :: news) → Q (.ref q) { s with heap := h', toks := tk' }) :
  wpAny (model PySem.Challenge.rw_xg0064_01.row.prog w) (callerA.deeper (envX cn cs L a ccd cl)) (PySem.call (.ref 106) [.float hF t1, .float sF t2, .float vF t3]) Q E s := by
  w_on
  revert X
  k_fill
  intro X
  w_strict (k_dflt (walk_at "mine enter0"))
  w_strict k_steps
  all_goals (try (exfalso; first | (refine absurd (fmod6 _ ?_ ?_ ?_ ?_ ?_) (by assumption) <;> assumption)))
  all_goals (refine ret _ _ _ _ _ _ _ _ _ ?_ (by k_asm) (news_after0 (news' := [(_, _)]) (by assumption) (by k_asm) (by assumption)))
  all_goals (unfold hsvF hsvI; (repeat (first | rw [if_pos (by assumption)] | rw [if_neg (by assumption)])))
section
local macro_rules | `(tactic| walk_at "call builtin:max") => `(tactic| ((with_reducible show wpAny _ _ (call _ [Value.float _ _, Value.float _ _, Value.float _ _]) _ _ _); (rename News _ _ _ _ => N'); (rename Fr _ _ _ _ => F'); refine max_three_f rfl F' N' ?_; clear N'; intro _ _ _ _ _))
local macro_rules | `(tactic| walk_at "call builtin:min") => `(tactic| ((with_reducible show wpAny _ _ (call _ [Value.float _ _, Value.float _ _, Value.float _ _]) _ _ _); (rename News _ _ _ _ => N'); (rename Fr _ _ _ _ => F'); refine min_three_f rfl F' N' ?_; clear N'; intro _ _ _ _ _))

noncomputable def hlsF (r g b : UInt64) : UInt64 × UInt64 × UInt64 :=
  let mx := fmax3 r g b
  let mn := fmin3 r g b
  let l := Float64.div (Float64.add mx mn) 4611686018427387904
  let s := if (Float64.cmp l 4602678819172646912 == some Ordering.lt || Float64.cmp l 4602678819172646912 == some Ordering.eq) = true then Float64.div (Float64.sub mx mn) (Float64.add mx mn)
    else Float64.div (Float64.sub mx mn) (Float64.sub (Float64.sub 4611686018427387904 mx) mn)
  let rc := Float64.div (Float64.sub mx r) (Float64.sub mx mn)
  let gc := Float64.div (Float64.sub mx g) (Float64.sub mx mn)
  let bc := Float64.div (Float64.sub mx b) (Float64.sub mx mn)
  let h := if (Float64.cmp r mx == some Ordering.eq) = true then Float64.sub bc gc
    else if (Float64.cmp g mx == some Ordering.eq) = true then Float64.sub (Float64.add 4611686018427387904 rc) bc
    else Float64.sub (Float64.add 4616189618054758400 gc) rc
  ((Float64.divmod (Float64.div h 4618441417868443648) 4607182418800017408).2, l, s)
theorem bt_ne {b : Bool} (h1 : b = true) (h2 : b = false) : False := by rw [h1] at h2; cases h2
theorem hls_ok {w : World} {p : Program} {loose : List Str} {mean : ExcName → Option Value} {mg mb : Str → Option Value}
  {cn : Str} {cs : Scope} {a : Addr} {ccd : Value} {cl : List (Str × Addr)} {base h₀ : Heap} {L : Addr} {m : Str → Option Value} {news : List (Addr × Obj)} {s : Shared} {Q E : Value → Shared → Prop}
  (r g b : UInt64) (t1 t2 t3 : Tok) (e1 : (Float64.cmp (fmin3 r g b) (fmax3 r g b) == some Ordering.eq) = false) (e2 : Float64.isZero (Float64.add (fmax3 r g b) (fmin3 r g b)) = false)
  (e3 : Float64.isZero (Float64.sub (Float64.sub 4611686018427387904 (fmax3 r g b)) (fmin3 r g b)) = false) (e4 : Float64.isZero (Float64.sub (fmax3 r g b) (fmin3 r g b)) = false)
  (B : Below callerA base [] h₀) (F : Fr h₀ L s.heap m) (X : (Mine.hd.heap_39 w.params).In h₀) (N : News h₀ L s.heap news) (T : Top p loose mean mg mb h₀) (hk : cs.kind = .function)
  (ret : ∀ (x y z : UInt64) (u1 u2 u3 : Tok) (q : Addr) (h' : Heap) (tk' : Nat), hlsF r g b = (x, y, z) → Fr h₀ L h' m → News h₀ L h' ((q, tup3 x y z u1 u2 u3) :: news) → Q (.ref q) { s with heap := h', toks := tk' }) :
  wpAny (model PySem.Challenge.rw_xg0064_01.row.prog w) (callerA.deeper (envX cn cs L a ccd cl)) (PySem.call (.ref 99) [.float r t1, .float g t2, .float b t3]) Q E s := by
  w_on
  revert X
  k_fill
  intro X
  w_strict (k_dflt (walk_at "mine enter0"))
  w_strict k_steps
  all_goals (refine ret _ _ _ _ _ _ _ _ _ ?_ (by k_asm) (news_after0 (news' := [(_, _)]) (by assumption) (by k_asm) (by assumption)))
  all_goals (unfold hlsF; dsimp only; (repeat (first | rw [if_pos (by assumption)] | rw [if_neg (by intro h; exact bt_ne h (by assumption))])))
end
section
local macro_rules | `(tactic| walk_at "binaryOp Pow int int") => `(tactic| (simp only [Int.reduceSub]))

noncomputable def dueF (k : Int) : Int := [0, 16, 16, 24, 16, 28, 24, 28, 16, 30].getD k.toNat 0
theorem due_ok {w : World} {p : Program} {loose : List Str} {mean : ExcName → Option Value} {mg mb : Str → Option Value}
  {cn : Str} {cs : Scope} {a : Addr} {ccd : Value} {cl : List (Str × Addr)} {base h₀ : Heap} {L : Addr} {m : Str → Option Value} {news : List (Addr × Obj)} {s : Shared} {Q E : Value → Shared → Prop}
  (k : Int) (t1 : Tok) (hk0 : 1 ≤ k) (hk9 : k ≤ 9)
  (B : Below callerA base [] h₀) (F : Fr h₀ L s.heap m) (X : (Mine.hd.heap_39 w.params).In h₀) (N : News h₀ L s.heap news) (T : Top p loose mean mg mb h₀) (hk : cs.kind = .function)
  (ret : ∀  (t : Tok) (h' : Heap) (tk' : Nat), Fr h₀ L h' m → News h₀ L h' news → Q (.int (dueF k) t) { s with heap := h', toks := tk' }) :
  wpAny (model PySem.Challenge.rw_xg0064_01.row.prog w) (callerA.deeper (envX cn cs L a ccd cl)) (PySem.call (.ref 113) [.int k t1]) Q E s := by
  w_on
  revert X
  k_fill
  intro X
  all_goals (w_strict (k_dflt (walk_at "mine enter0")))
  all_goals (w_strict k_steps)
  have out : ∀ (d : Int) (t : Tok) (h' : Heap) (tk' : Nat), d = dueF k → Fr h₀ L h' m → News h₀ L h' news → Q (.int d t) { s with heap := h', toks := tk' } := fun d t h' tk' e a b => e ▸ ret t h' tk' a b
  all_goals (refine out _ _ _ _ ?_ (by k_asm) (news_after0 (news' := []) (by assumption) (by first | k_asm | exact News.nil) (by assumption)))
  obtain rfl | rfl | rfl | rfl | rfl | rfl | rfl | rfl | rfl : k = 1 ∨ k = 2 ∨ k = 3 ∨ k = 4 ∨ k = 5 ∨ k = 6 ∨ k = 7 ∨ k = 8 ∨ k = 9 := by omega
  all_goals decide
end
/-- what is known of the number of an int's bits -/
noncomputable def BitsSay (x b : Int) : Prop := 0 ≤ b ∧ b ≤ 8 ∧ (x = 0 → b = 0) ∧ (1 ≤ x → x ≤ 3 → 1 ≤ b ∧ b ≤ 2) ∧ (4 ≤ x → x ≤ 15 → 3 ≤ b ∧ b ≤ 4) ∧ (16 ≤ x → x ≤ 63 → 5 ≤ b ∧ b ≤ 6) ∧ (64 ≤ x → 7 ≤ b)
noncomputable def bitsOk (n : Nat) : Bool :=
  let b : Int := (Builtin.Int.intBits (n : Int) : Nat)
  let x : Int := n
  decide (0 ≤ b) && (decide (b ≤ 8) && (decide (x = 0 → b = 0) && (decide (1 ≤ x → x ≤ 3 → 1 ≤ b ∧ b ≤ 2) && (decide (4 ≤ x → x ≤ 15 → 3 ≤ b ∧ b ≤ 4) && (decide (16 ≤ x → x ≤ 63 → 5 ≤ b ∧ b ≤ 6) && decide (64 ≤ x → 7 ≤ b))))))
theorem bits_ok : ∀ n : Nat, n < 256 → bitsOk n = true := by decide +kernel
theorem bits_say_nat (n : Nat) (h : n < 256) : BitsSay (n : Int) (Builtin.Int.intBits (n : Int) : Nat) := by
  have e := bits_ok n h
  unfold bitsOk at e
  simp only [Bool.and_eq_true, decide_eq_true_eq] at e
  exact e
theorem bits_say {x : Int} (h0 : 0 ≤ x) (h1 : x < 256) : BitsSay x (Builtin.Int.intBits x : Nat) := by
  have := bits_say_nat x.toNat (by omega)
  rwa [Int.toNat_of_nonneg h0] at this
theorem xor4_nat : ∀ n : Nat, n < 256 → Builtin.bitXor (n : Int) (4 * ((n / 4 : Nat) : Int)) = (n : Int) - 4 * ((n / 4 : Nat) : Int) := by decide +kernel
theorem xor16_nat : ∀ n : Nat, n < 256 → Builtin.bitXor (n : Int) (16 * ((n / 16 : Nat) : Int)) = (n : Int) - 16 * ((n / 16 : Nat) : Int) := by decide +kernel
theorem xor4 {x u v : Int} (h0 : 0 ≤ x) (h1 : x < 256) (hv : v = 4 * u) (ha : 4 * u ≤ x) (hb : x < 4 * u + 4) : Builtin.bitXor x v = x - v := by
  have e := xor4_nat x.toNat (by omega)
  have e2 : v = 4 * ((x.toNat / 4 : Nat) : Int) := by omega
  rw [Int.toNat_of_nonneg h0, ← e2] at e
  exact e
theorem xor16 {x u v : Int} (h0 : 0 ≤ x) (h1 : x < 256) (hv : v = 16 * u) (ha : 16 * u ≤ x) (hb : x < 16 * u + 16) : Builtin.bitXor x v = x - v := by
  have e := xor16_nat x.toNat (by omega)
  have e2 : v = 16 * ((x.toNat / 16 : Nat) : Int) := by omega
  rw [Int.toNat_of_nonneg h0, ← e2] at e
  exact e
section
variable {prog : Program} {w : World} {A : Around} {E : Value → Shared → Prop} {s : Shared} {Q : Value → Shared → Prop} {x n v : Int} {t u : Tok}
theorem bl_two (h : Q (.int 2 s.toks) { s with toks := s.toks + 1 }) : wpAny (model prog w) A (call (.builtin "int.bit_length") [.int 2 t]) Q E s :=
  call_int_bit_length (by rw [show ((Builtin.Int.intBits 2 : Nat) : Int) = 2 by decide +kernel]; exact h)
theorem bl_any (h0 : 0 ≤ x) (h1 : x < 256) (h : ∀ b : Int, BitsSay x b → Q (.int b s.toks) { s with toks := s.toks + 1 }) : wpAny (model prog w) A (call (.builtin "int.bit_length") [.int x t]) Q E s :=
  call_int_bit_length (h _ (bits_say h0 h1))
theorem shl2 (e : n = 2) (h0 : 0 ≤ x) (h1 : x < 1000) (h : ∀ y : Int, y = 4 * x → Q (.int y s.toks) { s with toks := s.toks + 1 }) : wpAny (model prog w) A (binaryOp .LShift (.int x t) (.int n u)) Q E s := by
  subst e
  exact lshift_int_small (by decide) (by decide) (by omega) (h _ (by show x * 4 = _; omega))
theorem shl4 (e : n = 4) (h0 : 0 ≤ x) (h1 : x < 1000) (h : ∀ y : Int, y = 16 * x → Q (.int y s.toks) { s with toks := s.toks + 1 }) : wpAny (model prog w) A (binaryOp .LShift (.int x t) (.int n u)) Q E s := by
  subst e
  exact lshift_int_small (by decide) (by decide) (by omega) (h _ (by show x * 16 = _; omega))
theorem shr1 (e : n = 1) (h : ∀ y : Int, 2 * y ≤ x → x < 2 * y + 2 → Q (.int y s.toks) { s with toks := s.toks + 1 }) : wpAny (model prog w) A (binaryOp .RShift (.int x t) (.int n u)) Q E s := by
  subst e
  refine rshift_int (by decide) (h _ ?_ ?_) <;>
    (rw [Int.fdiv_eq_ediv_of_nonneg _ (by decide), show (2 : Int) ^ Int.toNat 1 = 2 from rfl]; omega)
theorem shrL (d : Int) (e : n = 1) (h1 : 2 * d ≤ x) (h2 : x < 2 * d + 2) (h : Q (.int d s.toks) { s with toks := s.toks + 1 }) : wpAny (model prog w) A (binaryOp .RShift (.int x t) (.int n u)) Q E s :=
  shr1 e fun y a b => by
    have e : y = d := by omega
    subst e; exact h
theorem shr2 (e : n = 2) (h : ∀ y : Int, 4 * y ≤ x → x < 4 * y + 4 → Q (.int y s.toks) { s with toks := s.toks + 1 }) : wpAny (model prog w) A (binaryOp .RShift (.int x t) (.int n u)) Q E s := by
  subst e
  refine rshift_int (by decide) (h _ ?_ ?_) <;>
    (rw [Int.fdiv_eq_ediv_of_nonneg _ (by decide), show (2 : Int) ^ Int.toNat 2 = 4 from rfl]; omega)
theorem shr4 (e : n = 4) (h : ∀ y : Int, 16 * y ≤ x → x < 16 * y + 16 → Q (.int y s.toks) { s with toks := s.toks + 1 }) : wpAny (model prog w) A (binaryOp .RShift (.int x t) (.int n u)) Q E s := by
  subst e
  refine rshift_int (by decide) (h _ ?_ ?_) <;>
    (rw [Int.fdiv_eq_ediv_of_nonneg _ (by decide), show (2 : Int) ^ Int.toNat 4 = 16 from rfl]; omega)
theorem xor_4 {k : Int} (h0 : 0 ≤ x) (h1 : x < 256) (hv : v = 4 * k) (ha : 4 * k ≤ x) (hb : x < 4 * k + 4) (h : ∀ y : Int, y = x - v → Q (.int y s.toks) { s with toks := s.toks + 1 }) : wpAny (model prog w) A (binaryOp .BitXor (.int x t) (.int v u)) Q E s :=
  xor_int (h _ (xor4 h0 h1 hv ha hb))
theorem xor_16 {k : Int} (h0 : 0 ≤ x) (h1 : x < 256) (hv : v = 16 * k) (ha : 16 * k ≤ x) (hb : x < 16 * k + 16) (h : ∀ y : Int, y = x - v → Q (.int y s.toks) { s with toks := s.toks + 1 }) : wpAny (model prog w) A (binaryOp .BitXor (.int x t) (.int v u)) Q E s :=
  xor_int (h _ (xor16 h0 h1 hv ha hb))
theorem fdiv_2 (h : ∀ y : Int, 2 * y ≤ x → x < 2 * y + 2 → Q (.int y s.toks) { s with toks := s.toks + 1 }) : wpAny (model prog w) A (binaryOp .FloorDiv (.int x t) (.int 2 u)) Q E s := by
  refine floordiv_int (by decide) (h _ ?_ ?_) <;>
    (rw [Int.fdiv_eq_ediv_of_nonneg _ (by decide)]; omega)
theorem mul_lit {l : Addr} (d : Int) (e : x = d) (h : wpAny (model prog w) A (binaryOp .Mult (.ref l) (.int d t)) Q E s) : wpAny (model prog w) A (binaryOp .Mult (.ref l) (.int x t)) Q E s := by
  subst e; exact h
theorem inv_any (h : ∀ y : Int, y = -x - 1 → Q (.int y s.toks) { s with toks := s.toks + 1 }) : wpAny (model prog w) A (unaryOp .Invert (.int x t)) Q E s :=
  invert_int (h _ (by unfold Builtin.bitNot; omega))
theorem dm_2 {h₀ : Heap} {L : Addr} {m : Str → Option Value} {news : List (Addr × Obj)} (F : Fr h₀ L s.heap m) (N : News h₀ L s.heap news) (h0 : 0 ≤ x) (h1 : x < 1000)
    (h : ∀ (q r : Int) (d : Addr) (t1 t2 : Tok) (h' : Heap) (tk : Nat), x = 2 * q + r → 0 ≤ r → r ≤ 1 → Fr h₀ L h' m → News h₀ L h' ((d, { cls := .type "tuple", data := .seq #[.int q t1, .int r t2] }) :: news) → (∀ p ∈ news, p.1 < d) →
      Q (.ref d) { s with toks := tk, heap := h' }) : wpAny (model prog w) A (call (.builtin "divmod") [.int x t, .int 2 u]) Q E s := by
  refine divmod_N F N (by decide) (fun h' F' N' => h _ _ _ _ _ _ _ ?_ ?_ ?_ F' N' fun p hp => Heap.lt_size (N p hp).1) (Or.inl (PyProof.noPylong_small (by omega)))
  · rw [Int.fdiv_eq_ediv_of_nonneg _ (by decide), Int.fmod_eq_emod_of_nonneg _ (by decide)]; omega
  · exact Int.fmod_nonneg_of_pos _ (by decide)
  · have := Int.fmod_lt_of_pos x (show (0 : Int) < 2 by decide); omega
end
open PySem.Builtin.Re
theorem slot_re_search : Slot "re.Pattern" "search" "re.Pattern.search" :=
  .of (owner := "re.Pattern") (n := "search") (by rw [typeLookup_type, builtinLookup_eq_fast]; kernel_rfl) (by decide +kernel) (by decide +kernel) (by decide +kernel)
    (by first | exact .inl (by decide +kernel) | exact .inr (by decide +kernel)) (by rw [isSubtype_type]; kernel_rfl)
theorem type_re_search : typeOf (.builtin "re.Pattern.search") = pure (.type "method_descriptor") := by show builtinType _ = _; rw [builtinType_eq_fast]; kernel_rfl
theorem entry_re_search : entryFor table "re.Pattern.search" = some Builtin.«re.Pattern.search» := entryFor_of_tree (by kernel_rfl)
theorem plainAttrs_re : PlainAttrs "re.Pattern" :=
  ⟨⟨"object.__getattribute__", by rw [typeLookup_type, builtinLookup_eq_fast]; kernel_rfl, by decide +kernel⟩, by rw [typeLookup_type, builtinLookup_eq_fast]; kernel_rfl⟩
theorem args_re_search (a b : Value) : argsOk "re.Pattern.search" ⟨[a, b], []⟩ := by
  unfold argsOk; kernel_rfl
theorem no_bool_match : typeLookup (.type "re.Match") "__bool__" = pure none := by rw [typeLookup_type, builtinLookup_eq_fast]; kernel_rfl
theorem no_len_match : typeLookup (.type "re.Match") "__len__" = pure none := by rw [typeLookup_type, builtinLookup_eq_fast]; kernel_rfl

/-- the machine, so many turns of four steps on -/
noncomputable def itM : Nat → Sre.M → Sre.M
  | 0, m => m
  | k + 1, m => itM k (m.runFor reTurnSteps)
theorem runFor_done {m : Sre.M} (h : m.outcome.isSome = true) : ∀ n, m.runFor n = m
  | 0 => rfl
  | n + 1 => by unfold Sre.M.runFor; rw [if_pos h]
theorem itM_done {m : Sre.M} (h : m.outcome.isSome = true) : ∀ n, itM n m = m
  | 0 => rfl
  | n + 1 => by unfold itM; rw [runFor_done h]; exact itM_done h n
section
variable {prog : Program} {w : World} {M : Model} {A : Around} {E : Value → Shared → Prop} {s : Shared}
theorem drive_is : ∀ (k turns : Nat) (m : Sre.M) (Q : Sre.M → Shared → Prop), k < turns → (itM k m).outcome.isSome = true → Q (itM k m) s → wpAny M A (reDrive turns m) Q E s
  | k, 0, _, _, hk, _, _ => absurd hk (Nat.not_lt_zero _)
  | 0, turns + 1, m, Q, _, ho, hq => by
    unfold reDrive
    dsimp only
    have e : m.runFor reTurnSteps = m := runFor_done ho _
    rw [e, if_pos (show m.outcome.isSome = true from ho)]
    exact wpAny_pure hq
  | k + 1, turns + 1, m, Q, hk, ho, hq => by
    unfold reDrive
    dsimp only
    by_cases h1 : (m.runFor reTurnSteps).outcome.isSome = true
    · rw [if_pos h1]
      have e : itM (k + 1) m = m.runFor reTurnSteps := itM_done h1 k
      rw [e] at hq
      exact wpAny_pure hq
    · rw [if_neg h1]
      exact wpAny_bind (wpAny_rule (drive_is k turns _ Q (Nat.lt_of_succ_lt_succ hk) ho hq))
theorem rules_pass (m : Sre.M) {Q : PUnit → Shared → Prop} (hq : Q ⟨⟩ s) : ∀ l : List Nat, wpAny M A (forIn l PUnit.unit fun i _ => if m.seen.has i = true then do rule (Sre.names.getD i ""); pure (ForInStep.yield PUnit.unit) else pure (ForInStep.yield PUnit.unit)) Q E s
  | [] => wpAny_pure hq
  | i :: r => by
    rw [List.forIn_cons]
    refine wpAny_bind ?_
    split
    · exact wpAny_bind (wpAny_rule (wpAny_pure (rules_pass m hq r)))
    · exact wpAny_pure (rules_pass m hq r)
theorem run_end (k : Nat) (m : Sre.M) {Q : Option Sre.M → Shared → Prop} (hk : k < 2 ^ 64) {o : Sre.Outcome} (ho : (itM k m).outcome = some o) (hq : match o with | .matched => Q (some (itM k m)) s | .failed => Q none s | .stuck _ => False) : wpAny M A (reRunToEnd m) Q E s := by
  unfold reRunToEnd
  refine wpAny_bind (drive_is k _ m _ hk (by rw [ho]; rfl) ?_)
  refine wpAny_bind (rules_pass _ ?_ _)
  rw [ho]
  cases o with
  | matched => exact wpAny_pure hq
  | failed => exact wpAny_pure hq
  | stuck _ => exact hq.elim
end
open PySem.Builtin.Re
theorem named_one (v : Value) : reNamed "re.Pattern.search" "search" ["string", "pos", "endpos"] 1 [v] [] = pure [some v, none, none] := by rfl
section
variable {prog : Program} {w : World} {A : Around} {E : Value → Shared → Prop} {s : Shared} {a b : Addr} {o ob : Obj} {fs its : Array Value} {n : Nat} {x : Str} {t : Tok} {Q : Value → Shared → Prop}
theorem target_of (ho : s.heap.get? a = some o) (hd : o.data = .fields fs) (h6 : reRawNat (fs.getD 6 .none) = 0) (h2 : reRawNat (fs.getD 2 .none) = 0) (h5 : fs.getD 5 .none = .ref b) (hb : s.heap.get? b = some ob) (hbd : ob.data = .seq its n)
    (hsz : x.cps.size ≤ 100000) {M : Model} {Q : ReTarget → Shared → Prop}
    (h : Q { pattern := .ref a, string := .str x t, code := (its.map reRawOf).map (·.toNat), text := x.cps, kind := 0, groups := 0, pos := 0, lim := x.cps.size } s) :
    wpAny M A (reTarget "re.Pattern.search" "search" ⟨[.ref a, .str x t], []⟩) Q E s := by
  unfold reTarget
  dsimp only
  rw [named_one]
  refine wpAny_bind (wpAny_pure ?_)
  dsimp only
  refine wpAny_bind (wpAny_pure ?_)
  refine wpAny_bind (wpAny_pure ?_)
  refine wpAny_bind (wpAny_fieldsOf ho hd ?_)
  refine wpAny_bind (m := reTextOf (.str x t)) (wpAny_pure ?_)
  dsimp only
  rw [h6]
  refine wpAny_bind (m := reNoCollectionInside (.str x t) 0) (wpAny_pure ?_)
  rw [h5]
  refine wpAny_bind (m := reRawItems (.ref b)) (wpAny_bind (wpAny_seqItems hb hbd (wpAny_pure ?_)))
  refine wpAny_pure ?_
  rw [h2]
  have e1 : min (Int.toNat 0) x.cps.size = 0 := by simp
  have e2 : min (Int.toNat (2 ^ 63 - 1)) x.cps.size = x.cps.size := by
    refine Nat.min_eq_right (Nat.le_trans hsz ?_); decide
  rw [e1, e2]
  exact h

theorem search_rule (ho : s.heap.get? a = some o) (hc : o.cls = .type "re.Pattern") (hd : o.data = .fields fs) (h6 : reRawNat (fs.getD 6 .none) = 0) (h2 : reRawNat (fs.getD 2 .none) = 0) (h5 : fs.getD 5 .none = .ref b) (hb : s.heap.get? b = some ob) (hbd : ob.data = .seq its n)
    (hsz : x.cps.size ≤ 100000) (k : Nat) (hk : k < 2 ^ 64) (oc : Sre.Outcome) (hoc : (itM k (Sre.forSearch ((its.map reRawOf).map (·.toNat)) x.cps 0 0 x.cps.size false)).outcome = some oc) (hno : ∀ y, oc ≠ .stuck y)
    (hf : oc = .failed → Q .none s)
    (hm : oc = .matched → ∀ (o1 o2 : Obj), o1.isFreed = false → o2.isFreed = false → o2.cls = .type "re.Match" → Q (.ref (s.heap.push o1).objs.size) { s with heap := (s.heap.push o1).push o2 }) :
    wpAny (model prog w) A (call (.builtin "re.Pattern.search") [.ref a, .str x t]) Q E s := by
  refine wpAny_call_entry slot_re_search ⟨o, ho, hc⟩ entry_re_search ?_ (args_re_search _ _)
  unfold Builtin.«re.Pattern.search»
  refine wpAny_bind (target_of ho hd h6 h2 h5 hb hbd hsz ?_)
  unfold reAnswer
  dsimp only
  refine wpAny_bind (run_end k _ hk hoc ?_)
  cases oc with
  | stuck y => exact absurd rfl (hno y)
  | failed => exact wpAny_pure ⟨_, rfl, hf rfl⟩
  | matched =>
    dsimp only
    refine wpAny_bind ?_
    unfold reNewMatch
    dsimp only
    simp only [List.range_zero, List.any_nil, Bool.false_eq_true, if_false, pure_bind, List.flatMap_nil]
    refine wpAny_bind (wpAny_newObj_type ?_)
    refine wpAny_newObj_type ?_
    exact wpAny_pure ⟨_, rfl, hm rfl _ _ rfl rfl rfl⟩

theorem truthy_match {Q : Bool → Shared → Prop} {d : Addr} (hT : s.TypeIs (.ref d) "re.Match") (h : Q true s) : wpAny (model prog w) A (truthy (.ref d)) Q E s := by
  unfold truthy
  refine wpAny_bind (wpAny_callSpecial?_none (name := Str.ofString "__bool__") hT no_bool_match ?_)
  refine wpAny_bind (wpAny_specialOf (name := Str.ofString "__len__") hT no_len_match ?_)
  exact wpAny_pure h
end
/-- the written pattern's code: a dot, figures, the end -/
noncomputable def reCode : Array Nat := #[14, 8, 1, 2, 4294967295, 1, 1, 46, 0, 16, 46, 24, 9, 1, 4294967295, 13, 4, 8, 0, 0, 1, 6, 5, 1]
noncomputable def reHit (x : Str) : Option Bool := match (itM 60 (Sre.forSearch reCode x.cps 0 0 x.cps.size false)).outcome with | some .matched => some true | some .failed => some false | _ => none
theorem reHit_miss {x : Str} (h : reHit x = some false) : (itM 60 (Sre.forSearch reCode x.cps 0 0 x.cps.size false)).outcome = some .failed := by
  unfold reHit at h; split at h <;> first | assumption | cases h
theorem reHit_hit {x : Str} (h : reHit x = some true) : (itM 60 (Sre.forSearch reCode x.cps 0 0 x.cps.size false)).outcome = some .matched := by
  unfold reHit at h; split at h <;> first | assumption | cases h

section
variable {prog : Program} {w : World} {M : Model} {A : Around} {E : Value → Shared → Prop} {s : Shared} {K : Frag} {h₀ : Heap} {L a b : Addr} {m : Str → Option Value} {news : List (Addr × Obj)}
theorem get_search {o : Obj} {pl : Sem Bool} {Q : Value × List Value → Shared → Prop} (F : Fr h₀ L s.heap m) (X : K.In h₀) (hl : K.lookup a = some o) (hc : o.cls = .type "re.Pattern") (hdn : o.dict = none) (h : Q (.builtin "re.Pattern.search", [.ref a]) s) :
    wpAny M A (getMethod (.ref a) "search" pl) Q E s :=
  getMethod_builtin (T := "re.Pattern") ⟨o, (X.keeps F.keep) _ _ hl, hc⟩ plainAttrs_re slot_re_search type_re_search (fun c e => by cases e; exact ⟨o, (X.keeps F.keep) _ _ hl, hdn⟩) h

theorem search_K {fs its : Array Value} {n : Nat} {sl sl2 : Array (Option Value)} {c2 : Value} {d2 : Option Addr} {x : Str} {t : Tok} {hb : Bool} {Q : Value → Shared → Prop} (F : Fr h₀ L s.heap m) (X : K.In h₀) (N : News h₀ L s.heap news)
    (hl : K.lookup a = some ⟨.type "re.Pattern", none, .fields fs, sl⟩) (h6 : reRawNat (fs.getD 6 .none) = 0) (h2 : reRawNat (fs.getD 2 .none) = 0) (h5 : fs.getD 5 .none = .ref b) (hl2 : K.lookup b = some ⟨c2, d2, .seq its n, sl2⟩)
    (hcode : (its.map reRawOf).map (·.toNat) = reCode) (hsz : x.cps.size ≤ 100000) (hh : reHit x = some hb) (hf : hb = false → Q .none s)
    (hm : hb = true → ∀ (h' : Heap) (d : Addr) (od : Obj), Fr h₀ L h' m → News h₀ L h' ((d, od) :: news) → od.cls = .type "re.Match" → Q (.ref d) { s with heap := h' }) :
    wpAny (model prog w) A (call (.builtin "re.Pattern.search") [.ref a, .str x t]) Q E s := by
  have XX := X.keeps F.keep
  cases hb with
  | false =>
    refine search_rule (XX _ _ hl) rfl rfl h6 h2 h5 (XX _ _ hl2) rfl hsz 60 (by decide) .failed (by rw [hcode]; exact reHit_miss hh) (fun y e => nomatch e) (fun _ => hf rfl) (fun e => nomatch e)
  | true =>
    refine search_rule (XX _ _ hl) rfl rfl h6 h2 h5 (XX _ _ hl2) rfl hsz 60 (by decide) .matched (by rw [hcode]; exact reHit_hit hh) (fun y e => nomatch e) (fun e => nomatch e) (fun _ o1 o2 f1 f2 hc => ?_)
    exact hm rfl _ _ o2 ((F.push o1).push o2) (fun q hq => by
      rcases List.mem_cons.mp hq with rfl | hq
      · exact (News.push (F.push o1) (News.push F N o1 f1) o2 f2) _ (.head _)
      · exact (News.push (F.push o1) (News.push F N o1 f1) o2 f2) _ (.tail _ (.tail _ hq))) hc
theorem truthy_m {d : Addr} {od : Obj} {Q : Bool → Shared → Prop} (N : News h₀ L s.heap news) (hm : (d, od) ∈ news) (hc : od.cls = .type "re.Match") (h : Q true s) : wpAny (model prog w) A (truthy (.ref d)) Q E s :=
  truthy_match ⟨od, (N _ hm).1, hc⟩ h
end
section
local macro_rules | `(tactic| walk_at "getMethod ref") => `(tactic| (k_here; k_dflt (refine' get_search ?F ?X ?l ?c ?d ?_; (case F => k_asm); (case X => k_asm); (case l => k_is); (case c => exact rfl); (case d => exact rfl); k_whole)))
local macro_rules | `(tactic| walk_at "call builtin:re.Pattern.search") => `(tactic| (k_here; (try dsimp only [List.cons_append, List.nil_append]); k_dflt (refine' search_K ?F ?X ?N ?l ?h6 ?h2 ?h5 ?l2 ?hc ?sz ?hh ?hf ?hm; (case F => k_asm); (case X => k_asm); (case N => k_asm); (case l => k_is); (case h6 => exact rfl); (case h2 => exact rfl); (case h5 => exact rfl); (case l2 => k_is); (case hc => decide +kernel); (case sz => (show _ ≤ _; omega)); (case hh => assumption)); (case' hf => (intro hb9)); (case' hm => (intro hb9 h' d9 o9 F' N' hc9))))
local macro_rules | `(tactic| walk_at "truthy ref") => `(tactic| (k_here; k_dflt (refine' truthy_m ?N ?m ?c ?_; (case N => k_asm); (case m => k_mem); (case c => assumption); k_whole)))

noncomputable def reachF (hb : Bool) (h : Str) : Str :=
  let b := Txt.slice h (some (Txt.find h (Str.ofString ".") + 1)) none
  if 0 ≤ Txt.find h (Str.ofString ".") then
    if hb = true then h else if (h == Str.ofString "") = true then h else if (Txt.item h 0 == Str.ofString ".") = true then h else if (Txt.item h (-1) == Str.ofString ".") = true then h
    else if 0 ≤ Txt.find b (Str.ofString ".") then Str.ofString "." ++ b else if (b == Str.ofString "local") = true then Str.ofString "." ++ b else h
  else h
theorem bt_ne8 {b : Bool} (h1 : b = true) (h2 : b = false) : False := by rw [h1] at h2; cases h2
theorem reach_ok {w : World} {p : Program} {loose : List Str} {mean : ExcName → Option Value} {mg mb : Str → Option Value}
  {cn : Str} {cs : Scope} {a : Addr} {ccd : Value} {cl : List (Str × Addr)} {base h₀ : Heap} {L : Addr} {m : Str → Option Value} {news : List (Addr × Obj)} {s : Shared} {Q E : Value → Shared → Prop}
  (h : Str) (t1 : Tok) (hb : Bool) (hlen : h.cps.size ≤ 1000) (hlen2 : h.length ≤ 1000) (hh : reHit h = some hb)
  (B : Below callerA base [] h₀) (F : Fr h₀ L s.heap m) (X : (Mine.hd.heap_39 w.params).In h₀) (N : News h₀ L s.heap news) (T : Top p loose mean mg mb h₀) (hk : cs.kind = .function)
  (ret : ∀ (t : Tok) (h' : Heap) (tk' : Nat), Fr h₀ L h' m → News h₀ L h' news → Q (.str (reachF hb h) t) { s with heap := h', toks := tk' }) :
  wpAny (model PySem.Challenge.rw_xg0064_01.row.prog w) (callerA.deeper (envX cn cs L a ccd cl)) (PySem.call (.ref 50) [.str h t1]) Q E s := by
  w_on
  revert X
  k_fill
  intro X
  have out : ∀ (r : Str) (t : Tok) (h' : Heap) (tk' : Nat), r = reachF hb h → Fr h₀ L h' m → News h₀ L h' news → Q (.str r t) { s with heap := h', toks := tk' } := fun r t h' tk' e a b => e ▸ ret t h' tk' a b
  w_strict (k_dflt (walk_at "mine enter0"))
  w_strict k_steps
  all_goals (refine out _ _ _ _ ?_ (by k_asm) (news_sub (news_after0 (by assumption) (by k_asm) (by assumption)) fun q hq => List.mem_append_right _ hq))
  all_goals (unfold reachF; dsimp only; (repeat (first | rw [if_pos (by assumption)] | rw [if_neg (by assumption)] | rw [if_neg (by intro h; exact bt_ne8 h (by assumption))])))
end
end
section
noncomputable def surEnds (ns : List Int) : List Int := (rangeKs 0 ((ns.length : Int) - 0).toNat).map fun k => 16 * (k + 1) - (ns.length : Int) * ns.getD k.toNat 0
noncomputable def surStarts (ns : List Int) : List Int := (rangeKs 0 ((ns.length : Int) - 0).toNat).map fun k => 16 * k - (ns.length : Int) * ns.getD k.toNat 0
noncomputable def surF (ns : List Int) : Int := (surEnds ns).max?.getD 0 - (surStarts ns).min?.getD 0
theorem max_is {l : List Int} {M : Int} (h : M ∈ l) (hm : ∀ a, a ∈ l → a ≤ M) : l.max?.getD 0 = M := by
  rw [List.max?_eq_some_iff.mpr ⟨h, hm⟩]; rfl
theorem min_is {l : List Int} {M : Int} (h : M ∈ l) (hm : ∀ a, a ∈ l → M ≤ a) : l.min?.getD 0 = M := by
  rw [List.min?_eq_some_iff.mpr ⟨h, hm⟩]; rfl
theorem idx_lt {n : Nat} {k : Int} (h : k < 0 + (((n : Int) - 0).toNat : Nat)) : k < n := by omega
theorem lt63 {n : Nat} {k : Int} (h : k < n) (hn : n ≤ 9) : k < 2 ^ 63 := Int.lt_trans (Int.lt_of_lt_of_le h (Int.ofNat_le.mpr hn)) (by decide)
local macro_rules | `(tactic| walk_at "subscriptTail Name Name ref int") => `(tactic| (k_here; k_dflt (refine' item_list_ints ?hl ?hw ?h0 (idx_lt ?h1) (lt63 (idx_lt ?h1) ?h2) ?_ ?hs ?hg; (case hl => is_list); (case hw => assumption); (case h0 => assumption); (case h1 => assumption); (case h2 => assumption); (case hs => with_unfolding_all rfl); (case hg => (intro _; with_unfolding_all rfl))); intro t9))
theorem sur_ok {w : World} {p : Program} {loose : List Str} {mean : ExcName → Option Value} {mg mb : Str → Option Value}
  {cn : Str} {cs : Scope} {a : Addr} {ccd : Value} {cl : List (Str × Addr)} {base h₀ : Heap} {L : Addr} {m : Str → Option Value} {news : List (Addr × Obj)} {s : Shared} {Q E : Value → Shared → Prop}
  (vs : List Value) (ns : List Int) (l : Addr) (n : Nat) (hi : IntsAre vs ns) (hpos : 1 ≤ ns.length) (hlen : ns.length ≤ 9) (hr : ∀ x ∈ ns, 0 ≤ x ∧ x ≤ 15) (hm : (l, listOf vs.toArray n) ∈ news)
  (B : Below callerA base [] h₀) (F : Fr h₀ L s.heap m) (X : (Mine.hd.heap_39 w.params).In h₀) (N : News h₀ L s.heap news) (T : Top p loose mean mg mb h₀) (hk : cs.kind = .function)
  (ret : ∀ (t : Tok) (h' : Heap) (tk' : Nat), Fr h₀ L h' m → News h₀ L h' news → Q (.int (surF ns) t) { s with heap := h', toks := tk' }) :
  wpAny (model PySem.Challenge.rw_xg0064_01.row.prog w) (callerA.deeper (envX cn cs L a ccd cl)) (PySem.call (.ref 118) [.ref l]) Q E s := by
  w_on
  revert X
  k_fill
  intro X
  have hrk : 0 < (rangeKs 0 ((ns.length : Int) - 0).toNat).length := by rw [rangeKs_length]; omega
  w_strict (k_dflt ((refine' wpAny_call (enter_keepC ?k1 ?k2 ?k3 ?k4 ?k5 [(l, listOf vs.toArray n)] ?hsub ?kA ?kF ?kK ?k6 ?k7 ?k8 ?k9 ?kB ?kD ?_ ?c2 ?c3 ?c4); (case kA => first | exact rfl | assumption); (case kF => first | exact rfl | assumption); (case kK => first | exact rfl | assumption); (case k1 => k_asm); (case k2 => k_asm); (case k3 => k_asm); (case k4 => k_asm); (case k5 => k_asm); (case hsub => (intro q9 hq9; rcases List.mem_singleton.mp hq9 with rfl; assumption)); (case k6 => k_is); (case k7 => k_is); (case k8 => first | k_room | (simp only [depth_deeper] at *; omega)); (case k9 => exact BindsTo.of_eq rfl); (case kB => exact rfl); (case kD => decide +kernel); (case c2 => exact rfl); (case c3 => exact rfl); (case c4 => exact rfl); k_whole; intro g' L' h' tk' cells' FG' F' N' Y' B' X' T' l1 G'; (try k_lt l1); k_cells Y'; (try simp only [List.cons_append, List.nil_append, List.append_nil] at N'); (try dsimp only); (try k_lift B'); (try k_fold))))
  w_strict k_steps
  all_goals (
    have out : ∀ (d : Int) (t : Tok) (h' : Heap) (tk' : Nat), d = surF ns → Fr h₀ L h' m → News h₀ L h' news → Q (.int d t) { s with heap := h', toks := tk' } := fun d t h' tk' e a b => e ▸ ret t h' tk' a b
    refine out _ _ _ _ ?_ (by k_asm) (news_sub (news_back (tabs := [(l, listOf vs.toArray n)]) (by assumption) ?_ (by k_asm) ?_ (by assumption)) fun q hq => List.mem_append_right _ hq)
    · unfold surF; rw [max_is (l := surEnds ns) (by assumption) (by assumption), min_is (l := surStarts ns) (by assumption) (by assumption)]
    · intro t ht; rcases List.mem_singleton.mp ht with rfl; exact hm
    · intro t ht; rcases List.mem_singleton.mp ht with rfl; k_mem)
end
/-- the law's own statements and its names' table, as the row holds them -/
noncomputable def lawDef : Option (List Stmt × Scope) := PySem.Challenge.rw_xg0064_01.prog.main.body.findSome? fun st => match st with
  | .FunctionDef n _ b _ _ _ sc _ _ _ => if n == Str.ofString "law" then some (b, sc) else none
  | _ => none
noncomputable def forBody : List Stmt → List Stmt
  | [] => []
  | .For _ _ b _ _ :: _ => b
  | _ :: r => forBody r
/-- so many statements of the turn, from the i-th on -/
noncomputable def turnPart (i n : Nat) : Option (List Stmt × Scope) := lawDef.map fun p => (((forBody p.1).drop i).take n, p.2)
theorem execs_app (ys : List Stmt) (env : Env) : ∀ xs : List Stmt, execs (xs ++ ys) env = execs xs env >>= fun f => match f with | .next => execs ys env | f => pure f
  | [] => rfl
  | x :: xs => by
    rw [List.cons_append, execs_cons, execs_cons, execs_app ys env xs, bind_assoc]
    congr 1
    funext f
    cases f <;> rfl
theorem execs_append {M : Model} {A : Around} {E : Value → Shared → Prop} {env : Env} {Q : Flow → Shared → Prop} {xs ys : List Stmt} {s : Shared}
    (h : wpAny M A (execs xs env) (fun f s' => match f with | .next => wpAny M A (execs ys env) Q E s' | f => Q f s') E s) : wpAny M A (execs (xs ++ ys) env) Q E s := by
  rw [execs_app]
  refine wpAny_bind (wpAny_mono h (fun f s' h' => ?_) fun _ _ e => e)
  cases f with
  | next => exact h'
  | brk => exact wpAny_pure h'
  | cont => exact wpAny_pure h'
  | ret v => exact wpAny_pure h'
theorem fr_is {h₀ h : Heap} {L : Addr} {m : Str → Option Value} (F : Fr h₀ L h m) {ps : List (Str × Value)} (hp : ∀ p ∈ ps, m p.1 = some p.2) : Fr h₀ L h (kstB m ps) := by
  have e : kstB m ps = m := by
    funext z
    exact kstB_eq hp fun _ => rfl
  rw [e]; exact F
theorem list_news {h₀ h : Heap} {L l : Addr} {news : List (Addr × Obj)} {vs : List Value} {n : Nat} (N : News h₀ L h news) (hm : (l, listOf vs.toArray n) ∈ news) : h.IsList l vs.toArray := ⟨_, (N _ hm).1, rfl, n, rfl⟩
theorem kall_nil {m : Str → Option Value} : ∀ p ∈ ([] : List (Str × Value)), m p.1 = some p.2 := fun _ h => nomatch h
theorem kall_cons {m : Str → Option Value} {x : Str} {v : Value} {ps : List (Str × Value)} (h : m x = some v) (hr : ∀ p ∈ ps, m p.1 = some p.2) : ∀ p ∈ (x, v) :: ps, m p.1 = some p.2 := List.forall_mem_cons.mpr ⟨h, hr⟩
noncomputable def KAll (m : Str → Option Value) : List (Str × Value) → Prop
  | [] => True
  | (x, v) :: r => m x = some v ∧ KAll m r
theorem KAll.all {m : Str → Option Value} : ∀ {ps : List (Str × Value)}, KAll m ps → ∀ p ∈ ps, m p.1 = some p.2
  | (_, _) :: _, h, _, .head _ => h.1
  | (_, _) :: _, h, p, .tail _ hp => KAll.all h.2 p hp
theorem fr_kst {h₀ h : Heap} {L : Addr} {m : Str → Option Value} (F : Fr h₀ L h m) {ps : List (Str × Value)} (hp : KAll m ps) : Fr h₀ L h (kstB m ps) := fr_is F hp.all
/-- a def's nested def, as the row holds it -/
noncomputable def nestOf (f : Str) : Option (Str × Arguments × List Stmt × Scope) := PySem.Challenge.rw_xg0064_01.prog.main.body.findSome? fun st => match st with
  | .FunctionDef n _ b _ _ _ _ _ _ _ => if n == f then b.findSome? fun st2 => match st2 with
    | .FunctionDef n2 ps b2 _ _ _ sc _ _ _ => some (n2, ps, b2, sc)
    | _ => none
    else none
  | _ => none
section
variable {prog : Program} {w : World} {A A₀ : Around} {s : Shared} {K : Frag} {L : Addr} {h₀ base : Heap} {m mg mb : Str → Option Value} {news tabs : List (Addr × Obj)} {p : Program} {loose : List Str} {mean : ExcName → Option Value}
theorem enter_keepN {env : Env} {outer : List Env} {R : Result → Shared → Prop} {name qual : Str} {params : Arguments} {body : List Stmt} {scope : Scope} {cl : List (Str × Addr)} {doc pm ctv : Value} {c' : Addr} {f : Addr} {args : Args} {binds : List (Str × Value)}
    (B : Below A₀ base outer h₀) (F : Fr h₀ L s.heap m) (X₀ : K.In h₀) (N : News h₀ L s.heap news) (T : Top p loose mean mg mb h₀) (tabs : List (Addr × Obj)) (hsub : ∀ q ∈ tabs, q ∈ news)
    (hA : A.frames = some (env :: outer)) (hf : env.frame = some L) (hke : env.scope.kind = .function)
    (ho : (f, fnMade name qual params body scope cl doc pm c' ctv) ∈ news) (hcd : s.heap.CodeRec (.ref c') qual) (hroom : A.depth < recursionLimit)
    (hbind : BindsTo s (fnX name qual params body scope cl .none .none doc pm none (.ref c') ctv) args binds) (hloc : ∀ y ∈ binds, scope.names.lookup y.1 = some .local)
    (h : ∀ g L' h₁, Fr h₀ L g m → Fr g L' h₁ (fun y => binds.reverse.lookup y) → News g L' h₁ tabs → Below A base (env :: outer) g → K.In g → Top p loose mean mg mb g → (∀ q ∈ tabs, q.1 < L') → (∀ q ∈ news, (∀ t ∈ tabs, t.1 ≠ q.1) → g.get? q.1 = some q.2) →
      wpAny (model prog w) (A.deeper (envX qual scope L' f (.ref c') cl)) (execs body (envX qual scope L' f (.ref c') cl))
        (fun fl s' => LeaveK h₀ L m g (fun r s'' => Kept news tabs s''.heap → R r s'') (match fl with | .ret v => v | _ => .none) s')
        (fun e s' => wpAny (model prog w) (A.deeper (envX qual scope L' f (.ref c') cl)) (leaving (envX qual scope L' f (.ref c') cl) e) (fun _ s'' => R (.error e) s'') (fun e' s'' => R (.error e') s'') s')
        { s with heap := h₁, toks := s.toks + binds.length })
    (hco : scope.isCoroutine = false) (hgen : scope.isGenerator = false) (hk : scope.kind = .function)
    (hcell : ∀ x ∈ scope.names, x.2 ≠ .cell) : codeAny (model prog w) A (.call (.ref f) args) R s := by
  have Nt : News h₀ L s.heap tabs := fun q hq => N q (hsub q hq)
  have keep₀ : ∀ q ∈ news, (∀ t ∈ tabs, t.1 ≠ q.1) → (hideAll s.heap (tabs.map (·.1))).get? q.1 = some q.2 := fun q hq hne => hideAll_get _ (N q hq).1 fun hm => by
    obtain ⟨t, ht, e⟩ := List.mem_map.mp hm
    exact hne t ht e
  have hlim : h₀.NoLimit := T.nolimit
  obtain ⟨FG, BG, st, lv⟩ := groundX (R := R) B F Nt hA hf hke
  refine codeAny_call_def (fd := fnX name qual params body scope cl .none .none doc pm none (.ref c') ctv) (body := body) (binds := binds) hroom (N _ ho).1 rfl (hlim.keeps F.keep) hcd rfl hbind hcell hloc (fun h₁ hns hk₁ => ?_) hco hgen hk
  refine wpAny_mono (h _ s.heap.objs.size h₁ FG ⟨hns, fun b o e => hk₁ b o (of_hideAll _ e), Nat.le_of_eq (hideAll_size _ _)⟩
    (fun q hq => ⟨hk₁ _ _ (Nt q hq).1, Nat.ne_of_lt (Heap.lt_size (Nt q hq).1), hideAll_none _ (List.mem_map_of_mem hq)⟩) BG (X₀.keeps st) (T.keeps st) (fun q hq => Heap.lt_size (Nt q hq).1) keep₀) (fun fl s' hl => ?_) fun _ _ y => y
  refine lv _ _ ?_
  obtain ⟨L₂, m₂, news₂, F₂, N₂, k⟩ := hl
  refine ⟨L₂, m₂, news₂, F₂, N₂, fun a b => k a b fun q hq hne => ?_⟩
  exact F₂.keep _ _ (keep₀ q hq hne)

theorem enter_keepN2 {rest : List (Addr × Obj)} {env : Env} {outer : List Env} {R : Result → Shared → Prop} {name qual : Str} {params : Arguments} {body : List Stmt} {scope : Scope} {cl : List (Str × Addr)} {doc pm ctv : Value} {c' : Addr} {f : Addr} {args : Args} {binds : List (Str × Value)}
    (B : Below A₀ base outer h₀) (F : Fr h₀ L s.heap m) (X₀ : K.In h₀) (N : News h₀ L s.heap (tabs ++ rest)) (T : Top p loose mean mg mb h₀)
    (hA : A.frames = some (env :: outer)) (hf : env.frame = some L) (hke : env.scope.kind = .function)
    (ho : (f, fnMade name qual params body scope cl doc pm c' ctv) ∈ tabs) (hcd : s.heap.CodeRec (.ref c') qual) (hroom : A.depth < recursionLimit)
    (hbind : BindsTo s (fnX name qual params body scope cl .none .none doc pm none (.ref c') ctv) args binds) (hloc : ∀ y ∈ binds, scope.names.lookup y.1 = some .local)
    (h : ∀ g L' h₁, Fr h₀ L g m → Fr g L' h₁ (fun y => binds.reverse.lookup y) → News g L' h₁ tabs → Below A base (env :: outer) g → K.In g → Top p loose mean mg mb g → (∀ q ∈ tabs, q.1 < L') → (∀ q ∈ tabs ++ rest, (∀ t ∈ tabs, t.1 ≠ q.1) → g.get? q.1 = some q.2) →
      wpAny (model prog w) (A.deeper (envX qual scope L' f (.ref c') cl)) (execs body (envX qual scope L' f (.ref c') cl))
        (fun fl s' => LeaveK h₀ L m g (fun r s'' => Kept (tabs ++ rest) tabs s''.heap → R r s'') (match fl with | .ret v => v | _ => .none) s')
        (fun e s' => wpAny (model prog w) (A.deeper (envX qual scope L' f (.ref c') cl)) (leaving (envX qual scope L' f (.ref c') cl) e) (fun _ s'' => R (.error e) s'') (fun e' s'' => R (.error e') s'') s')
        { s with heap := h₁, toks := s.toks + binds.length })
    (hco : scope.isCoroutine = false) (hgen : scope.isGenerator = false) (hk : scope.kind = .function)
    (hcell : ∀ x ∈ scope.names, x.2 ≠ .cell) : codeAny (model prog w) A (.call (.ref f) args) R s :=
  enter_keepN B F X₀ N T tabs (fun q hq => List.mem_append_left _ hq) hA hf hke (List.mem_append_left _ ho) hcd hroom hbind hloc h hco hgen hk hcell

/-- the ledger after a call that changed one of the objects handed -/
theorem news_upd {h' : Heap} {l : Addr} {o o' : Obj} {tabs tabs' rest : List (Addr × Obj)} (N : News h₀ L s.heap ((l, o) :: tabs ++ rest)) (N' : News h₀ L h' tabs') (hs : ∀ t ∈ (l, o') :: tabs, t ∈ tabs')
    (k : Kept ((l, o) :: tabs ++ rest) ((l, o) :: tabs) h') (hl : ∀ q ∈ rest, l ≠ q.1) : News h₀ L h' ((l, o') :: tabs ++ rest) := fun q hq => by
  rcases List.mem_append.mp hq with hq | hq
  · exact N' q (hs q hq)
  · have hqm : q ∈ (l, o) :: tabs ++ rest := List.mem_append_right _ hq
    by_cases e : ∃ t ∈ (l, o) :: tabs, t.1 = q.1
    · obtain ⟨t, ht, e⟩ := e
      have ht2 : t ∈ tabs := by
        rcases List.mem_cons.mp ht with rfl | ht
        · exact absurd e (hl q hq)
        · exact ht
      have h1 := (N t (List.mem_append_left _ ht)).1
      have h2 := (N q hqm).1
      rw [e, h2] at h1
      have e2 : t = q := Prod.ext e (Option.some.inj h1).symm
      exact N' q (e2 ▸ hs t (.tail _ ht2))
    · exact ⟨k q hqm fun t ht e' => e ⟨t, ht, e'⟩, (N q hqm).2⟩
end
/-- the w lowest digits of x, to the base four -/
noncomputable def digs (x : Int) : Nat → List Int
  | 0 => []
  | w + 1 => x % 4 :: digs (x / 4) w
/-- the digits' number -/
noncomputable def valD : List Int → Int
  | [] => 0
  | d :: r => d + 4 * valD r
theorem digs_len : ∀ (w : Nat) (x : Int), (digs x w).length = w
  | 0, _ => rfl
  | w + 1, x => by rw [digs, List.length_cons, digs_len w]
theorem digs_in : ∀ (w : Nat) (x : Int), ∀ d ∈ digs x w, 0 ≤ d ∧ d < 4
  | w + 1, x, d, h => by
    rcases List.mem_cons.mp h with rfl | h
    · omega
    · exact digs_in w _ d h
theorem valD_digs : ∀ (w : Nat) (x : Int), 0 ≤ x → x < 4 ^ w → valD (digs x w) = x
  | 0, x, h0, h1 => by simp only [Int.pow_zero] at h1; simp only [digs, valD]; omega
  | w + 1, x, h0, h1 => by
    rw [Int.pow_succ] at h1
    rw [digs, valD, valD_digs w (x / 4) (by omega) (by omega)]
    omega
theorem digs_one {x : Int} (h0 : 0 ≤ x) (h1 : x < 4 ^ 1) : digs x 1 = [x] := by
  have h1 : x < 4 := h1
  show [x % 4] = [x]
  rw [Int.emod_eq_of_lt h0 h1]
/-- half the width, and four to that half -/
noncomputable def HalfP (w : Nat) (h P : Int) : Prop := (w = 2 ∧ h = 1 ∧ P = 4) ∨ (w = 3 ∧ h = 1 ∧ P = 4) ∨ (w = 4 ∧ h = 2 ∧ P = 16)
theorem halfP {w : Nat} (h2 : 2 ≤ w) (h4 : w ≤ 4) : ∃ h P, HalfP w h P := by
  rcases (by omega : w = 2 ∨ w = 3 ∨ w = 4) with e | e | e
  · exact ⟨1, 4, .inl ⟨e, rfl, rfl⟩⟩
  · exact ⟨1, 4, .inr (.inl ⟨e, rfl, rfl⟩)⟩
  · exact ⟨2, 16, .inr (.inr ⟨e, rfl, rfl⟩)⟩
theorem HalfP.hw {w : Nat} {h P : Int} (H : HalfP w h P) : 1 ≤ h ∧ 2 * h ≤ w ∧ w < 2 * h + 2 ∧ h ≤ 2 := by
  rcases H with ⟨rfl, rfl, rfl⟩ | ⟨rfl, rfl, rfl⟩ | ⟨rfl, rfl, rfl⟩ <;> decide
theorem HalfP.sh {w : Nat} {h P : Int} (H : HalfP w h P) : (h = 1 ∧ P = 4) ∨ (h = 2 ∧ P = 16) :=
  H.elim (fun e => .inl e.2) fun H => H.elim (fun e => .inl e.2) fun e => .inr e.2
theorem HalfP.lo {w : Nat} {h P x : Int} (H : HalfP w h P) : x % P < 4 ^ h.toNat := by
  rcases H with ⟨rfl, rfl, rfl⟩ | ⟨rfl, rfl, rfl⟩ | ⟨rfl, rfl, rfl⟩ <;> (show x % _ < _; simp only [Int.toNat]; omega)
theorem HalfP.up {w : Nat} {h P x : Int} (H : HalfP w h P) (hx : x < 4 ^ w) : x / P < 4 ^ (w - h.toNat) := by
  rcases H with ⟨rfl, rfl, rfl⟩ | ⟨rfl, rfl, rfl⟩ | ⟨rfl, rfl, rfl⟩ <;> (simp only [Int.toNat] at *; omega)
theorem HalfP.cat {w : Nat} {h P : Int} (H : HalfP w h P) (x : Int) : digs (x % P) h.toNat ++ digs (x / P) (w - h.toNat) = digs x w := by
  rcases H with ⟨rfl, rfl, rfl⟩ | ⟨rfl, rfl, rfl⟩ | ⟨rfl, rfl, rfl⟩
  · show [x % 4 % 4, x / 4 % 4] = [x % 4, x / 4 % 4]; congr 1; omega
  · show [x % 4 % 4, x / 4 % 4, x / 4 / 4 % 4] = [x % 4, x / 4 % 4, x / 4 / 4 % 4]; congr 1; omega
  · show [x % 16 % 4, x % 16 / 4 % 4, x / 16 % 4, x / 16 / 4 % 4] = [x % 4, x / 4 % 4, x / 4 / 4 % 4, x / 4 / 4 / 4 % 4]
    congr 1
    · omega
    · congr 1
      · omega
      · congr 1
        · omega
        · congr 1; omega
/-- a list with a piece of it set -/
noncomputable def setR (ds : List Int) (n : Nat) (xs : List Int) : List Int := ds.take n ++ xs ++ ds.drop (n + xs.length)
theorem setR_len {ds : List Int} {n : Nat} {xs : List Int} (h : n + xs.length ≤ ds.length) : (setR ds n xs).length = ds.length := by
  unfold setR; simp only [List.length_append, List.length_take, List.length_drop]; omega
theorem setR_one {ds : List Int} {n : Nat} {x : Int} (h : n < ds.length) : ds.set n x = setR ds n [x] := by
  unfold setR
  rw [List.set_eq_take_append_cons_drop, if_pos h]
  simp
theorem setR_two {ds : List Int} {n : Nat} {xs ys : List Int} (h : n + xs.length + ys.length ≤ ds.length) : setR (setR ds n xs) (n + xs.length) ys = setR ds n (xs ++ ys) := by
  unfold setR
  have e1 : (ds.take n ++ xs).length = n + xs.length := by simp only [List.length_append, List.length_take]; omega
  rw [List.take_append_of_le_length (by omega), List.take_of_length_le (by omega), List.drop_append, e1, List.drop_eq_nil_of_le (by omega), List.nil_append, List.drop_drop, List.length_append]
  simp only [List.append_assoc]
  congr 4
  omega
section
variable {prog : Program} {w : World} {A : Around} {E : Value → Shared → Prop} {s : Shared} {Q : Value → Shared → Prop} {x n v : Int} {t u : Tok}
theorem shrM {wd : Nat} {h P Lx R : Int} (H : HalfP wd h P) (hR : R = Lx + wd) (hn : n = 1) (k : Q (.int (Lx + h) s.toks) { s with toks := s.toks + 1 }) : wpAny (model prog w) A (binaryOp .RShift (.int (Lx + R) t) (.int n u)) Q E s :=
  shrL (Lx + h) hn (by have := H.hw; omega) (by have := H.hw; omega) k
theorem shrP {wd : Nat} {h P : Int} (H : HalfP wd h P) (hn : n = 2 * h) (k : Q (.int (x / P) s.toks) { s with toks := s.toks + 1 }) : wpAny (model prog w) A (binaryOp .RShift (.int x t) (.int n u)) Q E s := by
  rcases H.sh with ⟨rfl, rfl⟩ | ⟨rfl, rfl⟩
  · refine shr2 (by omega) fun y a b => ?_
    have e : y = x / 4 := by omega
    subst e; exact k
  · refine shr4 (by omega) fun y a b => ?_
    have e : y = x / 16 := by omega
    subst e; exact k
theorem shlP {wd : Nat} {h P : Int} (H : HalfP wd h P) (hn : n = 2 * h) (h0 : 0 ≤ x) (h1 : x < 1000) (k : Q (.int (P * x) s.toks) { s with toks := s.toks + 1 }) : wpAny (model prog w) A (binaryOp .LShift (.int x t) (.int n u)) Q E s := by
  rcases H.sh with ⟨rfl, rfl⟩ | ⟨rfl, rfl⟩
  · exact shl2 (by omega) h0 h1 fun y e => e ▸ k
  · exact shl4 (by omega) h0 h1 fun y e => e ▸ k
theorem xorP {wd : Nat} {h P : Int} (H : HalfP wd h P) (h0 : 0 ≤ x) (h1 : x < 256) (k : Q (.int (x % P) s.toks) { s with toks := s.toks + 1 }) : wpAny (model prog w) A (binaryOp .BitXor (.int x t) (.int (P * (x / P)) u)) Q E s := by
  rcases H.sh with ⟨rfl, rfl⟩ | ⟨rfl, rfl⟩
  · refine xor_4 (k := x / 4) h0 h1 rfl (by omega) (by omega) fun y e => ?_
    have e : y = x % 4 := by omega
    subst e; exact k
  · refine xor_16 (k := x / 16) h0 h1 rfl (by omega) (by omega) fun y e => ?_
    have e : y = x % 16 := by omega
    subst e; exact k
end
theorem HalfP.nn {w : Nat} {h P x : Int} (H : HalfP w h P) (h0 : 0 ≤ x) : 0 ≤ x % P ∧ 0 ≤ x / P ∧ x / P ≤ x ∧ x % P ≤ x := by
  rcases H.sh with ⟨rfl, rfl⟩ | ⟨rfl, rfl⟩ <;> omega

noncomputable def FnO (o : Obj) : Prop := ∃ oc od fd sl, o = ⟨oc, od, .func fd, sl⟩
theorem FnAt.ofO {h₀ h : Heap} {L q : Addr} {o : Obj} {news : List (Addr × Obj)} (N : News h₀ L h news) (hm : (q, o) ∈ news) (ho : FnO o) : FnAt q h := by
  obtain ⟨oc, od, fd, sl, rfl⟩ := ho
  exact FnAt.of N hm
theorem FnO.made {o : Obj} {name qual : Str} {ps : Arguments} {bd : List Stmt} {sc : Scope} {cl : List (Str × Addr)} {doc pm : Value} {c' : Addr} {ctv : Value} (h : o = fnMade name qual ps bd sc cl doc pm c' ctv) : FnO o := ⟨_, _, _, _, h⟩
noncomputable def InnerA (fo : Obj) (qual : Str) (c' an ai aa : Addr) : Prop := ∃ nm ps bd sc dc pm ct, nestOf (Str.ofString "_int2digits") = some (nm, ps, bd, sc) ∧ fo = fnMade nm qual ps bd sc [(Str.ofString "n", an), (Str.ofString "inner", ai), (Str.ofString "a_digits", aa)] dc pm c' ct
theorem endA1 {ds : List Int} {x Lx R : Int} (h0 : 0 ≤ x) (h1 : x < 4 ^ 1) (hL : 0 ≤ Lx) (hR : R = Lx + (1 : Nat)) (hn : R ≤ ds.length) : ds.set Lx.toNat x = setR ds Lx.toNat (digs x 1) := by
  rw [digs_one h0 h1, setR_one (by omega)]
theorem endA {w : Nat} {h P x Lx R : Int} {ds ds1 ds2 : List Int} (H : HalfP w h P) (e1 : ds1 = setR ds Lx.toNat (digs (x % P) h.toNat)) (e2 : ds2 = setR ds1 (Lx + h).toNat (digs (x / P) (w - h.toNat))) (hL : 0 ≤ Lx) (hR : R = Lx + w) (hn : R ≤ ds.length) : ds2 = setR ds Lx.toNat (digs x w) := by
  have hh := H.hw
  have e3 : (Lx + h).toNat = Lx.toNat + (digs (x % P) h.toNat).length := by rw [digs_len]; omega
  rw [e2, e1, e3, setR_two (by rw [digs_len, digs_len]; omega), H.cat]
noncomputable def ClaimA (W : World) (p : Program) (loose : List Str) (mean : ExcName → Option Value) (mg mb : Str → Option Value) (w : Nat) : Prop :=
  ∀ (dp un : Nat) (gd : Option (List Code)) (cn : Str) (cs : Scope) (a : Addr) (ccd : Value) (cl : List (Str × Addr)) (outer : List Env) (A₀ : Around) (base h₀ : Heap) (L : Addr) (m : Str → Option Value) (s : Shared) (Q E : Value → Shared → Prop)
    (rest : List (Addr × Obj)) (f c' l an ai aa : Addr) (fo oc on oi oa : Obj) (qual : Str) (vs : Array Value) (tq tn : Tok) (x Lx R : Int) (t1 t2 t3 : Tok) (ds : List Int) (dv : List Value) (e : Nat),
    InnerA fo qual c' an ai aa → Below A₀ base outer h₀ → Fr h₀ L s.heap m → (Mine.hd.heap_39 W.params).In h₀ → News h₀ L s.heap ([(l, listOf dv.toArray e), (f, fo), (c', oc), (an, on), (ai, oi), (aa, oa)] ++ rest) → Top p loose mean mg mb h₀ → cs.kind = .function → CodeHd base 70 66 →
    oc.data = .fields vs → vs[1]? = some (.str qual tq) → on.data = .cell (some (.int 2 tn)) → oi.data = .cell (some (.ref f)) → oa.data = .cell (some (.ref l)) → IntsAre dv ds → (l ≠ f ∧ l ≠ c' ∧ l ≠ an ∧ l ≠ ai ∧ l ≠ aa) → (∀ q ∈ rest, l ≠ q.1) →
    1 ≤ w → w ≤ 4 → 0 ≤ x → x < 4 ^ w → 0 ≤ Lx → R = Lx + w → R ≤ ds.length → ds.length ≤ 4 → dp + w + 1 < recursionLimit → un + 8 * (w + 1) < cLine →
    (∀ (dv' : List Value) (ds' : List Int) (h' : Heap) (tk' : Nat), ds' = setR ds Lx.toNat (digs x w) → ds'.length = ds.length → IntsAre dv' ds' → Fr h₀ L h' m → News h₀ L h' ([(l, listOf dv'.toArray e), (f, fo), (c', oc), (an, on), (ai, oi), (aa, oa)] ++ rest) → Q .none { s with heap := h', toks := tk' }) →
    wpAny (model PySem.Challenge.rw_xg0064_01.row.prog W) (ktrTop dp un gd cn cs L a ccd cl outer) (PySem.call (.ref f) [.int x t1, .int Lx t2, .int R t3]) Q E s
theorem HalfP.top {w : Nat} {h P x : Int} (H : HalfP w h P) (hx : x < 4 ^ w) : x < 256 := by
  rcases H with ⟨rfl, rfl, rfl⟩ | ⟨rfl, rfl, rfl⟩ | ⟨rfl, rfl, rfl⟩ <;> omega
theorem ClaimA.use {W : World} {p : Program} {loose : List Str} {mean : ExcName → Option Value} {mg mb : Str → Option Value} {w : Nat} (H : ClaimA W p loose mean mg mb w)
  {dp un : Nat} {gd : Option (List Code)} {cn : Str} {cs : Scope} {a : Addr} {ccd : Value} {cl : List (Str × Addr)} {outer : List Env} {A₀ : Around} {base h₀ : Heap} {L : Addr} {m : Str → Option Value} {s : Shared} {Q E : Value → Shared → Prop}
    (rest : List (Addr × Obj)) {f c' l an ai aa : Addr} {fo oc on oi oa : Obj} {qual : Str} {vs : Array Value} {tq tn : Tok} {x Lx R : Int} {t1 t2 t3 : Tok} {ds : List Int} {dv : List Value} {e : Nat}
    (hx1 : x < 4 ^ w) (B : Below A₀ base outer h₀) (F : Fr h₀ L s.heap m) (X : (Mine.hd.heap_39 W.params).In h₀) (N : News h₀ L s.heap ([(l, listOf dv.toArray e), (f, fo), (c', oc), (an, on), (ai, oi), (aa, oa)] ++ rest)) (T : Top p loose mean mg mb h₀) (hk : cs.kind = .function) (C : CodeHd base 70 66)
    (hin : InnerA fo qual c' an ai aa) (hc : oc.data = .fields vs) (hv : vs[1]? = some (.str qual tq)) (hn : on.data = .cell (some (.int 2 tn))) (hi : oi.data = .cell (some (.ref f))) (ha : oa.data = .cell (some (.ref l))) (hds : IntsAre dv ds)
    (n1 : l ≠ f) (n2 : l ≠ c') (n3 : l ≠ an) (n4 : l ≠ ai) (n5 : l ≠ aa) (hr : ∀ q ∈ rest, l ≠ q.1)
    (hn : 1 ≤ w ∧ w ≤ 4 ∧ 0 ≤ x ∧ 0 ≤ Lx ∧ R = Lx + w ∧ R ≤ ds.length ∧ ds.length ≤ 4 ∧ dp + w + 1 < recursionLimit ∧ un + 8 * (w + 1) < cLine)
    (ret : ∀ (dv' : List Value) (ds' : List Int) (h' : Heap) (tk' : Nat), ds' = setR ds Lx.toNat (digs x w) → ds'.length = ds.length → IntsAre dv' ds' → Fr h₀ L h' m → News h₀ L h' ([(l, listOf dv'.toArray e), (f, fo), (c', oc), (an, on), (ai, oi), (aa, oa)] ++ rest) → Q .none { s with heap := h', toks := tk' }) :
    wpAny (model PySem.Challenge.rw_xg0064_01.row.prog W) (ktrTop dp un gd cn cs L a ccd cl outer) (PySem.call (.ref f) [.int x t1, .int Lx t2, .int R t3]) Q E s := by
  obtain ⟨g1, g2, g3, g4, g5, g6, g7, g8, g9⟩ := hn
  exact H _ _ _ _ _ _ _ _ _ _ _ _ _ _ _ _ _ _ _ _ _ _ _ _ _ _ _ _ _ _ _ _ _ _ _ _ _ _ _ _ _ _ hin B F X N T hk C hc hv hn hi ha hds ⟨n1, n2, n3, n4, n5⟩ hr g1 g2 g3 hx1 g4 g5 g6 g7 g8 g9 ret
section
local macro_rules | `(tactic| k_room) => `(tactic| ktr_room)
local macro_rules | `(tactic| walk_at "execs cons If") => `(tactic| (with_reducible refine wpAny_execs_cons ?_))
local macro_rules | `(tactic| walk_at "ite") => `(tactic| (k_here; k_dflt (first | (refine ite_pos (by (try simp only [bne_iff_ne, beq_iff_eq, ne_eq, decide_eq_true_eq, Bool.and_eq_true, Bool.or_eq_true]); omega) ?_) | (refine ite_neg (by (try simp only [bne_iff_ne, beq_iff_eq, ne_eq, decide_eq_true_eq, Bool.and_eq_true, Bool.or_eq_true]); omega) ?_))))
local macro_rules | `(tactic| walk_at "FnAt") => `(tactic| (k_dflt (exact FnAt.ofO (by k_asm) (by k_mem) (by with_reducible assumption))))
local macro_rules | `(tactic| walk_at "callWith ref") => `(tactic| (k_here; k_dflt (refine' callWith_F ?k1 ?_; (case k1 => exact FnAt.ofO (by k_asm) (by k_mem) (by with_reducible assumption)); k_whole)))
local macro_rules | `(tactic| k_ne) => `(tactic| (first | assumption | (refine Ne.symm ?_; assumption)))
local macro_rules | `(tactic| walk_at "binaryOp RShift int int") => `(tactic| (k_here; k_dflt (first | (refine shrP (by with_reducible assumption) (by omega) ?_) | (refine shrM (by with_reducible assumption) (by with_reducible assumption) (by decide) ?_))))
local macro_rules | `(tactic| walk_at "binaryOp LShift int int") => `(tactic| (k_here; k_dflt (refine shlP (by with_reducible assumption) (by omega) (by omega) (by omega) ?_)))
section
local macro_rules | `(tactic| walk_at "setItem ref int") => `(tactic| (k_here; k_dflt (refine' ksa_set ?k1 ?k2 ?k3 ?k4 ?k5 ?k6 ?k7 ?_; (case k1 => k_asm); (case k2 => k_asm); (case k3 => k_upd); (case k4 => with_reducible assumption); (case k5 => omega); (case k6 => omega); (case k7 => omega); k_whole); intro h' F' N' hi' hl' hs'))
local macro_rules | `(tactic| walk_at "binaryOp BitXor int int") => `(tactic| (k_here; k_dflt (refine xorP (by with_reducible assumption) (by omega) (by omega) ?_)))
local macro_rules | `(tactic| walk_at "call ref") => `(tactic| (k_here; (try dsimp only [List.nil_append]); k_dflt (refine' ClaimA.use ?H [] ?x1 ?B ?F ?X ?N ?T ?hk ?C ?hin ?hc ?hv ?hn ?hi ?ha ?hds ?n1 ?n2 ?n3 ?n4 ?n5 ?hr ?hh ?_; (case x1 => with_reducible assumption); (case H => with_reducible assumption); (case B => k_asm); (case F => k_asm); (case X => k_asm); (case N => (rw [List.append_nil]; k_asm)); (case T => k_asm); (case hk => exact rfl); (case C => with_reducible assumption); (case hin => with_reducible assumption); (case hc => with_reducible assumption); (case hv => with_reducible assumption); (case hn => with_reducible assumption); (case hi => with_reducible assumption); (case ha => with_reducible assumption); (case hds => with_reducible assumption); (case n1 => with_reducible assumption); (case n2 => with_reducible assumption); (case n3 => with_reducible assumption); (case n4 => with_reducible assumption); (case n5 => with_reducible assumption); (case hr => exact fun _ h9 => nomatch h9); (case hh => (dsimp only [ktrTop]; omega)); k_whole); intro v9 d9 h' tk' e8 e9 i9 F' N'; (try rw [List.append_nil] at N')))
theorem baseA {W : World} {p : Program} {loose : List Str} {mean : ExcName → Option Value} {mg mb : Str → Option Value} : ClaimA W p loose mean mg mb 1 := by
  intro dp un gd cn cs a ccd cl outer A₀ base h₀ L m s Q E rest f c' l an ai aa fo oc on oi oa qual vs tq tn x Lx R t1 t2 t3 ds dv e hin B F X N T hk C2 hoc hvs hon hoi hoa hi hne hrest hw1 hw4 hx0 hx1 hL0 hR hRn hn4 hdp hun ret
  obtain ⟨n1, n2, n3, n4, n5⟩ := hne
  have hin2 := hin
  obtain ⟨nm, ps, bd, sc, dc, pm, ct, hnest, hfo⟩ := hin2
  have h2 : some (_, _, _, _) = some (nm, ps, bd, sc) := hnest
  cases h2
  clear hnest
  have hfn : FnO fo := FnO.made hfo
  w_on
  revert X
  k_fill
  intro X
  w_strict (k_dflt (refine' wpAny_call (enter_keepN2 ?k1 ?k2 ?k3 ?k4 ?k5 ?kA ?kF ?kK ?k6 ?k7 ?k8 ?k9 ?kB ?_ ?c2 ?c3 ?c4 ?c5); (case kA => first | exact rfl | assumption); (case kF => first | exact rfl | assumption); (case kK => first | exact rfl | assumption); (case k1 => k_asm); (case k2 => k_asm); (case k3 => k_asm); (case k4 => k_asm); (case k5 => k_asm); (case k6 => (rw [← hfo]; k_mem)); (case k7 => exact codeRec_news (by k_asm) (by k_mem) (by with_reducible assumption) (by with_reducible assumption)); (case k8 => ktr_room); (case k9 => exact BindsTo.of_eq rfl); (case c5 => decide); (case kB => exact locs rfl); (case c2 => exact rfl); (case c3 => exact rfl); (case c4 => exact rfl); k_whole; intro g' L' h' FG' F' N' B' X' T' l1 G'; (try k_lt l1); (try dsimp only); (try k_lift B'); (try k_fold)))
  clear hfo
  w_strict k_steps
  exact ret _ _ _ _ (endA1 hx0 hx1 hL0 hR hRn) (by with_reducible assumption) (by with_reducible assumption) (by k_asm) (news_upd N (by k_asm) (fun _ h9 => h9) (by with_reducible assumption) hrest)
theorem stepA {W : World} {p : Program} {loose : List Str} {mean : ExcName → Option Value} {mg mb : Str → Option Value} (w : Nat) (h P : Int) (H : HalfP w h P) (i1 : ClaimA W p loose mean mg mb h.toNat) (i2 : ClaimA W p loose mean mg mb (w - h.toNat)) : ClaimA W p loose mean mg mb w := by
  intro dp un gd cn cs a ccd cl outer A₀ base h₀ L m s Q E rest f c' l an ai aa fo oc on oi oa qual vs tq tn x Lx R t1 t2 t3 ds dv e hin B F X N T hk C2 hoc hvs hon hoi hoa hi hne hrest hw1 hw4 hx0 hx1 hL0 hR hRn hn4 hdp hun ret
  obtain ⟨n1, n2, n3, n4, n5⟩ := hne
  have hin2 := hin
  obtain ⟨nm, ps, bd, sc, dc, pm, ct, hnest, hfo⟩ := hin2
  have h2 : some (_, _, _, _) = some (nm, ps, bd, sc) := hnest
  cases h2
  clear hnest
  have hfn : FnO fo := FnO.made hfo
  obtain ⟨w1, w2, w3, w4⟩ := H.hw
  obtain ⟨y1, y2, y3, y4⟩ := H.nn hx0
  have hlo := H.lo (x := x)
  have hup := H.up hx1
  have hx2 : x < 256 := H.top hx1
  w_on
  revert X
  k_fill
  intro X
  w_strict (k_dflt (refine' wpAny_call (enter_keepN2 ?k1 ?k2 ?k3 ?k4 ?k5 ?kA ?kF ?kK ?k6 ?k7 ?k8 ?k9 ?kB ?_ ?c2 ?c3 ?c4 ?c5); (case kA => first | exact rfl | assumption); (case kF => first | exact rfl | assumption); (case kK => first | exact rfl | assumption); (case k1 => k_asm); (case k2 => k_asm); (case k3 => k_asm); (case k4 => k_asm); (case k5 => k_asm); (case k6 => (rw [← hfo]; k_mem)); (case k7 => exact codeRec_news (by k_asm) (by k_mem) (by with_reducible assumption) (by with_reducible assumption)); (case k8 => ktr_room); (case k9 => exact BindsTo.of_eq rfl); (case c5 => decide); (case kB => exact locs rfl); (case c2 => exact rfl); (case c3 => exact rfl); (case c4 => exact rfl); k_whole; intro g' L' h' FG' F' N' B' X' T' l1 G'; (try k_lt l1); (try dsimp only); (try k_lift B'); (try k_fold)))
  clear hfo
  w_strict k_steps
  refine' ret _ _ _ _ (endA H ?e1 ?e2 hL0 hR hRn) ?len ?hi ?hF (news_upd N ?hN (fun _ h9 => h9) ?hK hrest)
  case e2 => with_reducible assumption
  case e1 => with_reducible assumption
  case hF => k_asm
  case hN => k_asm
  case hK => with_reducible assumption
  case hi => with_reducible assumption
  case len => omega
theorem allA {W : World} {p : Program} {loose : List Str} {mean : ExcName → Option Value} {mg mb : Str → Option Value} : ∀ w : Nat, 1 ≤ w → w ≤ 4 → ClaimA W p loose mean mg mb w := by
  intro w
  induction w using Nat.strongRecOn with
  | _ w ih =>
    intro h1 h4
    by_cases e : w = 1
    · subst e; exact baseA
    · obtain ⟨h, P, H⟩ := halfP (w := w) (by omega) h4
      have hh := H.hw
      exact stepA w h P H (ih _ (by omega) (by omega) (by omega)) (ih _ (by omega) (by omega) (by omega))
end
section
noncomputable def piece (ds : List Int) (L : Int) (w : Nat) : List Int := (ds.drop L.toNat).take w
theorem valD_app : ∀ (a b : List Int), valD (a ++ b) = valD a + 4 ^ a.length * valD b
  | [], b => by simp only [List.nil_append, valD, List.length_nil, Int.pow_zero]; omega
  | x :: a, b => by
    rw [List.cons_append, valD, valD, valD_app a b, List.length_cons, Int.pow_succ, Int.mul_add]
    have e : (4 : Int) ^ a.length * 4 * valD b = 4 * (4 ^ a.length * valD b) := by rw [Int.mul_comm (4 ^ a.length) 4, Int.mul_assoc]
    omega
theorem valD_lt : ∀ (a : List Int), (∀ d ∈ a, 0 ≤ d ∧ d < 4) → 0 ≤ valD a ∧ valD a < 4 ^ a.length
  | [], _ => by decide
  | x :: a, h => by
    have h1 := h x (.head _)
    have h2 := valD_lt a fun d hd => h d (.tail _ hd)
    rw [valD, List.length_cons, Int.pow_succ]
    omega
theorem piece_in {ds : List Int} {L : Int} {w : Nat} (h : ∀ d ∈ ds, 0 ≤ d ∧ d < 4) : ∀ d ∈ piece ds L w, 0 ≤ d ∧ d < 4 := fun d hd => h d (List.mem_of_mem_drop (List.mem_of_mem_take hd))
theorem piece_len {ds : List Int} {L R : Int} {w : Nat} (h0 : 0 ≤ L) (hR : R = L + w) (hn : R ≤ ds.length) : (piece ds L w).length = w := by
  unfold piece; rw [List.length_take, List.length_drop]; omega
theorem piece_one {ds : List Int} {L R : Int} (h0 : 0 ≤ L) (hR : R = L + (1 : Nat)) (hn : R ≤ ds.length) : valD (piece ds L 1) = ds.getD L.toNat 0 := by
  unfold piece
  have h : L.toNat < ds.length := by omega
  rw [List.drop_eq_getElem_cons h, List.take_succ_cons, List.take_zero]
  have e : ds.getD L.toNat 0 = ds[L.toNat] := by rw [List.getD_eq_getElem?_getD, List.getElem?_eq_getElem h]; rfl
  rw [e]
  simp only [valD]; omega
theorem piece_two {ds : List Int} {L h P R : Int} {w : Nat} (H : HalfP w h P) (h0 : 0 ≤ L) (hR : R = L + w) (hn : R ≤ ds.length) : P * valD (piece ds (L + h) (w - h.toNat)) + valD (piece ds L h.toNat) = valD (piece ds L w) := by
  have hh := H.hw
  have e : piece ds L w = piece ds L h.toNat ++ piece ds (L + h) (w - h.toNat) := by
    unfold piece
    have e1 : (L + h).toNat = L.toNat + h.toNat := by omega
    rw [e1, ← List.drop_drop]
    have e2 : w = h.toNat + (w - h.toNat) := by omega
    conv => lhs; rw [e2]
    rw [List.take_add]
  have e3 : (piece ds L h.toNat).length = h.toNat := piece_len (R := L + h) h0 (by omega) (by omega)
  rw [e, valD_app, e3]
  rcases H.sh with ⟨rfl, rfl⟩ | ⟨rfl, rfl⟩
  · show 4 * _ + _ = _ + 4 ^ 1 * _; omega
  · show 16 * _ + _ = _ + 4 ^ 2 * _; omega
theorem piece_small {ds : List Int} {L R : Int} {w : Nat} (h : ∀ d ∈ ds, 0 ≤ d ∧ d < 4) (hw : w ≤ 4) (h0 : 0 ≤ L) (hR : R = L + w) (hn : R ≤ ds.length) : 0 ≤ valD (piece ds L w) ∧ valD (piece ds L w) < 256 := by
  have k := valD_lt _ (piece_in (L := L) (w := w) h)
  rw [piece_len h0 hR hn] at k
  refine ⟨k.1, Int.lt_of_lt_of_le k.2 ?_⟩
  rcases (by omega : w = 0 ∨ w = 1 ∨ w = 2 ∨ w = 3 ∨ w = 4) with rfl | rfl | rfl | rfl | rfl <;> decide
theorem endB {w : Nat} {h P Lx R y1 y2 : Int} {ds : List Int} (H : HalfP w h P) (e1 : y1 = valD (piece ds (Lx + h) (w - h.toNat))) (e2 : y2 = valD (piece ds Lx h.toNat)) (h0 : 0 ≤ Lx) (hR : R = Lx + w) (hn : R ≤ ds.length) : P * y1 + y2 = valD (piece ds Lx w) := by
  rw [e1, e2]; exact piece_two H h0 hR hn
noncomputable def InnerB (fo : Obj) (qual : Str) (c' an ai aa : Addr) : Prop := ∃ nm ps bd sc dc pm ct, nestOf (Str.ofString "_digits2int") = some (nm, ps, bd, sc) ∧ fo = fnMade nm qual ps bd sc [(Str.ofString "n", an), (Str.ofString "inner", ai), (Str.ofString "digits", aa)] dc pm c' ct
noncomputable def ClaimB (W : World) (p : Program) (loose : List Str) (mean : ExcName → Option Value) (mg mb : Str → Option Value) (w : Nat) : Prop :=
  ∀ (dp un : Nat) (gd : Option (List Code)) (cn : Str) (cs : Scope) (a : Addr) (ccd : Value) (cl : List (Str × Addr)) (outer : List Env) (A₀ : Around) (base h₀ : Heap) (L : Addr) (m : Str → Option Value) (s : Shared) (Q E : Value → Shared → Prop)
    (rest : List (Addr × Obj)) (f c' l an ai aa : Addr) (fo oc on oi oa : Obj) (qual : Str) (vs : Array Value) (tq tn : Tok) (Lx R : Int) (t2 t3 : Tok) (ds : List Int) (dv : List Value) (e : Nat),
    InnerB fo qual c' an ai aa → Below A₀ base outer h₀ → Fr h₀ L s.heap m → (Mine.hd.heap_39 W.params).In h₀ → News h₀ L s.heap ([(l, listOf dv.toArray e), (f, fo), (c', oc), (an, on), (ai, oi), (aa, oa)] ++ rest) → Top p loose mean mg mb h₀ → cs.kind = .function → CodeHd base 77 73 →
    oc.data = .fields vs → vs[1]? = some (.str qual tq) → on.data = .cell (some (.int 2 tn)) → oi.data = .cell (some (.ref f)) → oa.data = .cell (some (.ref l)) → IntsAre dv ds → (∀ d ∈ ds, 0 ≤ d ∧ d < 4) →
    1 ≤ w → w ≤ 4 → 0 ≤ Lx → R = Lx + w → R ≤ ds.length → ds.length ≤ 4 → dp + w + 1 < recursionLimit → un + 8 * (w + 1) < cLine →
    (∀ (y : Int) (t : Tok) (h' : Heap) (tk' : Nat), y = valD (piece ds Lx w) → 0 ≤ y → y < 256 → Fr h₀ L h' m → News h₀ L h' ([(l, listOf dv.toArray e), (f, fo), (c', oc), (an, on), (ai, oi), (aa, oa)] ++ rest) → Q (.int y t) { s with heap := h', toks := tk' }) →
    wpAny (model PySem.Challenge.rw_xg0064_01.row.prog W) (ktrTop dp un gd cn cs L a ccd cl outer) (PySem.call (.ref f) [.int Lx t2, .int R t3]) Q E s
theorem ClaimB.use {W : World} {p : Program} {loose : List Str} {mean : ExcName → Option Value} {mg mb : Str → Option Value} {w : Nat} (H : ClaimB W p loose mean mg mb w)
  {dp un : Nat} {gd : Option (List Code)} {cn : Str} {cs : Scope} {a : Addr} {ccd : Value} {cl : List (Str × Addr)} {outer : List Env} {A₀ : Around} {base h₀ : Heap} {L : Addr} {m : Str → Option Value} {s : Shared} {Q E : Value → Shared → Prop}
    (rest : List (Addr × Obj)) {f c' l an ai aa : Addr} {fo oc on oi oa : Obj} {qual : Str} {vs : Array Value} {tq tn : Tok} {Lx R : Int} {t2 t3 : Tok} {ds : List Int} {dv : List Value} {e : Nat}
    (hR : R = Lx + w) (B : Below A₀ base outer h₀) (F : Fr h₀ L s.heap m) (X : (Mine.hd.heap_39 W.params).In h₀) (N : News h₀ L s.heap ([(l, listOf dv.toArray e), (f, fo), (c', oc), (an, on), (ai, oi), (aa, oa)] ++ rest)) (T : Top p loose mean mg mb h₀) (hk : cs.kind = .function) (C : CodeHd base 77 73)
    (hin : InnerB fo qual c' an ai aa) (hc : oc.data = .fields vs) (hv : vs[1]? = some (.str qual tq)) (hn : on.data = .cell (some (.int 2 tn))) (hi : oi.data = .cell (some (.ref f))) (ha : oa.data = .cell (some (.ref l))) (hds : IntsAre dv ds) (hd : ∀ d ∈ ds, 0 ≤ d ∧ d < 4)
    (hn : 1 ≤ w ∧ w ≤ 4 ∧ 0 ≤ Lx ∧ R ≤ ds.length ∧ ds.length ≤ 4 ∧ dp + w + 1 < recursionLimit ∧ un + 8 * (w + 1) < cLine)
    (ret : ∀ (y : Int) (t : Tok) (h' : Heap) (tk' : Nat), y = valD (piece ds Lx w) → 0 ≤ y → y < 256 → Fr h₀ L h' m → News h₀ L h' ([(l, listOf dv.toArray e), (f, fo), (c', oc), (an, on), (ai, oi), (aa, oa)] ++ rest) → Q (.int y t) { s with heap := h', toks := tk' }) :
    wpAny (model PySem.Challenge.rw_xg0064_01.row.prog W) (ktrTop dp un gd cn cs L a ccd cl outer) (PySem.call (.ref f) [.int Lx t2, .int R t3]) Q E s := by
  obtain ⟨g1, g2, g4, g6, g7, g8, g9⟩ := hn
  exact H _ _ _ _ _ _ _ _ _ _ _ _ _ _ _ _ _ _ _ _ _ _ _ _ _ _ _ _ _ _ _ _ _ _ _ _ _ _ _ _ hin B F X N T hk C hc hv hn hi ha hds hd g1 g2 g4 hR g6 g7 g8 g9 ret
local macro_rules | `(tactic| walk_at "call ref") => `(tactic| (k_here; (try dsimp only [List.nil_append]); k_dflt (refine' ClaimB.use ?H [] ?x1 ?B ?F ?X ?N ?T ?hk ?C ?hin ?hc ?hv ?hn ?hi ?ha ?hds ?hd ?hh ?_; (case x1 => with_reducible assumption); (case H => with_reducible assumption); (case B => k_asm); (case F => k_asm); (case X => k_asm); (case N => (rw [List.append_nil]; k_asm)); (case T => k_asm); (case hk => exact rfl); (case C => with_reducible assumption); (case hin => with_reducible assumption); (case hc => with_reducible assumption); (case hv => with_reducible assumption); (case hn => with_reducible assumption); (case hi => with_reducible assumption); (case ha => with_reducible assumption); (case hds => with_reducible assumption); (case hd => with_reducible assumption); (case hh => (dsimp only [ktrTop]; omega)); k_whole); intro y9 u9 h' tk' e8 e9 i9 F' N'; (try rw [List.append_nil] at N')))
theorem baseB {W : World} {p : Program} {loose : List Str} {mean : ExcName → Option Value} {mg mb : Str → Option Value} : ClaimB W p loose mean mg mb 1 := by
  intro dp un gd cn cs a ccd cl outer A₀ base h₀ L m s Q E rest f c' l an ai aa fo oc on oi oa qual vs tq tn Lx R t2 t3 ds dv e hin B F X N T hk C2 hoc hvs hon hoi hoa hi hdd hw1 hw4 hL0 hR hRn hn4 hdp hun ret
  have hin2 := hin
  obtain ⟨nm, ps, bd, sc, dc, pm, ct, hnest, hfo⟩ := hin2
  have h2 : some (_, _, _, _) = some (nm, ps, bd, sc) := hnest
  cases h2
  clear hnest
  have hfn : FnO fo := FnO.made hfo
  w_on
  revert X
  k_fill
  intro X
  w_strict (k_dflt (refine' wpAny_call (enter_keepN2 ?k1 ?k2 ?k3 ?k4 ?k5 ?kA ?kF ?kK ?k6 ?k7 ?k8 ?k9 ?kB ?_ ?c2 ?c3 ?c4 ?c5); (case kA => first | exact rfl | assumption); (case kF => first | exact rfl | assumption); (case kK => first | exact rfl | assumption); (case k1 => k_asm); (case k2 => k_asm); (case k3 => k_asm); (case k4 => k_asm); (case k5 => k_asm); (case k6 => (rw [← hfo]; k_mem)); (case k7 => exact codeRec_news (by k_asm) (by k_mem) (by with_reducible assumption) (by with_reducible assumption)); (case k8 => ktr_room); (case k9 => exact BindsTo.of_eq rfl); (case c5 => decide); (case kB => exact locs rfl); (case c2 => exact rfl); (case c3 => exact rfl); (case c4 => exact rfl); k_whole; intro g' L' h' FG' F' N' B' X' T' l1 G'; (try k_lt l1); (try dsimp only); (try k_lift B'); (try k_fold)))
  clear hfo
  w_strict k_steps
  have e9 := piece_one hL0 hR hRn
  have b9 := piece_small hdd (by omega) hL0 hR hRn
  rw [e9] at b9
  exact ret _ _ _ _ e9.symm b9.1 b9.2 (by k_asm) (by refine' news_sub (news_back N ?h1 ?h2 ?h3 ?h4) ?h5; (case h4 => with_reducible assumption); (case h2 => k_asm); (case h1 => exact fun _ h9 => List.mem_append_left _ h9); (case h3 => exact fun _ h9 => h9); (case h5 => exact fun _ h9 => List.mem_append_right _ h9))
theorem stepB {W : World} {p : Program} {loose : List Str} {mean : ExcName → Option Value} {mg mb : Str → Option Value} (w : Nat) (h P : Int) (H : HalfP w h P) (i1 : ClaimB W p loose mean mg mb h.toNat) (i2 : ClaimB W p loose mean mg mb (w - h.toNat)) : ClaimB W p loose mean mg mb w := by
  intro dp un gd cn cs a ccd cl outer A₀ base h₀ L m s Q E rest f c' l an ai aa fo oc on oi oa qual vs tq tn Lx R t2 t3 ds dv e hin B F X N T hk C2 hoc hvs hon hoi hoa hi hdd hw1 hw4 hL0 hR hRn hn4 hdp hun ret
  have hin2 := hin
  obtain ⟨nm, ps, bd, sc, dc, pm, ct, hnest, hfo⟩ := hin2
  have h2 : some (_, _, _, _) = some (nm, ps, bd, sc) := hnest
  cases h2
  clear hnest
  have hfn : FnO fo := FnO.made hfo
  obtain ⟨w1, w2, w3, w4⟩ := H.hw
  have f1 : R = Lx + h + ((w - h.toNat : Nat) : Int) := by omega
  have f2 : Lx + h = Lx + (h.toNat : Int) := by omega
  w_on
  revert X
  k_fill
  intro X
  w_strict (k_dflt (refine' wpAny_call (enter_keepN2 ?k1 ?k2 ?k3 ?k4 ?k5 ?kA ?kF ?kK ?k6 ?k7 ?k8 ?k9 ?kB ?_ ?c2 ?c3 ?c4 ?c5); (case kA => first | exact rfl | assumption); (case kF => first | exact rfl | assumption); (case kK => first | exact rfl | assumption); (case k1 => k_asm); (case k2 => k_asm); (case k3 => k_asm); (case k4 => k_asm); (case k5 => k_asm); (case k6 => (rw [← hfo]; k_mem)); (case k7 => exact codeRec_news (by k_asm) (by k_mem) (by with_reducible assumption) (by with_reducible assumption)); (case k8 => ktr_room); (case k9 => exact BindsTo.of_eq rfl); (case c5 => decide); (case kB => exact locs rfl); (case c2 => exact rfl); (case c3 => exact rfl); (case c4 => exact rfl); k_whole; intro g' L' h' FG' F' N' B' X' T' l1 G'; (try k_lt l1); (try dsimp only); (try k_lift B'); (try k_fold)))
  clear hfo
  w_strict k_steps
  have b9 := piece_small hdd hw4 hL0 hR hRn
  have e9 := endB (ds := ds) (Lx := Lx) H (by with_reducible assumption) (by with_reducible assumption) hL0 hR hRn
  rw [← e9] at b9
  exact ret _ _ _ _ e9 b9.1 b9.2 (by k_asm) (by refine' news_sub (news_back N ?h1 ?h2 ?h3 ?h4) ?h5; (case h4 => with_reducible assumption); (case h2 => k_asm); (case h1 => exact fun _ h9 => List.mem_append_left _ h9); (case h3 => exact fun _ h9 => h9); (case h5 => exact fun _ h9 => List.mem_append_right _ h9))
theorem allB {W : World} {p : Program} {loose : List Str} {mean : ExcName → Option Value} {mg mb : Str → Option Value} : ∀ w : Nat, 1 ≤ w → w ≤ 4 → ClaimB W p loose mean mg mb w := by
  intro w
  induction w using Nat.strongRecOn with
  | _ w ih =>
    intro h1 h4
    by_cases e : w = 1
    · subst e; exact baseB
    · obtain ⟨h, P, H⟩ := halfP (w := w) (by omega) h4
      have hh := H.hw
      exact stepB w h P H (ih _ (by omega) (by omega) (by omega)) (ih _ (by omega) (by omega) (by omega))
end
end
abbrev pos66 : Pos := ⟨51, 4, 60, 28⟩
abbrev pos73 : Pos := ⟨66, 4, 71, 55⟩
abbrev q66 : Str := Str.ofString "_int2digits" ++ ".<locals>." ++ Str.ofString "inner"
abbrev q73 : Str := Str.ofString "_digits2int" ++ ".<locals>." ++ Str.ofString "inner"
/-- an address that stands nowhere in the ledger -/
noncomputable def FreshIn (d : Addr) (news : List (Addr × Obj)) : Prop := ∀ q ∈ news, q.1 ≠ d
theorem FreshIn.ne {d b : Addr} {o : Obj} {news : List (Addr × Obj)} (h : FreshIn d news) (hm : (b, o) ∈ news) : d ≠ b := fun e => h _ hm e.symm
noncomputable def FreshOr (d c : Addr) (news : List (Addr × Obj)) : Prop := d = c ∨ FreshIn d news
theorem FreshOr.ne {d c b : Addr} {o : Obj} {news : List (Addr × Obj)} (h : FreshOr d c news) (hm : (b, o) ∈ news) (hc : c ≠ b) : d ≠ b := h.elim (fun e => e ▸ hc) fun f => f.ne hm
abbrev pair2 (q r : Int) (a b : Tok) : Obj := { cls := .type "tuple", data := .seq #[.int q a, .int r b] }
theorem news_updF {s : Shared} {h₀ h' : Heap} {L P : Addr} {news tabs news' : List (Addr × Obj)} {o o' : Obj} {g : Obj → List (Addr × Obj)} (N : News h₀ L s.heap news) (U : UpdF P o news g) (hsub : ∀ t ∈ tabs, t ∈ news) (N' : News h₀ L h' news') (hP : (P, o') ∈ news')
    (hs : ∀ t ∈ tabs, t.1 ≠ P → t ∈ news') (k : Kept news tabs h') : News h₀ L h' (g o') := fun q hq => by
  obtain ⟨pre, post, rfl, hg, a, b⟩ := U.split
  rw [hg] at hq
  have main : q ∈ pre ++ (P, o) :: post → q.1 ≠ P → h'.get? q.1 = some q.2 ∧ q.1 ≠ L ∧ h₀.get? q.1 = none := fun hqm hne => by
    by_cases e : ∃ t ∈ tabs, t.1 = q.1
    · obtain ⟨t, ht, e⟩ := e
      have h1 := (N t (hsub t ht)).1
      have h2 := (N q hqm).1
      rw [e, h2] at h1
      have e2 : t = q := Prod.ext e (Option.some.inj h1).symm
      exact N' q (e2 ▸ hs t ht (e ▸ hne))
    · exact ⟨k q hqm fun t ht e' => e ⟨t, ht, e'⟩, (N q hqm).2⟩
  rcases List.mem_append.mp hq with hq | hq
  · exact main (List.mem_append_left _ hq) (a q hq)
  · rcases List.mem_cons.mp hq with rfl | hq
    · exact N' _ hP
    · exact main (List.mem_append_right _ (.tail _ hq)) (b q hq)
theorem freshIn_of {g h' : Heap} {L' d : Addr} {o : Obj} {news tabs news' : List (Addr × Obj)} (N' : News g L' h' news') (hp : (d, o) ∈ news') (ht : ∀ t ∈ tabs, t.1 ≠ d) (G : ∀ q ∈ news, (∀ t ∈ tabs, t.1 ≠ q.1) → g.get? q.1 = some q.2) : FreshIn d news := fun q hq => by
  by_cases e : ∃ t ∈ tabs, t.1 = q.1
  · obtain ⟨t, h1, e⟩ := e
    exact e ▸ ht t h1
  · exact fresh_of N' hp G q hq fun t h1 e' => e ⟨t, h1, e'⟩
theorem freshOr_of {g h' : Heap} {L' d c : Addr} {o : Obj} {news tabs news' : List (Addr × Obj)} (N' : News g L' h' news') (hp : (d, o) ∈ news') (ht : d = c ∨ ∀ t ∈ tabs, t.1 ≠ d) (G : ∀ q ∈ news, (∀ t ∈ tabs, t.1 ≠ q.1) → g.get? q.1 = some q.2) : FreshOr d c news :=
  ht.imp id fun h => freshIn_of N' hp h G
theorem mem_updF {P : Addr} {o : Obj} {news : List (Addr × Obj)} {g : Obj → List (Addr × Obj)} (U : UpdF P o news g) : (P, o) ∈ news := by
  obtain ⟨pre, post, rfl, -, -, -⟩ := U.split
  exact List.mem_append_right _ (.head _)
theorem bits_k {x b : Int} (h0 : 0 ≤ x) (h1 : x < 256) (H : BitsSay x b) : ∃ k : Nat, k ≤ 4 ∧ x < 4 ^ k ∧ (x = 0 → k = 0) ∧ (0 < x → 1 ≤ k) ∧ 2 * (k : Int) ≤ b + 1 ∧ b + 1 < 2 * (k : Int) + 2 := by
  obtain ⟨b1, b2, b3, b4, b5, b6, b7⟩ := H
  by_cases e0 : x = 0
  · have c := b3 e0
    clear b1 b2 b3 b4 b5 b6 b7 h0 h1
    subst e0 c
    exact ⟨0, by decide, by decide, fun _ => rfl, fun h => absurd h (by decide), by decide, by decide⟩
  have p0 : 0 < x := by clear b1 b2 b3 b4 b5 b6 b7 h1; omega
  by_cases e1 : x ≤ 3
  · have c := b4 p0 e1
    clear b1 b2 b3 b4 b5 b6 b7 h0 h1
    exact ⟨1, by decide, Int.lt_of_le_of_lt e1 (by decide), fun h => absurd h e0, fun _ => by decide, Int.add_le_add_right c.1 1, Int.lt_of_le_of_lt (Int.add_le_add_right c.2 1) (by decide)⟩
  have p1 : 4 ≤ x := by clear b1 b2 b3 b4 b5 b6 b7 h1 h0 p0 e0; omega
  by_cases e2 : x ≤ 15
  · have c := b5 p1 e2
    clear b1 b2 b3 b4 b5 b6 b7 h0 h1
    exact ⟨2, by decide, Int.lt_of_le_of_lt e2 (by decide), fun h => absurd h e0, fun _ => by decide, Int.add_le_add_right c.1 1, Int.lt_of_le_of_lt (Int.add_le_add_right c.2 1) (by decide)⟩
  have p2 : 16 ≤ x := by clear b1 b2 b3 b4 b5 b6 b7 h1 h0 p0 e0 e1 p1; omega
  by_cases e3 : x ≤ 63
  · have c := b6 p2 e3
    clear b1 b2 b3 b4 b5 b6 b7 h0 h1
    exact ⟨3, by decide, Int.lt_of_le_of_lt e3 (by decide), fun h => absurd h e0, fun _ => by decide, Int.add_le_add_right c.1 1, Int.lt_of_le_of_lt (Int.add_le_add_right c.2 1) (by decide)⟩
  · have c := b7 (by clear b1 b2 b3 b4 b5 b6 b7 h1 h0 p0 e0 e1 p1 e2 p2; omega)
    clear b1 b3 b4 b5 b6 b7 h0
    exact ⟨4, by decide, h1, fun h => absurd h e0, fun _ => by decide, Int.add_le_add_right c 1, Int.lt_of_le_of_lt (Int.add_le_add_right b2 1) (by decide)⟩
section
variable {prog : Program} {w : World} {A : Around} {E : Value → Shared → Prop} {s : Shared} {Q : Value → Shared → Prop} {x n v : Int} {t u : Tok}
theorem bl_k (h0 : 0 ≤ x) (h1 : x < 256) (h : ∀ (b : Int) (k : Nat), k ≤ 4 → x < 4 ^ k → (x = 0 → k = 0) → (0 < x → 1 ≤ k) → 2 * (k : Int) ≤ b + 1 ∧ b + 1 < 2 * (k : Int) + 2 → Q (.int b s.toks) { s with toks := s.toks + 1 }) : wpAny (model prog w) A (call (.builtin "int.bit_length") [.int x t]) Q E s :=
  bl_any h0 h1 fun b hb => by
    obtain ⟨k, a1, a2, a3, a4, a5, a6⟩ := bits_k h0 h1 hb
    exact h b k a1 a2 a3 a4 ⟨a5, a6⟩
theorem fdiv_k {b : Int} {k : Nat} (hb : 2 * (k : Int) ≤ b + 1 ∧ b + 1 < 2 * (k : Int) + 2) (h : Q (.int k s.toks) { s with toks := s.toks + 1 }) : wpAny (model prog w) A (binaryOp .FloorDiv (.int (b + 2 - 1) t) (.int 2 u)) Q E s :=
  fdiv_2 fun y a1 a2 => by
    have e : y = k := by omega
    exact e ▸ h
end
theorem repl_len (y : Int) (x : Int) : ((List.replicate y.toNat [x]).flatten).length = y.toNat := by
  generalize y.toNat = n
  induction n with
  | zero => rfl
  | succ n ih => rw [List.replicate_succ, List.flatten_cons, List.length_append, ih]; simp only [List.length_cons, List.length_nil]; omega
theorem setR_full {ds xs : List Int} (h : ds.length = xs.length) : setR ds 0 xs = xs := by
  unfold setR
  rw [List.take_zero, List.nil_append, List.drop_eq_nil_of_le (by omega), List.append_nil]
noncomputable def NestFn (fo : Obj) (name qual : Str) (params : Arguments) (body : List Stmt) (scope : Scope) (clos : List (Str × Addr)) (c' : Addr) : Prop := ∃ doc pm ctv, fo = fnMade name qual params body scope clos doc pm c' ctv
noncomputable def CodeOb (oc : Obj) (qual : Str) : Prop := ∃ vs t, oc.data = .fields vs ∧ vs[1]? = some (.str qual t)
section
variable {M : Model} {A : Around} {E : Value → Shared → Prop} {s : Shared} {h₀ : Heap} {L a c P : Addr} {m mg mb : Str → Option Value} {cn : Str} {cs : Scope} {ccd : Value} {cl : List (Str × Addr)} {news : List (Addr × Obj)} {g : Obj → List (Addr × Obj)}
  {p : Program} {loose : List Str} {mean : ExcName → Option Value} {name qual : Str} {params : Arguments} {body : List Stmt} {scope : Scope} {ps : Array Value} {pos : Pos} {firstLine : Nat} {clos : List (Str × Addr)}
theorem nest_any2 {Q : Value → Shared → Prop} {c1 : Addr} {o1 : Obj} {Bd : Nat} (F : Fr h₀ L s.heap m) (N : News h₀ L s.heap news) (T : Top p loose mean mg mb h₀) (C : CodeHd h₀ c P) (hcd : ccd = .ref c) (U : UpdF P (tabObj ps) news g)
    (hst : TabSt pos qual ps c1 o1) (hm1 : (c1, o1) ∈ news) (hB : @LT.lt Nat _ Bd c1) (hBn : ∃ q ∈ news, @LE.le Nat _ Bd q.1)
    (hcl : closureFor scope (envX cn cs L a ccd cl) = pure clos)
    (h : ∀ f c' oc fo h' tk, NestFn fo name qual params body scope clos c' → CodeOb oc qual → Fr h₀ L h' m →
      News h₀ L h' ((f, fo) :: (c', oc) :: g (tabObj #[rawInt pos.line, rawInt pos.col, .ref c'])) →
      (∀ q ∈ news, q.1 < f) → @LT.lt Nat _ c' f → @LT.lt Nat _ Bd c' → (@Eq Nat c' c1 ∨ AllLt c' news) → Q (.ref f) { s with heap := h', toks := tk }) :
    wpAny M A (makeFunction name qual params (.stmts body) scope (envX cn cs L a ccd cl) [] [] [] pos firstLine) Q E s :=
  nest_any F N T C hcd U hst hm1 hB hBn hcl fun f c' oc vs t ctv doc h' tk F' N' e1 e2 l1 l2 l3 l4 => h f c' oc _ h' tk ⟨_, _, _, rfl⟩ ⟨_, _, e1, e2⟩ F' N' l1 l2 l3 l4
end
theorem NestFn.fn {fo : Obj} {name qual : Str} {params : Arguments} {body : List Stmt} {scope : Scope} {clos : List (Str × Addr)} {c' : Addr} (h : NestFn fo name qual params body scope clos c') : FnO fo := by
  obtain ⟨_, _, _, rfl⟩ := h
  exact ⟨_, _, _, _, rfl⟩
theorem InnerA.of {fo : Obj} {name qual : Str} {params : Arguments} {body : List Stmt} {scope : Scope} {an ai aa : Addr} {c' : Addr} (h : NestFn fo name qual params body scope [(Str.ofString "n", an), (Str.ofString "inner", ai), (Str.ofString "a_digits", aa)] c')
    (hn : nestOf (Str.ofString "_int2digits") = some (name, params, body, scope)) : InnerA fo qual c' an ai aa := by
  obtain ⟨_, _, _, rfl⟩ := h
  exact ⟨_, _, _, _, _, _, _, hn, rfl⟩
theorem InnerB.of {fo : Obj} {name qual : Str} {params : Arguments} {body : List Stmt} {scope : Scope} {an ai aa : Addr} {c' : Addr} (h : NestFn fo name qual params body scope [(Str.ofString "n", an), (Str.ofString "inner", ai), (Str.ofString "digits", aa)] c')
    (hn : nestOf (Str.ofString "_digits2int") = some (name, params, body, scope)) : InnerB fo qual c' an ai aa := by
  obtain ⟨_, _, _, rfl⟩ := h
  exact ⟨_, _, _, _, _, _, _, hn, rfl⟩
theorem news_cons {h₀ h : Heap} {L : Addr} {q : Addr × Obj} {l r : List (Addr × Obj)} (N : News h₀ L h l) (hm : q ∈ l) (N2 : News h₀ L h r) : News h₀ L h (q :: r) := List.forall_mem_cons.mpr ⟨N q hm, N2⟩
theorem ints_nil {v : Value} {x : Int} {k : Nat} (h : IntsAre (List.replicate (k : Int).toNat [v]).flatten (List.replicate (k : Int).toNat [0]).flatten) (h0 : k = 0) : IntsAre (List.replicate (k : Int).toNat [v]).flatten (digs x k) := by
  subst h0; exact h
theorem CodeOb.tab {pos : Pos} {qual : Str} {c1 : Addr} {o1 : Obj} (h : CodeOb o1 qual) : TabSt pos qual #[rawInt pos.line, rawInt pos.col, .ref c1] c1 o1 := by
  obtain ⟨_, _, e1, e2⟩ := h
  exact TabSt.full e1 e2
theorem append_V {w : World} {prog : Program} {A : Around} {E : Value → Shared → Prop} {s : Shared} {h₀ : Heap} {L D : Addr} {m : Str → Option Value} {news news' : List (Addr × Obj)} {vs : List Value} {n : Nat} {x : Value} {Q : Value → Shared → Prop} (F : Fr h₀ L s.heap m) (N : News h₀ L s.heap news) (U : Upd D (listOf vs.toArray n) (listOf (vs ++ [x]).toArray (n + 1)) news news')
    (hsz : vs.length ≤ 1000) (h : ∀ h', Fr h₀ L h' m → News h₀ L h' news' → Q .none { s with heap := h' }) : wpAny (model prog w) A (call (.builtin "list.append") [.ref D, x]) Q E s := by
  refine append_K F N (its := vs.toArray) (n := n) ?_ h (Nat.le_trans (by simpa using hsz) (by decide))
  rw [List.push_toArray]; exact U
noncomputable def dpPart : Option (List Stmt × Scope) := PySem.Challenge.rw_xg0064_01.prog.main.body.findSome? fun st => match st with
  | .FunctionDef n _ b _ _ _ sc _ _ _ => if n == Str.ofString "_divmod_pos" then some (forBody b, sc) else none
  | _ => none
noncomputable def fold4 (a : Int) (l : List Int) : Int := l.foldl (fun a d => 4 * a + d) a
theorem fold4_rev : ∀ l : List Int, fold4 0 l.reverse = valD l
  | [] => rfl
  | d :: l => by
    rw [List.reverse_cons]
    unfold fold4
    rw [List.foldl_append]
    show 4 * fold4 0 l.reverse + d = _
    rw [fold4_rev l, valD]; omega
theorem fold4_snoc (l : List Int) (q : Int) : fold4 0 (l ++ [q]) = 4 * fold4 0 l + q := by
  unfold fold4; rw [List.foldl_append]; rfl
theorem kst_same {m : Str → Option Value} {ps : List (Str × Value)} (hp : KAll m ps) : kstB m ps = m := by
  funext z
  exact kstB_eq hp.all fun _ => rfl
section
variable {prog : Program} {w : World} {A : Around} {E : Value → Shared → Prop} {h₀ : Heap} {env : Env} {x : Str} {body : List Stmt} {Q : Flow → Shared → Prop} {s : Shared} {I : Addr} {lp : Addr × Obj}
theorem RevRest.kst {r : List Value} {m : Str → Option Value} {news : List (Addr × Obj)} {ps : List (Str × Value)} (hp : KAll m ps) (H : RevRest prog w A E h₀ env x body Q s I lp r (kstB m ps) news) : RevRest prog w A E h₀ env x body Q s I lp r m news := by
  rw [kst_same hp] at H; exact H
theorem RevRest.mono {r : List Value} {m : Str → Option Value} {n n' : List (Addr × Obj)} (H : RevRest prog w A E h₀ env x body Q s I lp r m n) (hs : ∀ q ∈ n, q ∈ n') : RevRest prog w A E h₀ env x body Q s I lp r m n' := by
  cases r with
  | nil => exact fun h tk F N => H h tk F (news_sub N hs)
  | cons v r => exact fun it h tk hi F N => H it h tk hi F (news_sub N fun q hq => by
      rcases List.mem_cons.mp hq with rfl | hq
      · exact .head _
      · exact .tail _ (hs q hq))
end
theorem news_updF2 {s : Shared} {h₀ h' : Heap} {L P1 P2 : Addr} {news tabs news' : List (Addr × Obj)} {oa oa' ob ob' : Obj} {g1 : Obj → List (Addr × Obj)} {g2 : Obj → Obj → List (Addr × Obj)} (N : News h₀ L s.heap news) (U1 : UpdF P1 oa news g1) (U2 : ∀ o, UpdF P2 ob (g1 o) (g2 o)) (hsub : ∀ t ∈ tabs, t ∈ news) (N' : News h₀ L h' news') (hP1 : (P1, oa') ∈ news') (hP2 : (P2, ob') ∈ news')
    (hs : ∀ t ∈ tabs, t.1 ≠ P1 → t.1 ≠ P2 → t ∈ news') (k : Kept news tabs h') : News h₀ L h' (g2 oa' ob') := fun q hq => by
  obtain ⟨pre, post, rfl, hg, a, b⟩ := U1.split
  obtain ⟨pre2, post2, e2, hg2, a2, b2⟩ := (U2 oa').split
  rw [hg2] at hq
  have main : q ∈ pre ++ (P1, oa) :: post → q.1 ≠ P1 → q.1 ≠ P2 → h'.get? q.1 = some q.2 ∧ q.1 ≠ L ∧ h₀.get? q.1 = none := fun hqm hne hne2 => by
    by_cases e : ∃ t ∈ tabs, t.1 = q.1
    · obtain ⟨t, ht, e⟩ := e
      have h1 := (N t (hsub t ht)).1
      have h2 := (N q hqm).1
      rw [e, h2] at h1
      have e2 : t = q := Prod.ext e (Option.some.inj h1).symm
      exact N' q (e2 ▸ hs t ht (e ▸ hne) (e ▸ hne2))
    · exact ⟨k q hqm fun t ht e' => e ⟨t, ht, e'⟩, (N q hqm).2⟩
  have step : q ∈ g1 oa' → q.1 ≠ P2 → h'.get? q.1 = some q.2 ∧ q.1 ≠ L ∧ h₀.get? q.1 = none := fun hqm hne2 => by
    rw [hg] at hqm
    rcases List.mem_append.mp hqm with hq | hq
    · exact main (List.mem_append_left _ hq) (a q hq) hne2
    · rcases List.mem_cons.mp hq with rfl | hq
      · exact N' _ hP1
      · exact main (List.mem_append_right _ (.tail _ hq)) (b q hq) hne2
  rcases List.mem_append.mp hq with hq | hq
  · exact step (e2 ▸ List.mem_append_left _ hq) (a2 q hq)
  · rcases List.mem_cons.mp hq with rfl | hq
    · exact N' _ hP2
    · exact step (e2 ▸ List.mem_append_right _ (.tail _ hq)) (b2 q hq)
theorem tab_mem {pos : Pos} {qual : Str} {ps : Array Value} {c : Addr} {o : Obj} {l : List (Addr × Obj)} (_ : TabSt pos qual ps c o) (h : (c, o) ∈ l) : (c, o) ∈ l := h
theorem reverse_V {w : World} {prog : Program} {A : Around} {E : Value → Shared → Prop} {s : Shared} {h₀ : Heap} {L D : Addr} {m : Str → Option Value} {news news' : List (Addr × Obj)} {vs : List Value} {n : Nat} {Q : Value → Shared → Prop} (F : Fr h₀ L s.heap m) (N : News h₀ L s.heap news) (U : Upd D (listOf vs.toArray n) (listOf vs.reverse.toArray n) news news')
    (hsz : vs.length ≤ 1000) (h : ∀ h', Fr h₀ L h' m → News h₀ L h' news' → Q .none { s with heap := h' }) : wpAny (model prog w) A (call (.builtin "list.reverse") [.ref D]) Q E s :=
  kl_reverse F N (its := vs.toArray) (l := vs.reverse) rfl U (Nat.le_trans hsz (by decide)) h
section
local macro_rules | `(tactic| k_room) => `(tactic| ktr_room)
section
local macro_rules | `(tactic| walk_at "FnAt") => `(tactic| (k_dflt (exact FnAt.ofO (by k_asm) (by k_mem) (by with_reducible assumption))))
local macro_rules | `(tactic| walk_at "callWith ref") => `(tactic| (k_here; k_dflt (refine' callWith_F ?k1 ?_; (case k1 => exact FnAt.ofO (by k_asm) (by k_mem) (by with_reducible assumption)); k_whole)))
section
local macro_rules | `(tactic| walk_at "pad") => `(tactic| skip)
local macro_rules | `(tactic| walk_at "eval Name") => `(tactic| (name_kind "local"; k_dflt (refine' nameX_L ?F ?v ?_ ?a ?b; (case F => k_asm); (case a => rfl); (case b => rfl); (case v => rfl); k_whole)))
local macro_rules | `(tactic| walk_at "exec FunctionDef") => `(tactic| (k_here; kn_here; k_dflt (refine' nestDef_K ?d0 ?k0 ?a0 ?_; (case d0 => exact rfl); (case k0 => exact rfl); (case a0 => exact rfl)); k_dflt (refine' nest_any2 (Bd := 73) ?F ?N ?T ?C ?cd ?U ?st ?m1 ?hB ?hBn ?cl ?_; (case F => k_asm); (case N => k_asm); (case T => k_asm); (case cd => exact rfl); (case C => kn_code); (case U => k_updF); (case st => assumption); (case m1 => k_mem); (case hB => with_reducible assumption); (case hBn => exact ⟨(73, _), by k_mem, Nat.le_refl _⟩); (case cl => exact rfl); k_whole); intro f' c' oc' fo' h' tk' d1' d2' F' N' l1 l2 l3 l4; (try dsimp only at N'); (try k_lt l1); (try k_lt2 l2); (try k_lt2 l3); (try simp only [AllLt, and_true] at l4); (have hfn9 := NestFn.fn d1'); (have hcd9 : CodeOb oc' q66 := d2'); (have hin9 := InnerA.of (qual := q66) d1'); (replace hin9 := hin9 rfl); clear d1' d2'))
local macro_rules | `(tactic| walk_at "execs cons If") => `(tactic| (with_reducible refine wpAny_execs_cons ?_))
local macro_rules | `(tactic| walk_at "call builtin:int.bit_length") => `(tactic| (k_here; k_dflt (refine bl_k (by omega) (by omega) ?_; intro b9 k9 e4 e5 e6 e7 e8)))
local macro_rules | `(tactic| walk_at "binaryOp FloorDiv int int") => `(tactic| (k_here; k_dflt (refine fdiv_k (by with_reducible assumption) ?_)))
theorem i2d_ok {w : World} {p : Program} {loose : List Str} {mean : ExcName → Option Value} {mg mb : Str → Option Value}
  {cn : Str} {cs : Scope} {a : Addr} {ccd : Value} {cl : List (Str × Addr)} {dp un : Nat} {gd : Option (List Code)} {outer : List Env} {A₀ : Around} {base h₀ : Heap} {L : Addr} {m : Str → Option Value} {news : List (Addr × Obj)} {s : Shared} {Q E : Value → Shared → Prop}
  {g : Obj → List (Addr × Obj)} {ps1 ps2 : Array Value} {c2 : Addr} {o2 : Obj} (x : Int) (t1 t2 : Tok) (h0 : 0 ≤ x) (h1 : x < 256)
  (B : Below A₀ base outer h₀) (F : Fr h₀ L s.heap m) (X : (Mine.hd.heap_39 w.params).In h₀) (N : News h₀ L s.heap news) (T : Top p loose mean mg mb h₀) (hk : cs.kind = .function) (hdp : dp + 12 < recursionLimit) (hun : un + 96 < cLine)
  (C2 : CodeHd base 70 66) (U : UpdF 66 (tabObj ps2) news g) (m1 : (73, tabObj ps1) ∈ news) (m2 : (c2, o2) ∈ news) (S2 : TabSt pos66 q66 ps2 c2 o2) (b2 : @LT.lt Nat _ 73 c2)
  (ret : ∀ (k : Nat) (d c2' : Addr) (o2' : Obj) (ps2' : Array Value) (dv : List Value) (e : Nat) (h' : Heap) (tk' : Nat), k ≤ 4 → x < 4 ^ k → IntsAre dv (digs x k) → TabSt pos66 q66 ps2' c2' o2' → @LT.lt Nat _ 73 c2' → @LT.lt Nat _ 73 d → d ≠ c2' → FreshIn d news → FreshOr c2' c2 news → Fr h₀ L h' m → News h₀ L h' ((d, listOf dv.toArray e) :: (c2', o2') :: g (tabObj ps2')) → Q (.ref d) { s with heap := h', toks := tk' }) :
  wpAny (model PySem.Challenge.rw_xg0064_01.row.prog w) (ktrTop dp un gd cn cs L a ccd cl outer) (PySem.call (.ref 71) [.int x t1, .int 2 t2]) Q E s := by
  w_on
  revert X
  k_fill
  intro X
  have hsub : ∀ q ∈ [(66, tabObj ps2), (c2, o2), (73, tabObj ps1)], q ∈ news := List.forall_mem_cons.mpr ⟨mem_updF U, List.forall_mem_cons.mpr ⟨m2, List.forall_mem_cons.mpr ⟨m1, List.forall_mem_nil _⟩⟩⟩
  w_strict (k_dflt ((refine' wpAny_call (enter_keepC (binds := [(Str.ofString "a", .int x t1), (Str.ofString "n", .int 2 t2)]) ?k1 ?k2 ?k3 ?k4 ?k5 [(66, tabObj ps2), (c2, o2), (73, tabObj ps1)] ?hsub ?kA ?kF ?kK ?k6 ?k7 ?k8 ?k9 ?kB ?kD ?_ ?c2 ?c3 ?c4); (case kA => first | exact rfl | assumption); (case kF => first | exact rfl | assumption); (case kK => first | exact rfl | assumption); (case k1 => k_asm); (case k2 => k_asm); (case k3 => k_asm); (case k4 => k_asm); (case k5 => k_asm); (case hsub => exact hsub); (case k6 => k_is); (case k7 => k_is); (case k8 => ktr_room); (case k9 => exact BindsTo.of_eq rfl); (case kB => exact rfl); (case kD => decide +kernel); (case c2 => exact rfl); (case c3 => exact rfl); (case c4 => exact rfl); k_whole; intro g' L' h' tk' cells' FG' F' N' Y' B' X' T' l1 G'; (try k_lt l1); k_cells Y'; (try simp only [List.cons_append, List.nil_append, List.append_nil] at N'); (try dsimp only); (try k_lift B'); (try k_fold))))
  rename_i oi oa on hoi hoa hon
  replace hon : on.data = .cell (some (.int 2 t2)) := hon
  replace hoi : oi.data = .cell none := hoi
  replace hoa : oa.data = .cell none := hoa
  k_steps
  · obtain ⟨vs, tq, hq1, hq2⟩ := ‹CodeOb _ q66›
    dsimp only [List.nil_append]
    refine' ClaimA.use ?H [(66, tabObj _), (c2, o2), (73, tabObj ps1)] ?x1 ?B ?F ?X ?N ?T ?hk ?C ?hin ?hc ?hv ?hn ?hi ?ha ?hds ?n1 ?n2 ?n3 ?n4 ?n5 ?hr ?hh ?_
    case x1 => with_reducible assumption
    case B => k_asm
    case F => k_asm
    case X => k_asm
    case T => k_asm
    case H => exact allA _ (by omega) (by omega)
    case hk => exact rfl
    case C => exact C2
    case hin => with_reducible assumption
    case hc => exact hq1
    case hv => exact hq2
    case hds => with_reducible assumption
    case N =>
      refine news_sub (by k_asm) ?_
      exact List.forall_mem_cons.mpr ⟨by k_mem, List.forall_mem_cons.mpr ⟨by k_mem, List.forall_mem_cons.mpr ⟨by k_mem, List.forall_mem_cons.mpr ⟨by k_mem, List.forall_mem_cons.mpr ⟨by k_mem, List.forall_mem_cons.mpr ⟨by k_mem, List.forall_mem_cons.mpr ⟨by k_mem, List.forall_mem_cons.mpr ⟨by k_mem, List.forall_mem_cons.mpr ⟨by k_mem, List.forall_mem_nil _⟩⟩⟩⟩⟩⟩⟩⟩⟩
    case hn => exact hon
    case hi => with_reducible assumption
    case ha => with_reducible assumption
    case hr => exact (List.forall_mem_cons.mpr ⟨by (show ¬ (@Eq Nat _ _); omega), List.forall_mem_cons.mpr ⟨by (show ¬ (@Eq Nat _ _); omega), List.forall_mem_cons.mpr ⟨by (show ¬ (@Eq Nat _ _); omega), List.forall_mem_nil _⟩⟩⟩)
    case n1 => (show ¬ (@Eq Nat _ _); omega)
    case n2 => (show ¬ (@Eq Nat _ _); omega)
    case n3 => (show ¬ (@Eq Nat _ _); omega)
    case n4 => (show ¬ (@Eq Nat _ _); omega)
    case n5 => (show ¬ (@Eq Nat _ _); omega)
    case hh =>
      dsimp only [ktrTop]
      omega
    intro dv' ds' h1 tk1 f1 f2 f3 F1 N1
    dsimp only [List.cons_append, List.nil_append] at N1
    have hq9 : CodeOb _ q66 := ⟨vs, tq, hq1, hq2⟩
    w_strict k_steps
    have f4 : ds' = digs x _ := f1.trans (setR_full (by rw [digs_len]; omega))
    rw [f4] at f3
    refine' ret _ _ _ _ _ _ _ _ _ ?k4 ?kx f3 ?ts ?b1 ?b2 ?ne ?fd ?fc ?hF ?hN
    case kx => with_reducible assumption
    case k4 => with_reducible assumption
    case ts => exact CodeOb.tab (by with_reducible assumption)
    case hF => k_asm
    case hN => exact news_cons (by k_asm) (by k_mem) (news_cons (by k_asm) (by k_mem) (news_updF N U hsub (by k_asm) (by k_mem) (List.forall_mem_cons.mpr ⟨fun h9 => absurd rfl h9, List.forall_mem_cons.mpr ⟨fun _ => by k_mem, List.forall_mem_cons.mpr ⟨fun _ => by k_mem, List.forall_mem_nil _⟩⟩⟩) (by with_reducible assumption)))
    case b1 => with_reducible assumption
    case b2 => (show @LT.lt Nat _ _ _; omega)
    case ne => (show ¬ (@Eq Nat _ _); omega)
    case fd => exact freshIn_of (by rename News g' L' _ _ => N9; exact N9) (by k_mem) (List.forall_mem_cons.mpr ⟨by (show ¬ (@Eq Nat _ _); omega), List.forall_mem_cons.mpr ⟨by (show ¬ (@Eq Nat _ _); omega), List.forall_mem_cons.mpr ⟨by (show ¬ (@Eq Nat _ _); omega), List.forall_mem_nil _⟩⟩⟩) G'
    case fc =>
      refine freshOr_of (by rename News g' L' _ _ => N9; exact N9) (by k_mem) ?_ G'
      rename _ ∨ _ => l4
      refine l4.imp id fun h9 => ?_
      exact (List.forall_mem_cons.mpr ⟨by (show ¬ (@Eq Nat _ _); omega), List.forall_mem_cons.mpr ⟨by (show ¬ (@Eq Nat _ _); omega), List.forall_mem_cons.mpr ⟨by (show ¬ (@Eq Nat _ _); omega), List.forall_mem_nil _⟩⟩⟩)
  · have f3 : IntsAre _ (digs x _) := ints_nil (by with_reducible assumption) (by omega)
    refine' ret _ _ _ _ _ _ _ _ _ ?k4 ?kx f3 ?ts ?b1 ?b2 ?ne ?fd ?fc ?hF ?hN
    case kx => with_reducible assumption
    case k4 => with_reducible assumption
    case ts => exact CodeOb.tab (by with_reducible assumption)
    case hF => k_asm
    case hN => exact news_cons (by k_asm) (by k_mem) (news_cons (by k_asm) (by k_mem) (news_updF N U hsub (by k_asm) (by k_mem) (List.forall_mem_cons.mpr ⟨fun h9 => absurd rfl h9, List.forall_mem_cons.mpr ⟨fun _ => by k_mem, List.forall_mem_cons.mpr ⟨fun _ => by k_mem, List.forall_mem_nil _⟩⟩⟩) (by with_reducible assumption)))
    case b1 => with_reducible assumption
    case b2 => (show @LT.lt Nat _ _ _; omega)
    case ne => (show ¬ (@Eq Nat _ _); omega)
    case fd => exact freshIn_of (by rename News g' L' _ _ => N9; exact N9) (by k_mem) (List.forall_mem_cons.mpr ⟨by (show ¬ (@Eq Nat _ _); omega), List.forall_mem_cons.mpr ⟨by (show ¬ (@Eq Nat _ _); omega), List.forall_mem_cons.mpr ⟨by (show ¬ (@Eq Nat _ _); omega), List.forall_mem_nil _⟩⟩⟩) G'
    case fc =>
      refine freshOr_of (by rename News g' L' _ _ => N9; exact N9) (by k_mem) ?_ G'
      rename _ ∨ _ => l4
      refine l4.imp id fun h9 => ?_
      exact (List.forall_mem_cons.mpr ⟨by (show ¬ (@Eq Nat _ _); omega), List.forall_mem_cons.mpr ⟨by (show ¬ (@Eq Nat _ _); omega), List.forall_mem_cons.mpr ⟨by (show ¬ (@Eq Nat _ _); omega), List.forall_mem_nil _⟩⟩⟩)
end
section
local macro_rules | `(tactic| walk_at "exec FunctionDef") => `(tactic| (k_here; kn_here; k_dflt (refine' nestDef_K ?d0 ?k0 ?a0 ?_; (case d0 => exact rfl); (case k0 => exact rfl); (case a0 => exact rfl)); k_dflt (refine' nest_any2 (Bd := 73) ?F ?N ?T ?C ?cd ?U ?st ?m1 ?hB ?hBn ?cl ?_; (case F => k_asm); (case N => k_asm); (case T => k_asm); (case cd => exact rfl); (case C => kn_code); (case U => k_updF); (case st => assumption); (case m1 => k_mem); (case hB => with_reducible assumption); (case hBn => exact ⟨(73, _), by k_mem, Nat.le_refl _⟩); (case cl => exact rfl); k_whole); intro f' c' oc' fo' h' tk' d1' d2' F' N' l1 l2 l3 l4; (try dsimp only at N'); (try k_lt l1); (try k_lt2 l2); (try k_lt2 l3); (try simp only [AllLt, and_true] at l4); (have hfn9 := NestFn.fn d1'); (have hcd9 : CodeOb oc' q73 := d2'); (have hin9 := InnerB.of (qual := q73) d1'); (replace hin9 := hin9 rfl); clear d1' d2'))

theorem d2i_ok {w : World} {p : Program} {loose : List Str} {mean : ExcName → Option Value} {mg mb : Str → Option Value}
  {cn : Str} {cs : Scope} {a : Addr} {ccd : Value} {cl : List (Str × Addr)} {dp un : Nat} {gd : Option (List Code)} {outer : List Env} {A₀ : Around} {base h₀ : Heap} {L : Addr} {m : Str → Option Value} {news : List (Addr × Obj)} {s : Shared} {Q E : Value → Shared → Prop}
  {g : Obj → List (Addr × Obj)} {ps1 : Array Value} {c1 l : Addr} {o1 : Obj} {ds : List Int} {dv : List Value} {e : Nat} (t2 : Tok)
  (B : Below A₀ base outer h₀) (F : Fr h₀ L s.heap m) (X : (Mine.hd.heap_39 w.params).In h₀) (N : News h₀ L s.heap news) (T : Top p loose mean mg mb h₀) (hk : cs.kind = .function) (hdp : dp + 12 < recursionLimit) (hun : un + 96 < cLine)
  (C1 : CodeHd base 77 73) (U : UpdF 73 (tabObj ps1) news g) (m1 : (c1, o1) ∈ news) (m2 : (l, listOf dv.toArray e) ∈ news) (S1 : TabSt pos73 q73 ps1 c1 o1) (b1 : @LT.lt Nat _ 73 c1) (b2 : @LT.lt Nat _ 73 l) (b3 : c1 ≠ l) (hi : IntsAre dv ds) (hdd : ∀ d ∈ ds, 0 ≤ d ∧ d < 4) (hn4 : ds.length ≤ 4)
  (ret : ∀ (c1' : Addr) (o1' : Obj) (ps1' : Array Value) (t : Tok) (h' : Heap) (tk' : Nat), TabSt pos73 q73 ps1' c1' o1' → @LT.lt Nat _ 73 c1' → FreshOr c1' c1 news → Fr h₀ L h' m → News h₀ L h' ((c1', o1') :: g (tabObj ps1')) → Q (.int (valD ds) t) { s with heap := h', toks := tk' }) :
  wpAny (model PySem.Challenge.rw_xg0064_01.row.prog w) (ktrTop dp un gd cn cs L a ccd cl outer) (PySem.call (.ref 78) [.ref l, .int 2 t2]) Q E s := by
  w_on
  revert X
  k_fill
  intro X
  have hsub : ∀ q ∈ [(73, tabObj ps1), (c1, o1), (l, listOf dv.toArray e)], q ∈ news := List.forall_mem_cons.mpr ⟨mem_updF U, List.forall_mem_cons.mpr ⟨m1, List.forall_mem_cons.mpr ⟨m2, List.forall_mem_nil _⟩⟩⟩
  w_strict (k_dflt ((refine' wpAny_call (enter_keepC (binds := [(Str.ofString "digits", .ref l), (Str.ofString "n", .int 2 t2)]) ?k1 ?k2 ?k3 ?k4 ?k5 [(73, tabObj ps1), (c1, o1), (l, listOf dv.toArray e)] ?hsub ?kA ?kF ?kK ?k6 ?k7 ?k8 ?k9 ?kB ?kD ?_ ?c2 ?c3 ?c4); (case kA => first | exact rfl | assumption); (case kF => first | exact rfl | assumption); (case kK => first | exact rfl | assumption); (case k1 => k_asm); (case k2 => k_asm); (case k3 => k_asm); (case k4 => k_asm); (case k5 => k_asm); (case hsub => exact hsub); (case k6 => k_is); (case k7 => k_is); (case k8 => ktr_room); (case k9 => exact BindsTo.of_eq rfl); (case kB => exact rfl); (case kD => decide +kernel); (case c2 => exact rfl); (case c3 => exact rfl); (case c4 => exact rfl); k_whole; intro g' L' h' tk' cells' FG' F' N' Y' B' X' T' l1 G'; (try k_lt l1); k_cells Y'; (try simp only [List.cons_append, List.nil_append, List.append_nil] at N'); (try dsimp only); (try k_lift B'); (try k_fold))))
  rename_i oi on oa hoi hon hoa
  replace hon : on.data = .cell (some (.int 2 t2)) := hon
  replace hoi : oi.data = .cell none := hoi
  replace hoa : oa.data = .cell (some (.ref l)) := hoa
  k_steps
  rotate_left
  · have e9 : valD ds = 0 := by
      have h9 : ds = [] := List.eq_nil_of_length_eq_zero (by omega)
      rw [h9]; rfl
    rw [e9] at ret
    refine' ret _ _ _ _ _ _ ?ts ?b1 ?fc ?hF ?hN
    case ts => exact CodeOb.tab (by with_reducible assumption)
    case hF => k_asm
    case hN => exact news_cons (by k_asm) (by k_mem) (news_updF N U hsub (by k_asm) (by k_mem) (List.forall_mem_cons.mpr ⟨fun h9 => absurd rfl h9, List.forall_mem_cons.mpr ⟨fun _ => by k_mem, List.forall_mem_cons.mpr ⟨fun _ => by k_mem, List.forall_mem_nil _⟩⟩⟩) (by with_reducible assumption))
    case b1 => with_reducible assumption
    case fc =>
      refine freshOr_of (by rename News g' L' _ _ => N9; exact N9) (by k_mem) ?_ G'
      rename _ ∨ _ => l4
      refine l4.imp id fun h9 => ?_
      exact (List.forall_mem_cons.mpr ⟨by (show ¬ (@Eq Nat _ _); omega), List.forall_mem_cons.mpr ⟨by (show ¬ (@Eq Nat _ _); omega), List.forall_mem_cons.mpr ⟨by (show ¬ (@Eq Nat _ _); omega), List.forall_mem_nil _⟩⟩⟩)
  · obtain ⟨vs, tq, hq1, hq2⟩ := ‹CodeOb _ q73›
    dsimp only [List.nil_append]
    refine' ClaimB.use (w := ds.length) ?H [(73, tabObj _), (c1, o1)] ?x1 ?B ?F ?X ?N ?T ?hk ?C ?hin ?hc ?hv ?hn ?hi ?ha ?hds ?hd ?hh ?_
    case B => k_asm
    case F => k_asm
    case X => k_asm
    case T => k_asm
    case H => exact allB _ (by omega) (by omega)
    case x1 => omega
    case hk => exact rfl
    case C => exact C1
    case hin => with_reducible assumption
    case hc => exact hq1
    case hv => exact hq2
    case hds => exact hi
    case hd => exact hdd
    case N =>
      refine news_sub (by k_asm) ?_
      exact List.forall_mem_cons.mpr ⟨by k_mem, List.forall_mem_cons.mpr ⟨by k_mem, List.forall_mem_cons.mpr ⟨by k_mem, List.forall_mem_cons.mpr ⟨by k_mem, List.forall_mem_cons.mpr ⟨by k_mem, List.forall_mem_cons.mpr ⟨by k_mem, List.forall_mem_cons.mpr ⟨by k_mem, List.forall_mem_cons.mpr ⟨by k_mem, List.forall_mem_nil _⟩⟩⟩⟩⟩⟩⟩⟩
    case hn => exact hon
    case hi => with_reducible assumption
    case ha => exact hoa
    case hh =>
      dsimp only [ktrTop]
      omega
    intro y1 u1 h1 tk1 f1 f2 f3 F1 N1
    have f4 : y1 = valD ds := by
      rw [f1]; unfold piece
      show valD (List.take ds.length (List.drop 0 ds)) = valD ds
      rw [List.drop_zero, List.take_of_length_le (Nat.le_refl _)]
    subst f4
    dsimp only [List.cons_append, List.nil_append] at N1
    have hq9 : CodeOb _ q73 := ⟨vs, tq, hq1, hq2⟩
    w_strict k_steps
    refine' ret _ _ _ _ _ _ ?ts ?b1 ?fc ?hF ?hN
    case ts => exact CodeOb.tab (by with_reducible assumption)
    case hF => k_asm
    case hN => exact news_cons (by k_asm) (by k_mem) (news_updF N U hsub (by k_asm) (by k_mem) (List.forall_mem_cons.mpr ⟨fun h9 => absurd rfl h9, List.forall_mem_cons.mpr ⟨fun _ => by k_mem, List.forall_mem_cons.mpr ⟨fun _ => by k_mem, List.forall_mem_nil _⟩⟩⟩) (by with_reducible assumption))
    case b1 => with_reducible assumption
    case fc =>
      refine freshOr_of (by rename News g' L' _ _ => N9; exact N9) (by k_mem) ?_ G'
      rename _ ∨ _ => l4
      refine l4.imp id fun h9 => ?_
      exact (List.forall_mem_cons.mpr ⟨by (show ¬ (@Eq Nat _ _); omega), List.forall_mem_cons.mpr ⟨by (show ¬ (@Eq Nat _ _); omega), List.forall_mem_cons.mpr ⟨by (show ¬ (@Eq Nat _ _); omega), List.forall_mem_nil _⟩⟩⟩)
end
end
section
local macro_rules | `(tactic| walk_at "eval Name") => `(tactic| (name_kind "globalImplicit"; k_dflt (refine' nameX_K ?F ?X ?T ?e ?_ ?a ?b; (case F => k_asm); (case X => k_asm); (case T => k_asm); (case a => rfl); (case b => rfl); (case e => k_is); k_whole)))
local macro_rules | `(tactic| walk_at "eval Name") => `(tactic| (name_kind "local"; k_dflt (refine' nameX_L ?F ?v ?_ ?a ?b; (case F => k_asm); (case a => rfl); (case b => rfl); (case v => rfl); k_whole)))
section
local macro_rules | `(tactic| walk_at "execs cons If") => `(tactic| (with_reducible refine wpAny_execs_cons ?_))
local macro_rules | `(tactic| walk_at "ite") => `(tactic| (k_here; k_dflt (first | (refine ite_pos (by (try simp only [bne_iff_ne, beq_iff_eq, ne_eq, decide_eq_true_eq, Bool.and_eq_true, Bool.or_eq_true]); omega) ?_) | (refine ite_neg (by (try simp only [bne_iff_ne, beq_iff_eq, ne_eq, decide_eq_true_eq, Bool.and_eq_true, Bool.or_eq_true]); omega) ?_))))
local macro_rules | `(tactic| walk_at "call builtin:divmod") => `(tactic| (k_here; k_dflt (refine dm_2 (by k_asm) (by k_asm) (by omega) (by omega) ?_; intro q9 r9 d9 t8 t9 h' tk' e7 e8 e9 F' N' l1; (try k_lt l1))))
local macro_rules | `(tactic| walk_at "call builtin:int.bit_length") => `(tactic| (k_here; k_dflt (refine bl_any (by omega) (by omega) ?_; intro y9 e9; (obtain ⟨b1, b2, -⟩ := e9))))
theorem dv_ok {w : World} {p : Program} {loose : List Str} {mean : ExcName → Option Value} {mg mb : Str → Option Value}
  {cn : Str} {cs : Scope} {a : Addr} {ccd : Value} {cl : List (Str × Addr)} {dp un : Nat} {gd : Option (List Code)} {outer : List Env} {A₀ : Around} {base h₀ : Heap} {L : Addr} {m : Str → Option Value} {news : List (Addr × Obj)} {s : Shared} {Q E : Value → Shared → Prop}
  (x : Int) (t1 t2 t3 : Tok) (h0 : 0 ≤ x) (h1 : x ≤ 7)
  (B : Below A₀ base outer h₀) (F : Fr h₀ L s.heap m) (X : (Mine.hd.heap_39 w.params).In h₀) (N : News h₀ L s.heap news) (T : Top p loose mean mg mb h₀) (hk : cs.kind = .function) (hdp : dp + 12 < recursionLimit) (hun : un + 96 < cLine)
  
  (ret : ∀ (q r : Int) (d : Addr) (u1 u2 : Tok) (h' : Heap) (tk' : Nat), x = 2 * q + r → 0 ≤ r → r ≤ 1 → FreshIn d news → Fr h₀ L h' m → News h₀ L h' ((d, pair2 q r u1 u2) :: news) → Q (.ref d) { s with heap := h', toks := tk' }) :
  wpAny (model PySem.Challenge.rw_xg0064_01.row.prog w) (ktrTop dp un gd cn cs L a ccd cl outer) (PySem.call (.ref 57) [.int x t1, .int 2 t2, .int 2 t3]) Q E s := by
  w_on
  revert X
  k_fill
  intro X
  have hsub : ∀ q ∈ ([] : List (Addr × Obj)), q ∈ news := fun _ hm => nomatch hm
  w_strict (k_dflt (refine' wpAny_call (enter_keep (binds := [(Str.ofString "a", .int x t1), (Str.ofString "b", .int 2 t2), (Str.ofString "n", .int 2 t3)]) ?k1 ?k2 ?k3 ?k4 ?k5 [] ?hsub ?kA ?kF ?kK ?k6 ?k7 ?k8 ?k9 ?kB ?_ ?c2 ?c3 ?c4 ?c5); (case kA => first | exact rfl | assumption); (case kF => first | exact rfl | assumption); (case kK => first | exact rfl | assumption); (case k1 => k_asm); (case k2 => k_asm); (case k3 => k_asm); (case k4 => k_asm); (case k5 => k_asm); (case hsub => exact hsub); (case k6 => k_is); (case k7 => k_is); (case k8 => ktr_room); (case k9 => exact BindsTo.of_eq rfl); (case c5 => decide); (case kB => exact locs rfl); (case c2 => exact rfl); (case c3 => exact rfl); (case c4 => exact rfl); k_whole; intro g' L' h' FG' F' N' B' X' T' l0' G'; (try dsimp only); (try k_lift B'); (k_lt l0'); (try k_fold)))
  w_strict k_steps
  refine' ret _ _ _ _ _ _ _ ?e1 ?e2 ?e3 ?fd ?hF ?hN
  case hF => k_asm
  case hN => exact news_after0 (news' := [_]) N (by k_asm) (by with_reducible assumption)
  case e1 => with_reducible assumption
  case e2 => with_reducible assumption
  case e3 => with_reducible assumption
  case fd => exact freshIn_of (tabs := []) (by rename News g' L' _ _ => N9; exact N9) (by k_mem) (fun _ h9 => nomatch h9) G'
end
section
local macro_rules | `(tactic| walk_at "callWith ref") => `(tactic| (k_here; k_dflt (refine' callWith_K ?k1 ?k2 ?_; (case k1 => k_asm); (case k2 => k_is); k_whole)))
local macro_rules | `(tactic| k_ne) => `(tactic| (first | (show ¬ (@Eq Nat _ _); omega) | (exact FreshIn.ne (by with_reducible assumption) (by k_mem)) | (exact (FreshIn.ne (by with_reducible assumption) (by k_mem)).symm) | (exact FreshOr.ne (by with_reducible assumption) (by k_mem) (by k_ne))))
section
local macro_rules | `(tactic| walk_at "pad") => `(tactic| skip)
local macro_rules | `(tactic| walk_at "call ref") => `(tactic| (k_here; (try dsimp only [List.nil_append]); k_dflt (refine' dv_ok _ _ _ _ ?x0 ?x1 ?B ?F ?X ?N ?T ?hk ?hd ?hu ?_; (case B => k_asm); (case F => k_asm); (case X => k_asm); (case N => k_asm); (case T => k_asm); (case hk => exact rfl); (case x0 => omega); (case x1 => omega); (case hd => ktr_room); (case hu => ktr_units); k_whole); intro q9 r9 d9 u9 u8 h' tk' g1 g2 g3 fd9 F' N'; (try dsimp only at N')))
local macro_rules | `(tactic| walk_at "binaryOp LShift int int") => `(tactic| (k_here; k_dflt (refine shl2 (by decide) (by omega) (by omega) ?_; intro y9 e9)))
local macro_rules | `(tactic| walk_at "call builtin:list.append") => `(tactic| (k_here; k_dflt ((try dsimp only [List.cons_append, List.nil_append]); (refine' append_V ?k1 ?k2 ?k3 ?z ?_; (case k1 => k_asm); (case k2 => k_asm); (case k3 => k_upd); (case z => omega); k_whole)); intro h' F' N'; (try k_sweep)))
theorem dp_loop {w : World} {p : Program} {loose : List Str} {mean : ExcName → Option Value} {mg mb : Str → Option Value} {dp un : Nat} {gd : Option (List Code)} {cn : Str} {cs : Scope} {a : Addr} {ccd : Value} {cl : List (Str × Addr)} {outer : List Env} {base g : Heap} {L L' : Addr}
  {Q : Flow → Shared → Prop} {E : Value → Shared → Prop} {s : Shared} {I lq d9 c9 c1 c2 : Addr} {lo o9 ot1 ot2 o1 o2 : Obj} {cd : Value} {tb tn : Tok} {body : List Stmt} {scope : Scope} (hb : dpPart = some (body, scope))
  (B : Below (ktrTop dp un gd cn cs L a ccd cl outer) base (envX cn cs L a ccd cl :: outer) g) (X : (Mine.hd.heap_39 w.params).In g) (T : Top p loose mean mg mb g) (hdp : dp + 16 < recursionLimit) (hun : un + 128 < cLine)
  (hlq : @LT.lt Nat _ d9 lq ∧ @LT.lt Nat _ c9 lq ∧ @LT.lt Nat _ 73 lq ∧ @LT.lt Nat _ 66 lq ∧ @LT.lt Nat _ c1 lq ∧ @LT.lt Nat _ c2 lq) (hI : @LT.lt Nat _ lq I)
  {x : Int} (fin : ∀ (u : Str → Option Value) (qv : List Value) (qs : List Int) (rr : Int) (tr : Tok) (eq : Nat) (h : Heap) (tk : Nat), IntsAre qv qs → (∀ d ∈ qs, 0 ≤ d ∧ d < 4) → 0 ≤ rr → rr ≤ 1 → x = 2 * fold4 0 qs + rr → qs.length ≤ 4 → Fr g L' h (kstB u [(Str.ofString "q_digits", .ref lq), (Str.ofString "r", .int rr tr), (Str.ofString "b", .int 2 tb), (Str.ofString "n", .int 2 tn)]) → News g L' h [(lq, listOf qv.toArray eq), (d9, lo), (c9, o9), (73, ot1), (66, ot2), (c1, o1), (c2, o2)] → Q .next { s with heap := h, toks := tk }) :
  ∀ (r : List Value) (rs : List Int) (u : Str → Option Value) (qv : List Value) (qs : List Int) (rr : Int) (tr : Tok) (eq : Nat), IntsAre r rs → (∀ d ∈ rs, 0 ≤ d ∧ d < 4) → IntsAre qv qs → (∀ d ∈ qs, 0 ≤ d ∧ d < 4) → 0 ≤ rr → rr ≤ 1 → x = fold4 (2 * fold4 0 qs + rr) rs → qs.length + rs.length ≤ 4 →
    RevRest PySem.Challenge.rw_xg0064_01.row.prog w ((ktrTop dp un gd cn cs L a ccd cl outer).deeper (envOf (Str.ofString "_divmod_pos") scope L' 85 cd)) E g (envOf (Str.ofString "_divmod_pos") scope L' 85 cd) (Str.ofString "a_digit") body Q s I (d9, lo) r (kstB u [(Str.ofString "q_digits", .ref lq), (Str.ofString "r", .int rr tr), (Str.ofString "b", .int 2 tb), (Str.ofString "n", .int 2 tn)]) [(lq, listOf qv.toArray eq), (d9, lo), (c9, o9), (73, ot1), (66, ot2), (c1, o1), (c2, o2)] := by
  intro r
  induction r with
  | nil =>
    intro rs u qv qs rr tr eq hr hrs hq hqs h0 h1 hx hn
    cases hr
    exact fun h tk F N => fin u qv qs rr tr eq h tk hq hqs h0 h1 hx (by simpa using hn) F N
  | cons v r ih =>
    intro rs u qv qs rr tr eq hr hrs hq hqs h0 h1 hx hn
    cases hr with
    | cons d t hr =>
    obtain ⟨hd0, hd1⟩ := hrs d (.head _)
    have hql : qv.length = qs.length := hq.length
    simp only [List.length_cons] at hn
    refine RevRest.succ fun it hh tkk hit F N => ?_
    w_on
    revert X
    k_fill
    intro X
    have h2 : some (_, _) = some (body, scope) := hb
    cases h2
    clear hb
    k_steps
    refine' RevRest.kst (ps := [(Str.ofString "q_digits", .ref lq), (Str.ofString "r", .int _ _), (Str.ofString "b", .int 2 tb), (Str.ofString "n", .int 2 tn)]) ?kp (RevRest.mono (ih _ _ _ (qs ++ [_]) _ _ _ hr ?a1 (IntsAre.append hq (.cons _ _ .nil)) ?a2 ?a3 ?a4 ?a5 ?a6) ?a7)
    case kp => ((refine And.intro (by with_unfolding_all rfl) ?_); (refine And.intro (by with_unfolding_all rfl) ?_); (refine And.intro (by with_unfolding_all rfl) ?_); (refine And.intro (by with_unfolding_all rfl) ?_); exact trivial)
    case a1 => exact fun d9 hd9 => hrs d9 (.tail _ hd9)
    case a7 => exact (List.forall_mem_cons.mpr ⟨by k_mem, List.forall_mem_cons.mpr ⟨by k_mem, List.forall_mem_cons.mpr ⟨by k_mem, List.forall_mem_cons.mpr ⟨by k_mem, List.forall_mem_cons.mpr ⟨by k_mem, List.forall_mem_cons.mpr ⟨by k_mem, List.forall_mem_cons.mpr ⟨by k_mem, List.forall_mem_nil _⟩⟩⟩⟩⟩⟩⟩)
    case a3 => with_reducible assumption
    case a4 => with_reducible assumption
    case a2 =>
      intro z hz
      rcases List.mem_append.mp hz with hz | hz
      · exact hqs z hz
      · rw [List.mem_singleton.mp hz]; omega
    case a5 =>
      rw [hx, fold4_snoc]
      show fold4 (4 * (2 * fold4 0 qs + rr) + d) _ = fold4 _ _
      congr 1
      omega
    case a6 =>
      rw [List.length_append, List.length_singleton]; omega
end
section
local macro_rules | `(tactic| walk_at "pad") => `(tactic| skip)
local macro_rules | `(tactic| walk_at "call builtin:int.bit_length") => `(tactic| (k_here; k_dflt (refine bl_two ?_)))
local macro_rules | `(tactic| walk_at "call ref") => `(tactic| (k_here; (try dsimp only [List.nil_append]); k_dflt (refine' i2d_ok _ _ _ ?x0 ?x1 ?B ?F ?X ?N ?T ?hk ?hd ?hu ?C ?U ?m1 ?m2 ?S ?b2 ?_; (case B => k_asm); (case F => k_asm); (case X => k_asm); (case N => k_asm); (case T => k_asm); (case hk => exact rfl); (case C => with_reducible assumption); (case U => k_updF); (case m1 => k_mem); (case S => with_reducible assumption); (case m2 => k_mem); (case b2 => with_reducible assumption); (case x0 => omega); (case x1 => omega); (case hd => ktr_room); (case hu => ktr_units); k_whole); intro k9 d9 c9 o9 ps9 dv9 e9 h' tk' g1 g2 i1 S9 b8 b9 n9 fd9 fc9 F' N'; (try dsimp only at N')))
local macro_rules | `(tactic| walk_at "call builtin:list.reverse") => `(tactic| (k_here; (try dsimp only [List.append_nil]); k_dflt (refine' reverse_V ?F ?N ?U ?z ?_; (case F => k_asm); (case N => k_asm); (case U => k_upd); (case z => omega); k_whole); intro h' F' N'; (try k_sweep)))
local macro_rules | `(tactic| walk_at "call ref") => `(tactic| (k_here; (try dsimp only [List.nil_append]); k_dflt (refine' d2i_ok _ ?B ?F ?X ?N ?T ?hk ?hd ?hu ?C ?U ?m1 ?m2 ?S ?b1 ?b2 ?b3 ?hi ?hdd ?hn ?_; (case B => k_asm); (case F => k_asm); (case X => k_asm); (case N => k_asm); (case T => k_asm); (case hk => exact rfl); (case C => with_reducible assumption); (case U => k_updF); (case S => with_reducible assumption); (case m1 => k_mem); (case hi => with_reducible assumption); (case m2 => k_mem); (case b1 => with_reducible assumption); (case b2 => (show @LT.lt Nat _ _ _; omega)); (case b3 => (show ¬ (@Eq Nat _ _); omega)); (case hdd => with_reducible assumption); (case hn => (simp only [List.length_reverse]; omega)); (case hd => ktr_room); (case hu => ktr_units); k_whole); intro c9 o9 ps9 u9 h' tk' S9 b9 fc9 F' N'; (try dsimp only at N')))
theorem dp_ok {w : World} {p : Program} {loose : List Str} {mean : ExcName → Option Value} {mg mb : Str → Option Value}
  {cn : Str} {cs : Scope} {a : Addr} {ccd : Value} {cl : List (Str × Addr)} {dp un : Nat} {gd : Option (List Code)} {outer : List Env} {A₀ : Around} {base h₀ : Heap} {L : Addr} {m : Str → Option Value} {news : List (Addr × Obj)} {s : Shared} {Q E : Value → Shared → Prop}
  {g1 : Obj → List (Addr × Obj)} {g2 : Obj → Obj → List (Addr × Obj)} {ps1 ps2 : Array Value} {c1 c2 : Addr} {o1 o2 : Obj} (x : Int) (t1 t2 : Tok) (h0 : 0 ≤ x) (h1 : x < 256)
  (B : Below A₀ base outer h₀) (F : Fr h₀ L s.heap m) (X : (Mine.hd.heap_39 w.params).In h₀) (N : News h₀ L s.heap news) (T : Top p loose mean mg mb h₀) (hk : cs.kind = .function) (hdp : dp + 16 < recursionLimit) (hun : un + 128 < cLine)
  (C1 : CodeHd base 77 73) (C2 : CodeHd base 70 66) (U1 : UpdF 73 (tabObj ps1) news g1) (U2 : ∀ o, UpdF 66 (tabObj ps2) (g1 o) (g2 o)) (m1 : (c1, o1) ∈ news) (m2 : (c2, o2) ∈ news) (S1 : TabSt pos73 q73 ps1 c1 o1) (S2 : TabSt pos66 q66 ps2 c2 o2) (b1 : @LT.lt Nat _ 73 c1) (b2 : @LT.lt Nat _ 73 c2)
  (ret : ∀ (q r : Int) (d c1' c2' : Addr) (o1' o2' : Obj) (ps1' ps2' : Array Value) (u1 u2 : Tok) (h' : Heap) (tk' : Nat), x = 2 * q + r → 0 ≤ r → r ≤ 1 → TabSt pos73 q73 ps1' c1' o1' → TabSt pos66 q66 ps2' c2' o2' → @LT.lt Nat _ 73 c1' → @LT.lt Nat _ 73 c2' → FreshIn d news → FreshOr c1' c1 news → FreshOr c2' c2 news → Fr h₀ L h' m → News h₀ L h' ((d, pair2 q r u1 u2) :: (c1', o1') :: (c2', o2') :: g2 (tabObj ps1') (tabObj ps2')) → Q (.ref d) { s with heap := h', toks := tk' }) :
  wpAny (model PySem.Challenge.rw_xg0064_01.row.prog w) (ktrTop dp un gd cn cs L a ccd cl outer) (PySem.call (.ref 85) [.int x t1, .int 2 t2]) Q E s := by
  w_on
  revert X
  k_fill
  intro X
  have hm66 : (66, tabObj ps2) ∈ news := by
    obtain ⟨pre, post, e1, e2, -, -⟩ := U1.split
    have h9 := mem_updF (U2 (tabObj ps1))
    rw [e2, ← e1] at h9
    exact h9
  have hsub : ∀ q ∈ [(73, tabObj ps1), (66, tabObj ps2), (c1, o1), (c2, o2)], q ∈ news := List.forall_mem_cons.mpr ⟨mem_updF U1, List.forall_mem_cons.mpr ⟨hm66, List.forall_mem_cons.mpr ⟨m1, List.forall_mem_cons.mpr ⟨m2, List.forall_mem_nil _⟩⟩⟩⟩
  w_strict (k_dflt (refine' wpAny_call (enter_keep (binds := [(Str.ofString "a", .int x t1), (Str.ofString "b", .int 2 t2)]) ?k1 ?k2 ?k3 ?k4 ?k5 [(73, tabObj ps1), (66, tabObj ps2), (c1, o1), (c2, o2)] ?hsub ?kA ?kF ?kK ?k6 ?k7 ?k8 ?k9 ?kB ?_ ?c2 ?c3 ?c4 ?c5); (case kA => first | exact rfl | assumption); (case kF => first | exact rfl | assumption); (case kK => first | exact rfl | assumption); (case k1 => k_asm); (case k2 => k_asm); (case k3 => k_asm); (case k4 => k_asm); (case k5 => k_asm); (case hsub => exact hsub); (case k6 => k_is); (case k7 => k_is); (case k8 => ktr_room); (case k9 => exact BindsTo.of_eq rfl); (case c5 => decide); (case kB => exact locs rfl); (case c2 => exact rfl); (case c3 => exact rfl); (case c4 => exact rfl); k_whole; intro g' L' h' FG' F' N' B' X' T' l0' G'; (try dsimp only); (try k_lift B'); (k_lt l0'); (try k_fold)))
  k_steps
  rename IntsAre _ (digs x _) => iA
  refine iter_revUnr (x := Str.ofString "a_digit") (lo := listOf _ _) (vs := _) rfl (by k_asm) (by k_asm) (by k_offL) (by k_mem) rfl rfl ?_
  rename TabSt pos66 q66 _ _ _ => S9
  refine' RevRest.kst (ps := [(Str.ofString "q_digits", .ref _), (Str.ofString "r", .int 0 _), (Str.ofString "b", .int 2 _), (Str.ofString "n", .int 2 _)]) ?kp (RevRest.mono (dp_loop rfl B' X' T' hdp hun ?hlq ?hI (x := x) ?fin _ _ _ [] [] 0 _ 0 (IntsAre.reverse iA) ?a1 .nil ?a2 (Int.le_refl _) (by decide) ?a5 ?a6) ?a7)
  case kp => ((refine And.intro (by with_unfolding_all rfl) ?_); (refine And.intro (by with_unfolding_all rfl) ?_); (refine And.intro (by with_unfolding_all rfl) ?_); (refine And.intro (by with_unfolding_all rfl) ?_); exact trivial)
  case a7 => exact List.forall_mem_cons.mpr ⟨(show (_, listOf #[] 0) ∈ _ by k_mem), List.forall_mem_cons.mpr ⟨by k_mem, List.forall_mem_cons.mpr ⟨tab_mem S9 (by k_mem), List.forall_mem_cons.mpr ⟨by k_mem, List.forall_mem_cons.mpr ⟨by k_mem, List.forall_mem_cons.mpr ⟨tab_mem S1 (by k_mem), List.forall_mem_cons.mpr ⟨tab_mem S2 (by k_mem), List.forall_mem_nil _⟩⟩⟩⟩⟩⟩⟩
  case hlq => omega
  case hI => (show @LT.lt Nat _ _ _; omega)
  case a1 => exact fun d hd => digs_in _ _ d (List.mem_reverse.mp hd)
  case a2 => exact fun _ h9 => nomatch h9
  case a5 =>
    show x = fold4 0 _
    rw [fold4_rev, valD_digs _ _ h0 (by with_reducible assumption)]
  case a6 =>
    rw [List.length_reverse, digs_len]; simp only [List.length_nil]; omega
  case fin =>
    intro u qv qs rr tr eq h tk hq hqs h0 h1 hx hn F N
    have hql := hq.length
    have hq2 := IntsAre.reverse hq
    have hd2 : ∀ d ∈ qs.reverse, 0 ≤ d ∧ d < 4 := fun d hd => hqs d (List.mem_reverse.mp hd)
    k_whole
    w_strict k_steps
    rw [← List.reverse_reverse qs, fold4_rev] at hx
    rename FreshOr _ c1 _ => fcA
    rename FreshOr _ c2 _ => fcB
    refine' ret _ _ _ _ _ _ _ _ _ _ _ _ _ ?e1 ?e2 ?e3 ?S1 ?S2 ?b1 ?b2 ?fd ?fc1 ?fc2 ?hF ?hN
    case e1 => exact hx
    case e2 => exact h0
    case e3 => exact h1
    case S1 => with_reducible assumption
    case S2 => exact S9
    case b1 => with_reducible assumption
    case b2 => with_reducible assumption
    case hF => k_asm
    case hN => exact news_cons (by k_asm) (by k_mem) (news_cons (by k_asm) (by k_mem) (news_cons (by k_asm) (by k_mem) (news_updF2 N U1 U2 hsub (by k_asm) (by k_mem) (by k_mem) (List.forall_mem_cons.mpr ⟨fun h9 _ => absurd rfl h9, List.forall_mem_cons.mpr ⟨fun _ h9 => absurd rfl h9, List.forall_mem_cons.mpr ⟨fun _ _ => by k_mem, List.forall_mem_cons.mpr ⟨fun _ _ => by k_mem, List.forall_mem_nil _⟩⟩⟩⟩) (by with_reducible assumption))))
    case fd => exact freshIn_of (by rename News g' L' _ _ => N9; exact N9) (by k_mem) (List.forall_mem_cons.mpr ⟨by (show ¬ (@Eq Nat _ _); omega), List.forall_mem_cons.mpr ⟨by (show ¬ (@Eq Nat _ _); omega), List.forall_mem_cons.mpr ⟨by (show ¬ (@Eq Nat _ _); omega), List.forall_mem_cons.mpr ⟨by (show ¬ (@Eq Nat _ _); omega), List.forall_mem_nil _⟩⟩⟩⟩) G'
    case fc1 =>
      refine freshOr_of (by rename News g' L' _ _ => N9; exact N9) (by k_mem) ?_ G'
      refine fcA.imp id fun f => ?_
      exact (List.forall_mem_cons.mpr ⟨(show ¬ (@Eq Nat 73 _) from f (73, _) (by k_mem)), List.forall_mem_cons.mpr ⟨(show ¬ (@Eq Nat 66 _) from f (66, _) (by k_mem)), List.forall_mem_cons.mpr ⟨(show ¬ (@Eq Nat c1 _) from f (c1, _) (by k_mem)), List.forall_mem_cons.mpr ⟨(show ¬ (@Eq Nat c2 _) from f (c2, _) (by k_mem)), List.forall_mem_nil _⟩⟩⟩⟩)
    case fc2 =>
      refine freshOr_of (by rename News g' L' _ _ => N9; exact N9) (by k_mem) ?_ G'
      refine fcB.imp id fun f => ?_
      exact (List.forall_mem_cons.mpr ⟨f _ (show (73, tabObj ps1) ∈ _ by k_mem), List.forall_mem_cons.mpr ⟨f _ (show (66, tabObj ps2) ∈ _ by k_mem), List.forall_mem_cons.mpr ⟨f _ (show (c1, o1) ∈ _ by k_mem), List.forall_mem_cons.mpr ⟨f _ (show (c2, o2) ∈ _ by k_mem), List.forall_mem_nil _⟩⟩⟩⟩)
end
section
local macro_rules | `(tactic| walk_at "execs cons If") => `(tactic| (with_reducible refine wpAny_execs_cons ?_))
local macro_rules | `(tactic| walk_at "ite") => `(tactic| (k_here; k_dflt (first | (refine ite_pos (by (try simp only [bne_iff_ne, beq_iff_eq, ne_eq, decide_eq_true_eq, Bool.and_eq_true, Bool.or_eq_true]); omega) ?_) | (refine ite_neg (by (try simp only [bne_iff_ne, beq_iff_eq, ne_eq, decide_eq_true_eq, Bool.and_eq_true, Bool.or_eq_true]); omega) ?_))))
section
local macro_rules | `(tactic| walk_at "call ref") => `(tactic| (k_here; (try dsimp only [List.nil_append]); k_dflt (refine' dp_ok _ _ _ ?x0 ?x1 ?B ?F ?X ?N ?T ?hk ?hd ?hu ?C1 ?C2 ?U1 ?U2 ?m1 ?m2 ?S1 ?S2 ?b1 ?b2 ?_; (case B => k_asm); (case F => k_asm); (case X => k_asm); (case N => k_asm); (case T => k_asm); (case hk => exact rfl); (case C1 => with_reducible assumption); (case C2 => with_reducible assumption); (case U1 => k_updF); (case U2 => (intro o9; k_updF)); (case S1 => with_reducible assumption); (case S2 => with_reducible assumption); (case m1 => k_mem); (case m2 => k_mem); (case b1 => with_reducible assumption); (case b2 => with_reducible assumption); (case x0 => omega); (case x1 => omega); (case hd => ktr_room); (case hu => ktr_units); k_whole); intro q9 r9 d9 c8 c9 o8 o9 p8 p9 u8 u9 h' tk' e7 e8 e9 S8 S9 l8 l9 f7 f8 f9 F' N'; (try dsimp only at N')))
theorem im_ok {w : World} {p : Program} {loose : List Str} {mean : ExcName → Option Value} {mg mb : Str → Option Value}
  {cn : Str} {cs : Scope} {a : Addr} {ccd : Value} {cl : List (Str × Addr)} {dp un : Nat} {gd : Option (List Code)} {outer : List Env} {A₀ : Around} {base h₀ : Heap} {L : Addr} {m : Str → Option Value} {news : List (Addr × Obj)} {s : Shared} {Q E : Value → Shared → Prop}
  {g1 : Obj → List (Addr × Obj)} {g2 : Obj → Obj → List (Addr × Obj)} {ps1 ps2 : Array Value} {c1 c2 : Addr} {o1 o2 : Obj} (x : Int) (t1 t2 : Tok) (h0 : 0 ≤ x) (h1 : x < 256)
  (B : Below A₀ base outer h₀) (F : Fr h₀ L s.heap m) (X : (Mine.hd.heap_39 w.params).In h₀) (N : News h₀ L s.heap news) (T : Top p loose mean mg mb h₀) (hk : cs.kind = .function) (hdp : dp + 20 < recursionLimit) (hun : un + 160 < cLine)
  (C1 : CodeHd base 77 73) (C2 : CodeHd base 70 66) (U1 : UpdF 73 (tabObj ps1) news g1) (U2 : ∀ o, UpdF 66 (tabObj ps2) (g1 o) (g2 o)) (m1 : (c1, o1) ∈ news) (m2 : (c2, o2) ∈ news) (S1 : TabSt pos73 q73 ps1 c1 o1) (S2 : TabSt pos66 q66 ps2 c2 o2) (b1 : @LT.lt Nat _ 73 c1) (b2 : @LT.lt Nat _ 73 c2)
  (ret : ∀ (q r : Int) (d c1' c2' : Addr) (o1' o2' : Obj) (ps1' ps2' : Array Value) (u1 u2 : Tok) (h' : Heap) (tk' : Nat), x = 2 * q + r → 0 ≤ r → r ≤ 1 → TabSt pos73 q73 ps1' c1' o1' → TabSt pos66 q66 ps2' c2' o2' → @LT.lt Nat _ 73 c1' → @LT.lt Nat _ 73 c2' → FreshIn d news → FreshOr c1' c1 news → FreshOr c2' c2 news → Fr h₀ L h' m → News h₀ L h' ((d, pair2 q r u1 u2) :: (c1', o1') :: (c2', o2') :: g2 (tabObj ps1') (tabObj ps2')) → Q (.ref d) { s with heap := h', toks := tk' }) :
  wpAny (model PySem.Challenge.rw_xg0064_01.row.prog w) (ktrTop dp un gd cn cs L a ccd cl outer) (PySem.call (.ref 92) [.int x t1, .int 2 t2]) Q E s := by
  w_on
  revert X
  k_fill
  intro X
  have hm66 : (66, tabObj ps2) ∈ news := by
    obtain ⟨pre, post, e1, e2, -, -⟩ := U1.split
    have h9 := mem_updF (U2 (tabObj ps1))
    rw [e2, ← e1] at h9
    exact h9
  have hsub : ∀ q ∈ [(73, tabObj ps1), (66, tabObj ps2), (c1, o1), (c2, o2)], q ∈ news := List.forall_mem_cons.mpr ⟨mem_updF U1, List.forall_mem_cons.mpr ⟨hm66, List.forall_mem_cons.mpr ⟨m1, List.forall_mem_cons.mpr ⟨m2, List.forall_mem_nil _⟩⟩⟩⟩
  w_strict (k_dflt (refine' wpAny_call (enter_keep (binds := [(Str.ofString "a", .int x t1), (Str.ofString "b", .int 2 t2)]) ?k1 ?k2 ?k3 ?k4 ?k5 [(73, tabObj ps1), (66, tabObj ps2), (c1, o1), (c2, o2)] ?hsub ?kA ?kF ?kK ?k6 ?k7 ?k8 ?k9 ?kB ?_ ?c2 ?c3 ?c4 ?c5); (case kA => first | exact rfl | assumption); (case kF => first | exact rfl | assumption); (case kK => first | exact rfl | assumption); (case k1 => k_asm); (case k2 => k_asm); (case k3 => k_asm); (case k4 => k_asm); (case k5 => k_asm); (case hsub => exact hsub); (case k6 => k_is); (case k7 => k_is); (case k8 => ktr_room); (case k9 => exact BindsTo.of_eq rfl); (case c5 => decide); (case kB => exact locs rfl); (case c2 => exact rfl); (case c3 => exact rfl); (case c4 => exact rfl); k_whole; intro g' L' h' FG' F' N' B' X' T' l0' G'; (try dsimp only); (try k_lift B'); (k_lt l0'); (try k_fold)))
  w_strict k_steps
  rename FreshOr _ c1 _ => fcA
  rename FreshOr _ c2 _ => fcB
  refine' ret _ _ _ _ _ _ _ _ _ _ _ _ _ ?e1 ?e2 ?e3 ?S1 ?S2 ?b1 ?b2 ?fd ?fc1 ?fc2 ?hF ?hN
  case e1 => with_reducible assumption
  case e2 => with_reducible assumption
  case e3 => with_reducible assumption
  case S1 => with_reducible assumption
  case S2 => with_reducible assumption
  case b1 => with_reducible assumption
  case b2 => with_reducible assumption
  case hF => k_asm
  case hN => exact news_cons (by k_asm) (by k_mem) (news_cons (by k_asm) (by k_mem) (news_cons (by k_asm) (by k_mem) (news_updF2 N U1 U2 hsub (by k_asm) (by k_mem) (by k_mem) (List.forall_mem_cons.mpr ⟨fun h9 _ => absurd rfl h9, List.forall_mem_cons.mpr ⟨fun _ h9 => absurd rfl h9, List.forall_mem_cons.mpr ⟨fun _ _ => by k_mem, List.forall_mem_cons.mpr ⟨fun _ _ => by k_mem, List.forall_mem_nil _⟩⟩⟩⟩) (by with_reducible assumption))))
  case fd => exact freshIn_of (by rename News g' L' _ _ => N9; exact N9) (by k_mem) (by rename FreshIn _ _ => f; exact (List.forall_mem_cons.mpr ⟨f _ (show (73, tabObj ps1) ∈ _ by k_mem), List.forall_mem_cons.mpr ⟨f _ (show (66, tabObj ps2) ∈ _ by k_mem), List.forall_mem_cons.mpr ⟨f _ (show (c1, o1) ∈ _ by k_mem), List.forall_mem_cons.mpr ⟨f _ (show (c2, o2) ∈ _ by k_mem), List.forall_mem_nil _⟩⟩⟩⟩)) G'
  case fc1 =>
    refine freshOr_of (by rename News g' L' _ _ => N9; exact N9) (by k_mem) ?_ G'
    refine fcA.imp id fun f => ?_
    exact (List.forall_mem_cons.mpr ⟨f _ (show (73, tabObj ps1) ∈ _ by k_mem), List.forall_mem_cons.mpr ⟨f _ (show (66, tabObj ps2) ∈ _ by k_mem), List.forall_mem_cons.mpr ⟨f _ (show (c1, o1) ∈ _ by k_mem), List.forall_mem_cons.mpr ⟨f _ (show (c2, o2) ∈ _ by k_mem), List.forall_mem_nil _⟩⟩⟩⟩)
  case fc2 =>
    refine freshOr_of (by rename News g' L' _ _ => N9; exact N9) (by k_mem) ?_ G'
    refine fcB.imp id fun f => ?_
    exact (List.forall_mem_cons.mpr ⟨f _ (show (73, tabObj ps1) ∈ _ by k_mem), List.forall_mem_cons.mpr ⟨f _ (show (66, tabObj ps2) ∈ _ by k_mem), List.forall_mem_cons.mpr ⟨f _ (show (c1, o1) ∈ _ by k_mem), List.forall_mem_cons.mpr ⟨f _ (show (c2, o2) ∈ _ by k_mem), List.forall_mem_nil _⟩⟩⟩⟩)
end
section
local macro_rules | `(tactic| walk_at "unaryOp Invert int") => `(tactic| (k_here; k_dflt (refine inv_any ?_; intro y9 e9)))
local macro_rules | `(tactic| walk_at "call ref") => `(tactic| (k_here; (try dsimp only [List.nil_append]); k_dflt (refine' im_ok _ _ _ ?x0 ?x1 ?B ?F ?X ?N ?T ?hk ?hd ?hu ?C1 ?C2 ?U1 ?U2 ?m1 ?m2 ?S1 ?S2 ?b1 ?b2 ?_; (case B => k_asm); (case F => k_asm); (case X => k_asm); (case N => k_asm); (case T => k_asm); (case hk => exact rfl); (case C1 => with_reducible assumption); (case C2 => with_reducible assumption); (case U1 => k_updF); (case U2 => (intro o9; k_updF)); (case S1 => with_reducible assumption); (case S2 => with_reducible assumption); (case m1 => k_mem); (case m2 => k_mem); (case b1 => with_reducible assumption); (case b2 => with_reducible assumption); (case x0 => omega); (case x1 => omega); (case hd => ktr_room); (case hu => ktr_units); k_whole); intro q9 r9 d9 c8 c9 o8 o9 p8 p9 u8 u9 h' tk' e7 e8 e9 S8 S9 l8 l9 f7 f8 f9 F' N'; (try dsimp only at N')))
theorem in_ok {w : World} {p : Program} {loose : List Str} {mean : ExcName → Option Value} {mg mb : Str → Option Value}
  {cn : Str} {cs : Scope} {a : Addr} {ccd : Value} {cl : List (Str × Addr)} {dp un : Nat} {gd : Option (List Code)} {outer : List Env} {A₀ : Around} {base h₀ : Heap} {L : Addr} {m : Str → Option Value} {news : List (Addr × Obj)} {s : Shared} {Q E : Value → Shared → Prop}
  {g1 : Obj → List (Addr × Obj)} {g2 : Obj → Obj → List (Addr × Obj)} {ps1 ps2 : Array Value} {c1 c2 : Addr} {o1 o2 : Obj} (x : Int) (t1 t2 : Tok) (h0 : -256 ≤ x) (h1 : x < 0)
  (B : Below A₀ base outer h₀) (F : Fr h₀ L s.heap m) (X : (Mine.hd.heap_39 w.params).In h₀) (N : News h₀ L s.heap news) (T : Top p loose mean mg mb h₀) (hk : cs.kind = .function) (hdp : dp + 24 < recursionLimit) (hun : un + 192 < cLine)
  (C1 : CodeHd base 77 73) (C2 : CodeHd base 70 66) (U1 : UpdF 73 (tabObj ps1) news g1) (U2 : ∀ o, UpdF 66 (tabObj ps2) (g1 o) (g2 o)) (m1 : (c1, o1) ∈ news) (m2 : (c2, o2) ∈ news) (S1 : TabSt pos73 q73 ps1 c1 o1) (S2 : TabSt pos66 q66 ps2 c2 o2) (b1 : @LT.lt Nat _ 73 c1) (b2 : @LT.lt Nat _ 73 c2)
  (ret : ∀ (q r : Int) (d c1' c2' : Addr) (o1' o2' : Obj) (ps1' ps2' : Array Value) (u1 u2 : Tok) (h' : Heap) (tk' : Nat), x = 2 * q + r → 0 ≤ r → r ≤ 1 → TabSt pos73 q73 ps1' c1' o1' → TabSt pos66 q66 ps2' c2' o2' → @LT.lt Nat _ 73 c1' → @LT.lt Nat _ 73 c2' → FreshIn d news → FreshOr c1' c1 news → FreshOr c2' c2 news → Fr h₀ L h' m → News h₀ L h' ((d, pair2 q r u1 u2) :: (c1', o1') :: (c2', o2') :: g2 (tabObj ps1') (tabObj ps2')) → Q (.ref d) { s with heap := h', toks := tk' }) :
  wpAny (model PySem.Challenge.rw_xg0064_01.row.prog w) (ktrTop dp un gd cn cs L a ccd cl outer) (PySem.call (.ref 92) [.int x t1, .int 2 t2]) Q E s := by
  w_on
  revert X
  k_fill
  intro X
  have hm66 : (66, tabObj ps2) ∈ news := by
    obtain ⟨pre, post, e1, e2, -, -⟩ := U1.split
    have h9 := mem_updF (U2 (tabObj ps1))
    rw [e2, ← e1] at h9
    exact h9
  have hsub : ∀ q ∈ [(73, tabObj ps1), (66, tabObj ps2), (c1, o1), (c2, o2)], q ∈ news := List.forall_mem_cons.mpr ⟨mem_updF U1, List.forall_mem_cons.mpr ⟨hm66, List.forall_mem_cons.mpr ⟨m1, List.forall_mem_cons.mpr ⟨m2, List.forall_mem_nil _⟩⟩⟩⟩
  w_strict (k_dflt (refine' wpAny_call (enter_keep (binds := [(Str.ofString "a", .int x t1), (Str.ofString "b", .int 2 t2)]) ?k1 ?k2 ?k3 ?k4 ?k5 [(73, tabObj ps1), (66, tabObj ps2), (c1, o1), (c2, o2)] ?hsub ?kA ?kF ?kK ?k6 ?k7 ?k8 ?k9 ?kB ?_ ?c2 ?c3 ?c4 ?c5); (case kA => first | exact rfl | assumption); (case kF => first | exact rfl | assumption); (case kK => first | exact rfl | assumption); (case k1 => k_asm); (case k2 => k_asm); (case k3 => k_asm); (case k4 => k_asm); (case k5 => k_asm); (case hsub => exact hsub); (case k6 => k_is); (case k7 => k_is); (case k8 => ktr_room); (case k9 => exact BindsTo.of_eq rfl); (case c5 => decide); (case kB => exact locs rfl); (case c2 => exact rfl); (case c3 => exact rfl); (case c4 => exact rfl); k_whole; intro g' L' h' FG' F' N' B' X' T' l0' G'; (try dsimp only); (try k_lift B'); (k_lt l0'); (try k_fold)))
  w_strict k_steps
  rename FreshOr _ c1 _ => fcA
  rename FreshOr _ c2 _ => fcB
  refine' ret _ _ _ _ _ _ _ _ _ _ _ _ _ ?e1 ?e2 ?e3 ?S1 ?S2 ?b1 ?b2 ?fd ?fc1 ?fc2 ?hF ?hN
  case S1 => with_reducible assumption
  case S2 => with_reducible assumption
  case b1 => with_reducible assumption
  case b2 => with_reducible assumption
  case hF => k_asm
  case hN => exact news_cons (by k_asm) (by k_mem) (news_cons (by k_asm) (by k_mem) (news_cons (by k_asm) (by k_mem) (news_updF2 N U1 U2 hsub (by k_asm) (by k_mem) (by k_mem) (List.forall_mem_cons.mpr ⟨fun h9 _ => absurd rfl h9, List.forall_mem_cons.mpr ⟨fun _ h9 => absurd rfl h9, List.forall_mem_cons.mpr ⟨fun _ _ => by k_mem, List.forall_mem_cons.mpr ⟨fun _ _ => by k_mem, List.forall_mem_nil _⟩⟩⟩⟩) (by with_reducible assumption))))
  case fd => exact freshIn_of (by rename News g' L' _ _ => N9; exact N9) (by k_mem) (List.forall_mem_cons.mpr ⟨by (show ¬ (@Eq Nat _ _); omega), List.forall_mem_cons.mpr ⟨by (show ¬ (@Eq Nat _ _); omega), List.forall_mem_cons.mpr ⟨by (show ¬ (@Eq Nat _ _); omega), List.forall_mem_cons.mpr ⟨by (show ¬ (@Eq Nat _ _); omega), List.forall_mem_nil _⟩⟩⟩⟩) G'
  case fc1 =>
    refine freshOr_of (by rename News g' L' _ _ => N9; exact N9) (by k_mem) ?_ G'
    refine fcA.imp id fun f => ?_
    exact (List.forall_mem_cons.mpr ⟨f _ (show (73, tabObj ps1) ∈ _ by k_mem), List.forall_mem_cons.mpr ⟨f _ (show (66, tabObj ps2) ∈ _ by k_mem), List.forall_mem_cons.mpr ⟨f _ (show (c1, o1) ∈ _ by k_mem), List.forall_mem_cons.mpr ⟨f _ (show (c2, o2) ∈ _ by k_mem), List.forall_mem_nil _⟩⟩⟩⟩)
  case fc2 =>
    refine freshOr_of (by rename News g' L' _ _ => N9; exact N9) (by k_mem) ?_ G'
    refine fcB.imp id fun f => ?_
    exact (List.forall_mem_cons.mpr ⟨f _ (show (73, tabObj ps1) ∈ _ by k_mem), List.forall_mem_cons.mpr ⟨f _ (show (66, tabObj ps2) ∈ _ by k_mem), List.forall_mem_cons.mpr ⟨f _ (show (c1, o1) ∈ _ by k_mem), List.forall_mem_cons.mpr ⟨f _ (show (c2, o2) ∈ _ by k_mem), List.forall_mem_nil _⟩⟩⟩⟩)
  case e1 => omega
  case e2 => omega
  case e3 => omega
end
end
end
end
end
theorem dm_ok {w : World} {p : Program} {loose : List Str} {mean : ExcName → Option Value} {mg mb : Str → Option Value}
  {cn : Str} {cs : Scope} {a : Addr} {ccd : Value} {cl : List (Str × Addr)} {base h₀ : Heap} {L : Addr} {m : Str → Option Value} {news : List (Addr × Obj)} {s : Shared} {Q E : Value → Shared → Prop}
  {ps1 ps2 : Array Value} {c1 c2 : Addr} {o1 o2 : Obj} {g1 : Obj → List (Addr × Obj)} {g2 : Obj → Obj → List (Addr × Obj)}
  (x : Int) (t1 t2 : Tok) (hx0 : -64 ≤ x) (hx1 : x ≤ 72)
  (B : Below callerA base [] h₀) (F : Fr h₀ L s.heap m) (X : (Mine.hd.heap_39 w.params).In h₀) (C1 : CodeHd base 77 73) (C2 : CodeHd base 70 66) (N : News h₀ L s.heap news) (T : Top p loose mean mg mb h₀) (hk : cs.kind = .function)
  (U1 : UpdF 73 (tabObj ps1) news g1) (U2 : ∀ o, UpdF 66 (tabObj ps2) (g1 o) (g2 o)) (m1 : (c1, o1) ∈ news) (m2 : (c2, o2) ∈ news)
  (S1 : TabSt pos73 q73 ps1 c1 o1) (S2 : TabSt pos66 q66 ps2 c2 o2) (b1 : @LT.lt Nat _ 73 c1) (b2 : @LT.lt Nat _ 73 c2)
  (ret : ∀ (q r : Int) (d c1' c2' : Addr) (o1' o2' : Obj) (ps1' ps2' : Array Value) (u1 u2 : Tok) (h' : Heap) (tk' : Nat), x = 2 * q + r → 0 ≤ r → r ≤ 1 → TabSt pos73 q73 ps1' c1' o1' → TabSt pos66 q66 ps2' c2' o2' →
    @LT.lt Nat _ 73 c1' → @LT.lt Nat _ 73 c2' → FreshIn d news → FreshOr c1' c1 news → FreshOr c2' c2 news → Fr h₀ L h' m →
    News h₀ L h' ((d, pair2 q r u1 u2) :: (c1', o1') :: (c2', o2') :: g2 (tabObj ps1') (tabObj ps2')) → Q (.ref d) { s with heap := h', toks := tk' }) :
  wpAny (model PySem.Challenge.rw_xg0064_01.row.prog w) (callerA.deeper (envX cn cs L a ccd cl)) (PySem.call (.ref 92) [.int x t1, .int 2 t2]) Q E s := by
  by_cases h0 : 0 ≤ x
  · exact im_ok x t1 t2 h0 (by omega) B F X N T hk (by decide) (by decide) C1 C2 U1 U2 m1 m2 S1 S2 b1 b2 ret
  · exact in_ok x t1 t2 (by omega) (by omega) B F X N T hk (by decide) (by decide) C1 C2 U1 U2 m1 m2 S1 S2 b1 b2 ret
noncomputable def qf (n d : Int) : UInt64 := Float64.ofFrac (decide (n < 0) != decide (d < 0)) n.natAbs d.natAbs
noncomputable def hlsOk (r g b : UInt64) : Bool :=
  (Float64.cmp (fmin3 r g b) (fmax3 r g b) == some Ordering.eq) == false && Float64.isZero (Float64.add (fmax3 r g b) (fmin3 r g b)) == false &&
  Float64.isZero (Float64.sub (Float64.sub 4611686018427387904 (fmax3 r g b)) (fmin3 r g b)) == false && Float64.isZero (Float64.sub (fmax3 r g b) (fmin3 r g b)) == false
noncomputable def fullF (l s : UInt64) : UInt64 := Float64.add (Float64.mul (Float64.mul s (if (Float64.cmp (Float64.sub (Float64.ofInt 1) l) l == some Ordering.lt) = true then Float64.sub (Float64.ofInt 1) l else l)) (Float64.ofInt 32)) 4602678819172646912
noncomputable def endOk (pt share value : Int) (q : UInt64 × UInt64 × UInt64) : Bool :=
  (Float64.cmpInt (Float64.mul q.2.1 (Float64.ofInt 32)) (value * (8 - share)) == some Ordering.eq) && Float64.isNaN (fullF q.2.1 q.2.2) == false && Float64.isInf (fullF q.2.1 q.2.2) == false &&
  Flt.toInt Float64.truncOf (fullF q.2.1 q.2.2) == share * value && q.1 == qf pt 16
noncomputable def colourOk (mir : Bool) (m t : Nat) : Bool :=
  let share : Int := 1 + (t % 4 : Nat)
  let value : Int := 1 + (t / 4 : Nat)
  let s := qf share 4
  let v := qf value 4
  let h := qf m 16
  let c := hsvF h s v
  let pt : Int := if mir then ((16 - m % 16) % 16 : Nat) else (m % 16 : Nat)
  (Float64.cmp s 0 == some Ordering.eq) == false &&
  (if mir then hlsOk c.1 c.2.2 c.2.1 && endOk pt share value (hlsF c.1 c.2.2 c.2.1) else hlsOk c.1 c.2.1 c.2.2 && endOk pt share value (hlsF c.1 c.2.1 c.2.2))
noncomputable def DivIs (n d : Int) (q : UInt64) : Prop := d ≠ 0 ∧ Float64.isInf (qf n d) = false ∧ qf n d = q
noncomputable def TruncIs (x : UInt64) (n : Int) : Prop := Float64.isNaN x = false ∧ Float64.isInf x = false ∧ Flt.toInt Float64.truncOf x = n
noncomputable def HsvIs (hF sF vF r g b : UInt64) : Prop := (Float64.cmp sF 0 == some Ordering.eq) = false ∧ Float64.isNaN (Float64.mul hF 4618441417868443648) = false ∧ Float64.isInf (Float64.mul hF 4618441417868443648) = false ∧ (Flt.toInt Float64.truncOf (Float64.mul hF 4618441417868443648)).natAbs < 100 ∧ hsvF hF sF vF = (r, g, b)
noncomputable def HlsIs (r g b x y z : UInt64) : Prop := (Float64.cmp (fmin3 r g b) (fmax3 r g b) == some Ordering.eq) = false ∧ Float64.isZero (Float64.add (fmax3 r g b) (fmin3 r g b)) = false ∧ Float64.isZero (Float64.sub (Float64.sub 4611686018427387904 (fmax3 r g b)) (fmin3 r g b)) = false ∧ Float64.isZero (Float64.sub (fmax3 r g b) (fmin3 r g b)) = false ∧ hlsF r g b = (x, y, z)
section
variable {prog : Program} {w : World} {A : Around} {E : Value → Shared → Prop} {s : Shared} {Q : Value → Shared → Prop} {t u : Tok}
theorem div_is {a b : Int} {q : UInt64} (hA : A.handled = none) (H : DivIs a b q) (h : Q (.float q s.toks) { s with toks := s.toks + 1 }) : wpAny (model prog w) A (binaryOp .Div (.int a t) (.int b u)) Q E s := by
  obtain ⟨h0, h1, rfl⟩ := H
  refine Flt.div_ii hA (fun e => absurd e h0) (fun _ e => ?_) (fun _ _ => h)
  rw [show Float64.isInf (Float64.ofFrac (decide (a < 0) != decide (b < 0)) a.natAbs b.natAbs) = false from h1] at e; cases e
theorem trunc_is {x : UInt64} {n : Int} (hA : A.handled = none) (H : TruncIs x n) (h : Q (.int n s.toks) { s with toks := s.toks + 1 }) : wpAny (model prog w) A (call (.type "int") [.float x t]) Q E s := by
  obtain ⟨h0, h1, rfl⟩ := H
  exact Flt.call_int_float3 hA (fun e => by rw [h0] at e; cases e) (fun e => by rw [h1] at e; cases e) (fun _ => h)
end
theorem hsv_is {w : World} {p : Program} {loose : List Str} {mean : ExcName → Option Value} {mg mb : Str → Option Value}
  {cn : Str} {cs : Scope} {a : Addr} {ccd : Value} {cl : List (Str × Addr)} {base h₀ : Heap} {L : Addr} {m : Str → Option Value} {news : List (Addr × Obj)} {s : Shared} {Q E : Value → Shared → Prop}
  {a1 a2 a3 b1 b2 b3 : UInt64} {t1 t2 t3 : Tok} (H : HsvIs a1 a2 a3 b1 b2 b3)
  (B : Below callerA base [] h₀) (F : Fr h₀ L s.heap m) (X : (Mine.hd.heap_39 w.params).In h₀) (N : News h₀ L s.heap news) (T : Top p loose mean mg mb h₀) (hk : cs.kind = .function)
  (ret : ∀ (u1 u2 u3 : Tok) (q : Addr) (h' : Heap) (tk' : Nat), Fr h₀ L h' m → News h₀ L h' ((q, tup3 b1 b2 b3 u1 u2 u3) :: news) → Q (.ref q) { s with heap := h', toks := tk' }) :
  wpAny (model PySem.Challenge.rw_xg0064_01.row.prog w) (callerA.deeper (envX cn cs L a ccd cl)) (PySem.call (.ref 106) [.float a1 t1, .float a2 t2, .float a3 t3]) Q E s := by
  obtain ⟨e1, e2, e3, e4, e5⟩ := H
  refine hsv_ok _ _ _ t1 t2 t3 e1 e2 e3 e4 B F X N T hk fun x y z u1 u2 u3 q h' tk' e F' N' => ?_
  rw [e5] at e
  injection e with i1 i2
  injection i2 with i2 i3
  subst i1 i2 i3
  exact ret _ _ _ _ _ _ F' N'
theorem hls_is {w : World} {p : Program} {loose : List Str} {mean : ExcName → Option Value} {mg mb : Str → Option Value}
  {cn : Str} {cs : Scope} {a : Addr} {ccd : Value} {cl : List (Str × Addr)} {base h₀ : Heap} {L : Addr} {m : Str → Option Value} {news : List (Addr × Obj)} {s : Shared} {Q E : Value → Shared → Prop}
  {a1 a2 a3 b1 b2 b3 : UInt64} {t1 t2 t3 : Tok} (H : HlsIs a1 a2 a3 b1 b2 b3)
  (B : Below callerA base [] h₀) (F : Fr h₀ L s.heap m) (X : (Mine.hd.heap_39 w.params).In h₀) (N : News h₀ L s.heap news) (T : Top p loose mean mg mb h₀) (hk : cs.kind = .function)
  (ret : ∀ (u1 u2 u3 : Tok) (q : Addr) (h' : Heap) (tk' : Nat), Fr h₀ L h' m → News h₀ L h' ((q, tup3 b1 b2 b3 u1 u2 u3) :: news) → Q (.ref q) { s with heap := h', toks := tk' }) :
  wpAny (model PySem.Challenge.rw_xg0064_01.row.prog w) (callerA.deeper (envX cn cs L a ccd cl)) (PySem.call (.ref 99) [.float a1 t1, .float a2 t2, .float a3 t3]) Q E s := by
  obtain ⟨e1, e2, e3, e4, e5⟩ := H
  refine hls_ok _ _ _ t1 t2 t3 e1 e2 e3 e4 B F X N T hk fun x y z u1 u2 u3 q h' tk' e F' N' => ?_
  rw [e5] at e
  injection e with i1 i2
  injection i2 with i2 i3
  subst i1 i2 i3
  exact ret _ _ _ _ _ _ F' N'
noncomputable def forParts : List Stmt → Option (Expr × List Stmt)
  | [] => none
  | .For t _ b _ _ :: _ => some (t, b)
  | _ :: r => forParts r
/-- target and body of the loop within the turn's statements, from the i-th on -/
noncomputable def innerFor (i n : Nat) : Option (Expr × List Stmt × Scope) := (turnPart i n).bind fun p => (forParts p.1).map fun q => (q.1, q.2, p.2)




theorem strs_from {vs : List Value} {ns : List Str} {x : Int} (hi : StrsAre vs ns) (h : 0 ≤ x) : StrsAre (slicePick vs.toArray (some x) none none).toList (ns.drop x.toNat) := by
  have e : sliceBounds (some x) none none vs.toArray.size = (((min x.toNat vs.toArray.size : Nat) : Int), ((vs.toArray.size : Nat) : Int), 1) := by
    simp only [sliceBounds, Option.getD_none, show (1 : Int) > 0 by decide, if_true, if_neg (show ¬ (x < 0) by omega)]
    congr 1
    omega
  rw [kmk_pick_nat _ e]
  show StrsAre ((vs.drop (min x.toNat vs.toArray.size)).take (vs.toArray.size - min x.toNat vs.toArray.size)) _
  rw [List.size_toArray, kmk_drop_min, List.take_of_length_le (by rw [List.length_drop]; omega)]
  exact hi.drop' _
section
variable {w : World} {prog : Program} {A : Around} {E : Value → Shared → Prop} {s : Shared} {h₀ : Heap} {L l b : Addr} {m : Str → Option Value} {news : List (Addr × Obj)} {Q : Value → Shared → Prop} {vs ws : List Value} {ns ms : List Str} {value slice : Expr}
theorem slice_from_S {x : Int} {t : Tok} {ops : List Value} (F : Fr h₀ L s.heap m) (N : News h₀ L s.heap news) (hl : s.heap.IsList l vs.toArray) (hi : StrsAre vs ns) (h0 : 0 ≤ x) (hz : ns.length ≤ 1000)
    (h : ∀ (D : Addr) (ws : List Value) (h' : Heap), StrsAre ws (ns.drop x.toNat) → Fr h₀ L h' m → News h₀ L h' ((D, listOf ws.toArray 0) :: news) → (∀ p ∈ news, p.1 < D) → Q (.ref D) { s with heap := h' })
    (hs : subscripted slice false (.ref l) (.ref s.heap.objs.size) = operate ops (getItem (.ref l) (.ref s.heap.objs.size))) :
    wpAny (model prog w) A (subscriptTail value slice (.ref l) (.ref s.heap.objs.size)) Q E { s with heap := s.heap.push { cls := .type "slice", data := .fields #[.int x t, .none, .none] } } := by
  have hsz : vs.toArray.size ≤ sizeLine := by rw [sizeLine_eq, List.size_toArray, hi.length]; omega
  refine tail_any (Heap.IsList.typeIs (s := { s with heap := s.heap.push { cls := .type "slice", data := .fields #[.int x t, .none, .none] } }) (hl.push _)) list_getitem_lookup (wpAny_getItem_list_slice (hl.push _) (Heap.IsSliceOf.new ..) (.int _ _) .none .none (by decide) ?_ hsz) hs
  have N1 := News.push (F.push { cls := .type "slice", data := .fields #[.int x t, .none, .none] }) (N.grown fun _ _ e => Heap.get?_push_of_some _ e) { cls := .type "list", data := .seq (slicePick vs.toArray (some x) none none) }
  rw [Heap.size_push] at N1
  show Q (.ref (s.heap.push _).objs.size) _
  rw [Heap.size_push]
  refine h _ (slicePick vs.toArray (some x) none none).toList _ (strs_from hi h0) ((F.push _).push _) ?_ fun p hp => Nat.lt_succ_of_lt (Heap.lt_size (N p hp).1)
  rw [Array.toArray_toList]
  exact N1
theorem add_S (F : Fr h₀ L s.heap m) (N : News h₀ L s.heap news) (hl : s.heap.IsList l vs.toArray) (hb : s.heap.IsList b ws.toArray) (hi : StrsAre vs ns) (hj : StrsAre ws ms) (hz : ns.length ≤ 1000) (hy : ms.length ≤ 1000)
    (h : ∀ (D : Addr) (us : List Value) (h' : Heap), StrsAre us (ns ++ ms) → Fr h₀ L h' m → News h₀ L h' ((D, listOf us.toArray 0) :: news) → (∀ p ∈ news, p.1 < D) → Q (.ref D) { s with heap := h' }) : wpAny (model prog w) A (binaryOp .Add (.ref l) (.ref b)) Q E s :=
  add_lists F N hl hb (fun h' F' N' => h _ (vs ++ ws) h' (hi.append' hj) F' N' fun p hp => Heap.lt_size (N p hp).1) (by rw [sizeLine_eq, hi.length, hj.length]; omega)
theorem item_I {k : Int} {u : Tok} {xs : List Int} (hl : s.heap.IsList l vs.toArray) (hi : IntsAre vs xs) (hz : xs.length ≤ 1000) (h0 : 0 ≤ k) (h1 : k < xs.length) (h : ∀ t, Q (.int (xs.getD k.toNat 0) t) s)
    (hs : subscripted slice false (.ref l) (.int k u) = operate [.ref l, .int k u] (getItem (.ref l) (.int k u))) (hg : ∀ r, letTemporaryGo value (.ref l) r = pure ()) :
    wpAny (model prog w) A (subscriptTail value slice (.ref l) (.int k u)) Q E s :=
  item_list_ints hl hi h0 h1 (by omega) h hs hg
end
noncomputable def Stop (P : Prop) : Prop := P
theorem Stop.go {P : Prop} (h : Stop P) : P := h
noncomputable def ReachIs (h d : Str) : Prop := h.cps.size ≤ 1000 ∧ h.length ≤ 1000 ∧ ∃ hb, reHit h = some hb ∧ reachF hb h = d
theorem reach_is {w : World} {p : Program} {loose : List Str} {mean : ExcName → Option Value} {mg mb : Str → Option Value}
  {cn : Str} {cs : Scope} {a : Addr} {ccd : Value} {cl : List (Str × Addr)} {base h₀ : Heap} {L : Addr} {m : Str → Option Value} {news : List (Addr × Obj)} {s : Shared} {Q E : Value → Shared → Prop}
  {h d : Str} {t1 : Tok} (H : ReachIs h d)
  (B : Below callerA base [] h₀) (F : Fr h₀ L s.heap m) (X : (Mine.hd.heap_39 w.params).In h₀) (N : News h₀ L s.heap news) (T : Top p loose mean mg mb h₀) (hk : cs.kind = .function)
  (ret : ∀ (t : Tok) (h' : Heap) (tk' : Nat), Fr h₀ L h' m → News h₀ L h' news → Q (.str d t) { s with heap := h', toks := tk' }) :
  wpAny (model PySem.Challenge.rw_xg0064_01.row.prog w) (callerA.deeper (envX cn cs L a ccd cl)) (PySem.call (.ref 50) [.str h t1]) Q E s := by
  obtain ⟨h1, h2, hb, h3, rfl⟩ := H
  exact reach_ok h t1 hb h1 h2 h3 B F X N T hk ret
noncomputable def JoinIs (x : Str) (ys : List Str) (j : Str) : Prop := Txt.join x ys = j ∧ (ys.map (·.length)).sum + ys.length ≤ 1048576
theorem join_is {prog : Program} {w : World} {A : Around} {E : Value → Shared → Prop} {s : Shared} {Q : Value → Shared → Prop} {x j : Str} {t : Tok} {D : Addr} {items : Array Value} {ys : List Str} (hl : s.heap.IsList D items) (hi : StrsAre items.toList ys) (hsep : x.length ≤ 16) (hw : JoinIs x ys j)
    (h : ∀ t' k, Q (.str j t') { s with toks := k }) : wpAny (model prog w) A (call (.builtin "str.join") [.str x t, .ref D]) Q E s := by
  obtain ⟨rfl, hw⟩ := hw
  exact join_listW hl hi hsep hw h
noncomputable def AddIs (x y z : Str) : Prop := x ++ y = z ∧ x.length + y.length ≤ sizeLine
theorem add_is {prog : Program} {w : World} {A : Around} {E : Value → Shared → Prop} {s : Shared} {Q : Value → Shared → Prop} {x y z : Str} {t u : Tok} (H : AddIs x y z) (h : ∀ t' tk, Q (.str z t') { s with toks := tk }) : wpAny (model prog w) A (binaryOp .Add (.str x t) (.str y u)) Q E s := by
  obtain ⟨rfl, hw⟩ := H
  exact PyProof.Rows.add_str h hw
noncomputable def CountIs (k : Str) (ys : List Str) (c : Int) : Prop := PySem.Spec.countIn (.str k) (ys.map PyData.str) = c
theorem count_is {prog : Program} {w : World} {A : Around} {E : Value → Shared → Prop} {s : Shared} {Q : Value → Shared → Prop} {l : Addr} {vs : List Value} {ys : List Str} {k : Str} {t : Tok} {c : Int} (hl : s.heap.IsList l vs.toArray) (hi : StrsAre vs ys) (H : CountIs k ys c)
    (h : Q (.int c s.toks) { s with toks := s.toks + 1 }) : wpAny (model prog w) A (call (.builtin "list.count") [.ref l, .str k t]) Q E s := by
  have H : PySem.Spec.countIn (.str k) (ys.map PyData.str) = c := H
  exact count_list_strs hl hi (H ▸ h)
theorem updF_upd {d : Addr} {o o' : Obj} : ∀ {l : List (Addr × Obj)} {g : Obj → List (Addr × Obj)}, UpdF d o l g → Upd d o o' l (g o')
  | _, _, .head h => .head h
  | _, _, .tail h r => .tail h (updF_upd r)
theorem append_S {w : World} {prog : Program} {A : Around} {E : Value → Shared → Prop} {s : Shared} {h₀ : Heap} {L D : Addr} {m : Str → Option Value} {news : List (Addr × Obj)} {g : Obj → List (Addr × Obj)} {vs : List Value} {xs : List Str} {n : Nat} {x : Str} {t : Tok} {Q : Value → Shared → Prop} (F : Fr h₀ L s.heap m) (N : News h₀ L s.heap news) (U : UpdF D (listOf vs.toArray n) news g) (hS : StrsAre vs xs)
    (hsz : xs.length ≤ 1000) (h : ∀ (vs' : List Value) (n' : Nat) (h' : Heap), StrsAre vs' (xs ++ [x]) → Fr h₀ L h' m → News h₀ L h' (g (listOf vs'.toArray n')) → Q .none { s with heap := h' }) : wpAny (model prog w) A (call (.builtin "list.append") [.ref D, .str x t]) Q E s := by
  refine append_V F N (n := n) (updF_upd U) (by rw [hS.length]; exact hsz) fun h' F' N' => h _ _ h' (hS.append' (.cons _ _ .nil)) F' N'
noncomputable def SliceIs (x j : Str) : Prop := Txt.slice x (some 1) none = j ∧ x.length ≤ sizeLine
theorem slice1_is {w : World} {prog : Program} {A : Around} {E : Value → Shared → Prop} {s : Shared} {h₀ : Heap} {L : Addr} {m : Str → Option Value} {news : List (Addr × Obj)} {Q : Value → Shared → Prop} {value slice : Expr} {x j : Str} {t ui : Tok} (H : SliceIs x j) (F : Fr h₀ L s.heap m) (N : News h₀ L s.heap news)
    (h : ∀ h' t' k, Fr h₀ L h' m → News h₀ L h' news → Q (.str j t') { s with heap := h', toks := k })
    (hs : subscripted slice false (.str x t) (.ref s.heap.objs.size) = operate [.ref s.heap.objs.size, .str x t] (getItem (.str x t) (.ref s.heap.objs.size)) := by with_unfolding_all rfl)
    (ht : ∀ r, letTemporaryGo value (.str x t) r = pure () := by intro _; with_unfolding_all rfl) :
    wpAny (model prog w) A (subscriptTail value slice (.str x t) (.ref s.heap.objs.size)) Q E { s with heap := s.heap.push { cls := .type "slice", data := .fields #[.int 1 ui, .none, .none] } } := by
  obtain ⟨rfl, hsz⟩ := H
  exact slice_strN_sn_len F N (fun h' t' k hF hN _ => h h' t' k hF hN) hs ht hsz
theorem FreshOr.all {d c : Addr} {news : List (Addr × Obj)} {l : List Nat} (f : FreshOr d c news) (hm : ∀ y ∈ l, ∃ o, (y, o) ∈ news) (hc : ∀ y ∈ l, c ≠ y) : ∀ y ∈ l, d ≠ y := fun y hy => let ⟨_, h⟩ := hm y hy; f.ne h (hc y hy)
section
variable {w : World} {prog : Program} {A : Around} {E : Value → Shared → Prop} {s : Shared} {h₀ : Heap} {L l b : Addr} {m : Str → Option Value} {news : List (Addr × Obj)} {Q : Value → Shared → Prop} {vs ws : List Value} {ns ms : List Str} {value slice : Expr}
theorem last_I {k : Int} {u : Tok} {xs : List Int} {x : Int} (hl : s.heap.IsList l vs.toArray) (hi : IntsAre vs (xs ++ [x])) (hk : k = -1) (h : ∀ t, Q (.int x t) s)
    (hs : subscripted slice false (.ref l) (.int k u) = operate [.ref l, .int k u] (getItem (.ref l) (.int k u))) :
    wpAny (model prog w) A (subscriptTail value slice (.ref l) (.int k u)) Q E s := by
  subst hk
  have hlen : vs.length = xs.length + 1 := by rw [hi.length, List.length_append]; rfl
  obtain ⟨t, ht⟩ := hi.get xs.length x (by simp)
  refine kde_neg hl (by decide) (by decide) (j := xs.length) ?_ ht (h t) hs
  rw [hlen]
  simp only [seqIndex?]
  have e1 : ¬ (0 ≤ (-1 : Int)) := by decide
  simp [e1]
  omega
theorem append_I {D : Addr} {g : Obj → List (Addr × Obj)} {xs : List Int} {n : Nat} {x : Int} {t : Tok} (F : Fr h₀ L s.heap m) (N : News h₀ L s.heap news) (U : UpdF D (listOf vs.toArray n) news g) (hS : IntsAre vs xs)
    (hsz : xs.length ≤ 1000) (h : ∀ (vs' : List Value) (n' : Nat) (h' : Heap), IntsAre vs' (xs ++ [x]) → Fr h₀ L h' m → News h₀ L h' (g (listOf vs'.toArray n')) → Q .none { s with heap := h' }) : wpAny (model prog w) A (call (.builtin "list.append") [.ref D, .int x t]) Q E s := by
  refine append_V F N (n := n) (updF_upd U) (by rw [hS.length]; exact hsz) fun h' F' N' => h _ _ h' (hS.append (.cons _ _ .nil)) F' N'
end
theorem addrow {w : World} {prog : Program} {A : Around} {E : Value → Shared → Prop} {s : Shared} {h₀ : Heap} {L l b : Addr} {m : Str → Option Value} {news : List (Addr × Obj)} {Q : Value → Shared → Prop} {vs : List Value} {ns : List Int} {x : Int} {t : Tok} {n n2 : Nat} (F : Fr h₀ L s.heap m) (N : News h₀ L s.heap news) (m1 : (l, listOf vs.toArray n) ∈ news) (m2 : (b, listOf #[.int x t] n2) ∈ news) (hi : IntsAre vs ns) (hz : ns.length ≤ 100)
    (h : ∀ (D : Addr) (ws : List Value) (h' : Heap), IntsAre ws (ns ++ [x]) → Fr h₀ L h' m → News h₀ L h' ((D, listOf ws.toArray 0) :: news) → (∀ p ∈ news, p.1 < D) → Q (.ref D) { s with heap := h' }) : wpAny (model prog w) A (binaryOp .Add (.ref l) (.ref b)) Q E s := by
  refine add_lists_ints F N (list_news N m1) (list_news (vs := [.int x t]) N m2) hi (.cons _ _ .nil) (fun h' F' N' i => h _ _ h' i F' N' fun p hp => Heap.lt_size (N p hp).1) ?_
  rw [sizeLine_eq]; simp only [List.length_singleton]; omega
noncomputable def SortIs (a b : List Int) : Prop := b.Perm a ∧ b.Pairwise (· ≤ ·)
theorem sort_is {w : World} {prog : Program} {A : Around} {E : Value → Shared → Prop} {s : Shared} {h₀ : Heap} {L l : Addr} {m : Str → Option Value} {news : List (Addr × Obj)} {Q : Value → Shared → Prop} {vs : List Value} {ns ms : List Int} {n : Nat} (F : Fr h₀ L s.heap m) (N : News h₀ L s.heap news) (m1 : (l, listOf vs.toArray n) ∈ news) (hi : IntsAre vs ns) (hz : ns.length < 64) (H : SortIs ns ms)
    (h : ∀ (D : Addr) (ws : List Value) (c : Nat) (h' : Heap), IntsAre ws ms → Fr h₀ L h' m → News h₀ L h' ((D, listOf ws.toArray c) :: news) → (∀ p ∈ news, p.1 < D) → Q (.ref D) { s with heap := h' }) : wpAny (model prog w) A (call (.builtin "sorted") [.ref l]) Q E s := by
  refine kso_sorted F N (list_news N m1) hi hz fun D ws ns' c h' F' N' l1 i _ hp hs _ => ?_
  have e : ns' = ms := List.Perm.eq_of_pairwise (fun _ _ _ _ a b => Int.le_antisymm a b) hs H.2 (hp.trans H.1.symm)
  subst e
  exact h D ws c h' i F' N' l1
theorem ne_is {prog : Program} {w : World} {A : Around} {E : Value → Shared → Prop} {s : Shared} {Q : Value → Shared → Prop} {t u : Tok} {x y : UInt64} (H : (Float64.cmp x y != some Ordering.eq) = false) (h : Q (.bool false) s) : wpAny (model prog w) A (compareOp .NotEq (.float x t) (.float y u)) Q E s := by
  refine AutoFloatOps.ne_0 ?_
  rw [H]
  exact h
section
local macro_rules | `(tactic| k_ne) => `(tactic| (first | (exact FreshIn.ne (by assumption) (by k_mem)) | (exact FreshOr.ne (by assumption) (by k_mem) (by k_ne)) | assumption))
local macro_rules | `(tactic| walk_at "eval Name") => `(tactic| (name_kind "local"; k_dflt (refine' nameX_L ?F ?v ?_ ?a ?b; (case F => k_asm); (case a => rfl); (case b => rfl); (case v => rfl); k_whole)))
section
local macro_rules | `(tactic| walk_at "eval Name") => `(tactic| (name_kind "globalImplicit"; k_dflt (refine' nameX_K ?F ?X ?T ?e ?_ ?a ?b; (case F => k_asm); (case X => k_asm); (case T => k_asm); (case a => rfl); (case b => rfl); (case e => k_is); k_whole)))
local macro_rules | `(tactic| walk_at "callWith ref") => `(tactic| (k_here; k_dflt (refine' callWith_K ?k1 ?k2 ?_; (case k1 => k_asm); (case k2 => k_is); k_whole)))
section
local macro_rules | `(tactic| k_ne) => `(tactic| (first | with_reducible assumption | (with_reducible refine Ne.symm ?_; with_reducible assumption)))
local macro_rules | `(tactic| walk_at "subscriptTail Name Name ref int") => `(tactic| (k_here; k_dflt (refine' KTb.item_list ?hl ?hw ?h0 ?h1 ?hf ?_ ?hs; (case hl => exact list_news (by k_asm) (by k_mem)); (case hw => assumption); (case h0 => omega); (case h1 => (show _ < (2 : Int); omega)); (case hf => omega); (case hs => with_unfolding_all rfl)); intro t9 l9))
local macro_rules | `(tactic| walk_at "call ref") => `(tactic| (k_here; k_dflt (refine' dm_ok _ _ _ ?x0 ?x1 ?B ?F ?X ?C1 ?C2 ?N ?T ?hk ?U1 ?U2 ?m1 ?m2 ?S1 ?S2 ?b1 ?b2 ?_; (case B => k_asm); (case F => k_asm); (case X => k_asm); (case C1 => k_asm); (case C2 => k_asm); (case N => k_asm); (case T => k_asm); (case hk => exact rfl); (case U1 => k_updF); (case U2 => (intro o9; k_updF)); (case S1 => assumption); (case S2 => assumption); (case m1 => k_mem); (case m2 => k_mem); (case b1 => assumption); (case b2 => assumption); (case x0 => omega); (case x1 => omega); k_whole); intro q9 r9 d9 c8 c9 o8 o9 p8 p9 u8 u9 h' tk' e7 e8 e9 S8 S9 l8 l9 f7 f8 f9 F' N'; (try dsimp only at N')))
local macro_rules | `(tactic| walk_at "subscriptTail Name UnaryOp ref int") => `(tactic| (k_here; k_dflt (refine' last_I ?hl ?hi ?hk ?_ ?hs; (case hl => exact list_news (by k_asm) (by k_mem)); (case hi => with_reducible assumption); (case hk => rfl); (case hs => with_unfolding_all rfl)); intro t9))
local macro_rules | `(tactic| walk_at "call builtin:list.append") => `(tactic| (k_here; (try dsimp only [List.cons_append, List.nil_append]); k_dflt (refine' append_I ?k1 ?k2 ?k3 ?k4 ?z ?_; (case k1 => k_asm); (case k2 => k_asm); (case k3 => k_updF); (case k4 => with_reducible assumption); (case z => ((try simp only [List.length_append, List.length_singleton]); omega)); k_whole); intro v9 n9 h' s9 F' N'; (try dsimp only at N')))
local macro_rules | `(tactic| walk_at "binaryOp Add ref ref") => `(tactic| (k_here; (rename Fr _ _ _ _ => F9); (rename News _ _ _ _ => N9); k_dflt (refine add_S F9 N9 (list_news N9 (by k_mem)) (list_news N9 (by k_mem)) (by kct_strs) (by with_reducible assumption) (Nat.le_of_ble_eq_true rfl) (by omega) ?_); intro d9 w9 h' s9 F' N' l9))
theorem turnA {w : World} {p : Program} {loose : List Str} {mean : ExcName → Option Value} {mg mb : Str → Option Value}
  {a : Addr} {ccd : Value} {base h₀ : Heap} {L : Addr} {s : Shared} {Q : Flow → Shared → Prop} {tg : Expr} {body : List Stmt} {scope : Scope} (hb : innerFor 0 5 = some (tg, body, scope))
  {u : Str → Option Value} {k front moved : Int} {mir : Bool} {tkk tff tmm : Tok} {na ta ca ra I la ha b1a b2a : Addr} {nv tv cv rv hv lv : List Value} {xs : List Int} {ls : List Str} {e0 e1 e2 e3 e5 e6 : Nat} {oI b1o b2o : Obj} {ps1 ps2 : Array Value} {c1 c2 : Addr} {o1 o2 : Obj}
  {x pl wt : Int} {tw tp : Tok} {n0 n1 : Str} (hw0 : 0 ≤ wt) (hw1 : wt ≤ 8) (hx0 : -64 ≤ x) (hx1 : x ≤ 72) (hnv : StrsAre nv [n0, n1]) (hhv : IntsAre hv (xs ++ [x])) (hxs : xs.length ≤ 10) (hlv : StrsAre lv ls) (hls : ls.length ≤ 10)
  (B : Below callerA base [] h₀) (X : (Mine.hd.heap_39 w.params).In h₀) (C1 : CodeHd base 77 73) (C2 : CodeHd base 70 66) (T : Top p loose mean mg mb h₀)
  (S1 : TabSt pos73 q73 ps1 c1 o1) (S2 : TabSt pos66 q66 ps2 c2 o2) (b1 : @LT.lt Nat _ 73 c1) (b2 : @LT.lt Nat _ 73 c2) (b3 : @LT.lt Nat _ 73 na) (b4 : @LT.lt Nat _ 73 ta) (b5 : @LT.lt Nat _ 73 ca) (b6 : @LT.lt Nat _ 73 ra) (b7 : @LT.lt Nat _ 73 I) (b8 : @LT.lt Nat _ 73 ha) (b9 : @LT.lt Nat _ 73 la)
  (b10 : @LT.lt Nat _ 73 b1a) (b11 : @LT.lt Nat _ 73 b2a) (h3 : ∀ y ∈ ([la, na, ta, ca, ra, I, b1a, b2a] : List Nat), y ≠ ha)
  (h1 : ∀ y ∈ ([ha, ca, I, b1a, b2a] : List Nat), c1 ≠ y) (h2 : ∀ y ∈ ([ha, ca, I, b1a, b2a] : List Nat), c2 ≠ y)
  (F : Fr h₀ L s.heap (kstB u [(Str.ofString "k", .int k tkk), (Str.ofString "front", .int front tff), (Str.ofString "moved", .int moved tmm), (Str.ofString "mirrored", .bool mir), (Str.ofString "names", .ref na), (Str.ofString "tones", .ref ta), (Str.ofString "came", .ref ca), (Str.ofString "row", .ref ra), (Str.ofString "halves", .ref ha), (Str.ofString "labels", .ref la), (Str.ofString "place", .int pl tp)]))
  (N : News h₀ L s.heap [(ha, listOf hv.toArray e5), (la, listOf lv.toArray e6), (na, listOf nv.toArray e0), (ta, listOf tv.toArray e1), (ca, listOf cv.toArray e2), (ra, listOf rv.toArray e3), (I, oI), (c1, o1), (c2, o2), (73, tabObj ps1), (66, tabObj ps2), (b1a, b1o), (b2a, b2o)])
  (ret : ∀ (q r : Int) (u' : Str → Option Value) (la2 d1 d2 : Addr) (w1 w2 : Obj) (z1 z2 : Array Value) (hv' lv' : List Value) (e5' e6' : Nat) (tp' : Tok) (h' : Heap) (tk' : Nat), x = 2 * q + r → 0 ≤ r → r ≤ 1 → IntsAre hv' ((xs ++ [x]) ++ [q]) → StrsAre lv' ([n0, n1].getD r.toNat Str.empty :: ls) → TabSt pos73 q73 z1 d1 w1 → TabSt pos66 q66 z2 d2 w2 → @LT.lt Nat _ 73 d1 → @LT.lt Nat _ 73 d2 → (∀ y ∈ ([ha, ca, I, b1a, b2a] : List Nat), d1 ≠ y) → (∀ y ∈ ([ha, ca, I, b1a, b2a] : List Nat), d2 ≠ y) → (∀ y ∈ ([ha, ca, I, b1a, b2a] : List Nat), @LT.lt Nat _ y la2) →
    Fr h₀ L h' (kstB u' [(Str.ofString "k", .int k tkk), (Str.ofString "front", .int front tff), (Str.ofString "moved", .int moved tmm), (Str.ofString "mirrored", .bool mir), (Str.ofString "names", .ref na), (Str.ofString "tones", .ref ta), (Str.ofString "came", .ref ca), (Str.ofString "row", .ref ra), (Str.ofString "halves", .ref ha), (Str.ofString "labels", .ref la2), (Str.ofString "place", (.int (pl + wt * r) tp'))]) → News h₀ L h' [(ha, listOf hv'.toArray e5'), (la2, listOf lv'.toArray e6'), (na, listOf nv.toArray e0), (ta, listOf tv.toArray e1), (ca, listOf cv.toArray e2), (ra, listOf rv.toArray e3), (I, oI), (d1, w1), (d2, w2), (73, tabObj z1), (66, tabObj z2), (b1a, b1o), (b2a, b2o)] → Q .next { s with heap := h', toks := tk' }) :
  wpAny (model PySem.Challenge.rw_xg0064_01.row.prog w) (callerA.deeper (envOf (Str.ofString "law") scope L a ccd)) (assign tg (envOf (Str.ofString "law") scope L a ccd) (.int wt tw)) (fun _ s₂ => wpAny (model PySem.Challenge.rw_xg0064_01.row.prog w) (callerA.deeper (envOf (Str.ofString "law") scope L a ccd)) (execs body (envOf (Str.ofString "law") scope L a ccd)) Q (fun _ _ => False) s₂) (fun _ _ => False) s := by
  w_on
  revert X
  k_fill
  intro X
  have h2 : some (_, _, _) = some (tg, body, scope) := hb
  cases h2
  clear hb
  dsimp only [List.map, List.drop, List.take, forBody, forParts]
  have n0 : ha ≠ 73 := Nat.ne_of_gt b8
  have g0 : ha ≠ 66 := Nat.ne_of_gt (Nat.lt_trans (by decide) b8)
  have n1 : la ≠ 73 := Nat.ne_of_gt b9
  have g1 : la ≠ 66 := Nat.ne_of_gt (Nat.lt_trans (by decide) b9)
  have n2 : na ≠ 73 := Nat.ne_of_gt b3
  have g2 : na ≠ 66 := Nat.ne_of_gt (Nat.lt_trans (by decide) b3)
  have n3 : ta ≠ 73 := Nat.ne_of_gt b4
  have g3 : ta ≠ 66 := Nat.ne_of_gt (Nat.lt_trans (by decide) b4)
  have n4 : ca ≠ 73 := Nat.ne_of_gt b5
  have g4 : ca ≠ 66 := Nat.ne_of_gt (Nat.lt_trans (by decide) b5)
  have n5 : ra ≠ 73 := Nat.ne_of_gt b6
  have g5 : ra ≠ 66 := Nat.ne_of_gt (Nat.lt_trans (by decide) b6)
  have n6 : I ≠ 73 := Nat.ne_of_gt b7
  have g6 : I ≠ 66 := Nat.ne_of_gt (Nat.lt_trans (by decide) b7)
  have n7 : c1 ≠ 73 := Nat.ne_of_gt b1
  have g7 : c1 ≠ 66 := Nat.ne_of_gt (Nat.lt_trans (by decide) b1)
  have n8 : c2 ≠ 73 := Nat.ne_of_gt b2
  have g8 : c2 ≠ 66 := Nat.ne_of_gt (Nat.lt_trans (by decide) b2)
  have n9 : b1a ≠ 73 := Nat.ne_of_gt b10
  have g9 : b1a ≠ 66 := Nat.ne_of_gt (Nat.lt_trans (by decide) b10)
  have n10 : b2a ≠ 73 := Nat.ne_of_gt b11
  have g10 : b2a ≠ 66 := Nat.ne_of_gt (Nat.lt_trans (by decide) b11)
  have y1 := h1 ha (by k_mem)
  have y2 := h2 ha (by k_mem)
  have z0 := h3 la (by k_mem)
  have z1 := h3 na (by k_mem)
  have z2 := h3 ta (by k_mem)
  have z3 := h3 ca (by k_mem)
  have z4 := h3 ra (by k_mem)
  have z5 := h3 I (by k_mem)
  have z6 := h3 b1a (by k_mem)
  have z7 := h3 b2a (by k_mem)
  have hm : ∀ y ∈ ([ha, ca, I, b1a, b2a] : List Nat), ∃ o, (y, o) ∈ [(ha, listOf hv.toArray e5), (la, listOf lv.toArray e6), (na, listOf nv.toArray e0), (ta, listOf tv.toArray e1), (ca, listOf cv.toArray e2), (ra, listOf rv.toArray e3), (I, oI), (c1, o1), (c2, o2), (73, tabObj ps1), (66, tabObj ps2), (b1a, b1o), (b2a, b2o)] := List.forall_mem_cons.mpr ⟨⟨_, .head _⟩, List.forall_mem_cons.mpr ⟨⟨_, .tail _ (.tail _ (.tail _ (.tail _ (.head _))))⟩, List.forall_mem_cons.mpr ⟨⟨_, .tail _ (.tail _ (.tail _ (.tail _ (.tail _ (.tail _ (.head _))))))⟩, List.forall_mem_cons.mpr ⟨⟨_, .tail _ (.tail _ (.tail _ (.tail _ (.tail _ (.tail _ (.tail _ (.tail _ (.tail _ (.tail _ (.tail _ (.head _)))))))))))⟩, List.forall_mem_cons.mpr ⟨⟨_, .tail _ (.tail _ (.tail _ (.tail _ (.tail _ (.tail _ (.tail _ (.tail _ (.tail _ (.tail _ (.tail _ (.tail _ (.head _))))))))))))⟩, List.forall_mem_nil _⟩⟩⟩⟩⟩
  w_strict k_steps
  rename ∀ _ ∈ _, _ < _ => l9
  refine' ret _ _ _ _ _ _ _ _ _ _ _ _ _ _ _ _ _ ?e1 ?e2 ?e3 ?hi ?hs ?s1 ?s2 ?t1 ?t2 ?d1 ?d2 ?l (fr_kst (by k_asm) ?fr) (news_sub (by k_asm) ?N)
  case e1 => assumption
  case e2 => assumption
  case e3 => assumption
  case hi => with_reducible assumption
  case hs => assumption
  case s1 => assumption
  case s2 => assumption
  case t1 => assumption
  case t2 => assumption
  case d1 => exact FreshOr.all (by assumption) hm h1
  case d2 => exact FreshOr.all (by assumption) hm h2
  case fr => ((refine And.intro (by with_unfolding_all rfl) ?_); (refine And.intro (by with_unfolding_all rfl) ?_); (refine And.intro (by with_unfolding_all rfl) ?_); (refine And.intro (by with_unfolding_all rfl) ?_); (refine And.intro (by with_unfolding_all rfl) ?_); (refine And.intro (by with_unfolding_all rfl) ?_); (refine And.intro (by with_unfolding_all rfl) ?_); (refine And.intro (by with_unfolding_all rfl) ?_); (refine And.intro (by with_unfolding_all rfl) ?_); (refine And.intro (by with_unfolding_all rfl) ?_); (refine And.intro (by with_unfolding_all rfl) ?_); exact trivial)
  case N => (refine List.forall_mem_cons.mpr ⟨by k_mem, ?_⟩; refine List.forall_mem_cons.mpr ⟨by k_mem, ?_⟩; refine List.forall_mem_cons.mpr ⟨by k_mem, ?_⟩; refine List.forall_mem_cons.mpr ⟨by k_mem, ?_⟩; refine List.forall_mem_cons.mpr ⟨by k_mem, ?_⟩; refine List.forall_mem_cons.mpr ⟨by k_mem, ?_⟩; refine List.forall_mem_cons.mpr ⟨by k_mem, ?_⟩; refine List.forall_mem_cons.mpr ⟨by k_mem, ?_⟩; refine List.forall_mem_cons.mpr ⟨by k_mem, ?_⟩; refine List.forall_mem_cons.mpr ⟨by k_mem, ?_⟩; refine List.forall_mem_cons.mpr ⟨by k_mem, ?_⟩; refine List.forall_mem_cons.mpr ⟨by k_mem, ?_⟩; refine List.forall_mem_cons.mpr ⟨by k_mem, ?_⟩; exact List.forall_mem_nil _)
  case l => exact List.forall_mem_cons.mpr ⟨l9 (ha, _) (by k_mem), List.forall_mem_cons.mpr ⟨l9 (ca, _) (by k_mem), List.forall_mem_cons.mpr ⟨l9 (I, _) (by k_mem), List.forall_mem_cons.mpr ⟨l9 (b1a, _) (by k_mem), List.forall_mem_cons.mpr ⟨l9 (b2a, _) (by k_mem), List.forall_mem_nil _⟩⟩⟩⟩⟩
end
section
local macro_rules | `(tactic| walk_at "execs cons If") => `(tactic| (with_reducible refine wpAny_execs_cons ?_))
local macro_rules | `(tactic| walk_at "binaryOp Add str str") => `(tactic| (k_here; k_dflt (refine add_is (by with_reducible assumption) ?_); intro t9 k9))
local macro_rules | `(tactic| walk_at "call ref") => `(tactic| (k_here; k_dflt (refine' reach_is ?H ?B ?F ?X ?N ?T ?hk ?_; (case B => k_asm); (case F => k_asm); (case X => k_asm); (case N => k_asm); (case T => k_asm); (case hk => exact rfl); (case H => with_reducible assumption); k_whole); intro t9 h' tk' F' N'; (try dsimp only at N')))
section
local macro_rules | `(tactic| k_ne) => `(tactic| (first | with_reducible assumption | (with_reducible refine Ne.symm ?_; with_reducible assumption)))
local macro_rules | `(tactic| walk_at "call builtin:list.count") => `(tactic| (k_here; (try dsimp only [List.cons_append, List.nil_append]); k_dflt (refine count_is (list_news (by k_asm) (by k_mem)) (by with_reducible assumption) (by with_reducible assumption) ?_)))
local macro_rules | `(tactic| walk_at "call builtin:list.append") => `(tactic| (k_here; (try dsimp only [List.cons_append, List.nil_append]); k_dflt (refine' append_S ?k1 ?k2 ?k3 ?k4 ?z ?_; (case k1 => k_asm); (case k2 => k_asm); (case k3 => k_updF); (case k4 => with_reducible assumption); (case z => ((try simp only [List.length_append, List.length_singleton]); omega)); k_whole); intro v9 n9 h' s9 F' N'; (try dsimp only at N'); (try k_sweep)))
local macro_rules | `(tactic| walk_at "ite") => `(tactic| (k_here; k_dflt (refine ite_neg (by rw [bne_self_eq_false]; exact Bool.false_ne_true) ?_)))
local macro_rules | `(tactic| walk_at "subscriptTail Name Slice str ref") => `(tactic| (k_here; (rename Fr _ _ _ _ => F9); (rename News _ _ _ _ => N9); k_dflt (refine slice1_is (s := ⟨_, _, _, _, _⟩) (by with_reducible assumption) F9 N9 ?_); intro h' t9 k9 F' N'))
local macro_rules | `(tactic| walk_at "ite") => `(tactic| (k_here; k_dflt (refine ite_neg (fun h9 => bne_iff_ne.mp h9 (by with_reducible assumption)) ?_)))
local macro_rules | `(tactic| walk_at "subscriptTail Name Slice ref ref") => `(tactic| (k_here; (rename Fr _ _ _ _ => F9); (rename News _ _ _ _ => N9); k_dflt (refine slice_from_S (s := ⟨_, _, _, _, _⟩) F9 N9 (list_news N9 (by k_mem)) (by with_reducible assumption) (by omega) (by omega) ?_ (by with_unfolding_all rfl)); intro d9 w9 h' s9 F' N' l9; (try k_lt l9)))
local macro_rules | `(tactic| walk_at "binaryOp Add ref ref") => `(tactic| (k_here; (rename Fr _ _ _ _ => F9); (rename News _ _ _ _ => N9); k_dflt (refine add_S F9 N9 (list_news N9 (by k_mem)) (list_news N9 (by k_mem)) (by with_reducible assumption) (by kct_strs) (by rw [List.length_drop]; omega) (by decide) ?_); intro d9 w9 h' s9 F' N' l9; (try k_lt l9)))
local macro_rules | `(tactic| walk_at "call builtin:str.join") => `(tactic| (k_here; (try dsimp only [List.cons_append, List.nil_append]); k_dflt (refine join_is (list_news (by k_asm) (by k_mem)) (by with_reducible assumption) (by decide +kernel) (by with_reducible assumption) ?_); intro t9 k9))
local macro_rules | `(tactic| walk_at "subscriptTail Name Name ref int") => `(tactic| (k_here; k_dflt (refine' item_I ?hl ?hw ?hz ?h0 ?h1 ?_ ?hs ?hg; (case hl => exact list_news (by k_asm) (by k_mem)); (case hw => assumption); (case hz => omega); (case h0 => omega); (case h1 => omega); (case hs => with_unfolding_all rfl); (case hg => (intro _; with_unfolding_all rfl))); intro t9))
theorem turnB {w : World} {p : Program} {loose : List Str} {mean : ExcName → Option Value} {mg mb : Str → Option Value}
  {a : Addr} {ccd : Value} {base h₀ : Heap} {L : Addr} {s : Shared} {Q : Flow → Shared → Prop} {tg : Expr} {body : List Stmt} {scope : Scope} (hb : innerFor 5 2 = some (tg, body, scope))
  {u : Str → Option Value} {k front moved : Int} {mir : Bool} {tkk tff tmm : Tok} {na ta ca ra I la ha b1a b2a : Addr} {nv tv cv rv hv lv : List Value} {xs : List Int} {ls came : List Str} {e0 e1 e2 e3 e5 e6 : Nat} {oI b1o b2o : Obj} {ps1 ps2 : Array Value} {c1 c2 : Addr} {o1 o2 : Obj}
  {pv : Value} {i m : Int} {ti th0 : Tok} {Hs J D : Str} (hf0 : -4 ≤ front) (hf4 : front ≤ 4) (i0 : 0 ≤ i) (i4 : i ≤ 4) (hhv : IntsAre hv xs) (hx5 : xs.length = 5) (hlv : StrsAre lv ls) (hl4 : ls.length = 4) (hcv : StrsAre cv came) (hcl : came.length ≤ 200)
  (jn : JoinIs (Str.ofString ".") (ls.drop (4 - i).toNat ++ [Str.ofString "local"]) J) (ad : AddIs (Str.ofString ".") J D) (rc : ReachIs Hs D) (ct : CountIs D came m) (sl : SliceIs D J) (q : m = xs.getD i.toNat 0 - front * 2 ^ (4 - i).toNat)
  (B : Below callerA base [] h₀) (X : (Mine.hd.heap_39 w.params).In h₀) (T : Top p loose mean mg mb h₀)
  (y1 : na ≠ ca) (y2 : ta ≠ ca) (y3 : ca ≠ ra) (y4 : ca ≠ I) (y5 : (73 : Nat) ≠ ca) (y6 : (66 : Nat) ≠ ca) (y7 : ca ≠ ha) (y8 : ca ≠ la) (x1 : c1 ≠ ca) (x2 : c2 ≠ ca) (x3 : b1a ≠ ca) (x4 : b2a ≠ ca)
  (F : Fr h₀ L s.heap (kstB u [(Str.ofString "k", .int k tkk), (Str.ofString "front", .int front tff), (Str.ofString "moved", .int moved tmm), (Str.ofString "mirrored", .bool mir), (Str.ofString "names", .ref na), (Str.ofString "tones", .ref ta), (Str.ofString "came", .ref ca), (Str.ofString "row", .ref ra), (Str.ofString "labels", .ref la), (Str.ofString "halves", .ref ha), (Str.ofString "place", pv), (Str.ofString "host", .str Hs th0)]))
  (N : News h₀ L s.heap [(ha, listOf hv.toArray e5), (la, listOf lv.toArray e6), (na, listOf nv.toArray e0), (ta, listOf tv.toArray e1), (ca, listOf cv.toArray e2), (ra, listOf rv.toArray e3), (I, oI), (c1, o1), (c2, o2), (73, tabObj ps1), (66, tabObj ps2), (b1a, b1o), (b2a, b2o)])
  (ret : ∀ (u' : Str → Option Value) (cv' : List Value) (e2' : Nat) (th : Tok) (h' : Heap) (tk' : Nat), StrsAre cv' (came ++ [D]) →
    Fr h₀ L h' (kstB u' [(Str.ofString "k", .int k tkk), (Str.ofString "front", .int front tff), (Str.ofString "moved", .int moved tmm), (Str.ofString "mirrored", .bool mir), (Str.ofString "names", .ref na), (Str.ofString "tones", .ref ta), (Str.ofString "came", .ref ca), (Str.ofString "row", .ref ra), (Str.ofString "labels", .ref la), (Str.ofString "halves", .ref ha), (Str.ofString "place", pv), (Str.ofString "host", .str J th)]) → News h₀ L h' [(ha, listOf hv.toArray e5), (la, listOf lv.toArray e6), (na, listOf nv.toArray e0), (ta, listOf tv.toArray e1), (ca, listOf cv'.toArray e2'), (ra, listOf rv.toArray e3), (I, oI), (c1, o1), (c2, o2), (73, tabObj ps1), (66, tabObj ps2), (b1a, b1o), (b2a, b2o)] → Q .next { s with heap := h', toks := tk' }) :
  wpAny (model PySem.Challenge.rw_xg0064_01.row.prog w) (callerA.deeper (envOf (Str.ofString "law") scope L a ccd)) (assign tg (envOf (Str.ofString "law") scope L a ccd) (.int i ti)) (fun _ s₂ => wpAny (model PySem.Challenge.rw_xg0064_01.row.prog w) (callerA.deeper (envOf (Str.ofString "law") scope L a ccd)) (execs body (envOf (Str.ofString "law") scope L a ccd)) Q (fun _ _ => False) s₂) (fun _ _ => False) s := by
  w_on
  revert X
  k_fill
  intro X
  have h2 : some (_, _, _) = some (tg, body, scope) := hb
  cases h2
  clear hb
  dsimp only [List.map, List.drop, List.take, forBody, forParts]
  w_strict k_steps
  refine' ret _ _ _ _ _ _ ?hs (fr_kst (by k_asm) ?fr) (news_sub (by k_asm) ?N)
  case hs => with_reducible assumption
  case fr => ((refine And.intro (by with_unfolding_all rfl) ?_); (refine And.intro (by with_unfolding_all rfl) ?_); (refine And.intro (by with_unfolding_all rfl) ?_); (refine And.intro (by with_unfolding_all rfl) ?_); (refine And.intro (by with_unfolding_all rfl) ?_); (refine And.intro (by with_unfolding_all rfl) ?_); (refine And.intro (by with_unfolding_all rfl) ?_); (refine And.intro (by with_unfolding_all rfl) ?_); (refine And.intro (by with_unfolding_all rfl) ?_); (refine And.intro (by with_unfolding_all rfl) ?_); (refine And.intro (by with_unfolding_all rfl) ?_); (refine And.intro (by with_unfolding_all rfl) ?_); exact trivial)
  case N => (refine List.forall_mem_cons.mpr ⟨by k_mem, ?_⟩; refine List.forall_mem_cons.mpr ⟨by k_mem, ?_⟩; refine List.forall_mem_cons.mpr ⟨by k_mem, ?_⟩; refine List.forall_mem_cons.mpr ⟨by k_mem, ?_⟩; refine List.forall_mem_cons.mpr ⟨by k_mem, ?_⟩; refine List.forall_mem_cons.mpr ⟨by k_mem, ?_⟩; refine List.forall_mem_cons.mpr ⟨by k_mem, ?_⟩; refine List.forall_mem_cons.mpr ⟨by k_mem, ?_⟩; refine List.forall_mem_cons.mpr ⟨by k_mem, ?_⟩; refine List.forall_mem_cons.mpr ⟨by k_mem, ?_⟩; refine List.forall_mem_cons.mpr ⟨by k_mem, ?_⟩; refine List.forall_mem_cons.mpr ⟨by k_mem, ?_⟩; refine List.forall_mem_cons.mpr ⟨by k_mem, ?_⟩; exact List.forall_mem_nil _)
end
section
local macro_rules | `(tactic| k_ne) => `(tactic| (show ¬ (@Eq Nat _ _); omega))
theorem ne_strs3 {prog : Program} {w : World} {A : Around} {E : Value → Shared → Prop} {s : Shared} {Q : Value → Shared → Prop} {a b : Addr} {x1 x2 x3 y2 y3 : Str} {t1 t2 t3 t4 t5 t6 : Tok} (ha : s.heap.IsList a (List.toArray [.str x1 t1, .str x2 t2, .str x3 t3])) (hb : s.heap.IsList b (List.toArray [.str x1 t4, .str y2 t5, .str y3 t6])) (k1 : PyData.strOk x1 = true) (k2 : PyData.strOk x2 = true) (k3 : PyData.strOk x3 = true) (e2 : x2 = y2) (e3 : x3 = y3) (hu : A.units + 64 < cLine) (h : Q (.bool false) s) :
    wpAny (model prog w) A (compareOp .NotEq (.ref a) (.ref b)) Q E s := by
  subst e2 e3
  have c : ∀ u1 u2 u3 : Tok, CarriedAll [.str x1 u1, .str x2 u2, .str x3 u3] [PyData.str x1, PyData.str x2, PyData.str x3] := fun _ _ _ => .cons (.str _ _) (.cons (.str _ _) (.cons (.str _ _) .nil))
  have hsh : SeqAt.shaped (.list [PyData.str x1, PyData.str x2, PyData.str x3]) = true := by simp [SeqAt.shaped, PyData.canLay0, PyData.canLayAll0, PyData.depth, PyData.depthAll, k1, k2, k3]
  exact ne_dataH_same (reads_newData ha (c _ _ _)) (reads_newData hb (c _ _ _)) hsh hsh hu (SeqAt.noMix_of_shape (.list .str) rfl _ _ rfl rfl) (by simp [PySem.Spec.same, PySem.Spec.sameAll]; exact h)
local macro_rules | `(tactic| walk_at "compareOp NotEq ref ref") => `(tactic| (k_here; k_dflt (refine ne_strs3 (list_news (by k_asm) (by k_mem)) (list_news (by k_asm) (by k_mem)) (by decide +kernel) (by with_reducible assumption) (by with_reducible assumption) (by with_reducible assumption) (by with_reducible assumption) (by units_room) ?_)))
theorem blockC2 {w : World} {p : Program} {loose : List Str} {mean : ExcName → Option Value} {mg mb : Str → Option Value}
  {a : Addr} {ccd : Value} {base h₀ : Heap} {L : Addr} {s : Shared} {Q : Flow → Shared → Prop} {body : List Stmt} {scope : Scope} (hb : turnPart 9 1 = some (body, scope))
  {u : Str → Option Value} {k front moved : Int} {mir : Bool} {tkk tff tmm : Tok} {na ta ca ra I : Addr} {n0 n1 : Str} {nv tv cv rv : List Value} {tones row : List Int} {came : List Str} {e0 e1 e2 e3 : Nat} {oI : Obj} {ps1 ps2 : Array Value} {c1 c2 : Addr} {o1 o2 : Obj}
  {da : Addr} {dav hov pv env2 : Value} {th t9 u7 u8 u9 : Tok} {e7 : Nat} {J0 EN XE E2 R3 v1 v2 : Str}
  (hk0 : 0 ≤ k) (hk8 : k ≤ 8) (hf0 : -4 ≤ front) (hf4 : front ≤ 4) (hm0 : 0 ≤ moved) (hm1 : moved ≤ 63) (hnv : StrsAre nv [n0, n1]) (htv : IntsAre tv tones) (hcv : StrsAre cv came) (hrv : IntsAre rv row)
  (B : Below callerA base [] h₀) (X : (Mine.hd.heap_39 w.params).In h₀) (C1 : CodeHd base 77 73) (C2 : CodeHd base 70 66) (T : Top p loose mean mg mb h₀)
  (F : Fr h₀ L s.heap (kstB u [(Str.ofString "k", .int k tkk), (Str.ofString "front", .int front tff), (Str.ofString "moved", .int moved tmm), (Str.ofString "mirrored", .bool mir), (Str.ofString "names", .ref na), (Str.ofString "tones", .ref ta), (Str.ofString "came", .ref ca), (Str.ofString "row", .ref ra), (Str.ofString "place", pv), (Str.ofString "host", hov), (Str.ofString "end", env2), (Str.ofString "due", dav)]))
  (N : News h₀ L s.heap [(da, listOf (List.toArray [.str (Str.ofString "local") u7, .str v1 u8, .str v2 u9]) e7), (na, listOf nv.toArray e0), (ta, listOf tv.toArray e1), (ca, listOf cv.toArray e2), (ra, listOf rv.toArray e3), (I, oI), (c1, o1), (c2, o2), (73, tabObj ps1), (66, tabObj ps2)])
  (S1 : TabSt pos73 q73 ps1 c1 o1) (S2 : TabSt pos66 q66 ps2 c2 o2) (b1 : @LT.lt Nat _ 73 c1) (b2 : @LT.lt Nat _ 73 c2) (b3 : @LT.lt Nat _ 73 na) (b4 : @LT.lt Nat _ 73 ta) (b5 : @LT.lt Nat _ 73 ca) (b6 : @LT.lt Nat _ 73 ra) (b7 : @LT.lt Nat _ 73 I)
  (hhov : hov = .str J0 th) (hev : env2 = .str EN t9) (hdav : dav = .ref da) (pX : AddIs (Str.ofString "x.") EN XE) (r1 : ReachIs J0 (Str.ofString "local")) (r2 : ReachIs EN E2) (r3 : ReachIs XE R3) (k2 : PyData.strOk E2 = true) (k3 : PyData.strOk R3 = true) (w1 : E2 = v1) (w2 : R3 = v2) (b9 : @LT.lt Nat _ 73 da)
  (ret : ∀ (u' : Str → Option Value) (h' : Heap) (tk' : Nat), Fr h₀ L h' (kstB u' [(Str.ofString "k", .int k tkk), (Str.ofString "front", .int front tff), (Str.ofString "moved", .int moved tmm), (Str.ofString "mirrored", .bool mir), (Str.ofString "names", .ref na), (Str.ofString "tones", .ref ta), (Str.ofString "came", .ref ca), (Str.ofString "row", .ref ra), (Str.ofString "place", pv)]) → News h₀ L h' [(na, listOf nv.toArray e0), (ta, listOf tv.toArray e1), (ca, listOf cv.toArray e2), (ra, listOf rv.toArray e3), (I, oI), (c1, o1), (c2, o2), (73, tabObj ps1), (66, tabObj ps2)] → Q .next { s with heap := h', toks := tk' }) :
  wpAny (model PySem.Challenge.rw_xg0064_01.row.prog w) (callerA.deeper (envOf (Str.ofString "law") scope L a ccd)) (execs body (envOf (Str.ofString "law") scope L a ccd)) Q (fun _ _ => False) s := by
  w_on
  revert X
  k_fill
  intro X
  have h2 : some (_, _) = some (body, scope) := hb
  cases h2
  clear hb
  dsimp only [List.map, List.drop, List.take, forBody]
  subst hhov hev hdav
  w_strict k_steps
  refine' ret _ _ _ (fr_kst (by k_asm) ?fr) (news_sub (by k_asm) ?N)
  case fr => ((refine And.intro (by with_unfolding_all rfl) ?_); (refine And.intro (by with_unfolding_all rfl) ?_); (refine And.intro (by with_unfolding_all rfl) ?_); (refine And.intro (by with_unfolding_all rfl) ?_); (refine And.intro (by with_unfolding_all rfl) ?_); (refine And.intro (by with_unfolding_all rfl) ?_); (refine And.intro (by with_unfolding_all rfl) ?_); (refine And.intro (by with_unfolding_all rfl) ?_); (refine And.intro (by with_unfolding_all rfl) ?_); exact trivial)
  case N => (refine List.forall_mem_cons.mpr ⟨by k_mem, ?_⟩; refine List.forall_mem_cons.mpr ⟨by k_mem, ?_⟩; refine List.forall_mem_cons.mpr ⟨by k_mem, ?_⟩; refine List.forall_mem_cons.mpr ⟨by k_mem, ?_⟩; refine List.forall_mem_cons.mpr ⟨by k_mem, ?_⟩; refine List.forall_mem_cons.mpr ⟨by k_mem, ?_⟩; refine List.forall_mem_cons.mpr ⟨by k_mem, ?_⟩; refine List.forall_mem_cons.mpr ⟨by k_mem, ?_⟩; refine List.forall_mem_cons.mpr ⟨by k_mem, ?_⟩; exact List.forall_mem_nil _)
end
end
section
local macro_rules | `(tactic| walk_at "execs cons") => `(tactic| (k_here; k_gentoks; (try dsimp only)))
local macro_rules | `(tactic| walk_at "spliced") => `(tactic| (k_here; k_gentoks; (try dsimp only)))
section
local macro_rules | `(tactic| walk_at "pad") => `(tactic| skip)
local macro_rules | `(tactic| walk_at "binaryOp Div int int") => `(tactic| (k_here; k_dflt (refine div_is rfl (by with_reducible assumption) ?_)))
local macro_rules | `(tactic| walk_at "call ref") => `(tactic| (k_here; k_dflt (refine' hsv_is ?H ?B ?F ?X ?N ?T ?hk ?_; (case B => k_asm); (case F => k_asm); (case X => k_asm); (case N => k_asm); (case T => k_asm); (case hk => exact rfl); (case H => with_reducible assumption); k_whole); intro u7 u8 u9 q9 h' tk' F' N'; (try dsimp only at N')))
theorem blockD1 {w : World} {p : Program} {loose : List Str} {mean : ExcName → Option Value} {mg mb : Str → Option Value}
  {a : Addr} {ccd : Value} {base h₀ : Heap} {L : Addr} {s : Shared} {Q : Flow → Shared → Prop} {body : List Stmt} {scope : Scope} (hb : turnPart 10 4 = some (body, scope))
  {u : Str → Option Value} {k front moved : Int} {mir : Bool} {tkk tff tmm : Tok} {na ta ca ra I : Addr} {n0 n1 : Str} {nv tv cv rv : List Value} {tones row : List Int} {came : List Str} {e0 e1 e2 e3 : Nat} {oI : Obj} {ps1 ps2 : Array Value} {c1 c2 : Addr} {o1 o2 : Obj}
  {place : Int} {pv : Value} {tp : Tok} {hF sF vF r g b x y z : UInt64}
  (hk0 : 0 ≤ k) (hk8 : k ≤ 8) (hf0 : -4 ≤ front) (hf4 : front ≤ 4) (hm0 : 0 ≤ moved) (hm1 : moved ≤ 63) (hnv : StrsAre nv [n0, n1]) (htv : IntsAre tv tones) (hcv : StrsAre cv came) (hrv : IntsAre rv row)
  (B : Below callerA base [] h₀) (X : (Mine.hd.heap_39 w.params).In h₀) (C1 : CodeHd base 77 73) (C2 : CodeHd base 70 66) (T : Top p loose mean mg mb h₀)
  (F : Fr h₀ L s.heap (kstB u [(Str.ofString "k", .int k tkk), (Str.ofString "front", .int front tff), (Str.ofString "moved", .int moved tmm), (Str.ofString "mirrored", .bool mir), (Str.ofString "names", .ref na), (Str.ofString "tones", .ref ta), (Str.ofString "came", .ref ca), (Str.ofString "row", .ref ra), (Str.ofString "place", pv)]))
  (N : News h₀ L s.heap [(na, listOf nv.toArray e0), (ta, listOf tv.toArray e1), (ca, listOf cv.toArray e2), (ra, listOf rv.toArray e3), (I, oI), (c1, o1), (c2, o2), (73, tabObj ps1), (66, tabObj ps2)])
  (S1 : TabSt pos73 q73 ps1 c1 o1) (S2 : TabSt pos66 q66 ps2 c2 o2) (b1 : @LT.lt Nat _ 73 c1) (b2 : @LT.lt Nat _ 73 c2) (b3 : @LT.lt Nat _ 73 na) (b4 : @LT.lt Nat _ 73 ta) (b5 : @LT.lt Nat _ 73 ca) (b6 : @LT.lt Nat _ 73 ra) (b7 : @LT.lt Nat _ 73 I)
  (hpv : pv = .int place tp) (hp0 : 0 ≤ place) (hp1 : place ≤ 15) (htl : tones.length = 9)
  (dh : DivIs (place + moved) 16 hF) (ds : DivIs (1 + (tones.getD k.toNat 0).fmod 4) 4 sF) (dv : DivIs (1 + (tones.getD k.toNat 0).fdiv 4) 4 vF) (kh : HsvIs hF sF vF r g b) (kl1 : mir = true → HlsIs r b g x y z) (kl2 : mir = false → HlsIs r g b x y z)
  (ret : ∀ (u' : Str → Option Value) (g' b' : UInt64) (shv vav rdv grv blv : Value) (y1 y2 y3 y4 y5 : Tok) (h' : Heap) (tk' : Nat), shv = .int (1 + (tones.getD k.toNat 0).fmod 4) y1 → vav = .int (1 + (tones.getD k.toNat 0).fdiv 4) y2 → rdv = .float r y3 → grv = .float g' y4 → blv = .float b' y5 → HlsIs r g' b' x y z →
    Fr h₀ L h' (kstB u' [(Str.ofString "k", .int k tkk), (Str.ofString "front", .int front tff), (Str.ofString "moved", .int moved tmm), (Str.ofString "mirrored", .bool mir), (Str.ofString "names", .ref na), (Str.ofString "tones", .ref ta), (Str.ofString "came", .ref ca), (Str.ofString "row", .ref ra), (Str.ofString "place", pv), (Str.ofString "share", shv), (Str.ofString "value", vav), (Str.ofString "red", rdv), (Str.ofString "green", grv), (Str.ofString "blue", blv)]) → News h₀ L h' [(na, listOf nv.toArray e0), (ta, listOf tv.toArray e1), (ca, listOf cv.toArray e2), (ra, listOf rv.toArray e3), (I, oI), (c1, o1), (c2, o2), (73, tabObj ps1), (66, tabObj ps2)] → Q .next { s with heap := h', toks := tk' }) :
  wpAny (model PySem.Challenge.rw_xg0064_01.row.prog w) (callerA.deeper (envOf (Str.ofString "law") scope L a ccd)) (execs body (envOf (Str.ofString "law") scope L a ccd)) Q (fun _ _ => False) s := by
  w_on
  revert X
  k_fill
  intro X
  have h2 : some (_, _) = some (body, scope) := hb
  cases h2
  clear hb
  dsimp only [List.map, List.drop, List.take, forBody]
  subst hpv
  w_strict k_steps
  all_goals (refine' ret _ _ _ _ _ _ _ _ _ _ _ _ _ _ _ ?e1 ?e2 ?e3 ?e4 ?e5 ?H (fr_kst (by k_asm) ?fr) (news_sub (by k_asm) ?N); (case e1 => exact rfl); (case e2 => exact rfl); (case e3 => exact rfl); (case e4 => exact rfl); (case e5 => exact rfl); (case fr => ((refine And.intro (by with_unfolding_all rfl) ?_); (refine And.intro (by with_unfolding_all rfl) ?_); (refine And.intro (by with_unfolding_all rfl) ?_); (refine And.intro (by with_unfolding_all rfl) ?_); (refine And.intro (by with_unfolding_all rfl) ?_); (refine And.intro (by with_unfolding_all rfl) ?_); (refine And.intro (by with_unfolding_all rfl) ?_); (refine And.intro (by with_unfolding_all rfl) ?_); (refine And.intro (by with_unfolding_all rfl) ?_); (refine And.intro (by with_unfolding_all rfl) ?_); (refine And.intro (by with_unfolding_all rfl) ?_); (refine And.intro (by with_unfolding_all rfl) ?_); (refine And.intro (by with_unfolding_all rfl) ?_); (refine And.intro (by with_unfolding_all rfl) ?_); exact trivial)); (case N => (refine List.forall_mem_cons.mpr ⟨by k_mem, ?_⟩; refine List.forall_mem_cons.mpr ⟨by k_mem, ?_⟩; refine List.forall_mem_cons.mpr ⟨by k_mem, ?_⟩; refine List.forall_mem_cons.mpr ⟨by k_mem, ?_⟩; refine List.forall_mem_cons.mpr ⟨by k_mem, ?_⟩; refine List.forall_mem_cons.mpr ⟨by k_mem, ?_⟩; refine List.forall_mem_cons.mpr ⟨by k_mem, ?_⟩; refine List.forall_mem_cons.mpr ⟨by k_mem, ?_⟩; refine List.forall_mem_cons.mpr ⟨by k_mem, ?_⟩; exact List.forall_mem_nil _)); (case H => first | exact kl1 (by with_reducible assumption) | exact kl2 (by with_reducible assumption)))
end
section
local macro_rules | `(tactic| walk_at "pad") => `(tactic| skip)
local macro_rules | `(tactic| walk_at "call type:int") => `(tactic| (k_here; k_dflt (refine trunc_is rfl (by with_reducible assumption) ?_)))
local macro_rules | `(tactic| walk_at "ite") => `(tactic| (k_here; k_dflt (first | (refine ite_neg (fun h9 => bt_ne8 h9 (by with_reducible assumption)) ?_) | (refine ite_neg (fun h9 => bne_iff_ne.mp h9 rfl) ?_))))
local macro_rules | `(tactic| walk_at "call ref") => `(tactic| (k_here; k_dflt (refine' hls_is ?H ?B ?F ?X ?N ?T ?hk ?_; (case B => k_asm); (case F => k_asm); (case X => k_asm); (case N => k_asm); (case T => k_asm); (case hk => exact rfl); (case H => with_reducible assumption); k_whole); intro u7 u8 u9 q9 h' tk' F' N'; (try dsimp only at N')))
theorem blockD2 {w : World} {p : Program} {loose : List Str} {mean : ExcName → Option Value} {mg mb : Str → Option Value}
  {a : Addr} {ccd : Value} {base h₀ : Heap} {L : Addr} {s : Shared} {Q : Flow → Shared → Prop} {body : List Stmt} {scope : Scope} (hb : turnPart 14 3 = some (body, scope))
  {u : Str → Option Value} {k front moved : Int} {mir : Bool} {tkk tff tmm : Tok} {na ta ca ra I : Addr} {n0 n1 : Str} {nv tv cv rv : List Value} {tones row : List Int} {came : List Str} {e0 e1 e2 e3 : Nat} {oI : Obj} {ps1 ps2 : Array Value} {c1 c2 : Addr} {o1 o2 : Obj}
  {pt : Int} {pv shv vav rdv grv blv : Value} {y1 y2 y3 y4 y5 : Tok} {r g b x y z : UInt64}
  (hk0 : 0 ≤ k) (hk8 : k ≤ 8) (hf0 : -4 ≤ front) (hf4 : front ≤ 4) (hm0 : 0 ≤ moved) (hm1 : moved ≤ 63) (hnv : StrsAre nv [n0, n1]) (htv : IntsAre tv tones) (hcv : StrsAre cv came) (hrv : IntsAre rv row)
  (B : Below callerA base [] h₀) (X : (Mine.hd.heap_39 w.params).In h₀) (C1 : CodeHd base 77 73) (C2 : CodeHd base 70 66) (T : Top p loose mean mg mb h₀)
  (F : Fr h₀ L s.heap (kstB u [(Str.ofString "k", .int k tkk), (Str.ofString "front", .int front tff), (Str.ofString "moved", .int moved tmm), (Str.ofString "mirrored", .bool mir), (Str.ofString "names", .ref na), (Str.ofString "tones", .ref ta), (Str.ofString "came", .ref ca), (Str.ofString "row", .ref ra), (Str.ofString "place", pv), (Str.ofString "share", shv), (Str.ofString "value", vav), (Str.ofString "red", rdv), (Str.ofString "green", grv), (Str.ofString "blue", blv)]))
  (N : News h₀ L s.heap [(na, listOf nv.toArray e0), (ta, listOf tv.toArray e1), (ca, listOf cv.toArray e2), (ra, listOf rv.toArray e3), (I, oI), (c1, o1), (c2, o2), (73, tabObj ps1), (66, tabObj ps2)])
  (S1 : TabSt pos73 q73 ps1 c1 o1) (S2 : TabSt pos66 q66 ps2 c2 o2) (b1 : @LT.lt Nat _ 73 c1) (b2 : @LT.lt Nat _ 73 c2) (b3 : @LT.lt Nat _ 73 na) (b4 : @LT.lt Nat _ 73 ta) (b5 : @LT.lt Nat _ 73 ca) (b6 : @LT.lt Nat _ 73 ra) (b7 : @LT.lt Nat _ 73 I)
  (hsv : shv = .int (1 + (tones.getD k.toNat 0).fmod 4) y1) (hva : vav = .int (1 + (tones.getD k.toNat 0).fdiv 4) y2) (hrd : rdv = .float r y3) (hgr : grv = .float g y4) (hbl : blv = .float b y5) (kl : HlsIs r g b x y z)
  (q1 : (Float64.cmpInt (Float64.mul y (Float64.ofInt 32)) ((1 + (tones.getD k.toNat 0).fdiv 4) * (8 - (1 + (tones.getD k.toNat 0).fmod 4))) != some Ordering.eq) = false)
  (q2 : TruncIs (Float64.add (Float64.mul (Float64.mul z (if (Float64.cmp (Float64.sub (Float64.ofInt 1) y) y == some Ordering.lt) = true then Float64.sub (Float64.ofInt 1) y else y)) (Float64.ofInt 32)) 4602678819172646912) ((1 + (tones.getD k.toNat 0).fmod 4) * (1 + (tones.getD k.toNat 0).fdiv 4)))
  (q3 : TruncIs (Float64.mul x (Float64.ofInt 16)) pt)
  (ret : ∀ (u' : Str → Option Value) (huv ptv : Value) (y1 y2 : Tok) (h' : Heap) (tk' : Nat), huv = .float x y1 → ptv = .int pt y2 →
    Fr h₀ L h' (kstB u' [(Str.ofString "k", .int k tkk), (Str.ofString "front", .int front tff), (Str.ofString "moved", .int moved tmm), (Str.ofString "mirrored", .bool mir), (Str.ofString "names", .ref na), (Str.ofString "tones", .ref ta), (Str.ofString "came", .ref ca), (Str.ofString "row", .ref ra), (Str.ofString "place", pv), (Str.ofString "hue", huv), (Str.ofString "point", ptv)]) → News h₀ L h' [(na, listOf nv.toArray e0), (ta, listOf tv.toArray e1), (ca, listOf cv.toArray e2), (ra, listOf rv.toArray e3), (I, oI), (c1, o1), (c2, o2), (73, tabObj ps1), (66, tabObj ps2)] → Q .next { s with heap := h', toks := tk' }) :
  wpAny (model PySem.Challenge.rw_xg0064_01.row.prog w) (callerA.deeper (envOf (Str.ofString "law") scope L a ccd)) (execs body (envOf (Str.ofString "law") scope L a ccd)) Q (fun _ _ => False) s := by
  w_on
  revert X
  k_fill
  intro X
  have h2 : some (_, _) = some (body, scope) := hb
  cases h2
  clear hb
  dsimp only [List.map, List.drop, List.take, forBody]
  subst hsv hva hrd hgr hbl
  w_strict k_steps
  all_goals (refine' ret _ _ _ _ _ _ _ ?e1 ?e2 (fr_kst (by k_asm) ?fr) (news_sub (by k_asm) ?N); (case e1 => exact rfl); (case e2 => exact rfl); (case fr => ((refine And.intro (by with_unfolding_all rfl) ?_); (refine And.intro (by with_unfolding_all rfl) ?_); (refine And.intro (by with_unfolding_all rfl) ?_); (refine And.intro (by with_unfolding_all rfl) ?_); (refine And.intro (by with_unfolding_all rfl) ?_); (refine And.intro (by with_unfolding_all rfl) ?_); (refine And.intro (by with_unfolding_all rfl) ?_); (refine And.intro (by with_unfolding_all rfl) ?_); (refine And.intro (by with_unfolding_all rfl) ?_); (refine And.intro (by with_unfolding_all rfl) ?_); (refine And.intro (by with_unfolding_all rfl) ?_); exact trivial)); (case N => (refine List.forall_mem_cons.mpr ⟨by k_mem, ?_⟩; refine List.forall_mem_cons.mpr ⟨by k_mem, ?_⟩; refine List.forall_mem_cons.mpr ⟨by k_mem, ?_⟩; refine List.forall_mem_cons.mpr ⟨by k_mem, ?_⟩; refine List.forall_mem_cons.mpr ⟨by k_mem, ?_⟩; refine List.forall_mem_cons.mpr ⟨by k_mem, ?_⟩; refine List.forall_mem_cons.mpr ⟨by k_mem, ?_⟩; refine List.forall_mem_cons.mpr ⟨by k_mem, ?_⟩; refine List.forall_mem_cons.mpr ⟨by k_mem, ?_⟩; exact List.forall_mem_nil _)))
end
section
local macro_rules | `(tactic| walk_at "binaryOp Div int int") => `(tactic| (k_here; k_dflt (refine div_is rfl (by with_reducible assumption) ?_)))
local macro_rules | `(tactic| walk_at "call ref") => `(tactic| (k_here; k_dflt (refine' due_ok _ _ ?e1 ?e2 ?B ?F ?X ?N ?T ?hk ?_; (case B => k_asm); (case F => k_asm); (case X => k_asm); (case N => k_asm); (case T => k_asm); (case hk => exact rfl); (case e1 => omega); (case e2 => omega); k_whole); intro t9 h' tk' F' N'; (try dsimp only at N')))
local macro_rules | `(tactic| walk_at "call ref") => `(tactic| (k_here; k_dflt (refine' sur_ok _ _ _ _ ?hi ?h1 ?h2 ?h3 ?hm ?B ?F ?X ?N ?T ?hk ?_; (case B => k_asm); (case F => k_asm); (case X => k_asm); (case N => k_asm); (case T => k_asm); (case hk => exact rfl); (case hm => k_mem); (case hi => with_reducible assumption); (case h1 => omega); (case h2 => omega); (case h3 => with_reducible assumption); k_whole); intro t9 h' tk' F' N'; (try dsimp only at N')))
local macro_rules | `(tactic| walk_at "binaryOp Add ref ref") => `(tactic| (k_here; k_dflt (refine' addrow ?F ?N ?m1 ?m2 ?hi ?hz ?_; (case F => k_asm); (case N => k_asm); (case hi => with_reducible assumption); (case m1 => k_mem); (case m2 => k_mem); (case hz => omega); k_whole); intro D' v9 h' i9 F' N' l1; (try k_lt l1)))
local macro_rules | `(tactic| walk_at "ite") => `(tactic| (k_here; k_dflt (first | (refine ite_neg (fun h9 => bne_iff_ne.mp h9 (by with_reducible assumption)) ?_) | (refine ite_neg (fun h9 => bne_iff_ne.mp h9 (by solve_by_elim (maxDepth := 2))) ?_))))
local macro_rules | `(tactic| walk_at "compareOp NotEq float float") => `(tactic| (k_here; k_dflt (refine ne_is (by with_reducible assumption) ?_)))
local macro_rules | `(tactic| walk_at "call builtin:sorted") => `(tactic| (k_here; k_dflt (refine' sort_is ?F ?N ?m1 ?hi ?hz ?H ?_; (case F => k_asm); (case N => k_asm); (case hi => with_reducible assumption); (case m1 => k_mem); (case H => with_reducible assumption); (case hz => (simp only [List.length_append, List.length_singleton]; omega)); k_whole); intro D' v9 c9 h' i9 F' N' l1; (try k_lt l1)))
theorem blockE {w : World} {p : Program} {loose : List Str} {mean : ExcName → Option Value} {mg mb : Str → Option Value}
  {a : Addr} {ccd : Value} {base h₀ : Heap} {L : Addr} {s : Shared} {Q : Flow → Shared → Prop} {body : List Stmt} {scope : Scope} (hb : turnPart 17 4 = some (body, scope))
  {u : Str → Option Value} {k front moved : Int} {mir : Bool} {tkk tff tmm : Tok} {na ta ca ra I : Addr} {n0 n1 : Str} {nv tv cv rv : List Value} {tones row : List Int} {came : List Str} {e0 e1 e2 e3 : Nat} {oI : Obj} {ps1 ps2 : Array Value} {c1 c2 : Addr} {o1 o2 : Obj}
  {place pt : Int} {pv huv ptv : Value} {tp y1 y2 : Tok} {x : UInt64} {row' : List Int}
  (hk0 : 0 ≤ k) (hk8 : k ≤ 8) (hf0 : -4 ≤ front) (hf4 : front ≤ 4) (hm0 : 0 ≤ moved) (hm1 : moved ≤ 63) (hnv : StrsAre nv [n0, n1]) (htv : IntsAre tv tones) (hcv : StrsAre cv came) (hrv : IntsAre rv row)
  (B : Below callerA base [] h₀) (X : (Mine.hd.heap_39 w.params).In h₀) (C1 : CodeHd base 77 73) (C2 : CodeHd base 70 66) (T : Top p loose mean mg mb h₀)
  (F : Fr h₀ L s.heap (kstB u [(Str.ofString "k", .int k tkk), (Str.ofString "front", .int front tff), (Str.ofString "moved", .int moved tmm), (Str.ofString "mirrored", .bool mir), (Str.ofString "names", .ref na), (Str.ofString "tones", .ref ta), (Str.ofString "came", .ref ca), (Str.ofString "row", .ref ra), (Str.ofString "place", pv), (Str.ofString "hue", huv), (Str.ofString "point", ptv)]))
  (N : News h₀ L s.heap [(na, listOf nv.toArray e0), (ta, listOf tv.toArray e1), (ca, listOf cv.toArray e2), (ra, listOf rv.toArray e3), (I, oI), (c1, o1), (c2, o2), (73, tabObj ps1), (66, tabObj ps2)])
  (S1 : TabSt pos73 q73 ps1 c1 o1) (S2 : TabSt pos66 q66 ps2 c2 o2) (b1 : @LT.lt Nat _ 73 c1) (b2 : @LT.lt Nat _ 73 c2) (b3 : @LT.lt Nat _ 73 na) (b4 : @LT.lt Nat _ 73 ta) (b5 : @LT.lt Nat _ 73 ca) (b6 : @LT.lt Nat _ 73 ra) (b7 : @LT.lt Nat _ 73 I)
  (hpv : pv = .int place tp) (hhu : huv = .float x y1) (hpt : ptv = .int pt y2) (hp0 : 0 ≤ pt) (hp1 : pt ≤ 15) (hrl : row.length = k.toNat)
  (dh : DivIs pt 16 x) (xx : (Float64.cmp x x != some Ordering.eq) = false) (srt : SortIs (row ++ [pt]) row') (srl : row'.length = k.toNat + 1) (srr : ∀ z ∈ row', 0 ≤ z ∧ z ≤ 15) (sur : surF row' = dueF (k + 1)) (p1 : mir = true → (-pt - moved).fmod 16 = place) (p2 : mir = false → (pt - moved).fmod 16 = place)
  (ret : ∀ (u' : Str → Option Value) (ra' : Addr) (rav : Value) (rv' : List Value) (e3' : Nat) (h' : Heap) (tk' : Nat), rav = .ref ra' → IntsAre rv' row' → @LT.lt Nat _ ca ra' → @LT.lt Nat _ I ra' → c1 ≠ ra' → c2 ≠ ra' →
    Fr h₀ L h' (kstB u' [(Str.ofString "k", .int k tkk), (Str.ofString "front", .int front tff), (Str.ofString "moved", .int moved tmm), (Str.ofString "mirrored", .bool mir), (Str.ofString "names", .ref na), (Str.ofString "tones", .ref ta), (Str.ofString "came", .ref ca), (Str.ofString "row", rav)]) → News h₀ L h' [(na, listOf nv.toArray e0), (ta, listOf tv.toArray e1), (ca, listOf cv.toArray e2), (ra', listOf rv'.toArray e3'), (I, oI), (c1, o1), (c2, o2), (73, tabObj ps1), (66, tabObj ps2)] → Q .next { s with heap := h', toks := tk' }) :
  wpAny (model PySem.Challenge.rw_xg0064_01.row.prog w) (callerA.deeper (envOf (Str.ofString "law") scope L a ccd)) (execs body (envOf (Str.ofString "law") scope L a ccd)) Q (fun _ _ => False) s := by
  w_on
  revert X
  k_fill
  intro X
  have h2 : some (_, _) = some (body, scope) := hb
  cases h2
  clear hb
  dsimp only [List.map, List.drop, List.take, forBody]
  subst hpv hhu hpt
  w_strict k_steps
  all_goals first | (exfalso; exact absurd (p1 (by with_reducible assumption)) (by with_reducible assumption)) | (exfalso; exact absurd (p2 (by with_reducible assumption)) (by with_reducible assumption)) | (refine' ret _ _ _ _ _ _ _ ?e1 ?hi ?l1 ?l2 ?n1 ?n2 (fr_kst (by k_asm) ?fr) (news_sub (by k_asm) ?N); (case e1 => exact rfl); (case fr => ((refine And.intro (by with_unfolding_all rfl) ?_); (refine And.intro (by with_unfolding_all rfl) ?_); (refine And.intro (by with_unfolding_all rfl) ?_); (refine And.intro (by with_unfolding_all rfl) ?_); (refine And.intro (by with_unfolding_all rfl) ?_); (refine And.intro (by with_unfolding_all rfl) ?_); (refine And.intro (by with_unfolding_all rfl) ?_); (refine And.intro (by with_unfolding_all rfl) ?_); exact trivial)); (case hi => with_reducible assumption); (case N => (refine List.forall_mem_cons.mpr ⟨by k_mem, ?_⟩; refine List.forall_mem_cons.mpr ⟨by k_mem, ?_⟩; refine List.forall_mem_cons.mpr ⟨by k_mem, ?_⟩; refine List.forall_mem_cons.mpr ⟨by k_mem, ?_⟩; refine List.forall_mem_cons.mpr ⟨by k_mem, ?_⟩; refine List.forall_mem_cons.mpr ⟨by k_mem, ?_⟩; refine List.forall_mem_cons.mpr ⟨by k_mem, ?_⟩; refine List.forall_mem_cons.mpr ⟨by k_mem, ?_⟩; refine List.forall_mem_cons.mpr ⟨by k_mem, ?_⟩; exact List.forall_mem_nil _)); (case l1 => (show @LT.lt Nat _ _ _; omega)); (case l2 => (show @LT.lt Nat _ _ _; omega)); (case n1 => (show ¬ (@Eq Nat _ _); omega)); (case n2 => (show ¬ (@Eq Nat _ _); omega)))
end
end
end
section
local macro_rules | `(tactic| walk_at "spliced") => `(tactic| (k_here; k_gentoks; (try dsimp only)))
section
local macro_rules | `(tactic| walk_at "call builtin:str.join") => `(tactic| (k_here; (try dsimp only [List.cons_append, List.nil_append]); k_dflt (refine join_is (by is_list) (by kct_strs) (by decide +kernel) (by with_reducible assumption) ?_); intro t9 k9))
local macro_rules | `(tactic| walk_at "binaryOp Add str str") => `(tactic| (k_here; k_dflt (refine add_is (by with_reducible assumption) ?_); intro t9 k9))
section
local macro_rules | `(tactic| k_ne) => `(tactic| (show ¬ (@Eq Nat _ _); omega))
local macro_rules | `(tactic| walk_at "execs cons") => `(tactic| (k_here; k_gentoks; (try dsimp only)))
theorem blockC1 {w : World} {p : Program} {loose : List Str} {mean : ExcName → Option Value} {mg mb : Str → Option Value}
  {a : Addr} {ccd : Value} {base h₀ : Heap} {L : Addr} {s : Shared} {Q : Flow → Shared → Prop} {body : List Stmt} {scope : Scope} (hb : turnPart 7 2 = some (body, scope))
  {u : Str → Option Value} {k front moved : Int} {mir : Bool} {tkk tff tmm : Tok} {na ta ca ra I : Addr} {n0 n1 : Str} {tv cv rv : List Value} {tones row : List Int} {came : List Str} {e0 e1 e2 e3 : Nat} {oI : Obj} {ps1 ps2 : Array Value} {c1 c2 : Addr} {o1 o2 : Obj}
  {la : Addr} {lav pv hov : Value} {u3 u2 u1 u0 th u5 u6 : Tok} {e6 : Nat} {a3 a2 a1 a0 : Str} {J0 EN XE DE E2 R3 : Str}
  (hk0 : 0 ≤ k) (hk8 : k ≤ 8) (hf0 : -4 ≤ front) (hf4 : front ≤ 4) (hm0 : 0 ≤ moved) (hm1 : moved ≤ 63) (htv : IntsAre tv tones) (hcv : StrsAre cv came) (hrv : IntsAre rv row)
  (B : Below callerA base [] h₀) (X : (Mine.hd.heap_39 w.params).In h₀) (C1 : CodeHd base 77 73) (C2 : CodeHd base 70 66) (T : Top p loose mean mg mb h₀)
  (F : Fr h₀ L s.heap (kstB u [(Str.ofString "k", .int k tkk), (Str.ofString "front", .int front tff), (Str.ofString "moved", .int moved tmm), (Str.ofString "mirrored", .bool mir), (Str.ofString "names", .ref na), (Str.ofString "tones", .ref ta), (Str.ofString "came", .ref ca), (Str.ofString "row", .ref ra), (Str.ofString "labels", lav), (Str.ofString "place", pv), (Str.ofString "host", hov)]))
  (N : News h₀ L s.heap [(la, listOf (List.toArray [.str a3 u3, .str a2 u2, .str a1 u1, .str a0 u0]) e6), (na, listOf (List.toArray [.str n0 u5, .str n1 u6]) e0), (ta, listOf tv.toArray e1), (ca, listOf cv.toArray e2), (ra, listOf rv.toArray e3), (I, oI), (c1, o1), (c2, o2), (73, tabObj ps1), (66, tabObj ps2)])
  (S1 : TabSt pos73 q73 ps1 c1 o1) (S2 : TabSt pos66 q66 ps2 c2 o2) (b1 : @LT.lt Nat _ 73 c1) (b2 : @LT.lt Nat _ 73 c2) (b3 : @LT.lt Nat _ 73 na) (b4 : @LT.lt Nat _ 73 ta) (b5 : @LT.lt Nat _ 73 ca) (b6 : @LT.lt Nat _ 73 ra) (b7 : @LT.lt Nat _ 73 I)
  (hlav : lav = .ref la) (hhov : hov = .str J0 th) (jE : JoinIs (Str.ofString ".") [a1, a0] EN) (pX : AddIs (Str.ofString "x.") EN XE) (pD : AddIs (Str.ofString ".") EN DE)
  (f1 : (a0 == Str.ofString "local") = true → E2 = Str.ofString ".local") (f2 : (a0 == Str.ofString "local") = false → E2 = EN) (f3 : (n0 == Str.ofString "0") = true → R3 = XE) (f4 : (n0 == Str.ofString "0") = false → R3 = DE)
  (ret : ∀ (u' : Str → Option Value) (da : Addr) (dav env2 : Value) (v1 v2 : Str) (e7 : Nat) (u7 u8 u9 t9 : Tok) (h' : Heap) (tk' : Nat), dav = .ref da → env2 = .str EN t9 → E2 = v1 → R3 = v2 → @LT.lt Nat _ 73 da →
    Fr h₀ L h' (kstB u' [(Str.ofString "k", .int k tkk), (Str.ofString "front", .int front tff), (Str.ofString "moved", .int moved tmm), (Str.ofString "mirrored", .bool mir), (Str.ofString "names", .ref na), (Str.ofString "tones", .ref ta), (Str.ofString "came", .ref ca), (Str.ofString "row", .ref ra), (Str.ofString "labels", lav), (Str.ofString "place", pv), (Str.ofString "host", hov), (Str.ofString "end", env2), (Str.ofString "due", dav)]) → News h₀ L h' [(la, listOf (List.toArray [.str a3 u3, .str a2 u2, .str a1 u1, .str a0 u0]) e6), (da, listOf (List.toArray [.str (Str.ofString "local") u7, .str v1 u8, .str v2 u9]) e7), (na, listOf (List.toArray [.str n0 u5, .str n1 u6]) e0), (ta, listOf tv.toArray e1), (ca, listOf cv.toArray e2), (ra, listOf rv.toArray e3), (I, oI), (c1, o1), (c2, o2), (73, tabObj ps1), (66, tabObj ps2)] → Q .next { s with heap := h', toks := tk' }) :
  wpAny (model PySem.Challenge.rw_xg0064_01.row.prog w) (callerA.deeper (envOf (Str.ofString "law") scope L a ccd)) (execs body (envOf (Str.ofString "law") scope L a ccd)) Q (fun _ _ => False) s := by
  w_on
  revert X
  k_fill
  intro X
  have h2 : some (_, _) = some (body, scope) := hb
  cases h2
  clear hb
  dsimp only [List.map, List.drop, List.take, forBody]
  subst hlav hhov
  w_strict k_steps
  all_goals (refine' ret _ _ _ _ _ _ _ _ _ _ _ _ _ ?dav ?ev ?w1 ?w2 ?lt (fr_kst (by k_asm) ?fr) (news_sub (by k_asm) ?N); (case dav => exact rfl); (case ev => exact rfl); (case w1 => first | exact f1 (by with_reducible assumption) | exact f2 (by with_reducible assumption)); (case w2 => first | exact f3 (by with_reducible assumption) | exact f4 (by with_reducible assumption)); (case fr => ((refine And.intro (by with_unfolding_all rfl) ?_); (refine And.intro (by with_unfolding_all rfl) ?_); (refine And.intro (by with_unfolding_all rfl) ?_); (refine And.intro (by with_unfolding_all rfl) ?_); (refine And.intro (by with_unfolding_all rfl) ?_); (refine And.intro (by with_unfolding_all rfl) ?_); (refine And.intro (by with_unfolding_all rfl) ?_); (refine And.intro (by with_unfolding_all rfl) ?_); (refine And.intro (by with_unfolding_all rfl) ?_); (refine And.intro (by with_unfolding_all rfl) ?_); (refine And.intro (by with_unfolding_all rfl) ?_); (refine And.intro (by with_unfolding_all rfl) ?_); (refine And.intro (by with_unfolding_all rfl) ?_); exact trivial)); (case N => (refine List.forall_mem_cons.mpr ⟨by k_mem, ?_⟩; refine List.forall_mem_cons.mpr ⟨by k_mem, ?_⟩; refine List.forall_mem_cons.mpr ⟨by k_mem, ?_⟩; refine List.forall_mem_cons.mpr ⟨by k_mem, ?_⟩; refine List.forall_mem_cons.mpr ⟨by k_mem, ?_⟩; refine List.forall_mem_cons.mpr ⟨by k_mem, ?_⟩; refine List.forall_mem_cons.mpr ⟨by k_mem, ?_⟩; refine List.forall_mem_cons.mpr ⟨by k_mem, ?_⟩; refine List.forall_mem_cons.mpr ⟨by k_mem, ?_⟩; refine List.forall_mem_cons.mpr ⟨by k_mem, ?_⟩; refine List.forall_mem_cons.mpr ⟨by k_mem, ?_⟩; exact List.forall_mem_nil _)); (case lt => (show @LT.lt Nat _ _ _; omega)))
end
section
section
variable {prog : Program} {w : World} {A : Around} {E : Value → Shared → Prop} {h₀ : Heap} {env : Env} {tg : Expr} {body : List Stmt} {Q : Flow → Shared → Prop} {s : Shared} {w0 : Addr × String} {keep : List (Addr × Obj)}
theorem items_kst {r : List Itm} {m : Str → Option Value} {news : List (Addr × Obj)} {ps : List (Str × Value)} (hp : KAll m ps) (H : ItemsRest prog w A E h₀ env tg body Q s [w0] keep r (kstB m ps) news) : ItemsRest prog w A E h₀ env tg body Q s [w0] keep r m news := by
  rw [kst_same hp] at H; exact H
theorem items_mono {r : List Itm} {m : Str → Option Value} {n n' : List (Addr × Obj)} (H : ItemsRest prog w A E h₀ env tg body Q s [w0] keep r m n) (hs : ∀ q ∈ n, q ∈ n') : ItemsRest prog w A E h₀ env tg body Q s [w0] keep r m n' := by
  cases r with
  | nil => exact fun h tk F N => H h tk F (news_sub N hs)
  | cons a r => exact fun v h tk hi F o ho N => H v h tk hi F o ho (news_sub N fun q hq => by
      rcases List.mem_cons.mp hq with rfl | hq
      · exact .head _
      · exact .tail _ (hs q hq))
end
theorem itemB {w : World} {p : Program} {loose : List Str} {mean : ExcName → Option Value} {mg mb : Str → Option Value}
  {a : Addr} {ccd : Value} {base h₀ : Heap} {L : Addr} {s : Shared} {Q : Flow → Shared → Prop} {tg : Expr} {body : List Stmt} {scope : Scope} (hb : innerFor 5 2 = some (tg, body, scope))
  {u : Str → Option Value} {k front moved : Int} {mir : Bool} {tkk tff tmm : Tok} {na ta ca ra I la ha It Tp : Addr} {nv tv cv rv hv lv : List Value} {xs : List Int} {ls came : List Str} {e0 e1 e2 e3 e5 e6 : Nat} {oI oT : Obj} {ps1 ps2 : Array Value} {c1 c2 : Addr} {o1 o2 : Obj}
  {pv : Value} {i m : Int} {ti th0 : Tok} {Hs J D : Str} {r : List Itm} (hf0 : -4 ≤ front) (hf4 : front ≤ 4) (i0 : 0 ≤ i) (i4 : i ≤ 4) (hhv : IntsAre hv xs) (hx5 : xs.length = 5) (hlv : StrsAre lv ls) (hl4 : ls.length = 4)
  (B : Below callerA base [] h₀) (X : (Mine.hd.heap_39 w.params).In h₀) (T : Top p loose mean mg mb h₀)
  (y1 : na ≠ ca) (y2 : ta ≠ ca) (y3 : ca ≠ ra) (y4 : ca ≠ I) (y5 : (73 : Nat) ≠ ca) (y6 : (66 : Nat) ≠ ca) (y7 : ca ≠ ha) (y8 : ca ≠ la) (x1 : c1 ≠ ca) (x2 : c2 ≠ ca) (x4 : Tp ≠ ca) (hlt : ∀ x ∈ ([ha, la, na, ta, ca, ra, I, c1, c2, 73, 66, Tp] : List Nat), @LT.lt Nat _ x It)
  (hcv : StrsAre cv came) (hcl : came.length ≤ 200) (jn : JoinIs (Str.ofString ".") (ls.drop (4 - i).toNat ++ [Str.ofString "local"]) J) (ad : AddIs (Str.ofString ".") J D) (rc : ReachIs Hs D) (ct : CountIs D came m) (sl : SliceIs D J) (q : m = xs.getD i.toNat 0 - front * 2 ^ (4 - i).toNat)
  (rest : ∀ (u' : Str → Option Value) (cv' : List Value) (e2' : Nat) (th : Tok), StrsAre cv' (came ++ [D]) → ItemsRest PySem.Challenge.rw_xg0064_01.row.prog w (callerA.deeper (envOf (Str.ofString "law") scope L a ccd)) (fun _ _ => False) h₀ (envOf (Str.ofString "law") scope L a ccd) tg body Q s [(It, "tuple_iterator")] [(Tp, oT)] r (kstB u' [(Str.ofString "k", .int k tkk), (Str.ofString "front", .int front tff), (Str.ofString "moved", .int moved tmm), (Str.ofString "mirrored", .bool mir), (Str.ofString "names", .ref na), (Str.ofString "tones", .ref ta), (Str.ofString "came", .ref ca), (Str.ofString "row", .ref ra), (Str.ofString "labels", .ref la), (Str.ofString "halves", .ref ha), (Str.ofString "place", pv), (Str.ofString "host", .str J th)]) [(ha, listOf hv.toArray e5), (la, listOf lv.toArray e6), (na, listOf nv.toArray e0), (ta, listOf tv.toArray e1), (ca, listOf cv'.toArray e2'), (ra, listOf rv.toArray e3), (I, oI), (c1, o1), (c2, o2), (73, tabObj ps1), (66, tabObj ps2), (Tp, oT)]) :
  ItemsRest PySem.Challenge.rw_xg0064_01.row.prog w (callerA.deeper (envOf (Str.ofString "law") scope L a ccd)) (fun _ _ => False) h₀ (envOf (Str.ofString "law") scope L a ccd) tg body Q s [(It, "tuple_iterator")] [(Tp, oT)] (.val (.int i ti) :: r) (kstB u [(Str.ofString "k", .int k tkk), (Str.ofString "front", .int front tff), (Str.ofString "moved", .int moved tmm), (Str.ofString "mirrored", .bool mir), (Str.ofString "names", .ref na), (Str.ofString "tones", .ref ta), (Str.ofString "came", .ref ca), (Str.ofString "row", .ref ra), (Str.ofString "labels", .ref la), (Str.ofString "halves", .ref ha), (Str.ofString "place", pv), (Str.ofString "host", .str Hs th0)]) [(ha, listOf hv.toArray e5), (la, listOf lv.toArray e6), (na, listOf nv.toArray e0), (ta, listOf tv.toArray e1), (ca, listOf cv.toArray e2), (ra, listOf rv.toArray e3), (I, oI), (c1, o1), (c2, o2), (73, tabObj ps1), (66, tabObj ps2), (Tp, oT)] := by
  refine ItemsRest.val fun h tk F => AllObj.cons fun o ho => AllObj.nil fun N => ?_
  have x3 : It ≠ ca := fun e => Nat.lt_irrefl _ (Eq.mp (congrArg (fun z => @LT.lt Nat _ ca z) e) (hlt ca (by k_mem)))
  refine turnB (nv := nv) (tv := tv) (cv := cv) (rv := rv) (hv := hv) (lv := lv) (e0 := e0) (e1 := e1) (e2 := e2) (e3 := e3) (e5 := e5) (e6 := e6) (oI := oI) (o1 := o1) (o2 := o2) (ps1 := ps1) (ps2 := ps2) (b1a := It) (b2a := Tp) (b1o := o) (b2o := oT) (s := { s with heap := h, toks := tk }) hb hf0 hf4 i0 i4 hhv hx5 hlv hl4 hcv hcl jn ad rc ct sl q B X T y1 y2 y3 y4 y5 y6 y7 y8 x1 x2 x3 x4 F (news_sub N ?n1) ?ret
  case n1 => (refine List.forall_mem_cons.mpr ⟨by k_mem, ?_⟩; refine List.forall_mem_cons.mpr ⟨by k_mem, ?_⟩; refine List.forall_mem_cons.mpr ⟨by k_mem, ?_⟩; refine List.forall_mem_cons.mpr ⟨by k_mem, ?_⟩; refine List.forall_mem_cons.mpr ⟨by k_mem, ?_⟩; refine List.forall_mem_cons.mpr ⟨by k_mem, ?_⟩; refine List.forall_mem_cons.mpr ⟨by k_mem, ?_⟩; refine List.forall_mem_cons.mpr ⟨by k_mem, ?_⟩; refine List.forall_mem_cons.mpr ⟨by k_mem, ?_⟩; refine List.forall_mem_cons.mpr ⟨by k_mem, ?_⟩; refine List.forall_mem_cons.mpr ⟨by k_mem, ?_⟩; refine List.forall_mem_cons.mpr ⟨by k_mem, ?_⟩; refine List.forall_mem_cons.mpr ⟨by k_mem, ?_⟩; exact List.forall_mem_nil _)
  intro u' cv' e2' th h' tk' hc F' N'
  refine ⟨h', tk', _, [(ha, listOf hv.toArray e5), (la, listOf lv.toArray e6), (na, listOf nv.toArray e0), (ta, listOf tv.toArray e1), (ca, listOf cv'.toArray e2'), (ra, listOf rv.toArray e3), (I, oI), (c1, o1), (c2, o2), (73, tabObj ps1), (66, tabObj ps2), (Tp, oT)], rfl, F', news_sub N' ?n2, ?off, by k_subL, rest _ _ _ _ hc⟩
  case n2 => (refine List.forall_mem_cons.mpr ⟨by k_mem, ?_⟩; refine List.forall_mem_cons.mpr ⟨by k_mem, ?_⟩; refine List.forall_mem_cons.mpr ⟨by k_mem, ?_⟩; refine List.forall_mem_cons.mpr ⟨by k_mem, ?_⟩; refine List.forall_mem_cons.mpr ⟨by k_mem, ?_⟩; refine List.forall_mem_cons.mpr ⟨by k_mem, ?_⟩; refine List.forall_mem_cons.mpr ⟨by k_mem, ?_⟩; refine List.forall_mem_cons.mpr ⟨by k_mem, ?_⟩; refine List.forall_mem_cons.mpr ⟨by k_mem, ?_⟩; refine List.forall_mem_cons.mpr ⟨by k_mem, ?_⟩; refine List.forall_mem_cons.mpr ⟨by k_mem, ?_⟩; refine List.forall_mem_cons.mpr ⟨by k_mem, ?_⟩; refine List.forall_mem_cons.mpr ⟨by k_mem, ?_⟩; exact List.forall_mem_nil _)
  case off =>
    intro q hq q2 hq2
    have hm : q.1 ∈ ([ha, la, na, ta, ca, ra, I, c1, c2, 73, 66, Tp] : List Nat) := List.mem_map.mpr ⟨q, hq, rfl⟩
    rw [List.mem_singleton.mp hq2]
    exact Nat.ne_of_lt (hlt _ hm)
local macro_rules | `(tactic| walk_at "pad") => `(tactic| skip)
local macro_rules | `(tactic| walk_at "ItemsRest") => `(tactic| (refine Stop.go ?_))
theorem blockB {w : World} {p : Program} {loose : List Str} {mean : ExcName → Option Value} {mg mb : Str → Option Value}
  {a : Addr} {ccd : Value} {base h₀ : Heap} {L : Addr} {s : Shared} {Q : Flow → Shared → Prop} {body : List Stmt} {scope : Scope} (hb : turnPart 5 2 = some (body, scope))
  {u : Str → Option Value} {k front moved : Int} {mir : Bool} {tkk tff tmm : Tok} {na ta ca ra I : Addr} {n0 n1 : Str} {nv tv cv rv : List Value} {tones row : List Int} {came : List Str} {e0 e1 e2 e3 : Nat} {oI : Obj} {ps1 ps2 : Array Value} {c1 c2 : Addr} {o1 o2 : Obj}
  {la ha : Addr} {lav hav pv : Value} {u3 u2 u1 u0 : Tok} {e5 e6 : Nat} {a3 a2 a1 a0 : Str} {h4 h3 h2 h1 h0 m4 m3 m2 m1 m0 : Int} {v4 v3 v2 v1 v0 : Tok} {J4 J3 J2 J1 J0 D4 D3 D2 D1 D0 H : Str}
  (hk0 : 0 ≤ k) (hk8 : k ≤ 8) (hf0 : -4 ≤ front) (hf4 : front ≤ 4) (hm0 : 0 ≤ moved) (hm1 : moved ≤ 63) (hnv : StrsAre nv [n0, n1]) (htv : IntsAre tv tones) (hcv : StrsAre cv came) (hrv : IntsAre rv row)
  (B : Below callerA base [] h₀) (X : (Mine.hd.heap_39 w.params).In h₀) (C1 : CodeHd base 77 73) (C2 : CodeHd base 70 66) (T : Top p loose mean mg mb h₀)
  (F : Fr h₀ L s.heap (kstB u [(Str.ofString "k", .int k tkk), (Str.ofString "front", .int front tff), (Str.ofString "moved", .int moved tmm), (Str.ofString "mirrored", .bool mir), (Str.ofString "names", .ref na), (Str.ofString "tones", .ref ta), (Str.ofString "came", .ref ca), (Str.ofString "row", .ref ra), (Str.ofString "labels", lav), (Str.ofString "halves", hav), (Str.ofString "place", pv)]))
  (N : News h₀ L s.heap [(ha, listOf (List.toArray [.int h0 v0, .int h1 v1, .int h2 v2, .int h3 v3, .int h4 v4]) e5), (la, listOf (List.toArray [.str a3 u3, .str a2 u2, .str a1 u1, .str a0 u0]) e6), (na, listOf nv.toArray e0), (ta, listOf tv.toArray e1), (ca, listOf cv.toArray e2), (ra, listOf rv.toArray e3), (I, oI), (c1, o1), (c2, o2), (73, tabObj ps1), (66, tabObj ps2)])
  (S1 : TabSt pos73 q73 ps1 c1 o1) (S2 : TabSt pos66 q66 ps2 c2 o2) (b1 : @LT.lt Nat _ 73 c1) (b2 : @LT.lt Nat _ 73 c2) (b3 : @LT.lt Nat _ 73 na) (b4 : @LT.lt Nat _ 73 ta) (b5 : @LT.lt Nat _ 73 ca) (b6 : @LT.lt Nat _ 73 ra) (b7 : @LT.lt Nat _ 73 I)
  (hlav : lav = .ref la) (hhv : hav = .ref ha) (j4 : JoinIs (Str.ofString ".") [a3, a2, a1, a0, Str.ofString "local"] J4) (j3 : JoinIs (Str.ofString ".") [a2, a1, a0, Str.ofString "local"] J3) (j2 : JoinIs (Str.ofString ".") [a1, a0, Str.ofString "local"] J2) (j1 : JoinIs (Str.ofString ".") [a0, Str.ofString "local"] J1) (j0 : JoinIs (Str.ofString ".") [Str.ofString "local"] J0) (p4 : AddIs (Str.ofString ".") J4 D4) (p3 : AddIs (Str.ofString ".") J3 D3) (p2 : AddIs (Str.ofString ".") J2 D2) (p1 : AddIs (Str.ofString ".") J1 D1) (p0 : AddIs (Str.ofString ".") J0 D0) (hH : AddIs (Str.ofString "x.") J4 H) (kc4 : CountIs D4 came m4) (kc3 : CountIs D3 (came ++ [D4]) m3) (kc2 : CountIs D2 (came ++ [D4] ++ [D3]) m2) (kc1 : CountIs D1 (came ++ [D4] ++ [D3] ++ [D2]) m1) (kc0 : CountIs D0 (came ++ [D4] ++ [D3] ++ [D2] ++ [D1]) m0) (hcl : came.length ≤ 100) (z1 : @LT.lt Nat _ na ca) (z2 : @LT.lt Nat _ ta ca) (z3 : @LT.lt Nat _ ca ra) (z4 : @LT.lt Nat _ ca I) (x1 : c1 ≠ ca) (x2 : c2 ≠ ca) (x5 : @LT.lt Nat _ ca ha) (x6 : @LT.lt Nat _ ca la)
  (q4 : m4 = [h0, h1, h2, h3, h4].getD (Int.toNat 4) 0 - front * 2 ^ ((4 : Int) - 4).toNat) (q3 : m3 = [h0, h1, h2, h3, h4].getD (Int.toNat 3) 0 - front * 2 ^ ((4 : Int) - 3).toNat) (q2 : m2 = [h0, h1, h2, h3, h4].getD (Int.toNat 2) 0 - front * 2 ^ ((4 : Int) - 2).toNat) (q1 : m1 = [h0, h1, h2, h3, h4].getD (Int.toNat 1) 0 - front * 2 ^ ((4 : Int) - 1).toNat) (q0 : m0 = [h0, h1, h2, h3, h4].getD (Int.toNat 0) 0 - front * 2 ^ ((4 : Int) - 0).toNat) (s4 : SliceIs D4 J4) (s3 : SliceIs D3 J3) (s2 : SliceIs D2 J2) (s1 : SliceIs D1 J1) (s0 : SliceIs D0 J0) (r4 : ReachIs H D4) (r3 : ReachIs J4 D3) (r2 : ReachIs J3 D2) (r1 : ReachIs J2 D1) (r0 : ReachIs J1 D0)
  (ret : ∀ (u' : Str → Option Value) (cv' : List Value) (e2' : Nat) (hov : Value) (th : Tok) (h' : Heap) (tk' : Nat), hov = .str J0 th → StrsAre cv' (came ++ [D4] ++ [D3] ++ [D2] ++ [D1] ++ [D0]) →
    Fr h₀ L h' (kstB u' [(Str.ofString "k", .int k tkk), (Str.ofString "front", .int front tff), (Str.ofString "moved", .int moved tmm), (Str.ofString "mirrored", .bool mir), (Str.ofString "names", .ref na), (Str.ofString "tones", .ref ta), (Str.ofString "came", .ref ca), (Str.ofString "row", .ref ra), (Str.ofString "labels", lav), (Str.ofString "place", pv), (Str.ofString "host", hov)]) → News h₀ L h' [(la, listOf (List.toArray [.str a3 u3, .str a2 u2, .str a1 u1, .str a0 u0]) e6), (na, listOf nv.toArray e0), (ta, listOf tv.toArray e1), (ca, listOf cv'.toArray e2'), (ra, listOf rv.toArray e3), (I, oI), (c1, o1), (c2, o2), (73, tabObj ps1), (66, tabObj ps2)] → Q .next { s with heap := h', toks := tk' }) :
  wpAny (model PySem.Challenge.rw_xg0064_01.row.prog w) (callerA.deeper (envOf (Str.ofString "law") scope L a ccd)) (execs body (envOf (Str.ofString "law") scope L a ccd)) Q (fun _ _ => False) s := by
  w_on
  revert X
  k_fill
  intro X
  have h2 : some (_, _) = some (body, scope) := hb
  cases h2
  clear hb
  dsimp only [List.map, List.drop, List.take, forBody]
  subst hlav hhv
  have y1 : na ≠ ca := Nat.ne_of_lt z1
  have y2 : ta ≠ ca := Nat.ne_of_lt z2
  have y3 : ca ≠ ra := Nat.ne_of_lt z3
  have y4 : ca ≠ I := Nat.ne_of_lt z4
  have y5 : (73 : Nat) ≠ ca := Nat.ne_of_lt b5
  have y6 : (66 : Nat) ≠ ca := Nat.ne_of_lt (Nat.lt_trans (by decide) b5)
  have y7 : ca ≠ ha := Nat.ne_of_lt x5
  have y8 : ca ≠ la := Nat.ne_of_lt x6
  w_strict k_steps
  unfold Stop
  have HB : innerFor 5 2 = some (_, _, _) := rfl
  have hi5 : IntsAre [.int h0 v0, .int h1 v1, .int h2 v2, .int h3 v3, .int h4 v4] [h0, h1, h2, h3, h4] := .cons _ _ (.cons _ _ (.cons _ _ (.cons _ _ (.cons _ _ .nil))))
  have hl4 : StrsAre [.str a3 u3, .str a2 u2, .str a1 u1, .str a0 u0] [a3, a2, a1, a0] := .cons _ _ (.cons _ _ (.cons _ _ (.cons _ _ .nil)))
  rename _ ∧ _ => k1
  revert k1
  rename _ ∧ _ => k2
  have hTp := Nat.ne_of_gt k2.2.2.2.2.2.2.1
  clear k2
  intro k1
  have hT1 := k1.1
  have hIt := k1.2.2.2
  have hI2 : ∀ x ∈ ([ha, la, na, ta, ca, ra, I, c1, c2, 73, 66, _] : List Nat), @LT.lt Nat _ x _ := List.forall_mem_cons.mpr ⟨hIt.1, List.forall_mem_cons.mpr ⟨hIt.2.1, List.forall_mem_cons.mpr ⟨hIt.2.2.1, List.forall_mem_cons.mpr ⟨hIt.2.2.2.1, List.forall_mem_cons.mpr ⟨hIt.2.2.2.2.1, List.forall_mem_cons.mpr ⟨hIt.2.2.2.2.2.1, List.forall_mem_cons.mpr ⟨hIt.2.2.2.2.2.2.1, List.forall_mem_cons.mpr ⟨hIt.2.2.2.2.2.2.2.1, List.forall_mem_cons.mpr ⟨hIt.2.2.2.2.2.2.2.2.1, List.forall_mem_cons.mpr ⟨hIt.2.2.2.2.2.2.2.2.2.1, List.forall_mem_cons.mpr ⟨hIt.2.2.2.2.2.2.2.2.2.2, List.forall_mem_cons.mpr ⟨hT1, List.forall_mem_nil _⟩⟩⟩⟩⟩⟩⟩⟩⟩⟩⟩⟩
  refine' items_kst ?fr (items_mono ?hh ?mm)
  case' hh => refine' itemB HB (k := k) (moved := moved) (mir := mir) (tkk := tkk) (tff := tff) (tmm := tmm) (nv := nv) (tv := tv) (rv := rv) (e0 := e0) (e1 := e1) (e3 := e3) (e5 := e5) (e6 := e6) (oI := oI) (o1 := o1) (o2 := o2) (ps1 := ps1) (ps2 := ps2) (pv := pv) (r := _ :: _) (i := 4) (hv := [.int h0 v0, .int h1 v1, .int h2 v2, .int h3 v3, .int h4 v4]) (xs := [h0, h1, h2, h3, h4]) (lv := [.str a3 u3, .str a2 u2, .str a1 u1, .str a0 u0]) (ls := [a3, a2, a1, a0]) hf0 hf4 (by decide) (by decide) hi5 rfl hl4 rfl B X T y1 y2 y3 y4 y5 y6 y7 y8 x1 x2 hTp hI2 hcv (by (try simp only [List.length_append, List.length_singleton]); omega) j4 p4 r4 kc4 s4 q4 ?h2
  case fr => ((refine And.intro (by with_unfolding_all rfl) ?_); (refine And.intro (by with_unfolding_all rfl) ?_); (refine And.intro (by with_unfolding_all rfl) ?_); (refine And.intro (by with_unfolding_all rfl) ?_); (refine And.intro (by with_unfolding_all rfl) ?_); (refine And.intro (by with_unfolding_all rfl) ?_); (refine And.intro (by with_unfolding_all rfl) ?_); (refine And.intro (by with_unfolding_all rfl) ?_); (refine And.intro (by with_unfolding_all rfl) ?_); (refine And.intro (by with_unfolding_all rfl) ?_); (refine And.intro (by with_unfolding_all rfl) ?_); (refine And.intro (by with_unfolding_all rfl) ?_); exact trivial)
  case mm => (refine List.forall_mem_cons.mpr ⟨by k_mem, ?_⟩; refine List.forall_mem_cons.mpr ⟨by k_mem, ?_⟩; refine List.forall_mem_cons.mpr ⟨by k_mem, ?_⟩; refine List.forall_mem_cons.mpr ⟨by k_mem, ?_⟩; refine List.forall_mem_cons.mpr ⟨by k_mem, ?_⟩; refine List.forall_mem_cons.mpr ⟨by k_mem, ?_⟩; refine List.forall_mem_cons.mpr ⟨by k_mem, ?_⟩; refine List.forall_mem_cons.mpr ⟨by k_mem, ?_⟩; refine List.forall_mem_cons.mpr ⟨by k_mem, ?_⟩; refine List.forall_mem_cons.mpr ⟨by k_mem, ?_⟩; refine List.forall_mem_cons.mpr ⟨by k_mem, ?_⟩; refine List.forall_mem_cons.mpr ⟨by k_mem, ?_⟩; exact List.forall_mem_nil _)
  intro u4' cv4' e4' th4 g4
  refine itemB HB (k := k) (moved := moved) (mir := mir) (tkk := tkk) (tff := tff) (tmm := tmm) (nv := nv) (tv := tv) (rv := rv) (e0 := e0) (e1 := e1) (e3 := e3) (e5 := e5) (e6 := e6) (oI := oI) (o1 := o1) (o2 := o2) (ps1 := ps1) (ps2 := ps2) (pv := pv) (r := _ :: _) (i := 3) (hv := [.int h0 v0, .int h1 v1, .int h2 v2, .int h3 v3, .int h4 v4]) (xs := [h0, h1, h2, h3, h4]) (lv := [.str a3 u3, .str a2 u2, .str a1 u1, .str a0 u0]) (ls := [a3, a2, a1, a0]) hf0 hf4 (by decide) (by decide) hi5 rfl hl4 rfl B X T y1 y2 y3 y4 y5 y6 y7 y8 x1 x2 hTp hI2 g4 (by (try simp only [List.length_append, List.length_singleton]); omega) j3 p3 r3 kc3 s3 q3 ?_
  intro u3' cv3' e3' th3 g3
  refine itemB HB (k := k) (moved := moved) (mir := mir) (tkk := tkk) (tff := tff) (tmm := tmm) (nv := nv) (tv := tv) (rv := rv) (e0 := e0) (e1 := e1) (e3 := e3) (e5 := e5) (e6 := e6) (oI := oI) (o1 := o1) (o2 := o2) (ps1 := ps1) (ps2 := ps2) (pv := pv) (r := _ :: _) (i := 2) (hv := [.int h0 v0, .int h1 v1, .int h2 v2, .int h3 v3, .int h4 v4]) (xs := [h0, h1, h2, h3, h4]) (lv := [.str a3 u3, .str a2 u2, .str a1 u1, .str a0 u0]) (ls := [a3, a2, a1, a0]) hf0 hf4 (by decide) (by decide) hi5 rfl hl4 rfl B X T y1 y2 y3 y4 y5 y6 y7 y8 x1 x2 hTp hI2 g3 (by (try simp only [List.length_append, List.length_singleton]); omega) j2 p2 r2 kc2 s2 q2 ?_
  intro u2' cv2' e2' th2 g2
  refine itemB HB (k := k) (moved := moved) (mir := mir) (tkk := tkk) (tff := tff) (tmm := tmm) (nv := nv) (tv := tv) (rv := rv) (e0 := e0) (e1 := e1) (e3 := e3) (e5 := e5) (e6 := e6) (oI := oI) (o1 := o1) (o2 := o2) (ps1 := ps1) (ps2 := ps2) (pv := pv) (r := _ :: _) (i := 1) (hv := [.int h0 v0, .int h1 v1, .int h2 v2, .int h3 v3, .int h4 v4]) (xs := [h0, h1, h2, h3, h4]) (lv := [.str a3 u3, .str a2 u2, .str a1 u1, .str a0 u0]) (ls := [a3, a2, a1, a0]) hf0 hf4 (by decide) (by decide) hi5 rfl hl4 rfl B X T y1 y2 y3 y4 y5 y6 y7 y8 x1 x2 hTp hI2 g2 (by (try simp only [List.length_append, List.length_singleton]); omega) j1 p1 r1 kc1 s1 q1 ?_
  intro u1' cv1' e1' th1 g1
  refine itemB HB (k := k) (moved := moved) (mir := mir) (tkk := tkk) (tff := tff) (tmm := tmm) (nv := nv) (tv := tv) (rv := rv) (e0 := e0) (e1 := e1) (e3 := e3) (e5 := e5) (e6 := e6) (oI := oI) (o1 := o1) (o2 := o2) (ps1 := ps1) (ps2 := ps2) (pv := pv) (r := []) (i := 0) (hv := [.int h0 v0, .int h1 v1, .int h2 v2, .int h3 v3, .int h4 v4]) (xs := [h0, h1, h2, h3, h4]) (lv := [.str a3 u3, .str a2 u2, .str a1 u1, .str a0 u0]) (ls := [a3, a2, a1, a0]) hf0 hf4 (by decide) (by decide) hi5 rfl hl4 rfl B X T y1 y2 y3 y4 y5 y6 y7 y8 x1 x2 hTp hI2 g1 (by (try simp only [List.length_append, List.length_singleton]); omega) j0 p0 r0 kc0 s0 q0 ?_
  intro u0' cv0' e0' th0 g0
  refine ItemsRest.zero fun h' tk' F' N' => ?_
  dsimp only
  w_strict k_steps
  refine' ret _ _ _ _ _ _ _ rfl g0 (fr_kst F' ?fr) (news_sub N' ?N)
  case fr => ((refine And.intro (by with_unfolding_all rfl) ?_); (refine And.intro (by with_unfolding_all rfl) ?_); (refine And.intro (by with_unfolding_all rfl) ?_); (refine And.intro (by with_unfolding_all rfl) ?_); (refine And.intro (by with_unfolding_all rfl) ?_); (refine And.intro (by with_unfolding_all rfl) ?_); (refine And.intro (by with_unfolding_all rfl) ?_); (refine And.intro (by with_unfolding_all rfl) ?_); (refine And.intro (by with_unfolding_all rfl) ?_); (refine And.intro (by with_unfolding_all rfl) ?_); (refine And.intro (by with_unfolding_all rfl) ?_); exact trivial)
  case N => (refine List.forall_mem_cons.mpr ⟨by k_mem, ?_⟩; refine List.forall_mem_cons.mpr ⟨by k_mem, ?_⟩; refine List.forall_mem_cons.mpr ⟨by k_mem, ?_⟩; refine List.forall_mem_cons.mpr ⟨by k_mem, ?_⟩; refine List.forall_mem_cons.mpr ⟨by k_mem, ?_⟩; refine List.forall_mem_cons.mpr ⟨by k_mem, ?_⟩; refine List.forall_mem_cons.mpr ⟨by k_mem, ?_⟩; refine List.forall_mem_cons.mpr ⟨by k_mem, ?_⟩; refine List.forall_mem_cons.mpr ⟨by k_mem, ?_⟩; refine List.forall_mem_cons.mpr ⟨by k_mem, ?_⟩; exact List.forall_mem_nil _)
end
end
section
theorem itemA {w : World} {p : Program} {loose : List Str} {mean : ExcName → Option Value} {mg mb : Str → Option Value}
  {a : Addr} {ccd : Value} {base h₀ : Heap} {L : Addr} {s : Shared} {Q : Flow → Shared → Prop} {tg : Expr} {body : List Stmt} {scope : Scope} (hb : innerFor 0 5 = some (tg, body, scope))
  {u : Str → Option Value} {k front moved : Int} {mir : Bool} {tkk tff tmm : Tok} {na ta ca ra I la ha It Tp : Addr} {nv tv cv rv hv lv : List Value} {xs : List Int} {ls : List Str} {e0 e1 e2 e3 e5 e6 : Nat} {oI oT : Obj} {ps1 ps2 : Array Value} {c1 c2 : Addr} {o1 o2 : Obj}
  {x pl wt : Int} {tw tp : Tok} {n0 n1 : Str} {rs : List Itm} (hw0 : 0 ≤ wt) (hw1 : wt ≤ 8) (hx0 : -64 ≤ x) (hx1 : x ≤ 72) (hnv : StrsAre nv [n0, n1]) (hhv : IntsAre hv (xs ++ [x])) (hxs : xs.length ≤ 10) (hlv : StrsAre lv ls) (hls : ls.length ≤ 10)
  (B : Below callerA base [] h₀) (X : (Mine.hd.heap_39 w.params).In h₀) (C1 : CodeHd base 77 73) (C2 : CodeHd base 70 66) (T : Top p loose mean mg mb h₀)
  (S1 : TabSt pos73 q73 ps1 c1 o1) (S2 : TabSt pos66 q66 ps2 c2 o2) (b1 : @LT.lt Nat _ 73 c1) (b2 : @LT.lt Nat _ 73 c2) (b3 : @LT.lt Nat _ 73 na) (b4 : @LT.lt Nat _ 73 ta) (b5 : @LT.lt Nat _ 73 ca) (b6 : @LT.lt Nat _ 73 ra) (b7 : @LT.lt Nat _ 73 I) (b8 : @LT.lt Nat _ 73 ha) (b9 : @LT.lt Nat _ 73 la)
  (b10 : @LT.lt Nat _ 73 It) (b11 : @LT.lt Nat _ 73 Tp) (h3 : ∀ y ∈ ([la, na, ta, ca, ra, I, It, Tp] : List Nat), y ≠ ha) (h1 : ∀ y ∈ ([ha, ca, I, It, Tp] : List Nat), c1 ≠ y) (h2 : ∀ y ∈ ([ha, ca, I, It, Tp] : List Nat), c2 ≠ y) (h4 : ∀ y ∈ ([ha, la, na, ta, ca, ra, I, 73, 66, Tp] : List Nat), y ≠ It)
  (rest : ∀ (q r : Int) (u' : Str → Option Value) (la2 d1 d2 : Addr) (w1 w2 : Obj) (z1 z2 : Array Value) (hv' lv' : List Value) (e5' e6' : Nat) (tp' : Tok), x = 2 * q + r → 0 ≤ r → r ≤ 1 → IntsAre hv' ((xs ++ [x]) ++ [q]) → StrsAre lv' ([n0, n1].getD r.toNat Str.empty :: ls) → TabSt pos73 q73 z1 d1 w1 → TabSt pos66 q66 z2 d2 w2 → @LT.lt Nat _ 73 d1 → @LT.lt Nat _ 73 d2 → (∀ y ∈ ([ha, ca, I, It, Tp] : List Nat), d1 ≠ y) → (∀ y ∈ ([ha, ca, I, It, Tp] : List Nat), d2 ≠ y) →  @LT.lt Nat _ ca la2 → @LT.lt Nat _ 73 la2 → (∀ y ∈ ([la2, na, ta, ca, ra, I, It, Tp] : List Nat), y ≠ ha) → (∀ y ∈ ([ha, la2, na, ta, ca, ra, I, 73, 66, Tp] : List Nat), y ≠ It) → ItemsRest PySem.Challenge.rw_xg0064_01.row.prog w (callerA.deeper (envOf (Str.ofString "law") scope L a ccd)) (fun _ _ => False) h₀ (envOf (Str.ofString "law") scope L a ccd) tg body Q s [(It, "tuple_iterator")] [(Tp, oT)] rs (kstB u' [(Str.ofString "k", .int k tkk), (Str.ofString "front", .int front tff), (Str.ofString "moved", .int moved tmm), (Str.ofString "mirrored", .bool mir), (Str.ofString "names", .ref na), (Str.ofString "tones", .ref ta), (Str.ofString "came", .ref ca), (Str.ofString "row", .ref ra), (Str.ofString "halves", .ref ha), (Str.ofString "labels", .ref la2), (Str.ofString "place", (.int (pl + wt * r) tp'))]) [(ha, listOf hv'.toArray e5'), (la2, listOf lv'.toArray e6'), (na, listOf nv.toArray e0), (ta, listOf tv.toArray e1), (ca, listOf cv.toArray e2), (ra, listOf rv.toArray e3), (I, oI), (d1, w1), (d2, w2), (73, tabObj z1), (66, tabObj z2), (Tp, oT)]) :
  ItemsRest PySem.Challenge.rw_xg0064_01.row.prog w (callerA.deeper (envOf (Str.ofString "law") scope L a ccd)) (fun _ _ => False) h₀ (envOf (Str.ofString "law") scope L a ccd) tg body Q s [(It, "tuple_iterator")] [(Tp, oT)] (.val (.int wt tw) :: rs) (kstB u [(Str.ofString "k", .int k tkk), (Str.ofString "front", .int front tff), (Str.ofString "moved", .int moved tmm), (Str.ofString "mirrored", .bool mir), (Str.ofString "names", .ref na), (Str.ofString "tones", .ref ta), (Str.ofString "came", .ref ca), (Str.ofString "row", .ref ra), (Str.ofString "halves", .ref ha), (Str.ofString "labels", .ref la), (Str.ofString "place", .int pl tp)]) [(ha, listOf hv.toArray e5), (la, listOf lv.toArray e6), (na, listOf nv.toArray e0), (ta, listOf tv.toArray e1), (ca, listOf cv.toArray e2), (ra, listOf rv.toArray e3), (I, oI), (c1, o1), (c2, o2), (73, tabObj ps1), (66, tabObj ps2), (Tp, oT)] := by
  refine ItemsRest.val fun h tk F => AllObj.cons fun o ho => AllObj.nil fun N => ?_
  refine turnA (nv := nv) (tv := tv) (cv := cv) (rv := rv) (hv := hv) (lv := lv) (e0 := e0) (e1 := e1) (e2 := e2) (e3 := e3) (e5 := e5) (e6 := e6) (oI := oI) (b1a := It) (b2a := Tp) (b1o := o) (b2o := oT) (s := { s with heap := h, toks := tk }) hb hw0 hw1 hx0 hx1 hnv hhv hxs hlv hls B X C1 C2 T S1 S2 b1 b2 b3 b4 b5 b6 b7 b8 b9 b10 b11 h3 h1 h2 F (news_sub N ?n1) ?ret
  case n1 => (refine List.forall_mem_cons.mpr ⟨by k_mem, ?_⟩; refine List.forall_mem_cons.mpr ⟨by k_mem, ?_⟩; refine List.forall_mem_cons.mpr ⟨by k_mem, ?_⟩; refine List.forall_mem_cons.mpr ⟨by k_mem, ?_⟩; refine List.forall_mem_cons.mpr ⟨by k_mem, ?_⟩; refine List.forall_mem_cons.mpr ⟨by k_mem, ?_⟩; refine List.forall_mem_cons.mpr ⟨by k_mem, ?_⟩; refine List.forall_mem_cons.mpr ⟨by k_mem, ?_⟩; refine List.forall_mem_cons.mpr ⟨by k_mem, ?_⟩; refine List.forall_mem_cons.mpr ⟨by k_mem, ?_⟩; refine List.forall_mem_cons.mpr ⟨by k_mem, ?_⟩; refine List.forall_mem_cons.mpr ⟨by k_mem, ?_⟩; refine List.forall_mem_cons.mpr ⟨by k_mem, ?_⟩; exact List.forall_mem_nil _)
  intro q r u' la2 d1 d2 w1 w2 z1 z2 hv' lv' e5' e6' tp' h' tk' E1 E2 E3 hi hs s1 s2 t1 t2 k1 k2 kl F' N'
  have hlI := Nat.ne_of_gt (kl It (by k_mem))
  have off : ∀ y ∈ ([ha, la2, na, ta, ca, ra, I, d1, d2, 73, 66, Tp] : List Nat), y ≠ It := List.forall_mem_cons.mpr ⟨h4 ha (by k_mem), List.forall_mem_cons.mpr ⟨hlI, List.forall_mem_cons.mpr ⟨h4 na (by k_mem), List.forall_mem_cons.mpr ⟨h4 ta (by k_mem), List.forall_mem_cons.mpr ⟨h4 ca (by k_mem), List.forall_mem_cons.mpr ⟨h4 ra (by k_mem), List.forall_mem_cons.mpr ⟨h4 I (by k_mem), List.forall_mem_cons.mpr ⟨k1 It (by k_mem), List.forall_mem_cons.mpr ⟨k2 It (by k_mem), List.forall_mem_cons.mpr ⟨h4 73 (by k_mem), List.forall_mem_cons.mpr ⟨h4 66 (by k_mem), List.forall_mem_cons.mpr ⟨h4 Tp (by k_mem), List.forall_mem_nil _⟩⟩⟩⟩⟩⟩⟩⟩⟩⟩⟩⟩
  refine ⟨h', tk', _, [(ha, listOf hv'.toArray e5'), (la2, listOf lv'.toArray e6'), (na, listOf nv.toArray e0), (ta, listOf tv.toArray e1), (ca, listOf cv.toArray e2), (ra, listOf rv.toArray e3), (I, oI), (d1, w1), (d2, w2), (73, tabObj z1), (66, tabObj z2), (Tp, oT)], rfl, F', news_sub N' ?n2, ?off, by k_subL, rest _ _ _ _ _ _ _ _ _ _ _ _ _ _ _ E1 E2 E3 hi hs s1 s2 t1 t2 k1 k2 (kl ca (by k_mem)) (Nat.lt_trans b5 (kl ca (by k_mem))) ?h3 ?h4⟩
  case n2 => (refine List.forall_mem_cons.mpr ⟨by k_mem, ?_⟩; refine List.forall_mem_cons.mpr ⟨by k_mem, ?_⟩; refine List.forall_mem_cons.mpr ⟨by k_mem, ?_⟩; refine List.forall_mem_cons.mpr ⟨by k_mem, ?_⟩; refine List.forall_mem_cons.mpr ⟨by k_mem, ?_⟩; refine List.forall_mem_cons.mpr ⟨by k_mem, ?_⟩; refine List.forall_mem_cons.mpr ⟨by k_mem, ?_⟩; refine List.forall_mem_cons.mpr ⟨by k_mem, ?_⟩; refine List.forall_mem_cons.mpr ⟨by k_mem, ?_⟩; refine List.forall_mem_cons.mpr ⟨by k_mem, ?_⟩; refine List.forall_mem_cons.mpr ⟨by k_mem, ?_⟩; refine List.forall_mem_cons.mpr ⟨by k_mem, ?_⟩; refine List.forall_mem_cons.mpr ⟨by k_mem, ?_⟩; exact List.forall_mem_nil _)
  case off =>
    intro q hq q2 hq2
    rw [List.mem_singleton.mp hq2]
    exact off _ (List.mem_map.mpr ⟨q, hq, rfl⟩)
  case h3 => exact List.forall_mem_cons.mpr ⟨Nat.ne_of_gt (kl ha (by k_mem)), List.forall_mem_cons.mpr ⟨h3 na (by k_mem), List.forall_mem_cons.mpr ⟨h3 ta (by k_mem), List.forall_mem_cons.mpr ⟨h3 ca (by k_mem), List.forall_mem_cons.mpr ⟨h3 ra (by k_mem), List.forall_mem_cons.mpr ⟨h3 I (by k_mem), List.forall_mem_cons.mpr ⟨h3 It (by k_mem), List.forall_mem_cons.mpr ⟨h3 Tp (by k_mem), List.forall_mem_nil _⟩⟩⟩⟩⟩⟩⟩⟩
  case h4 => exact List.forall_mem_cons.mpr ⟨h4 ha (by k_mem), List.forall_mem_cons.mpr ⟨hlI, List.forall_mem_cons.mpr ⟨h4 na (by k_mem), List.forall_mem_cons.mpr ⟨h4 ta (by k_mem), List.forall_mem_cons.mpr ⟨h4 ca (by k_mem), List.forall_mem_cons.mpr ⟨h4 ra (by k_mem), List.forall_mem_cons.mpr ⟨h4 I (by k_mem), List.forall_mem_cons.mpr ⟨h4 73 (by k_mem), List.forall_mem_cons.mpr ⟨h4 66 (by k_mem), List.forall_mem_cons.mpr ⟨h4 Tp (by k_mem), List.forall_mem_nil _⟩⟩⟩⟩⟩⟩⟩⟩⟩⟩
local macro_rules | `(tactic| walk_at "execs cons If") => `(tactic| (with_reducible refine wpAny_execs_cons ?_))
local macro_rules | `(tactic| walk_at "ite") => `(tactic| (k_here; k_dflt (first | (refine ite_pos (by (try simp only [bne_iff_ne, beq_iff_eq, ne_eq, decide_eq_true_eq, Bool.and_eq_true, Bool.or_eq_true]); omega) ?_) | (refine ite_neg (by (try simp only [bne_iff_ne, beq_iff_eq, ne_eq, decide_eq_true_eq, Bool.and_eq_true, Bool.or_eq_true]); omega) ?_))))
local macro_rules | `(tactic| walk_at "ItemsRest") => `(tactic| (refine Stop.go ?_))
theorem blockA {w : World} {p : Program} {loose : List Str} {mean : ExcName → Option Value} {mg mb : Str → Option Value}
  {a : Addr} {ccd : Value} {base h₀ : Heap} {L : Addr} {s : Shared} {Q : Flow → Shared → Prop} {body : List Stmt} {scope : Scope} (hb : turnPart 0 5 = some (body, scope))
  {u : Str → Option Value} {k front moved : Int} {mir : Bool} {tkk tff tmm : Tok} {na ta ca ra I : Addr} {n0 n1 : Str} {nv tv cv rv : List Value} {tones row : List Int} {came : List Str} {e0 e1 e2 e3 : Nat} {oI : Obj} {ps1 ps2 : Array Value} {c1 c2 : Addr} {o1 o2 : Obj}
  
  (hk0 : 0 ≤ k) (hk8 : k ≤ 8) (hf0 : -4 ≤ front) (hf4 : front ≤ 4) (hm0 : 0 ≤ moved) (hm1 : moved ≤ 63) (hnv : StrsAre nv [n0, n1]) (htv : IntsAre tv tones) (hcv : StrsAre cv came) (hrv : IntsAre rv row)
  (B : Below callerA base [] h₀) (X : (Mine.hd.heap_39 w.params).In h₀) (C1 : CodeHd base 77 73) (C2 : CodeHd base 70 66) (T : Top p loose mean mg mb h₀)
  (F : Fr h₀ L s.heap (kstB u [(Str.ofString "k", .int k tkk), (Str.ofString "front", .int front tff), (Str.ofString "moved", .int moved tmm), (Str.ofString "mirrored", .bool mir), (Str.ofString "names", .ref na), (Str.ofString "tones", .ref ta), (Str.ofString "came", .ref ca), (Str.ofString "row", .ref ra)]))
  (N : News h₀ L s.heap [(na, listOf nv.toArray e0), (ta, listOf tv.toArray e1), (ca, listOf cv.toArray e2), (ra, listOf rv.toArray e3), (I, oI), (c1, o1), (c2, o2), (73, tabObj ps1), (66, tabObj ps2)])
  (S1 : TabSt pos73 q73 ps1 c1 o1) (S2 : TabSt pos66 q66 ps2 c2 o2) (b1 : @LT.lt Nat _ 73 c1) (b2 : @LT.lt Nat _ 73 c2) (b3 : @LT.lt Nat _ 73 na) (b4 : @LT.lt Nat _ 73 ta) (b5 : @LT.lt Nat _ 73 ca) (b6 : @LT.lt Nat _ 73 ra) (b7 : @LT.lt Nat _ 73 I)
  (x1 : c1 ≠ ca) (x2 : c2 ≠ ca) (x3 : c1 ≠ I) (x4 : c2 ≠ I)
  (ret : ∀ (q1 q2 q3 q4 r0 r1 r2 r3 pl : Int) (u' : Str → Option Value) (ha la d1 d2 : Addr) (w1 w2 : Obj) (z1 z2 : Array Value) (hv lv : List Value) (e5 e6 : Nat) (pv hav lav : Value) (tp : Tok) (h' : Heap) (tk' : Nat),
    16 * front + k = 2 * q1 + r0 → q1 = 2 * q2 + r1 → q2 = 2 * q3 + r2 → q3 = 2 * q4 + r3 → 0 ≤ r0 → r0 ≤ 1 → 0 ≤ r1 → r1 ≤ 1 → 0 ≤ r2 → r2 ≤ 1 → 0 ≤ r3 → r3 ≤ 1 → pl = 8 * r0 + 4 * r1 + 2 * r2 + r3 → pv = .int pl tp → hav = .ref ha → lav = .ref la →
    IntsAre hv [16 * front + k, q1, q2, q3, q4] → StrsAre lv [[n0, n1].getD r3.toNat Str.empty, [n0, n1].getD r2.toNat Str.empty, [n0, n1].getD r1.toNat Str.empty, [n0, n1].getD r0.toNat Str.empty] →
    Fr h₀ L h' (kstB u' [(Str.ofString "k", .int k tkk), (Str.ofString "front", .int front tff), (Str.ofString "moved", .int moved tmm), (Str.ofString "mirrored", .bool mir), (Str.ofString "names", .ref na), (Str.ofString "tones", .ref ta), (Str.ofString "came", .ref ca), (Str.ofString "row", .ref ra), (Str.ofString "halves", hav), (Str.ofString "labels", lav), (Str.ofString "place", pv)]) → News h₀ L h' [(ha, listOf hv.toArray e5), (la, listOf lv.toArray e6), (na, listOf nv.toArray e0), (ta, listOf tv.toArray e1), (ca, listOf cv.toArray e2), (ra, listOf rv.toArray e3), (I, oI), (d1, w1), (d2, w2), (73, tabObj z1), (66, tabObj z2)] →
    TabSt pos73 q73 z1 d1 w1 → TabSt pos66 q66 z2 d2 w2 → @LT.lt Nat _ 73 d1 → @LT.lt Nat _ 73 d2 → d1 ≠ ca → d2 ≠ ca → d1 ≠ I → d2 ≠ I → @LT.lt Nat _ ca ha → @LT.lt Nat _ ca la → Q .next { s with heap := h', toks := tk' }) :
  wpAny (model PySem.Challenge.rw_xg0064_01.row.prog w) (callerA.deeper (envOf (Str.ofString "law") scope L a ccd)) (execs body (envOf (Str.ofString "law") scope L a ccd)) Q (fun _ _ => False) s := by
  w_on
  revert X
  k_fill
  intro X
  have h2 : some (_, _) = some (body, scope) := hb
  cases h2
  clear hb
  dsimp only [List.map, List.drop, List.take, forBody]
  w_strict k_steps
  unfold Stop
  have HA : innerFor 0 5 = some (_, _, _) := rfl
  rename _ ∧ _ => kI
  revert kI
  rename _ ∧ _ => kT
  revert kT
  rename _ ∧ _ => kL
  revert kL
  rename _ ∧ _ => kH
  intro kL kT kI
  have bh := kH.2.2.2.2.2.2.2.1
  have bI := kI.2.2.2.2.2.2.2.2.2.2.1
  have bT := kT.2.2.2.2.2.2.2.2.2.1
  refine' items_kst ?fr (items_mono ?hh ?mm)
  case' hh => refine' itemA HA (nv := nv) (tv := tv) (cv := cv) (rv := rv) (e0 := e0) (e1 := e1) (e2 := e2) (e3 := e3) (oI := oI) (o1 := o1) (o2 := o2) (ps1 := ps1) (ps2 := ps2) (k := k) (front := front) (moved := moved) (mir := mir) (tkk := tkk) (tff := tff) (tmm := tmm) (x := 16 * front + k) (xs := []) (hv := [.int (16 * front + k) _]) (lv := []) (ls := []) (by decide) (by decide) (by omega) (by omega) hnv (.cons _ _ .nil) (by decide) .nil (by decide) B X C1 C2 T S1 S2 b1 b2 b3 b4 b5 b6 b7 kH.2.2.2.2.2.2.2.1 kL.2.2.2.2.2.2.2.2.1 kI.2.2.2.2.2.2.2.2.2.2.1 kT.2.2.2.2.2.2.2.2.2.1 (List.forall_mem_cons.mpr ⟨Nat.ne_of_gt kL.1, List.forall_mem_cons.mpr ⟨Nat.ne_of_lt kH.1, List.forall_mem_cons.mpr ⟨Nat.ne_of_lt kH.2.1, List.forall_mem_cons.mpr ⟨Nat.ne_of_lt kH.2.2.1, List.forall_mem_cons.mpr ⟨Nat.ne_of_lt kH.2.2.2.1, List.forall_mem_cons.mpr ⟨Nat.ne_of_lt kH.2.2.2.2.1, List.forall_mem_cons.mpr ⟨Nat.ne_of_gt kI.2.2.1, List.forall_mem_cons.mpr ⟨Nat.ne_of_gt kT.2.1, List.forall_mem_nil _⟩⟩⟩⟩⟩⟩⟩⟩) (List.forall_mem_cons.mpr ⟨Nat.ne_of_lt kH.2.2.2.2.2.1, List.forall_mem_cons.mpr ⟨x1, List.forall_mem_cons.mpr ⟨x3, List.forall_mem_cons.mpr ⟨Nat.ne_of_lt kI.2.2.2.2.2.2.2.2.1, List.forall_mem_cons.mpr ⟨Nat.ne_of_lt kT.2.2.2.2.2.2.2.1, List.forall_mem_nil _⟩⟩⟩⟩⟩) (List.forall_mem_cons.mpr ⟨Nat.ne_of_lt kH.2.2.2.2.2.2.1, List.forall_mem_cons.mpr ⟨x2, List.forall_mem_cons.mpr ⟨x4, List.forall_mem_cons.mpr ⟨Nat.ne_of_lt kI.2.2.2.2.2.2.2.2.2.1, List.forall_mem_cons.mpr ⟨Nat.ne_of_lt kT.2.2.2.2.2.2.2.2.1, List.forall_mem_nil _⟩⟩⟩⟩⟩) (List.forall_mem_cons.mpr ⟨Nat.ne_of_lt kI.2.2.1, List.forall_mem_cons.mpr ⟨Nat.ne_of_lt kI.2.1, List.forall_mem_cons.mpr ⟨Nat.ne_of_lt kI.2.2.2.1, List.forall_mem_cons.mpr ⟨Nat.ne_of_lt kI.2.2.2.2.1, List.forall_mem_cons.mpr ⟨Nat.ne_of_lt kI.2.2.2.2.2.1, List.forall_mem_cons.mpr ⟨Nat.ne_of_lt kI.2.2.2.2.2.2.1, List.forall_mem_cons.mpr ⟨Nat.ne_of_lt kI.2.2.2.2.2.2.2.1, List.forall_mem_cons.mpr ⟨Nat.ne_of_lt kI.2.2.2.2.2.2.2.2.2.2.1, List.forall_mem_cons.mpr ⟨Nat.ne_of_lt kI.2.2.2.2.2.2.2.2.2.2.2, List.forall_mem_cons.mpr ⟨Nat.ne_of_lt kI.1, List.forall_mem_nil _⟩⟩⟩⟩⟩⟩⟩⟩⟩⟩) ?h2
  case fr => ((refine And.intro (by with_unfolding_all rfl) ?_); (refine And.intro (by with_unfolding_all rfl) ?_); (refine And.intro (by with_unfolding_all rfl) ?_); (refine And.intro (by with_unfolding_all rfl) ?_); (refine And.intro (by with_unfolding_all rfl) ?_); (refine And.intro (by with_unfolding_all rfl) ?_); (refine And.intro (by with_unfolding_all rfl) ?_); (refine And.intro (by with_unfolding_all rfl) ?_); (refine And.intro (by with_unfolding_all rfl) ?_); (refine And.intro (by with_unfolding_all rfl) ?_); (refine And.intro (by with_unfolding_all rfl) ?_); exact trivial)
  case mm => (refine List.forall_mem_cons.mpr ⟨by k_mem, ?_⟩; refine List.forall_mem_cons.mpr ⟨by k_mem, ?_⟩; refine List.forall_mem_cons.mpr ⟨by k_mem, ?_⟩; refine List.forall_mem_cons.mpr ⟨by k_mem, ?_⟩; refine List.forall_mem_cons.mpr ⟨by k_mem, ?_⟩; refine List.forall_mem_cons.mpr ⟨by k_mem, ?_⟩; refine List.forall_mem_cons.mpr ⟨by k_mem, ?_⟩; refine List.forall_mem_cons.mpr ⟨by k_mem, ?_⟩; refine List.forall_mem_cons.mpr ⟨by k_mem, ?_⟩; refine List.forall_mem_cons.mpr ⟨by k_mem, ?_⟩; refine List.forall_mem_cons.mpr ⟨by k_mem, ?_⟩; refine List.forall_mem_cons.mpr ⟨by k_mem, ?_⟩; exact List.forall_mem_nil _)
  intro q0 r0 u0 la0 da0 db0 wa0 wb0 za0 zb0 hv0 lv0 ea0 eb0 tp0 E10 E20 E30 hi0 hs0 sa0 sb0 ta0 tb0 ka0 kb0 lc0 l70 h30 h40
  refine itemA HA (nv := nv) (tv := tv) (cv := cv) (rv := rv) (e0 := e0) (e1 := e1) (e2 := e2) (e3 := e3) (oI := oI) (by decide) (by decide) (by omega) (by omega) hnv hi0 (Nat.le_of_ble_eq_true rfl) hs0 (Nat.le_of_ble_eq_true rfl) B X C1 C2 T sa0 sb0 ta0 tb0 b3 b4 b5 b6 b7 bh l70 bI bT h30 ka0 kb0 h40 ?_
  intro q1 r1 u1 la1 da1 db1 wa1 wb1 za1 zb1 hv1 lv1 ea1 eb1 tp1 E11 E21 E31 hi1 hs1 sa1 sb1 ta1 tb1 ka1 kb1 lc1 l71 h31 h41
  refine itemA HA (nv := nv) (tv := tv) (cv := cv) (rv := rv) (e0 := e0) (e1 := e1) (e2 := e2) (e3 := e3) (oI := oI) (by decide) (by decide) (by omega) (by omega) hnv hi1 (Nat.le_of_ble_eq_true rfl) hs1 (Nat.le_of_ble_eq_true rfl) B X C1 C2 T sa1 sb1 ta1 tb1 b3 b4 b5 b6 b7 bh l71 bI bT h31 ka1 kb1 h41 ?_
  intro q2 r2 u2 la2 da2 db2 wa2 wb2 za2 zb2 hv2 lv2 ea2 eb2 tp2 E12 E22 E32 hi2 hs2 sa2 sb2 ta2 tb2 ka2 kb2 lc2 l72 h32 h42
  refine itemA HA (nv := nv) (tv := tv) (cv := cv) (rv := rv) (e0 := e0) (e1 := e1) (e2 := e2) (e3 := e3) (oI := oI) (by decide) (by decide) (by omega) (by omega) hnv hi2 (Nat.le_of_ble_eq_true rfl) hs2 (Nat.le_of_ble_eq_true rfl) B X C1 C2 T sa2 sb2 ta2 tb2 b3 b4 b5 b6 b7 bh l72 bI bT h32 ka2 kb2 h42 ?_
  intro q3 r3 u3 la3 da3 db3 wa3 wb3 za3 zb3 hv3 lv3 ea3 eb3 tp3 E13 E23 E33 hi3 hs3 sa3 sb3 ta3 tb3 ka3 kb3 lc3 l73 h33 h43
  refine ItemsRest.zero fun h' tk' F' N' => ?_
  dsimp only
  w_strict k_steps
  all_goals (refine' ret q0 q1 q2 q3 r0 r1 r2 r3 _ _ _ _ _ _ _ _ _ _ _ _ _ _ _ _ _ _ _ _ E10 E11 E12 E13 E20 E30 E21 E31 E22 E32 E23 E33 ?pl ?pv ?hav ?lav hi3 hs3 (fr_kst F' ?fr) (news_sub N' ?N) sa3 sb3 ta3 tb3 (ka3 ca (by k_mem)) (kb3 ca (by k_mem)) (ka3 I (by k_mem)) (kb3 I (by k_mem)) kH.2.2.1 lc3; (case fr => ((refine And.intro (by with_unfolding_all rfl) ?_); (refine And.intro (by with_unfolding_all rfl) ?_); (refine And.intro (by with_unfolding_all rfl) ?_); (refine And.intro (by with_unfolding_all rfl) ?_); (refine And.intro (by with_unfolding_all rfl) ?_); (refine And.intro (by with_unfolding_all rfl) ?_); (refine And.intro (by with_unfolding_all rfl) ?_); (refine And.intro (by with_unfolding_all rfl) ?_); (refine And.intro (by with_unfolding_all rfl) ?_); (refine And.intro (by with_unfolding_all rfl) ?_); (refine And.intro (by with_unfolding_all rfl) ?_); exact trivial)); (case pv => exact rfl); (case hav => exact rfl); (case lav => exact rfl); (case pl => omega); (case N => (refine List.forall_mem_cons.mpr ⟨by k_mem, ?_⟩; refine List.forall_mem_cons.mpr ⟨by k_mem, ?_⟩; refine List.forall_mem_cons.mpr ⟨by k_mem, ?_⟩; refine List.forall_mem_cons.mpr ⟨by k_mem, ?_⟩; refine List.forall_mem_cons.mpr ⟨by k_mem, ?_⟩; refine List.forall_mem_cons.mpr ⟨by k_mem, ?_⟩; refine List.forall_mem_cons.mpr ⟨by k_mem, ?_⟩; refine List.forall_mem_cons.mpr ⟨by k_mem, ?_⟩; refine List.forall_mem_cons.mpr ⟨by k_mem, ?_⟩; refine List.forall_mem_cons.mpr ⟨by k_mem, ?_⟩; refine List.forall_mem_cons.mpr ⟨by k_mem, ?_⟩; exact List.forall_mem_nil _)))
end
end
end
noncomputable def nmA (nm : Nat) : Str × Str := [(Str.ofString "a", Str.ofString "b"), (Str.ofString "0", Str.ofString "1"), (Str.ofString "local", Str.ofString "x"), (Str.ofString "B", Str.ofString "-")].getD nm (Str.empty, Str.empty)
noncomputable def lab (nm b : Nat) : Str := [(nmA nm).1, (nmA nm).2].getD b Str.empty
noncomputable def dotS : Str := Str.ofString "."
noncomputable def locS : Str := Str.ofString "local"
noncomputable def J4 (nm k : Nat) : Str := Txt.join dotS [lab nm (k / 8 % 2), lab nm (k / 4 % 2), lab nm (k / 2 % 2), lab nm (k % 2), locS]
noncomputable def J3 (nm k : Nat) : Str := Txt.join dotS [lab nm (k / 4 % 2), lab nm (k / 2 % 2), lab nm (k % 2), locS]
noncomputable def J2 (nm k : Nat) : Str := Txt.join dotS [lab nm (k / 2 % 2), lab nm (k % 2), locS]
noncomputable def J1 (nm k : Nat) : Str := Txt.join dotS [lab nm (k % 2), locS]
noncomputable def J0 : Str := Txt.join dotS [locS]
noncomputable def EN (nm k : Nat) : Str := Txt.join dotS [lab nm (k / 2 % 2), lab nm (k % 2)]
noncomputable def HX (nm k : Nat) : Str := Str.ofString "x." ++ J4 nm k
noncomputable def XE (nm k : Nat) : Str := Str.ofString "x." ++ EN nm k
noncomputable def DE (nm k : Nat) : Str := dotS ++ EN nm k
noncomputable def D4 (nm k : Nat) : Str := dotS ++ J4 nm k
noncomputable def D3 (nm k : Nat) : Str := dotS ++ J3 nm k
noncomputable def D2 (nm k : Nat) : Str := dotS ++ J2 nm k
noncomputable def D1 (nm k : Nat) : Str := dotS ++ J1 nm k
noncomputable def D0 : Str := dotS ++ J0
noncomputable def E2 (nm k : Nat) : Str := if lab nm (k % 2) = locS then Str.ofString ".local" else EN nm k
noncomputable def R3 (nm k : Nat) : Str := if (nmA nm).1 = Str.ofString "0" then XE nm k else DE nm k
noncomputable def reachB (h d : Str) : Bool := decide (h.cps.size ≤ 1000) && decide (h.length ≤ 1000) && (match reHit h with | some hb => decide (reachF hb h = d) | none => false)
theorem reachB_is {h d : Str} (H : reachB h d = true) : ReachIs h d := by
  unfold reachB at H
  simp only [Bool.and_eq_true, decide_eq_true_eq] at H
  obtain ⟨⟨h1, h2⟩, h3⟩ := H
  cases e : reHit h with
  | none => rw [e] at h3; cases h3
  | some hb => rw [e] at h3; exact ⟨h1, h2, hb, e, of_decide_eq_true h3⟩
noncomputable def sliceB (x j : Str) : Bool := decide (Txt.slice x (some 1) none = j) && decide (x.length ≤ 1000)
theorem sliceB_is {x j : Str} (H : sliceB x j = true) : SliceIs x j := by
  unfold sliceB at H
  simp only [Bool.and_eq_true, decide_eq_true_eq] at H
  exact ⟨H.1, Nat.le_trans H.2 (by decide)⟩
theorem q4_0 : ∀ k < 9, reachB (HX 0 k) (D4 0 k) = true := by decide +kernel
theorem q4_1 : ∀ k < 9, reachB (HX 1 k) (D4 1 k) = true := by decide +kernel
theorem q4_2 : ∀ k < 9, reachB (HX 2 k) (D4 2 k) = true := by decide +kernel
theorem q4_3 : ∀ k < 9, reachB (HX 3 k) (D4 3 k) = true := by decide +kernel
theorem q4 (nm : Nat) (hn : nm < 4) (k : Nat) (hk : k < 9) : reachB (HX nm k) (D4 nm k) = true :=
  match nm, hn with
  | 0, _ => q4_0 k hk
  | 1, _ => q4_1 k hk
  | 2, _ => q4_2 k hk
  | 3, _ => q4_3 k hk
  | n + 4, h => absurd h (by omega)
theorem q3_0 : ∀ k < 9, reachB (J4 0 k) (D3 0 k) = true := by decide +kernel
theorem q3_1 : ∀ k < 9, reachB (J4 1 k) (D3 1 k) = true := by decide +kernel
theorem q3_2 : ∀ k < 9, reachB (J4 2 k) (D3 2 k) = true := by decide +kernel
theorem q3_3 : ∀ k < 9, reachB (J4 3 k) (D3 3 k) = true := by decide +kernel
theorem q3 (nm : Nat) (hn : nm < 4) (k : Nat) (hk : k < 9) : reachB (J4 nm k) (D3 nm k) = true :=
  match nm, hn with
  | 0, _ => q3_0 k hk
  | 1, _ => q3_1 k hk
  | 2, _ => q3_2 k hk
  | 3, _ => q3_3 k hk
  | n + 4, h => absurd h (by omega)
theorem q2_0 : ∀ k < 8, reachB (J3 0 k) (D2 0 k) = true := by decide +kernel
theorem q2_1 : ∀ k < 8, reachB (J3 1 k) (D2 1 k) = true := by decide +kernel
theorem q2_2 : ∀ k < 8, reachB (J3 2 k) (D2 2 k) = true := by decide +kernel
theorem q2_3 : ∀ k < 8, reachB (J3 3 k) (D2 3 k) = true := by decide +kernel
theorem q2 (nm : Nat) (hn : nm < 4) (k : Nat) (hk : k < 8) : reachB (J3 nm k) (D2 nm k) = true :=
  match nm, hn with
  | 0, _ => q2_0 k hk
  | 1, _ => q2_1 k hk
  | 2, _ => q2_2 k hk
  | 3, _ => q2_3 k hk
  | n + 4, h => absurd h (by omega)
theorem q1 : ∀ nm < 4, ∀ k < 4, reachB (J2 nm k) (D1 nm k) = true := by decide +kernel
theorem q0 : ∀ nm < 4, ∀ k < 2, reachB (J1 nm k) D0 = true := by decide +kernel
theorem qL : reachB J0 locS = true := by decide +kernel
theorem qE : ∀ nm < 4, ∀ k < 4, reachB (EN nm k) (E2 nm k) = true := by decide +kernel
theorem qX : ∀ nm < 4, ∀ k < 4, reachB (XE nm k) (R3 nm k) = true := by decide +kernel
theorem s4 : ∀ nm < 4, ∀ k < 9, sliceB (D4 nm k) (J4 nm k) = true := by decide +kernel
theorem s3 : ∀ nm < 4, ∀ k < 8, sliceB (D3 nm k) (J3 nm k) = true := by decide +kernel
theorem s2 : ∀ nm < 4, ∀ k < 4, sliceB (D2 nm k) (J2 nm k) = true := by decide +kernel
theorem s1 : ∀ nm < 4, ∀ k < 2, sliceB (D1 nm k) (J1 nm k) = true := by decide +kernel
theorem s0 : sliceB D0 J0 = true := by decide +kernel
noncomputable def cameL (nm : Nat) : Nat → List Str
  | 0 => []
  | k + 1 => cameL nm k ++ [D4 nm k] ++ [D3 nm k] ++ [D2 nm k] ++ [D1 nm k] ++ [D0]
noncomputable def cnt5 (nm k : Nat) : Bool :=
  let c := cameL nm k
  decide (PySem.Spec.countIn (.str (D4 nm k)) (c.map PyData.str) = (k / 16 : Nat)) &&
  decide (PySem.Spec.countIn (.str (D3 nm k)) ((c ++ [D4 nm k]).map PyData.str) = (k / 8 : Nat)) &&
  decide (PySem.Spec.countIn (.str (D2 nm k)) ((c ++ [D4 nm k] ++ [D3 nm k]).map PyData.str) = (k / 4 : Nat)) &&
  decide (PySem.Spec.countIn (.str (D1 nm k)) ((c ++ [D4 nm k] ++ [D3 nm k] ++ [D2 nm k]).map PyData.str) = (k / 2 : Nat)) &&
  decide (PySem.Spec.countIn (.str D0) ((c ++ [D4 nm k] ++ [D3 nm k] ++ [D2 nm k] ++ [D1 nm k]).map PyData.str) = (k : Nat))
theorem cnt_ok0 : ∀ k < 9, cnt5 0 k = true := by decide +kernel
theorem cnt_ok1 : ∀ k < 9, cnt5 1 k = true := by decide +kernel
theorem cnt_ok2 : ∀ k < 9, cnt5 2 k = true := by decide +kernel
theorem cnt_ok3 : ∀ k < 9, cnt5 3 k = true := by decide +kernel
theorem cnt_ok (nm : Nat) (hn : nm < 4) (k : Nat) (hk : k < 9) : cnt5 nm k = true :=
  match nm, hn with
  | 0, _ => cnt_ok0 k hk
  | 1, _ => cnt_ok1 k hk
  | 2, _ => cnt_ok2 k hk
  | 3, _ => cnt_ok3 k hk
  | n + 4, h => absurd h (by omega)
theorem len_ok : ∀ nm < 4, ∀ k < 9, (decide ((cameL nm k).length ≤ 100) && decide ((J4 nm k).length ≤ 1000) && decide ((J3 nm k).length ≤ 1000) && decide ((J2 nm k).length ≤ 1000) && decide ((J1 nm k).length ≤ 1000) && decide (J0.length ≤ 1000) && decide ((EN nm k).length ≤ 1000)) = true := by decide +kernel
theorem lab_ok : ∀ nm < 4, ∀ b < 2, (lab nm b).length ≤ 100 := by decide +kernel
theorem ok_ok : ∀ nm < 4, ∀ k < 4, (PyData.strOk (E2 nm k) && PyData.strOk (R3 nm k)) = true := by decide +kernel
theorem J3_mod (nm k : Nat) : J3 nm (k % 8) = J3 nm k := by
  unfold J3; rw [show k % 8 / 4 % 2 = k / 4 % 2 by omega, show k % 8 / 2 % 2 = k / 2 % 2 by omega, show k % 8 % 2 = k % 2 by omega]
theorem J2_mod8 (nm k : Nat) : J2 nm (k % 8) = J2 nm k := by
  unfold J2; rw [show k % 8 / 2 % 2 = k / 2 % 2 by omega, show k % 8 % 2 = k % 2 by omega]
theorem J2_mod (nm k : Nat) : J2 nm (k % 4) = J2 nm k := by
  unfold J2; rw [show k % 4 / 2 % 2 = k / 2 % 2 by omega, show k % 4 % 2 = k % 2 by omega]
theorem EN_mod (nm k : Nat) : EN nm (k % 4) = EN nm k := by
  unfold EN; rw [show k % 4 / 2 % 2 = k / 2 % 2 by omega, show k % 4 % 2 = k % 2 by omega]
theorem J1_mod4 (nm k : Nat) : J1 nm (k % 4) = J1 nm k := by
  unfold J1; rw [show k % 4 % 2 = k % 2 by omega]
theorem J1_mod (nm k : Nat) : J1 nm (k % 2) = J1 nm k := by
  unfold J1; rw [show k % 2 % 2 = k % 2 by omega]
theorem E2_mod (nm k : Nat) : E2 nm (k % 4) = E2 nm k := by
  unfold E2; rw [EN_mod, show k % 4 % 2 = k % 2 by omega]
theorem R3_mod (nm k : Nat) : R3 nm (k % 4) = R3 nm k := by
  unfold R3 XE DE; rw [EN_mod]
structure HostF (nm k : Nat) : Prop where
  j4 : JoinIs dotS [lab nm (k / 8 % 2), lab nm (k / 4 % 2), lab nm (k / 2 % 2), lab nm (k % 2), locS] (J4 nm k)
  j3 : JoinIs dotS [lab nm (k / 4 % 2), lab nm (k / 2 % 2), lab nm (k % 2), locS] (J3 nm k)
  j2 : JoinIs dotS [lab nm (k / 2 % 2), lab nm (k % 2), locS] (J2 nm k)
  j1 : JoinIs dotS [lab nm (k % 2), locS] (J1 nm k)
  j0 : JoinIs dotS [locS] J0
  jE : JoinIs dotS [lab nm (k / 2 % 2), lab nm (k % 2)] (EN nm k)
  p4 : AddIs dotS (J4 nm k) (D4 nm k)
  p3 : AddIs dotS (J3 nm k) (D3 nm k)
  p2 : AddIs dotS (J2 nm k) (D2 nm k)
  p1 : AddIs dotS (J1 nm k) (D1 nm k)
  p0 : AddIs dotS J0 D0
  hH : AddIs (Str.ofString "x.") (J4 nm k) (HX nm k)
  pX : AddIs (Str.ofString "x.") (EN nm k) (XE nm k)
  pD : AddIs dotS (EN nm k) (DE nm k)
  r4 : ReachIs (HX nm k) (D4 nm k)
  r3 : ReachIs (J4 nm k) (D3 nm k)
  r2 : ReachIs (J3 nm k) (D2 nm k)
  r1 : ReachIs (J2 nm k) (D1 nm k)
  r0 : ReachIs (J1 nm k) D0
  rL : ReachIs J0 locS
  rE : ReachIs (EN nm k) (E2 nm k)
  rX : ReachIs (XE nm k) (R3 nm k)
  s4 : SliceIs (D4 nm k) (J4 nm k)
  s3 : SliceIs (D3 nm k) (J3 nm k)
  s2 : SliceIs (D2 nm k) (J2 nm k)
  s1 : SliceIs (D1 nm k) (J1 nm k)
  s0 : SliceIs D0 J0
  c4 : CountIs (D4 nm k) (cameL nm k) (k / 16 : Nat)
  c3 : CountIs (D3 nm k) (cameL nm k ++ [D4 nm k]) (k / 8 : Nat)
  c2 : CountIs (D2 nm k) (cameL nm k ++ [D4 nm k] ++ [D3 nm k]) (k / 4 : Nat)
  c1 : CountIs (D1 nm k) (cameL nm k ++ [D4 nm k] ++ [D3 nm k] ++ [D2 nm k]) (k / 2 : Nat)
  c0 : CountIs D0 (cameL nm k ++ [D4 nm k] ++ [D3 nm k] ++ [D2 nm k] ++ [D1 nm k]) (k : Nat)
  cl : (cameL nm k).length ≤ 100
  f1 : (lab nm (k % 2) == locS) = true → E2 nm k = Str.ofString ".local"
  f2 : (lab nm (k % 2) == locS) = false → E2 nm k = EN nm k
  f3 : ((nmA nm).1 == Str.ofString "0") = true → R3 nm k = XE nm k
  f4 : ((nmA nm).1 == Str.ofString "0") = false → R3 nm k = DE nm k
  k2 : PyData.strOk (E2 nm k) = true
  k3 : PyData.strOk (R3 nm k) = true
theorem add_of {x y : Str} (h : y.length ≤ 1000) (hx : x.length ≤ 1000) : AddIs x y (x ++ y) := ⟨rfl, by rw [sizeLine_eq]; omega⟩
theorem join_of {ys : List Str} (h : ∀ y ∈ ys, y.length ≤ 100) (hn : ys.length ≤ 100) : JoinIs dotS ys (Txt.join dotS ys) := ⟨rfl, by
  have e : ∀ l : List Str, (∀ y ∈ l, y.length ≤ 100) → (l.map (·.length)).sum ≤ 100 * l.length := by
    intro l
    induction l with
    | nil => intro _; exact Nat.le_refl _
    | cons y l ih =>
      intro h
      have h1 := h y (.head _)
      have h2 := ih fun z hz => h z (.tail _ hz)
      simp only [List.map_cons, List.sum_cons, List.length_cons]
      omega
  have := e ys h
  omega⟩
theorem host_ok (nm k : Nat) (hn : nm < 4) (hk : k < 9) : HostF nm k := by
  have hl := len_ok nm hn k hk
  have hc := cnt_ok nm hn k hk
  unfold cnt5 at hc
  simp only [Bool.and_eq_true, decide_eq_true_eq] at hl hc
  obtain ⟨⟨⟨⟨⟨⟨hl1, hl2⟩, hl3⟩, hl4⟩, hl5⟩, hl6⟩, hl7⟩ := hl
  obtain ⟨⟨⟨⟨c4, c3⟩, c2⟩, c1⟩, c0⟩ := hc
  have a3 := lab_ok nm hn (k / 8 % 2) (by omega)
  have a2 := lab_ok nm hn (k / 4 % 2) (by omega)
  have a1 := lab_ok nm hn (k / 2 % 2) (by omega)
  have a0 := lab_ok nm hn (k % 2) (by omega)
  have al : locS.length ≤ 100 := by decide +kernel
  have dl : dotS.length ≤ 1000 := by decide +kernel
  have xl : (Str.ofString "x.").length ≤ 1000 := by decide +kernel
  have z2 := q2 nm hn (k % 8) (by omega)
  have z1 := q1 nm hn (k % 4) (by omega)
  have z0 := q0 nm hn (k % 2) (by omega)
  have zE := qE nm hn (k % 4) (by omega)
  have zX := qX nm hn (k % 4) (by omega)
  have y3 := Mine.s3 nm hn (k % 8) (by omega)
  have y2 := Mine.s2 nm hn (k % 4) (by omega)
  have y1 := Mine.s1 nm hn (k % 2) (by omega)
  have o := ok_ok nm hn (k % 4) (by omega)
  rw [E2_mod, R3_mod, Bool.and_eq_true] at o
  rw [J3_mod, show D2 nm (k % 8) = D2 nm k by unfold D2; rw [J2_mod8]] at z2
  rw [J2_mod, show D1 nm (k % 4) = D1 nm k by unfold D1; rw [J1_mod4]] at z1
  rw [J1_mod] at z0
  rw [EN_mod, E2_mod] at zE
  rw [R3_mod, show XE nm (k % 4) = XE nm k by unfold XE; rw [EN_mod]] at zX
  rw [J3_mod, show D3 nm (k % 8) = D3 nm k by unfold D3; rw [J3_mod]] at y3
  rw [J2_mod, show D2 nm (k % 4) = D2 nm k by unfold D2; rw [J2_mod]] at y2
  rw [J1_mod, show D1 nm (k % 2) = D1 nm k by unfold D1; rw [J1_mod]] at y1
  have m5 : ∀ y ∈ [lab nm (k / 8 % 2), lab nm (k / 4 % 2), lab nm (k / 2 % 2), lab nm (k % 2), locS], y.length ≤ 100 := List.forall_mem_cons.mpr ⟨a3, List.forall_mem_cons.mpr ⟨a2, List.forall_mem_cons.mpr ⟨a1, List.forall_mem_cons.mpr ⟨a0, List.forall_mem_cons.mpr ⟨al, List.forall_mem_nil _⟩⟩⟩⟩⟩
  exact { j4 := join_of m5 (Nat.le_of_ble_eq_true rfl), j3 := join_of (fun y hy => m5 y (.tail _ hy)) (Nat.le_of_ble_eq_true rfl), j2 := join_of (fun y hy => m5 y (.tail _ (.tail _ hy))) (Nat.le_of_ble_eq_true rfl), j1 := join_of (fun y hy => m5 y (.tail _ (.tail _ (.tail _ hy)))) (Nat.le_of_ble_eq_true rfl), j0 := join_of (fun y hy => m5 y (.tail _ (.tail _ (.tail _ (.tail _ hy))))) (Nat.le_of_ble_eq_true rfl),
          jE := join_of (List.forall_mem_cons.mpr ⟨a1, List.forall_mem_cons.mpr ⟨a0, List.forall_mem_nil _⟩⟩) (Nat.le_of_ble_eq_true rfl),
          p4 := add_of hl2 dl, p3 := add_of hl3 dl, p2 := add_of hl4 dl, p1 := add_of hl5 dl, p0 := add_of hl6 dl, hH := add_of hl2 xl, pX := add_of hl7 xl, pD := add_of hl7 dl,
          r4 := reachB_is (q4 nm hn k hk), r3 := reachB_is (q3 nm hn k hk), r2 := reachB_is z2, r1 := reachB_is z1, r0 := reachB_is z0, rL := reachB_is qL, rE := reachB_is zE, rX := reachB_is zX,
          s4 := sliceB_is (Mine.s4 nm hn k hk), s3 := sliceB_is y3, s2 := sliceB_is y2, s1 := sliceB_is y1, s0 := sliceB_is Mine.s0,
          c4 := c4, c3 := c3, c2 := c2, c1 := c1, c0 := c0, cl := hl1,
          f1 := fun h => if_pos (eq_of_beq h), f2 := fun h => if_neg (fun e => by rw [e] at h; simp at h), f3 := fun h => if_pos (eq_of_beq h), f4 := fun h => if_neg (fun e => by rw [e] at h; simp at h), k2 := o.1, k3 := o.2 }
noncomputable def plF (k : Nat) : Nat := 8 * (k % 2) + 4 * (k / 2 % 2) + 2 * (k / 4 % 2) + k / 8 % 2
noncomputable def ptF (mir : Bool) (M : Nat) : Nat := if mir then (16 - M % 16) % 16 else M % 16
noncomputable def rowL (mir : Bool) (m : Nat) : Nat → List Int
  | 0 => []
  | k + 1 => sortI (rowL mir m k ++ [(ptF mir (plF k + m) : Int)])

theorem sur_all : ∀ m < 16, ∀ k < 9, (decide (surF (rowL true m (k + 1)) = dueF ((k : Int) + 1)) && decide (surF (rowL false m (k + 1)) = dueF ((k : Int) + 1))) = true := by decide +kernel
noncomputable def hueB (M : Nat) : Bool := (Float64.isNaN (Float64.mul (qf M 16) 4618441417868443648) == false && Float64.isInf (Float64.mul (qf M 16) 4618441417868443648) == false && decide ((hsvI (qf M 16)).natAbs < 100) && Float64.isInf (qf M 16) == false &&
  decide ((hsvI (qf M 16)).fmod 6 = (hsvI (qf (M % 16 : Nat) 16)).fmod 6) && decide (Float64.sub (Float64.mul (qf M 16) 4618441417868443648) (Float64.ofInt (hsvI (qf M 16))) = Float64.sub (Float64.mul (qf (M % 16 : Nat) 16) 4618441417868443648) (Float64.ofInt (hsvI (qf (M % 16 : Nat) 16)))))
theorem hue_all : ∀ M < 79, hueB M = true := by decide +kernel
noncomputable def ptB (p : Nat) : Bool := (Float64.isInf (qf p 16) == false && ((Float64.cmp (qf p 16) (qf p 16) != some Ordering.eq) == false) && Float64.isNaN (Float64.mul (qf p 16) (Float64.ofInt 16)) == false && Float64.isInf (Float64.mul (qf p 16) (Float64.ofInt 16)) == false && decide (Flt.toInt Float64.truncOf (Float64.mul (qf p 16) (Float64.ofInt 16)) = p))
theorem pt_all : ∀ p < 16, ptB p = true := by decide +kernel
noncomputable def svB (t : Nat) : Bool := (Float64.isInf (qf (1 + (t % 4 : Nat)) 4) == false && Float64.isInf (qf (1 + (t / 4 : Nat)) 4) == false)
theorem sv_all : ∀ t < 16, svB t = true := by decide +kernel
theorem col_0 : ∀ t < 16, (colourOk false 0 t && colourOk true 0 t) = true := by decide +kernel
theorem col_1 : ∀ t < 16, (colourOk false 1 t && colourOk true 1 t) = true := by decide +kernel
theorem col_2 : ∀ t < 16, (colourOk false 2 t && colourOk true 2 t) = true := by decide +kernel
theorem col_3 : ∀ t < 16, (colourOk false 3 t && colourOk true 3 t) = true := by decide +kernel
theorem col_4 : ∀ t < 16, (colourOk false 4 t && colourOk true 4 t) = true := by decide +kernel
theorem col_5 : ∀ t < 16, (colourOk false 5 t && colourOk true 5 t) = true := by decide +kernel
theorem col_6 : ∀ t < 16, (colourOk false 6 t && colourOk true 6 t) = true := by decide +kernel
theorem col_7 : ∀ t < 16, (colourOk false 7 t && colourOk true 7 t) = true := by decide +kernel
theorem col_8 : ∀ t < 16, (colourOk false 8 t && colourOk true 8 t) = true := by decide +kernel
theorem col_9 : ∀ t < 16, (colourOk false 9 t && colourOk true 9 t) = true := by decide +kernel
theorem col_10 : ∀ t < 16, (colourOk false 10 t && colourOk true 10 t) = true := by decide +kernel
theorem col_11 : ∀ t < 16, (colourOk false 11 t && colourOk true 11 t) = true := by decide +kernel
theorem col_12 : ∀ t < 16, (colourOk false 12 t && colourOk true 12 t) = true := by decide +kernel
theorem col_13 : ∀ t < 16, (colourOk false 13 t && colourOk true 13 t) = true := by decide +kernel
theorem col_14 : ∀ t < 16, (colourOk false 14 t && colourOk true 14 t) = true := by decide +kernel
theorem col_15 : ∀ t < 16, (colourOk false 15 t && colourOk true 15 t) = true := by decide +kernel
theorem col_all (mir : Bool) (m t : Nat) (hm : m < 16) (ht : t < 16) : colourOk mir m t = true := by
  have h : (colourOk false m t && colourOk true m t) = true := by
    match m, hm with
    | 0, _ => exact col_0 t ht
    | 1, _ => exact col_1 t ht
    | 2, _ => exact col_2 t ht
    | 3, _ => exact col_3 t ht
    | 4, _ => exact col_4 t ht
    | 5, _ => exact col_5 t ht
    | 6, _ => exact col_6 t ht
    | 7, _ => exact col_7 t ht
    | 8, _ => exact col_8 t ht
    | 9, _ => exact col_9 t ht
    | 10, _ => exact col_10 t ht
    | 11, _ => exact col_11 t ht
    | 12, _ => exact col_12 t ht
    | 13, _ => exact col_13 t ht
    | 14, _ => exact col_14 t ht
    | 15, _ => exact col_15 t ht
    | n + 16, h => exact absurd h (by omega)
  rw [Bool.and_eq_true] at h
  cases mir
  · exact h.1
  · exact h.2
theorem hsvF_congr {h h' : UInt64} (s v : UInt64) (hi : (hsvI h).fmod 6 = (hsvI h').fmod 6) (hf : Float64.sub (Float64.mul h 4618441417868443648) (Float64.ofInt (hsvI h)) = Float64.sub (Float64.mul h' 4618441417868443648) (Float64.ofInt (hsvI h'))) : hsvF h s v = hsvF h' s v := by
  unfold hsvF
  simp only [hi, hf]
structure HueF (M : Nat) : Prop where
  nan : Float64.isNaN (Float64.mul (qf M 16) 4618441417868443648) = false
  inf : Float64.isInf (Float64.mul (qf M 16) 4618441417868443648) = false
  small : (hsvI (qf M 16)).natAbs < 100
  fin : Float64.isInf (qf M 16) = false
  same : ∀ s v, hsvF (qf M 16) s v = hsvF (qf (M % 16 : Nat) 16) s v
theorem hue_ok (M : Nat) (h : M < 79) : HueF M := by
  have H := hue_all M h
  unfold hueB at H
  simp only [Bool.and_eq_true, decide_eq_true_eq, beq_iff_eq] at H
  obtain ⟨⟨⟨⟨⟨h1, h2⟩, h3⟩, h4⟩, h5⟩, h6⟩ := H
  exact ⟨h1, h2, h3, h4, fun s v => hsvF_congr s v h5 h6⟩
/-- all that the blocks D and E ask of a turn's colours -/
structure ColF (mir : Bool) (M : Nat) (sh va : Int) (hF sF vF r g b x y z : UInt64) : Prop where
  dh : DivIs M 16 hF
  ds : DivIs sh 4 sF
  dv : DivIs va 4 vF
  kh : HsvIs hF sF vF r g b
  kl1 : mir = true → HlsIs r b g x y z
  kl2 : mir = false → HlsIs r g b x y z
  q1 : (Float64.cmpInt (Float64.mul y (Float64.ofInt 32)) (va * (8 - sh)) != some Ordering.eq) = false
  q2 : TruncIs (Float64.add (Float64.mul (Float64.mul z (if (Float64.cmp (Float64.sub (Float64.ofInt 1) y) y == some Ordering.lt) = true then Float64.sub (Float64.ofInt 1) y else y)) (Float64.ofInt 32)) 4602678819172646912) (sh * va)
  q3 : TruncIs (Float64.mul x (Float64.ofInt 16)) (ptF mir M : Nat)
  dp : DivIs (ptF mir M : Nat) 16 x
  xx : (Float64.cmp x x != some Ordering.eq) = false
theorem ptF_lt (mir : Bool) (M : Nat) : ptF mir M < 16 := by
  unfold ptF; split <;> omega
theorem ptF_mod (mir : Bool) (M : Nat) : ptF mir (M % 16) = ptF mir M := by
  unfold ptF; rw [Nat.mod_mod]
theorem end_facts {pt sh va : Int} {q : UInt64 × UInt64 × UInt64} (h : endOk pt sh va q = true) : (Float64.cmpInt (Float64.mul q.2.1 (Float64.ofInt 32)) (va * (8 - sh)) != some Ordering.eq) = false ∧ TruncIs (fullF q.2.1 q.2.2) (sh * va) ∧ q.1 = qf pt 16 := by
  unfold endOk at h
  simp only [Bool.and_eq_true, beq_iff_eq] at h
  obtain ⟨⟨⟨⟨h1, h2⟩, h3⟩, h4⟩, h5⟩ := h
  exact ⟨by rw [h1]; rfl, ⟨h2, h3, h4⟩, h5⟩
theorem hls_facts {r g b : UInt64} (h : hlsOk r g b = true) : HlsIs r g b (hlsF r g b).1 (hlsF r g b).2.1 (hlsF r g b).2.2 := by
  unfold hlsOk at h
  simp only [Bool.and_eq_true, beq_iff_eq] at h
  obtain ⟨⟨⟨h1, h2⟩, h3⟩, h4⟩ := h
  exact ⟨h1, h2, h3, h4, rfl⟩
theorem col_ok (mir : Bool) (M t : Nat) (hM : M < 79) (ht : t < 16) : ∃ hF sF vF r g b x y z, ColF mir M (1 + (t % 4 : Nat)) (1 + (t / 4 : Nat)) hF sF vF r g b x y z := by
  have hu := hue_ok M hM
  have hc := col_all mir (M % 16) t (by omega) ht
  have hp := pt_all (ptF mir M) (ptF_lt mir M)
  have hs := sv_all t ht
  unfold ptB at hp
  unfold svB at hs
  unfold colourOk at hc
  simp only [Bool.and_eq_true, decide_eq_true_eq, beq_iff_eq] at hp hs
  obtain ⟨⟨⟨⟨p1, p2⟩, p3⟩, p4⟩, p5⟩ := hp
  dsimp only at hc
  rw [← hu.same] at hc
  refine ⟨qf M 16, qf (1 + (t % 4 : Nat)) 4, qf (1 + (t / 4 : Nat)) 4, (hsvF (qf M 16) (qf (1 + (t % 4 : Nat)) 4) (qf (1 + (t / 4 : Nat)) 4)).1, (hsvF (qf M 16) (qf (1 + (t % 4 : Nat)) 4) (qf (1 + (t / 4 : Nat)) 4)).2.1, (hsvF (qf M 16) (qf (1 + (t % 4 : Nat)) 4) (qf (1 + (t / 4 : Nat)) 4)).2.2, ?_⟩
  revert hc
  generalize hc0 : hsvF (qf M 16) (qf (1 + (t % 4 : Nat)) 4) (qf (1 + (t / 4 : Nat)) 4) = c
  intro hc
  rw [Bool.and_eq_true] at hc
  obtain ⟨h1, h2⟩ := hc
  have h1 : (Float64.cmp (qf (1 + (t % 4 : Nat)) 4) 0 == some Ordering.eq) = false := eq_of_beq h1
  cases mir with
  | true =>
    rw [if_pos rfl, if_pos rfl, Bool.and_eq_true] at h2
    obtain ⟨h3, h4⟩ := h2
    obtain ⟨e1, e2, e3⟩ := end_facts h4
    have ep : (((16 - M % 16 % 16) % 16 : Nat) : Int) = (ptF true M : Nat) := by
      rw [Nat.mod_mod]; rfl
    rw [ep] at e3
    refine ⟨(hlsF c.1 c.2.2 c.2.1).1, (hlsF c.1 c.2.2 c.2.1).2.1, (hlsF c.1 c.2.2 c.2.1).2.2, ⟨by decide, hu.fin, rfl⟩, ⟨by decide, hs.1, rfl⟩, ⟨by decide, hs.2, rfl⟩, ⟨h1, hu.nan, hu.inf, hu.small, hc0⟩, fun _ => hls_facts h3, (fun h => nomatch h), e1, e2, ?_, ?_, ?_⟩
    · rw [e3]; exact ⟨p3, p4, p5⟩
    · exact ⟨by decide, p1, e3.symm⟩
    · rw [e3]; exact p2
  | false =>
    rw [if_neg (by decide), if_neg (by decide), Bool.and_eq_true] at h2
    obtain ⟨h3, h4⟩ := h2
    obtain ⟨e1, e2, e3⟩ := end_facts h4
    have ep : ((M % 16 % 16 : Nat) : Int) = (ptF false M : Nat) := by
      rw [Nat.mod_mod]; rfl
    rw [ep] at e3
    refine ⟨(hlsF c.1 c.2.1 c.2.2).1, (hlsF c.1 c.2.1 c.2.2).2.1, (hlsF c.1 c.2.1 c.2.2).2.2, ⟨by decide, hu.fin, rfl⟩, ⟨by decide, hs.1, rfl⟩, ⟨by decide, hs.2, rfl⟩, ⟨h1, hu.nan, hu.inf, hu.small, hc0⟩, (fun h => nomatch h), fun _ => hls_facts h3, e1, e2, ?_, ?_, ?_⟩
    · rw [e3]; exact ⟨p3, p4, p5⟩
    · exact ⟨by decide, p1, e3.symm⟩
    · rw [e3]; exact p2
/-- the row's facts -/
structure RowF (mir : Bool) (m k : Nat) : Prop where
  srt : SortIs (rowL mir m k ++ [(ptF mir (plF k + m) : Int)]) (rowL mir m (k + 1))
  len : (rowL mir m k).length = k
  len' : (rowL mir m (k + 1)).length = k + 1
  rng : ∀ z ∈ rowL mir m (k + 1), 0 ≤ z ∧ z ≤ 15
  sur : surF (rowL mir m (k + 1)) = dueF ((k : Int) + 1)
theorem rowL_len (mir : Bool) (m : Nat) : ∀ k, (rowL mir m k).length = k
  | 0 => rfl
  | k + 1 => by rw [rowL, (sortI_perm _).length_eq, List.length_append, rowL_len mir m k, List.length_singleton]
theorem rowL_in (mir : Bool) (m : Nat) : ∀ k, ∀ z ∈ rowL mir m k, 0 ≤ z ∧ z ≤ 15
  | 0, z, h => nomatch h
  | k + 1, z, h => by
    rw [rowL] at h
    have h := (sortI_perm _).mem_iff.mp h
    rcases List.mem_append.mp h with h | h
    · exact rowL_in mir m k z h
    · rw [List.mem_singleton.mp h]
      have := ptF_lt mir (plF k + m)
      omega
theorem rowL_mod (mir : Bool) (m : Nat) : ∀ k, rowL mir (m % 16) k = rowL mir m k
  | 0 => rfl
  | k + 1 => by
    have e : ptF mir (plF k + m % 16) = ptF mir (plF k + m) := by rw [← ptF_mod mir (plF k + m % 16), ← ptF_mod mir (plF k + m)]; congr 1; omega
    rw [rowL, rowL, rowL_mod mir m k, e]
theorem row_ok (mir : Bool) (m k : Nat) (hk : k < 9) : RowF mir m k := by
  refine ⟨⟨sortI_perm _, sortI_rises _⟩, rowL_len mir m k, rowL_len mir m (k + 1), rowL_in mir m (k + 1), ?_⟩
  have h := sur_all (m % 16) (by omega) k hk
  rw [rowL_mod, rowL_mod] at h
  simp only [Bool.and_eq_true, decide_eq_true_eq] at h
  cases mir
  · exact h.2
  · exact h.1
theorem pl_spot (mir : Bool) (m k : Nat) (_ : k < 9) : (mir = true → (-(ptF mir (plF k + m) : Int) - m).fmod 16 = plF k) ∧ (mir = false → ((ptF mir (plF k + m) : Int) - m).fmod 16 = plF k) ∧ plF k < 16 := by
  have hb : plF k < 16 := by unfold plF; omega
  generalize plF k = p at *
  refine ⟨fun h => ?_, fun h => ?_, hb⟩
  · subst h
    rw [Int.fmod_eq_emod_of_nonneg _ (by decide)]
    have e : ptF true (p + m) = (16 - (p + m) % 16) % 16 := rfl
    rw [e]; omega
  · subst h
    rw [Int.fmod_eq_emod_of_nonneg _ (by decide)]
    have e : ptF false (p + m) = (p + m) % 16 := rfl
    rw [e]; omega
theorem execs_step {M : Model} {A : Around} {E : Value → Shared → Prop} {env : Env} {Q : Flow → Shared → Prop} {l : List Stmt} {s : Shared} {i n : Nat}
    (h : wpAny M A (execs ((l.drop i).take n) env) (fun f s' => match f with | .next => wpAny M A (execs (l.drop (i + n)) env) Q E s' | f => Q f s') E s) : wpAny M A (execs (l.drop i) env) Q E s := by
  have e : l.drop i = (l.drop i).take n ++ l.drop (i + n) := by rw [← List.drop_drop, List.take_append_drop]
  rw [e]
  exact execs_append h
theorem law_len {b : List Stmt} {sc : Scope} (hl : lawDef = some (b, sc)) : (forBody b).length = 21 := by
  have h2 : some (_, _) = some (b, sc) := hl
  cases h2
  rfl
theorem ints5 {vs : List Value} {a b c d e : Int} (h : IntsAre vs [a, b, c, d, e]) : ∃ t0 t1 t2 t3 t4, vs = [.int a t0, .int b t1, .int c t2, .int d t3, .int e t4] := by
  cases h with | cons _ t0 h => cases h with | cons _ t1 h => cases h with | cons _ t2 h => cases h with | cons _ t3 h => cases h with | cons _ t4 h => cases h; exact ⟨_, _, _, _, _, rfl⟩
theorem strs4 {vs : List Value} {a b c d : Str} (h : StrsAre vs [a, b, c, d]) : ∃ t0 t1 t2 t3, vs = [.str a t0, .str b t1, .str c t2, .str d t3] := by
  cases h with | cons _ t0 h => cases h with | cons _ t1 h => cases h with | cons _ t2 h => cases h with | cons _ t3 h => cases h; exact ⟨_, _, _, _, rfl⟩
theorem bit1 {k : Nat} {r s : Int} (h : (k : Int) = r + 2 * s) (h0 : 0 ≤ r) (h1 : r ≤ 1) : r = ((k % 2 : Nat) : Int) ∧ ((k / 2 : Nat) : Int) = s := by omega
theorem bits_of {k : Nat} {front q1 q2 q3 q4 r0 r1 r2 r3 : Int} (hk : k < 9) (E1 : 16 * front + k = 2 * q1 + r0) (E2 : q1 = 2 * q2 + r1) (E3 : q2 = 2 * q3 + r2) (E4 : q3 = 2 * q4 + r3) (E5 : 0 ≤ r0) (E6 : r0 ≤ 1) (E7 : 0 ≤ r1) (E8 : r1 ≤ 1) (E9 : 0 ≤ r2) (E10 : r2 ≤ 1) (E11 : 0 ≤ r3) (E12 : r3 ≤ 1) :
    r3 = ((k / 8 % 2 : Nat) : Int) ∧ r2 = ((k / 4 % 2 : Nat) : Int) ∧ r1 = ((k / 2 % 2 : Nat) : Int) ∧ r0 = ((k % 2 : Nat) : Int) ∧ 8 * r0 + 4 * r1 + 2 * r2 + r3 = (plF k : Nat) ∧ ((k / 16 : Nat) : Int) = q4 - front * 1 ∧ ((k / 8 : Nat) : Int) = q3 - front * 2 ∧ ((k / 4 : Nat) : Int) = q2 - front * 4 ∧ ((k / 2 : Nat) : Int) = q1 - front * 8 := by
  have hq : q4 = front := by omega
  subst hq E2 E3 E4
  have h : (k : Int) = r0 + 2 * (r1 + 2 * (r2 + 2 * (r3 + 2 * 0))) := by omega
  obtain ⟨g0, e1⟩ := bit1 h E5 E6
  obtain ⟨g1, e2⟩ := bit1 e1 E7 E8
  obtain ⟨g2, e3⟩ := bit1 e2 E9 E10
  obtain ⟨g3, e4⟩ := bit1 e3 E11 E12
  rw [Nat.div_div_eq_div_mul] at e2 e3 e4 g2 g3
  rw [Nat.div_div_eq_div_mul] at e3 e4 g3
  rw [Nat.div_div_eq_div_mul] at e4
  have hp : plF k = 8 * (k % 2) + 4 * (k / 2 % 2) + 2 * (k / 4 % 2) + k / 8 % 2 := rfl
  refine ⟨g3, g2, g1, g0, ?_, ?_, ?_, ?_, ?_⟩
  · rw [hp, g0, g1, g2, g3]; simp only [Int.natCast_add, Int.natCast_mul]; rfl
  · rw [e4]; clear e1 e2 e3 e4 g0 g1 g2 g3 h E1; omega
  · rw [e3]; clear e1 e2 e3 e4 g0 g1 g2 g3 h E1; omega
  · rw [e2]; clear e1 e2 e3 e4 g0 g1 g2 g3 h E1; omega
  · rw [e1]; clear e1 e2 e3 e4 g0 g1 g2 g3 h E1; omega
theorem turn_ok {w : World} {p : Program} {loose : List Str} {mean : ExcName → Option Value} {mg mb : Str → Option Value}
  {a : Addr} {ccd : Value} {base h₀ : Heap} {L : Addr} {s : Shared} {Q : Flow → Shared → Prop} {b : List Stmt} {sc : Scope} (hl : lawDef = some (b, sc))
  {u : Str → Option Value} (nm k m : Nat) {front : Int} {mir : Bool} (hnm : nm < 4) (hk : k < 9) (hm : m < 64) (hf0 : -4 ≤ front) (hf4 : front ≤ 4)
  {tkk tff tmm u5 u6 : Tok} {na ta ca ra I : Addr} {tv cv rv : List Value} {tones : List Int} {e0 e1 e2 e3 : Nat} {oI : Obj} {ps1 ps2 : Array Value} {c1 c2 : Addr} {o1 o2 : Obj}
  (htl : tones.length = 9) (htr : ∀ x ∈ tones, 0 ≤ x ∧ x ≤ 15) (htv : IntsAre tv tones) (hcv : StrsAre cv (cameL nm k)) (hrv : IntsAre rv (rowL mir m k))
  (B : Below callerA base [] h₀) (X : (Mine.hd.heap_39 w.params).In h₀) (C1 : CodeHd base 77 73) (C2 : CodeHd base 70 66) (T : Top p loose mean mg mb h₀)
  (F : Fr h₀ L s.heap (kstB u [(Str.ofString "k", .int (k : Nat) tkk), (Str.ofString "front", .int front tff), (Str.ofString "moved", .int (m : Nat) tmm), (Str.ofString "mirrored", .bool mir), (Str.ofString "names", .ref na), (Str.ofString "tones", .ref ta), (Str.ofString "came", .ref ca), (Str.ofString "row", .ref ra)]))
  (N : News h₀ L s.heap [(na, listOf (List.toArray [.str (nmA nm).1 u5, .str (nmA nm).2 u6]) e0), (ta, listOf tv.toArray e1), (ca, listOf cv.toArray e2), (ra, listOf rv.toArray e3), (I, oI), (c1, o1), (c2, o2), (73, tabObj ps1), (66, tabObj ps2)])
  (S1 : TabSt pos73 q73 ps1 c1 o1) (S2 : TabSt pos66 q66 ps2 c2 o2) (b1 : @LT.lt Nat _ 73 c1) (b2 : @LT.lt Nat _ 73 c2) (b3 : @LT.lt Nat _ 73 na) (b4 : @LT.lt Nat _ 73 ta) (b5 : @LT.lt Nat _ 73 ca) (b6 : @LT.lt Nat _ 73 ra) (b7 : @LT.lt Nat _ 73 I)
  (x1 : c1 ≠ ca) (x2 : c2 ≠ ca) (x3 : c1 ≠ I) (x4 : c2 ≠ I) (z1 : @LT.lt Nat _ na ca) (z2 : @LT.lt Nat _ ta ca) (z3 : @LT.lt Nat _ ca ra) (z4 : @LT.lt Nat _ ca I)
  (ret : ∀ (u' : Str → Option Value) (ra' d1 d2 : Addr) (w1 w2 : Obj) (y1 y2 : Array Value) (rav : Value) (cv' rv' : List Value) (e2' e3' : Nat) (h' : Heap) (tk' : Nat), rav = .ref ra' → StrsAre cv' (cameL nm (k + 1)) → IntsAre rv' (rowL mir m (k + 1)) →
    TabSt pos73 q73 y1 d1 w1 → TabSt pos66 q66 y2 d2 w2 → @LT.lt Nat _ 73 d1 → @LT.lt Nat _ 73 d2 → d1 ≠ ca → d2 ≠ ca → d1 ≠ I → d2 ≠ I → @LT.lt Nat _ ca ra' → @LT.lt Nat _ I ra' →
    Fr h₀ L h' (kstB u' [(Str.ofString "k", .int (k : Nat) tkk), (Str.ofString "front", .int front tff), (Str.ofString "moved", .int (m : Nat) tmm), (Str.ofString "mirrored", .bool mir), (Str.ofString "names", .ref na), (Str.ofString "tones", .ref ta), (Str.ofString "came", .ref ca), (Str.ofString "row", rav)]) → News h₀ L h' [(na, listOf (List.toArray [.str (nmA nm).1 u5, .str (nmA nm).2 u6]) e0), (ta, listOf tv.toArray e1), (ca, listOf cv'.toArray e2'), (ra', listOf rv'.toArray e3'), (I, oI), (d1, w1), (d2, w2), (73, tabObj y1), (66, tabObj y2)] → Q .next { s with heap := h', toks := tk' }) :
  wpAny (model PySem.Challenge.rw_xg0064_01.row.prog w) (callerA.deeper (envOf (Str.ofString "law") sc L a ccd)) (execs (forBody b) (envOf (Str.ofString "law") sc L a ccd)) Q (fun _ _ => False) s := by
  have hp : ∀ i n, turnPart i n = some (((forBody b).drop i).take n, sc) := fun i n => by unfold turnPart; rw [hl]; rfl
  have hk0 : 0 ≤ (k : Int) := by omega
  have hk8 : (k : Int) ≤ 8 := by omega
  have hm0 : 0 ≤ (m : Int) := by omega
  have hm1 : (m : Int) ≤ 63 := by omega
  have hnv : StrsAre [.str (nmA nm).1 u5, .str (nmA nm).2 u6] [(nmA nm).1, (nmA nm).2] := .cons _ _ (.cons _ _ .nil)
  have hf := host_ok nm k hnm hk
  have hr := row_ok mir m k hk
  obtain ⟨sp1, sp2, sp3⟩ := pl_spot mir m k hk
  have htk : tones.getD k 0 ∈ tones := by
    rw [List.getD_eq_getElem?_getD, List.getElem?_eq_getElem (by omega)]
    exact List.getElem_mem _
  have ht := htr _ htk
  obtain ⟨t, et⟩ : ∃ t : Nat, tones.getD (k : Int).toNat 0 = (t : Int) := ⟨(tones.getD k 0).toNat, by rw [Int.toNat_natCast, Int.toNat_of_nonneg ht.1]⟩
  have ht16 : t < 16 := by
    rw [Int.toNat_natCast] at et
    omega
  have esh : 1 + (tones.getD (k : Int).toNat 0).fmod 4 = 1 + (t % 4 : Nat) := by rw [et, Int.fmod_eq_emod_of_nonneg _ (by decide)]; omega
  have eva : 1 + (tones.getD (k : Int).toNat 0).fdiv 4 = 1 + (t / 4 : Nat) := by rw [et, Int.fdiv_eq_ediv_of_nonneg _ (by decide)]; omega
  obtain ⟨hF, sF, vF, r, g, bl, x, y, z, col⟩ := col_ok mir (plF k + m) t (by omega) ht16
  rw [← esh, ← eva] at col
  have hdh := col.dh
  rw [Int.natCast_add] at hdh
  show wpAny _ _ (execs ((forBody b).drop 0) _) _ _ _
  refine execs_step (i := 0) (n := 5) ?_
  refine blockA (hp 0 5) hk0 hk8 hf0 hf4 hm0 hm1 hnv htv hcv hrv B X C1 C2 T (fr_kst F (by ((refine And.intro (by with_unfolding_all rfl) ?_); (refine And.intro (by with_unfolding_all rfl) ?_); (refine And.intro (by with_unfolding_all rfl) ?_); (refine And.intro (by with_unfolding_all rfl) ?_); (refine And.intro (by with_unfolding_all rfl) ?_); (refine And.intro (by with_unfolding_all rfl) ?_); (refine And.intro (by with_unfolding_all rfl) ?_); (refine And.intro (by with_unfolding_all rfl) ?_); exact trivial))) N S1 S2 b1 b2 b3 b4 b5 b6 b7 x1 x2 x3 x4 ?_
  clear F N S1 S2 b1 b2 x1 x2 x3 x4
  intro q1 q2 q3 q4 r0 r1 r2 r3 pl u1 ha la d1 d2 w1 w2 y1 y2 hv lv e5 e6 pv hav lav tp h1 tk1 E1 E2 E3 E4 E5 E6 E7 E8 E9 E10 E11 E12 epl epv ehav elav hhv hlv F N S1 S2 b1 b2 x1 x2 x3 x4 x5 x6
  obtain ⟨v0, v1, v2, v3, v4, rfl⟩ := ints5 hhv
  obtain ⟨er3, er2, er1, er0, ep, eq4, eq3, eq2, eq1⟩ := bits_of hk E1 E2 E3 E4 E5 E6 E7 E8 E9 E10 E11 E12
  have hpl : pl = (plF k : Nat) := epl.trans ep
  have hlv : StrsAre lv [lab nm (k / 8 % 2), lab nm (k / 4 % 2), lab nm (k / 2 % 2), lab nm (k % 2)] := by
    rw [er3, er2, er1, er0] at hlv
    exact hlv
  obtain ⟨g3, g2, g1, g0, rfl⟩ := strs4 hlv
  rw [hpl] at epv
  show wpAny _ _ (execs ((forBody b).drop 5) _) _ _ _
  refine execs_step (i := 5) (n := 2) ?_
  refine blockB (hp 5 2) hk0 hk8 hf0 hf4 hm0 hm1 hnv htv hcv hrv B X C1 C2 T (fr_kst F (by ((refine And.intro (by with_unfolding_all rfl) ?_); (refine And.intro (by with_unfolding_all rfl) ?_); (refine And.intro (by with_unfolding_all rfl) ?_); (refine And.intro (by with_unfolding_all rfl) ?_); (refine And.intro (by with_unfolding_all rfl) ?_); (refine And.intro (by with_unfolding_all rfl) ?_); (refine And.intro (by with_unfolding_all rfl) ?_); (refine And.intro (by with_unfolding_all rfl) ?_); (refine And.intro (by with_unfolding_all rfl) ?_); (refine And.intro (by with_unfolding_all rfl) ?_); (refine And.intro (by with_unfolding_all rfl) ?_); exact trivial))) N S1 S2 b1 b2 b3 b4 b5 b6 b7 elav ehav hf.j4 hf.j3 hf.j2 hf.j1 hf.j0 hf.p4 hf.p3 hf.p2 hf.p1 hf.p0 hf.hH hf.c4 hf.c3 hf.c2 hf.c1 hf.c0 hf.cl z1 z2 z3 z4 x1 x2 x5 x6 ?_ ?_ ?_ ?_ ?_ hf.s4 hf.s3 hf.s2 hf.s1 hf.s0 hf.r4 hf.r3 hf.r2 hf.r1 hf.r0 ?_
  · show ((k / 16 : Nat) : Int) = q4 - front * 1; exact eq4
  · show ((k / 8 : Nat) : Int) = q3 - front * 2; exact eq3
  · show ((k / 4 : Nat) : Int) = q2 - front * 4; exact eq2
  · show ((k / 2 : Nat) : Int) = q1 - front * 8; exact eq1
  · show ((k : Nat) : Int) = 16 * front + k - front * 16; omega
  clear F N hcv
  intro u2 cv' e2' hov th h2 tk2 ehov hcv F N
  show wpAny _ _ (execs ((forBody b).drop 7) _) _ _ _
  refine execs_step (i := 7) (n := 2) ?_
  refine blockC1 (hp 7 2) hk0 hk8 hf0 hf4 hm0 hm1 htv hcv hrv B X C1 C2 T (fr_kst F (by ((refine And.intro (by with_unfolding_all rfl) ?_); (refine And.intro (by with_unfolding_all rfl) ?_); (refine And.intro (by with_unfolding_all rfl) ?_); (refine And.intro (by with_unfolding_all rfl) ?_); (refine And.intro (by with_unfolding_all rfl) ?_); (refine And.intro (by with_unfolding_all rfl) ?_); (refine And.intro (by with_unfolding_all rfl) ?_); (refine And.intro (by with_unfolding_all rfl) ?_); (refine And.intro (by with_unfolding_all rfl) ?_); (refine And.intro (by with_unfolding_all rfl) ?_); (refine And.intro (by with_unfolding_all rfl) ?_); exact trivial))) N S1 S2 b1 b2 b3 b4 b5 b6 b7 elav ehov hf.jE hf.pX hf.pD hf.f1 hf.f2 hf.f3 hf.f4 ?_
  clear F N
  intro u3 da dav env2 v1' v2' e7 u7 u8 u9 t9 h3 tk3 edav eenv w1' w2' b9 F N
  show wpAny _ _ (execs ((forBody b).drop 9) _) _ _ _
  refine execs_step (i := 9) (n := 1) ?_
  refine blockC2 (hp 9 1) hk0 hk8 hf0 hf4 hm0 hm1 hnv htv hcv hrv B X C1 C2 T (fr_kst F (by ((refine And.intro (by with_unfolding_all rfl) ?_); (refine And.intro (by with_unfolding_all rfl) ?_); (refine And.intro (by with_unfolding_all rfl) ?_); (refine And.intro (by with_unfolding_all rfl) ?_); (refine And.intro (by with_unfolding_all rfl) ?_); (refine And.intro (by with_unfolding_all rfl) ?_); (refine And.intro (by with_unfolding_all rfl) ?_); (refine And.intro (by with_unfolding_all rfl) ?_); (refine And.intro (by with_unfolding_all rfl) ?_); (refine And.intro (by with_unfolding_all rfl) ?_); (refine And.intro (by with_unfolding_all rfl) ?_); (refine And.intro (by with_unfolding_all rfl) ?_); exact trivial))) (news_sub N fun q hq => .tail _ hq) S1 S2 b1 b2 b3 b4 b5 b6 b7 ehov eenv edav hf.pX hf.rL hf.rE hf.rX hf.k2 hf.k3 w1' w2' b9 ?_
  clear F N
  intro u4 h4 tk4 F N
  show wpAny _ _ (execs ((forBody b).drop 10) _) _ _ _
  refine execs_step (i := 10) (n := 4) ?_
  refine blockD1 (hp 10 4) hk0 hk8 hf0 hf4 hm0 hm1 hnv htv hcv hrv B X C1 C2 T (fr_kst F (by ((refine And.intro (by with_unfolding_all rfl) ?_); (refine And.intro (by with_unfolding_all rfl) ?_); (refine And.intro (by with_unfolding_all rfl) ?_); (refine And.intro (by with_unfolding_all rfl) ?_); (refine And.intro (by with_unfolding_all rfl) ?_); (refine And.intro (by with_unfolding_all rfl) ?_); (refine And.intro (by with_unfolding_all rfl) ?_); (refine And.intro (by with_unfolding_all rfl) ?_); (refine And.intro (by with_unfolding_all rfl) ?_); exact trivial))) N S1 S2 b1 b2 b3 b4 b5 b6 b7 epv (by omega) (by omega) htl hdh col.ds col.dv col.kh col.kl1 col.kl2 ?_
  clear F N
  intro u10 gg bb shv vav rdv grv blv y3 y4 y5 y6 y7 h5 tk5 eshv evav erdv egrv eblv kl F N
  show wpAny _ _ (execs ((forBody b).drop 14) _) _ _ _
  refine execs_step (i := 14) (n := 3) ?_
  refine blockD2 (hp 14 3) hk0 hk8 hf0 hf4 hm0 hm1 hnv htv hcv hrv B X C1 C2 T (fr_kst F (by ((refine And.intro (by with_unfolding_all rfl) ?_); (refine And.intro (by with_unfolding_all rfl) ?_); (refine And.intro (by with_unfolding_all rfl) ?_); (refine And.intro (by with_unfolding_all rfl) ?_); (refine And.intro (by with_unfolding_all rfl) ?_); (refine And.intro (by with_unfolding_all rfl) ?_); (refine And.intro (by with_unfolding_all rfl) ?_); (refine And.intro (by with_unfolding_all rfl) ?_); (refine And.intro (by with_unfolding_all rfl) ?_); (refine And.intro (by with_unfolding_all rfl) ?_); (refine And.intro (by with_unfolding_all rfl) ?_); (refine And.intro (by with_unfolding_all rfl) ?_); (refine And.intro (by with_unfolding_all rfl) ?_); (refine And.intro (by with_unfolding_all rfl) ?_); exact trivial))) N S1 S2 b1 b2 b3 b4 b5 b6 b7 eshv evav erdv egrv eblv kl col.q1 col.q2 col.q3 ?_
  clear F N
  intro u11 huv ptv y8 y9 h6 tk6 ehuv eptv F N
  show wpAny _ _ (execs ((forBody b).drop 17) _) _ _ _
  rw [show (forBody b).drop 17 = ((forBody b).drop 17).take 4 from (List.take_of_length_le (by rw [List.length_drop, law_len hl]; decide)).symm]
  refine blockE (hp 17 4) hk0 hk8 hf0 hf4 hm0 hm1 hnv htv hcv hrv B X C1 C2 T (fr_kst F (by ((refine And.intro (by with_unfolding_all rfl) ?_); (refine And.intro (by with_unfolding_all rfl) ?_); (refine And.intro (by with_unfolding_all rfl) ?_); (refine And.intro (by with_unfolding_all rfl) ?_); (refine And.intro (by with_unfolding_all rfl) ?_); (refine And.intro (by with_unfolding_all rfl) ?_); (refine And.intro (by with_unfolding_all rfl) ?_); (refine And.intro (by with_unfolding_all rfl) ?_); (refine And.intro (by with_unfolding_all rfl) ?_); (refine And.intro (by with_unfolding_all rfl) ?_); (refine And.intro (by with_unfolding_all rfl) ?_); exact trivial))) N S1 S2 b1 b2 b3 b4 b5 b6 b7 epv ehuv eptv (by omega) (by have := ptF_lt mir (plF k + m); omega) hr.len col.dp col.xx hr.srt hr.len' hr.rng hr.sur sp1 sp2 ?_
  clear F N
  intro u12 ra' rav rv' e3' h7 tk7 erav hrv' l1 l2 n1 n2 F N
  exact ret u12 ra' d1 d2 w1 w2 y1 y2 rav cv' rv' e2' e3' h7 tk7 erav hcv hrv' S1 S2 b1 b2 x1 x2 x3 x4 l1 l2 F N
section
variable {prog : Program} {w : World} {A : Around} {E : Value → Shared → Prop} {h₀ : Heap} {env : Env} {x : Str} {body : List Stmt} {Q : Flow → Shared → Prop} {s : Shared} {I : Addr} {a : Int} {n : Nat}
theorem RangeRest.kst {j i : Nat} {m : Str → Option Value} {news : List (Addr × Obj)} {ps : List (Str × Value)} (hp : KAll m ps) (H : RangeRest prog w A E h₀ env x body Q s I a n j i (kstB m ps) news) : RangeRest prog w A E h₀ env x body Q s I a n j i m news := by
  rw [kst_same hp] at H; exact H
theorem RangeRest.mono {j i : Nat} {m : Str → Option Value} {l l' : List (Addr × Obj)} (H : RangeRest prog w A E h₀ env x body Q s I a n j i m l) (hs : ∀ q ∈ l, q ∈ l') : RangeRest prog w A E h₀ env x body Q s I a n j i m l' := by
  cases j with
  | zero => exact fun h tk F N => H h tk F (news_sub N hs)
  | succ j => exact fun t h tk F N => H t h tk F (news_sub N fun q hq => by
      rcases List.mem_cons.mp hq with rfl | hq
      · exact .head _
      · exact .tail _ (hs q hq))
end
theorem law_loop {w : World} {p : Program} {loose : List Str} {mean : ExcName → Option Value} {mg mb : Str → Option Value}
  {a : Addr} {ccd : Value} {base h₀ : Heap} {L : Addr} {s : Shared} {Q : Flow → Shared → Prop} {E : Value → Shared → Prop} {b : List Stmt} {sc : Scope} (hl : lawDef = some (b, sc))
  (nm m n : Nat) {front : Int} {mir : Bool} (hnm : nm < 4) (hm : m < 64) (hf0 : -4 ≤ front) (hf4 : front ≤ 4)
  {tff tmm u5 u6 : Tok} {na ta ca I : Addr} {tv : List Value} {tones : List Int} {e0 e1 : Nat}
  (htl : tones.length = 9) (htr : ∀ x ∈ tones, 0 ≤ x ∧ x ≤ 15) (htv : IntsAre tv tones)
  (B : Below callerA base [] h₀) (X : (Mine.hd.heap_39 w.params).In h₀) (C1 : CodeHd base 77 73) (C2 : CodeHd base 70 66) (T : Top p loose mean mg mb h₀)
  (b3 : @LT.lt Nat _ 73 na) (b4 : @LT.lt Nat _ 73 ta) (b5 : @LT.lt Nat _ 73 ca) (b7 : @LT.lt Nat _ 73 I) (z1 : @LT.lt Nat _ na ca) (z2 : @LT.lt Nat _ ta ca) (z4 : @LT.lt Nat _ ca I)
  (fin : ∀ (h : Heap) (tk : Nat) (m' : Str → Option Value) (ps1 ps2 : Array Value), Fr h₀ L h m' → News h₀ L h [(73, tabObj ps1), (66, tabObj ps2)] → Q .next { s with heap := h, toks := tk }) :
  ∀ (j k : Nat) (_ : k + j ≤ 9) (u : Str → Option Value) (ra c1 c2 : Addr) (o1 o2 : Obj) (ps1 ps2 : Array Value) (cv rv : List Value) (e2 e3 : Nat), StrsAre cv (cameL nm k) → IntsAre rv (rowL mir m k) →
    TabSt pos73 q73 ps1 c1 o1 → TabSt pos66 q66 ps2 c2 o2 → @LT.lt Nat _ 73 c1 → @LT.lt Nat _ 73 c2 → c1 ≠ ca → c2 ≠ ca → c1 ≠ I → c2 ≠ I → @LT.lt Nat _ ca ra → ra ≠ I →
    RangeRest PySem.Challenge.rw_xg0064_01.row.prog w (callerA.deeper (envOf (Str.ofString "law") sc L a ccd)) E h₀ (envOf (Str.ofString "law") sc L a ccd) (Str.ofString "k") (forBody b) Q s I 0 n j k (kstB u [(Str.ofString "front", .int front tff), (Str.ofString "moved", .int (m : Nat) tmm), (Str.ofString "mirrored", .bool mir), (Str.ofString "names", .ref na), (Str.ofString "tones", .ref ta), (Str.ofString "came", .ref ca), (Str.ofString "row", .ref ra)]) [(na, listOf (List.toArray [.str (nmA nm).1 u5, .str (nmA nm).2 u6]) e0), (ta, listOf tv.toArray e1), (ca, listOf cv.toArray e2), (ra, listOf rv.toArray e3), (c1, o1), (c2, o2), (73, tabObj ps1), (66, tabObj ps2)] := by
  intro j
  induction j with
  | zero =>
    intro k _ u ra c1 c2 o1 o2 ps1 ps2 cv rv e2 e3 _ _ _ _ _ _ _ _ _ _ _ _
    exact RangeRest.zero fun h tk F N => fin h tk _ _ _ F (news_sub N (by (refine List.forall_mem_cons.mpr ⟨by k_mem, ?_⟩; refine List.forall_mem_cons.mpr ⟨by k_mem, ?_⟩; exact List.forall_mem_nil _)))
  | succ j ih =>
    intro k hkj u ra c1 c2 o1 o2 ps1 ps2 cv rv e2 e3 hcv hrv S1 S2 b1 b2 x1 x2 x3 x4 z3 z5
    refine RangeRest.succ fun t h tk F N => ?_
    rw [Int.zero_add] at F
    refine wpAny_mono (turn_ok (s := { s with heap := h, toks := tk }) hl nm k m hnm (by omega) hm hf0 hf4 htl htr htv hcv hrv B X C1 C2 T (fr_kst F (by ((refine And.intro (by with_unfolding_all rfl) ?_); (refine And.intro (by with_unfolding_all rfl) ?_); (refine And.intro (by with_unfolding_all rfl) ?_); (refine And.intro (by with_unfolding_all rfl) ?_); (refine And.intro (by with_unfolding_all rfl) ?_); (refine And.intro (by with_unfolding_all rfl) ?_); (refine And.intro (by with_unfolding_all rfl) ?_); (refine And.intro (by with_unfolding_all rfl) ?_); exact trivial))) (news_sub N (by (refine List.forall_mem_cons.mpr ⟨by k_mem, ?_⟩; refine List.forall_mem_cons.mpr ⟨by k_mem, ?_⟩; refine List.forall_mem_cons.mpr ⟨by k_mem, ?_⟩; refine List.forall_mem_cons.mpr ⟨by k_mem, ?_⟩; refine List.forall_mem_cons.mpr ⟨by k_mem, ?_⟩; refine List.forall_mem_cons.mpr ⟨by k_mem, ?_⟩; refine List.forall_mem_cons.mpr ⟨by k_mem, ?_⟩; refine List.forall_mem_cons.mpr ⟨by k_mem, ?_⟩; refine List.forall_mem_cons.mpr ⟨by k_mem, ?_⟩; exact List.forall_mem_nil _))) S1 S2 b1 b2 b3 b4 b5 (Nat.lt_trans b5 z3) b7 x1 x2 x3 x4 z1 z2 z3 z4 (Q := UnrPost h₀ L { s with heap := h, toks := tk } I _ _ Q) ?_) (fun f s' q => q) (fun _ _ q => q.elim)
    intro u' ra' d1 d2 w1 w2 y1 y2 rav cv' rv' e2' e3' h' tk' erav hcv' hrv' S1' S2' b1' b2' x1' x2' x3' x4' l1 l2 F' N'
    subst erav
    refine ⟨h', tk', _, _, rfl, fr_kst F' ?_, ?_, ?_, ih (k + 1) (by omega) _ ra' d1 d2 w1 w2 y1 y2 cv' rv' e2' e3' hcv' hrv' S1' S2' b1' b2' x1' x2' x3' x4' l1 (fun e => Nat.lt_irrefl _ (e ▸ l2))⟩
    · ((refine And.intro (by with_unfolding_all rfl) ?_); (refine And.intro (by with_unfolding_all rfl) ?_); (refine And.intro (by with_unfolding_all rfl) ?_); (refine And.intro (by with_unfolding_all rfl) ?_); (refine And.intro (by with_unfolding_all rfl) ?_); (refine And.intro (by with_unfolding_all rfl) ?_); (refine And.intro (by with_unfolding_all rfl) ?_); exact trivial)
    · exact news_sub N' (by (refine List.forall_mem_cons.mpr ⟨by k_mem, ?_⟩; refine List.forall_mem_cons.mpr ⟨by k_mem, ?_⟩; refine List.forall_mem_cons.mpr ⟨by k_mem, ?_⟩; refine List.forall_mem_cons.mpr ⟨by k_mem, ?_⟩; refine List.forall_mem_cons.mpr ⟨by k_mem, ?_⟩; refine List.forall_mem_cons.mpr ⟨by k_mem, ?_⟩; refine List.forall_mem_cons.mpr ⟨by k_mem, ?_⟩; refine List.forall_mem_cons.mpr ⟨by k_mem, ?_⟩; refine List.forall_mem_cons.mpr ⟨by k_mem, ?_⟩; exact List.forall_mem_nil _))
    · exact (List.forall_mem_cons.mpr ⟨fun e => by (have e : @Eq Nat na I := e); omega, List.forall_mem_cons.mpr ⟨fun e => by (have e : @Eq Nat ta I := e); omega, List.forall_mem_cons.mpr ⟨fun e => by (have e : @Eq Nat ca I := e); omega, List.forall_mem_cons.mpr ⟨fun e => Nat.lt_irrefl _ (e ▸ l2), List.forall_mem_cons.mpr ⟨x3', List.forall_mem_cons.mpr ⟨x4', List.forall_mem_cons.mpr ⟨fun e => by (have e : @Eq Nat 73 I := e); omega, List.forall_mem_cons.mpr ⟨fun e => by (have e : @Eq Nat 66 I := e); omega, List.forall_mem_nil _⟩⟩⟩⟩⟩⟩⟩⟩)
theorem law_iter {w : World} {p : Program} {loose : List Str} {mean : ExcName → Option Value} {mg mb : Str → Option Value}
  {a : Addr} {ccd : Value} {base h₀ : Heap} {L : Addr} {s : Shared} {Q : Flow → Shared → Prop} {E : Value → Shared → Prop} {b : List Stmt} {sc : Scope} (hl : lawDef = some (b, sc))
  {r : Addr} {tot fr mv : Int} {mir : Bool} {m₀ : Str → Option Value} {news : List (Addr × Obj)} {nm : Nat} {na ta ca ra : Addr} {tv : List Value} {tones : List Int} {e0 e1 e2 e3 : Nat} {t₀ u₀ v₀ tff tmm u5 u6 : Tok}
  (hr : IsRange s.heap r 0 tot 1 t₀ u₀ v₀) (ht : 4 ≤ tot ∧ tot ≤ 9) (hf : -4 ≤ fr ∧ fr ≤ 4) (hm : 0 ≤ mv ∧ mv < 64) (hnm : nm < 4) (htl : tones.length = 9) (htr : ∀ x ∈ tones, 0 ≤ x ∧ x ≤ 15) (htv : IntsAre tv tones)
  (B : Below callerA base [] h₀) (X : (Mine.hd.heap_39 w.params).In h₀) (C1 : CodeHd base 77 73) (C2 : CodeHd base 70 66) (T : Top p loose mean mg mb h₀)
  (F : Fr h₀ L s.heap m₀) (N : News h₀ L s.heap news) (hk : KAll m₀ [(Str.ofString "front", .int fr tff), (Str.ofString "moved", .int mv tmm), (Str.ofString "mirrored", .bool mir), (Str.ofString "names", .ref na), (Str.ofString "tones", .ref ta), (Str.ofString "came", .ref ca), (Str.ofString "row", .ref ra)])
  (m1 : (na, listOf (List.toArray [.str (nmA nm).1 u5, .str (nmA nm).2 u6]) e0) ∈ news) (m2 : (ta, listOf tv.toArray e1) ∈ news) (m3 : (ca, listOf #[] e2) ∈ news) (m4 : (ra, listOf #[] e3) ∈ news) (m5 : (73, tabObj #[]) ∈ news) (m6 : (66, tabObj #[]) ∈ news)
  (b1 : @LT.lt Nat _ 73 na) (z1 : @LT.lt Nat _ na ca) (b4 : @LT.lt Nat _ 73 ta) (z2 : @LT.lt Nat _ ta ca) (z3 : @LT.lt Nat _ ca ra)
  (fin : ∀ (h : Heap) (tk : Nat) (m' : Str → Option Value) (ps1 ps2 : Array Value), Fr h₀ L h m' → News h₀ L h [(73, tabObj ps1), (66, tabObj ps2)] → Q .next { s with heap := h, toks := tk }) :
  wpAny (model PySem.Challenge.rw_xg0064_01.row.prog w) (callerA.deeper (envOf (Str.ofString "law") sc L a ccd)) (pyIter (.ref r)) (fun it s₂ => LoopAtV PySem.Challenge.rw_xg0064_01.row.prog w (callerA.deeper (envOf (Str.ofString "law") sc L a ccd)) h₀ (envOf (Str.ofString "law") sc L a ccd) (Str.ofString "k") (forBody b) Q E it s₂) E s := by
  obtain ⟨n, rfl⟩ : ∃ n : Nat, tot = (n : Int) := ⟨tot.toNat, (Int.toNat_of_nonneg (by omega)).symm⟩
  obtain ⟨m, rfl⟩ : ∃ m : Nat, mv = (m : Int) := ⟨mv.toNat, (Int.toNat_of_nonneg hm.1).symm⟩
  have hn : n = 4 ∨ n = 5 ∨ n = 6 ∨ n = 7 ∨ n = 8 ∨ n = 9 := by omega
  refine iter_rangeUnr (n := n) rfl hr (by rcases hn with rfl | rfl | rfl | rfl | rfl | rfl <;> decide) (by rcases hn with rfl | rfl | rfl | rfl | rfl | rfl <;> rfl) F N fun I l1 => ?_
  have i1 : na < I := l1 _ m1
  have i2 : ca < I := l1 _ m3
  have i3 : ra < I := l1 _ m4
  have i4 : @LT.lt Nat _ 73 I := l1 _ m5
  refine' RangeRest.kst hk (RangeRest.mono (law_loop (e0 := e0) (e1 := e1) (u5 := u5) (u6 := u6) hl nm m n hnm (by omega) hf.1 hf.2 htl htr htv B X C1 C2 T b1 b4 (Nat.lt_trans b1 z1) i4 z1 z2 i2 fin n 0 (by omega) _ ra na na (listOf (List.toArray [.str (nmA nm).1 u5, .str (nmA nm).2 u6]) e0) (listOf (List.toArray [.str (nmA nm).1 u5, .str (nmA nm).2 u6]) e0) #[] #[] [] [] e2 e3 .nil .nil (.inl rfl) (.inl rfl) b1 b1 (Nat.ne_of_lt z1) (Nat.ne_of_lt z1) (Nat.ne_of_lt i1) (Nat.ne_of_lt i1) z3 (Nat.ne_of_lt i3)) ?_)
  exact (List.forall_mem_cons.mpr ⟨m1, List.forall_mem_cons.mpr ⟨m2, List.forall_mem_cons.mpr ⟨m3, List.forall_mem_cons.mpr ⟨m4, List.forall_mem_cons.mpr ⟨m1, List.forall_mem_cons.mpr ⟨m1, List.forall_mem_cons.mpr ⟨m5, List.forall_mem_cons.mpr ⟨m6, List.forall_mem_nil _⟩⟩⟩⟩⟩⟩⟩⟩)
section
section
variable {w : World} {prog : Program} {A : Around} {E : Value → Shared → Prop} {s : Shared} {h₀ : Heap} {L l b : Addr} {m : Str → Option Value} {news : List (Addr × Obj)} {Q : Value → Shared → Prop} {vs ws : List Value} {ns ms : List Int} {n : Nat} {value slice : Expr}
theorem slice_from_is {x : Int} {t : Tok} {ops : List Value} (F : Fr h₀ L s.heap m) (N : News h₀ L s.heap news) (hl : s.heap.IsList l vs.toArray) (hi : IntsAre vs ns) (h0 : 0 ≤ x) (hz : vs.length ≤ 1000)
    (h : ∀ (D : Addr) (ws : List Value) (h' : Heap), IntsAre ws (ns.drop x.toNat) → Fr h₀ L h' m → News h₀ L h' ((D, listOf ws.toArray 0) :: news) → (∀ p ∈ news, p.1 < D) → Q (.ref D) { s with heap := h' })
    (hs : subscripted slice false (.ref l) (.ref s.heap.objs.size) = operate ops (getItem (.ref l) (.ref s.heap.objs.size))) :
    wpAny (model prog w) A (subscriptTail value slice (.ref l) (.ref s.heap.objs.size)) Q E { s with heap := s.heap.push { cls := .type "slice", data := .fields #[.int x t, .none, .none] } } := by
  have hsz : vs.toArray.size ≤ sizeLine := by rw [sizeLine_eq, List.size_toArray]; omega
  refine tail_any (Heap.IsList.typeIs (s := { s with heap := s.heap.push { cls := .type "slice", data := .fields #[.int x t, .none, .none] } }) (hl.push _)) list_getitem_lookup (wpAny_getItem_list_slice (hl.push _) (Heap.IsSliceOf.new ..) (.int _ _) .none .none (by decide) ?_ hsz) hs
  have N1 := News.push (F.push { cls := .type "slice", data := .fields #[.int x t, .none, .none] }) (N.grown fun _ _ e => Heap.get?_push_of_some _ e) { cls := .type "list", data := .seq (slicePick vs.toArray (some x) none none) }
  rw [Heap.size_push] at N1
  show Q (.ref (s.heap.push _).objs.size) _
  rw [Heap.size_push]
  refine h _ (slicePick vs.toArray (some x) none none).toList _ (kmk_from hi h0) ((F.push _).push _) ?_ fun p hp => Nat.lt_succ_of_lt (Heap.lt_size (N p hp).1)
  rw [Array.toArray_toList]
  exact N1
theorem add_head (F : Fr h₀ L s.heap m) (N : News h₀ L s.heap news) (hl : s.heap.IsList l vs.toArray) (hb : s.heap.IsList b ws.toArray) (hi : IntsAre vs ns) (hj : IntsAre ws (([1, 3, 0] : List Int).drop ns.length)) (hn : ns.length ≤ 3) (hp : ∀ z ∈ ns, 0 ≤ z)
    (h : ∀ (D : Addr) (x y z : Int) (t u v : Tok) (h' : Heap), 0 ≤ x → 0 ≤ y → 0 ≤ z → Fr h₀ L h' m → News h₀ L h' ((D, listOf (List.toArray [.int x t, .int y u, .int z v]) 0) :: news) → (∀ p ∈ news, p.1 < D) → Q (.ref D) { s with heap := h' }) : wpAny (model prog w) A (binaryOp .Add (.ref l) (.ref b)) Q E s := by
  refine add_lists_ints F N hl hb hi hj (fun h' F' N' i => ?_) ?_
  · have hc : ∃ x y z, ns ++ ([1, 3, 0] : List Int).drop ns.length = [x, y, z] ∧ 0 ≤ x ∧ 0 ≤ y ∧ 0 ≤ z := by
      match ns, hn, hp with
      | [], _, _ => exact ⟨1, 3, 0, rfl, by decide, by decide, by decide⟩
      | [a], _, hp => exact ⟨a, 3, 0, rfl, hp a (.head _), by decide, by decide⟩
      | [a, b], _, hp => exact ⟨a, b, 0, rfl, hp a (.head _), hp b (.tail _ (.head _)), by decide⟩
      | [a, b, c], _, hp => exact ⟨a, b, c, rfl, hp a (.head _), hp b (.tail _ (.head _)), hp c (.tail _ (.tail _ (.head _)))⟩
      | _ :: _ :: _ :: _ :: _, hn, _ => simp only [List.length_cons] at hn; omega
    obtain ⟨x, y, z, e, hx, hy, hz⟩ := hc
    rw [e] at i
    generalize vs ++ ws = c at i N'
    have e2 : ∃ t u v, c = [.int x t, .int y u, .int z v] := by
      cases i with | cons _ t i => cases i with | cons _ u i => cases i with | cons _ v i => cases i; exact ⟨_, _, _, rfl⟩
    obtain ⟨t, u, v, e2⟩ := e2
    rw [e2] at N'
    exact h _ x y z t u v h' hx hy hz F' N' fun p hp => Heap.lt_size (N p hp).1
  · rw [sizeLine_eq]; simp only [List.length_drop, List.length_cons, List.length_nil]; omega
end
section
variable {w : World} {prog : Program} {A : Around} {E : Value → Shared → Prop} {s : Shared} {h₀ : Heap} {L l : Addr} {m : Str → Option Value} {news : List (Addr × Obj)} {Q : Value → Shared → Prop} {n : Nat} {value slice : Expr}
theorem pick4 {l0 l1 l2 l3 : Addr} {a0 a1 b0 b1 c0 c1 d0 d1 : Tok} {n0 n1 n2 n3 : Nat} {z : Int} {t : Tok} {ops : List Value} (F : Fr h₀ L s.heap m) (N : News h₀ L s.heap news) (hm : (l, listOf (List.toArray [.ref l0, .ref l1, .ref l2, .ref l3]) n) ∈ news)
    (m0 : (l0, listOf (List.toArray [.str (Str.ofString "a") a0, .str (Str.ofString "b") a1]) n0) ∈ news) (m1 : (l1, listOf (List.toArray [.str (Str.ofString "0") b0, .str (Str.ofString "1") b1]) n1) ∈ news)
    (m2 : (l2, listOf (List.toArray [.str (Str.ofString "local") c0, .str (Str.ofString "x") c1]) n2) ∈ news) (m3 : (l3, listOf (List.toArray [.str (Str.ofString "B") d0, .str (Str.ofString "-") d1]) n3) ∈ news)
    (p0 : @LT.lt Nat _ 73 l0) (p1 : @LT.lt Nat _ 73 l1) (p2 : @LT.lt Nat _ 73 l2) (p3 : @LT.lt Nat _ 73 l3)
    (h : ∀ (nm : Nat) (na : Addr) (u5 u6 : Tok) (e : Nat), nm < 4 → @LT.lt Nat _ 73 na → News h₀ L s.heap ((na, listOf (List.toArray [.str (nmA nm).1 u5, .str (nmA nm).2 u6]) e) :: news) → Q (.ref na) s)
    (hs : subscripted slice false (.ref l) (.int (z.fmod 4) t) = operate ops (getItem (.ref l) (.int (z.fmod 4) t))) :
    wpAny (model prog w) A (subscriptTail value slice (.ref l) (.int (z.fmod 4) t)) Q E s := by
  have hl : s.heap.IsList l (List.toArray [.ref l0, .ref l1, .ref l2, .ref l3]) := list_news N hm
  have z0 := Int.fmod_nonneg_of_pos z (show (0 : Int) < 4 by decide)
  have z1 := Int.fmod_lt_of_pos z (show (0 : Int) < 4 by decide)
  generalize z.fmod 4 = x at *
  refine tail_any hl.typeIs list_getitem_lookup ?_ hs
  have go : ∀ (nm : Nat) (na : Addr) (u5 u6 : Tok) (e : Nat), x = (nm : Int) → nm < 4 → (List.toArray [Value.ref l0, .ref l1, .ref l2, .ref l3])[nm]? = some (.ref na) → @LT.lt Nat _ 73 na → (na, listOf (List.toArray [.str (nmA nm).1 u5, .str (nmA nm).2 u6]) e) ∈ news → wpAny (model prog w) A (getItem (.ref l) (.int x t)) Q E s := fun nm na u5 u6 e hx hn hg hp hm => by
    subst hx
    exact wpAny_getItem_list hl z0 (by omega) hg (h nm na u5 u6 e hn hp (news_cons N hm N))
  rcases (by omega : x = 0 ∨ x = 1 ∨ x = 2 ∨ x = 3) with e | e | e | e
  · exact go 0 l0 a0 a1 n0 e (by decide) rfl p0 m0
  · exact go 1 l1 b0 b1 n1 e (by decide) rfl p1 m1
  · exact go 2 l2 c0 c1 n2 e (by decide) rfl p2 m2
  · exact go 3 l3 d0 d1 n3 e (by decide) rfl p3 m3
end
theorem ht_of (x : Int) : 4 ≤ 4 + x.fmod 6 ∧ 4 + x.fmod 6 ≤ 9 := by
  have a := Int.fmod_nonneg_of_pos x (show (0 : Int) < 6 by decide)
  have b := Int.fmod_lt_of_pos x (show (0 : Int) < 6 by decide)
  omega
theorem hf_of (x : Int) : -4 ≤ x.fmod 9 - 4 ∧ x.fmod 9 - 4 ≤ 4 := by
  have a := Int.fmod_nonneg_of_pos x (show (0 : Int) < 9 by decide)
  have b := Int.fmod_lt_of_pos x (show (0 : Int) < 9 by decide)
  omega
theorem hm_of (x : Int) : 0 ≤ x.fmod 64 ∧ x.fmod 64 < 64 := ⟨Int.fmod_nonneg_of_pos x (by decide), Int.fmod_lt_of_pos x (by decide)⟩
theorem f16 (x : Int) : 0 ≤ x.fmod 16 ∧ x.fmod 16 ≤ 15 := by
  have a := Int.fmod_nonneg_of_pos x (show (0 : Int) < 16 by decide)
  have b := Int.fmod_lt_of_pos x (show (0 : Int) < 16 by decide)
  omega
theorem tones_in (A B : List Int) (g : Int → Int) (hg : ∀ y, g y = (5 * y).fmod 16) : ∀ x ∈ A.map (fun k' => k'.fmod 16) ++ B.map g, 0 ≤ x ∧ x ≤ 15 := fun x hx => by
  rcases List.mem_append.mp hx with hx | hx
  · obtain ⟨y, _, rfl⟩ := List.mem_map.mp hx; exact f16 y
  · obtain ⟨y, _, rfl⟩ := List.mem_map.mp hx; rw [hg]; exact f16 _
theorem tones_len (A : List Int) (f g : Int → Int) (hA : A.length ≤ 9) : (A.map f ++ (rangeKs ((A.map f).length : Int) (9 - ((A.map f).length : Int)).toNat).map g).length = 9 := by
  simp only [List.length_append, List.length_map, rangeKs_length]
  omega
theorem le9 (n : Nat) : min (min 12 n - 3) (n - 3) ≤ 9 := by omega
theorem fmod_nn (ns : List Int) : ∀ z ∈ ns.map (fun k => k.fmod 1000000), 0 ≤ z := fun z hz => by
  obtain ⟨y, _, rfl⟩ := List.mem_map.mp hz
  exact Int.fmod_nonneg_of_pos _ (by decide)
local macro_rules | `(tactic| walk_at "execs cons") => `(tactic| (k_here; k_gentoks; (try dsimp only)))
local macro_rules | `(tactic| walk_at "spliced") => `(tactic| (k_here; k_gentoks; (try dsimp only)))
local macro_rules | `(tactic| walk_at "eval BinOp") => `(tactic| (k_here; k_gentoks; (try dsimp only)))
local macro_rules | `(tactic| walk_at "eval Subscript") => `(tactic| (k_here; k_gentoks; (try dsimp only)))
local macro_rules | `(tactic| walk_at "eval List") => `(tactic| (k_here; k_gentoks; (try dsimp only)))
local macro_rules | `(tactic| walk_at "pyIter ref") => `(tactic| (k_here; refine Stop.go ?_))
local macro_rules | `(tactic| walk_at "subscriptTail") => `(tactic| (k_here; k_dflt (refine' pick4 ?F ?N ?m ?m0 ?m1 ?m2 ?m3 ?p0 ?p1 ?p2 ?p3 ?_ ?hs; (case F => k_asm); (case N => k_asm); (case m => k_mem); (case m0 => k_mem); (case m1 => k_mem); (case m2 => k_mem); (case m3 => k_mem); (case p0 => (show @LT.lt Nat _ _ _; omega)); (case p1 => (show @LT.lt Nat _ _ _; omega)); (case p2 => (show @LT.lt Nat _ _ _; omega)); (case p3 => (show @LT.lt Nat _ _ _; omega)); (case hs => with_unfolding_all rfl); k_whole); intro nm9 na9 u5 u6 e9 p8 p9 N'))
local macro_rules | `(tactic| walk_at "subscriptTail") => `(tactic| (k_here; (rename Fr _ _ _ _ => F9); (rename News _ _ _ _ => N9); k_dflt (refine' slice_from_is (s := ⟨_, _, _, _, _⟩) F9 N9 ?l ?i ?z ?hz ?_ ?hs; (case l => is_list); (case i => exact .cons _ _ (.cons _ _ (.cons _ _ .nil))); (case z => omega); (case hz => exact Nat.le_of_ble_eq_true rfl); (case hs => with_unfolding_all rfl)); intro D' w9 h' i9 F' N' l1; (try k_lt l1)))
local macro_rules | `(tactic| walk_at "binaryOp Add ref ref") => `(tactic| (k_here; k_dflt (refine' add_head ?F ?N ?l ?b ?hi ?hj ?hn ?hp ?_; (case F => k_asm); (case N => k_asm); (case l => is_list); (case b => is_list); (case hi => with_reducible assumption); (case hj => assumption); (case hn => ((try simp only [List.length_map, List.length_take]); omega)); (case hp => exact fmod_nn _); k_whole); intro D' x9 y9 z9 t9 u9 v9 h' p7 p8 p9 F' N' l1; (try k_lt l1)))
theorem lawW : PySem.Challenge.rw_xg0064_01.Holds := Mine.hd (by
  w_on
  w_strict (k_go0; (all_goals try k_fold))
  w_strict (iterate 222 (first | (k_unfold; (try dsimp only)) | (k_end; wrow_close) | walk1 | (dsimp only; walk1)))
  unfold Stop
  have HL : lawDef = some (_, _) := rfl
  refine' law_iter HL ?hr ?ht ?hf ?hm ?hnm ?htl ?htr ?htv ?B ?X ?C1 ?C2 ?T ?F ?N ?hk ?m1 ?m2 ?m3 ?m4 ?m5 ?m6 ?b1 ?z1 ?b4 ?z2 ?z3 ?fin
  case hr => with_reducible assumption
  case F => k_asm
  case N => k_asm
  case B => k_asm
  case X => k_asm
  case C1 => with_reducible assumption
  case C2 => with_reducible assumption
  case T => k_asm
  case hk => ((refine And.intro (by with_unfolding_all rfl) ?_); (refine And.intro (by with_unfolding_all rfl) ?_); (refine And.intro (by with_unfolding_all rfl) ?_); (refine And.intro (by with_unfolding_all rfl) ?_); (refine And.intro (by with_unfolding_all rfl) ?_); (refine And.intro (by with_unfolding_all rfl) ?_); (refine And.intro (by with_unfolding_all rfl) ?_); exact trivial)
  case m1 => k_mem
  case m2 => k_mem
  case m3 => k_mem
  case m4 => k_mem
  case m5 => k_mem
  case m6 => k_mem
  case ht => exact ht_of _
  case hf => exact hf_of _
  case hm => exact hm_of _
  case hnm => with_reducible assumption
  case htv => with_reducible assumption
  case htl => exact tones_len _ _ _ (by rw [List.length_take, List.length_drop]; exact le9 _)
  case htr => exact tones_in _ _ _ (fun _ => rfl)
  case b1 => with_reducible assumption
  case z1 => (rename _ ∧ _ => k1; clear k1; rename _ ∧ _ => k2; exact k2.2.2.2.2.1)
  case b4 => (rename _ ∧ _ => k1; clear k1; rename _ ∧ _ => k2; clear k2; rename _ ∧ _ => k3; exact k3.2.2.2.2.2.2.2.2.2.2.2.2.2.2.1)
  case z2 => (rename _ ∧ _ => k1; clear k1; rename _ ∧ _ => k2; exact k2.1)
  case z3 => (rename _ ∧ _ => k1; exact k1.1)
  case fin =>
    intro h9 tk9 m9 y1 y2 F' N'
    dsimp only
    k_whole
    k_steps
    all_goals (try k_data)
    all_goals w_report
)
end
end Mine
theorem PySem.Challenge.cw_xg0064_01_holds : PySem.Challenge.rw_xg0064_01.Holds := by
  exact Mine.lawW
