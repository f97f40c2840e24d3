import PyProof.Rows.All
import Wide.All
import OpenK.AllK
import Wide.FinOn
import PyProof.StrLawsNeg
import PyProof.StrLawsIn
import PySem.Challenge.RW_sr0039_01
set_option Elab.async false
set_option maxRecDepth 100000
-- part SrTop
namespace Mine
open PySem PySem.W PyProof.Rows
set_option maxRecDepth 100000 in
set_option maxHeartbeats 8000000 in
open_top hd for PySem.Challenge.rw_sr0039_01
end Mine

-- part SrBase
namespace Mine
open PySem PySem.W PySem.Spec PySem.Calls PyProof.Rows

noncomputable abbrev loo : List Str := looseW hd.view_39 [PySem.Str.ofString "EXACT_TOKEN_TYPES"]

/-- new objects of a call: they stand behind it and did not stand ahead of it -/
noncomputable def Made (h h' : Heap) (news : List (Addr × Obj)) : Prop := ∀ p ∈ news, h'.get? p.1 = some p.2 ∧ h.get? p.1 = none

/-- a call's contract: every object that stood stays; what is new is told by post -/
noncomputable def Spec (k : Nat) (w : World) (f : Addr) (vs : List Value) (pre : Heap → Prop) (post : Value → List (Addr × Obj) → Prop) : Prop :=
  ∀ (mean : ExcName → Option Value) (mg mb : Str → Option Value) (dp un : Nat) (gd : Option (List Code)) (cn : Str) (cs : Scope) (a : Addr) (ccd : Value) (cl : List (Str × Addr)) (outer : List Env) (A₀ : Around) (base h₀ : Heap) (L : Addr) (m : Str → Option Value) (s : Shared) (Q E : Value → Shared → Prop),
    Below A₀ base outer h₀ → Fr h₀ L s.heap m → (hd.heap_39 w.params).In h₀ → Top hd.view_39 loo mean mg mb h₀ → cs.kind = .function → dp + k < recursionLimit → un + 10 * k < cLine → AllBare s.gens → pre s.heap →
    (∀ v h' tk' g' news', (∀ b o, s.heap.get? b = some o → h'.get? b = some o) → Made s.heap h' news' → AllBare g' → post v news' → Q v { s with heap := h', toks := tk', gens := g' }) →
    wpAny (model PySem.Challenge.rw_sr0039_01.row.prog w) (ktrTop dp un gd cn cs L a ccd cl outer) (call (.ref f) vs) Q E s

section
variable {prog : Program} {w : World} {A₀ A : Around} {E : Value → Shared → Prop} {s : Shared} {K : Frag} {L : Addr} {base h₀ : Heap} {m mg mb : Str → Option Value} {p : Program} {loose : List Str} {mean : ExcName → Option Value}

theorem Made.of {h h' : Heap} {L : Addr} {news : List (Addr × Obj)} (N : News h L h' news) : Made h h' news := fun p hp => ⟨(N p hp).1, (N p hp).2.2⟩

theorem enterS {env : Env} {outer : List Env} {Q : Value → Shared → Prop} {name qual : Str} {params : Arguments} {body : List Stmt} {scope : Scope} {dV kV doc pm cdv ct oc : Value} {an od : Option Addr} {osl : Array (Option Value)} {f : Addr} {args : List Value} (binds : List (Str × Value))
    (B : Below A₀ base outer h₀) (F : Fr h₀ L s.heap m) (X₀ : K.In h₀) (T : Top p loose mean mg mb h₀) (hA : A.frames = some (env :: outer)) (hf : env.frame = some L) (hke : env.scope.kind = .function)
    (ho : K.lookup f = some ⟨oc, od, .func (fnOf name qual params body scope dV kV doc pm an cdv ct), osl⟩) (hcd : codeIn K cdv qual = true) (hroom : A.depth < recursionLimit)
    (hbind : bindArgs (fnOf name qual params body scope dV kV doc pm an cdv ct) ⟨args, []⟩ = pure binds) (hloc : (binds.all fun x => decide (scope.names.lookup x.1 = some .local)) = true)
    (h : ∀ L' h₁, L' = s.heap.objs.size → Fr s.heap L' h₁ (fun y => binds.reverse.lookup y) → News s.heap L' h₁ [] → Below A base (env :: outer) s.heap → K.In s.heap → Top p loose mean mg mb s.heap →
      wpAny (model prog w) (A.deeper (envOf qual scope L' f cdv)) (execs body (envOf qual scope L' f cdv))
        (fun fl s' => Q (match fl with | .ret v => v | _ => .none) s')
        (fun e s' => wpAny (model prog w) (A.deeper (envOf qual scope L' f cdv)) (leaving (envOf qual scope L' f cdv) e) (fun _ s'' => E e s'') (fun e' s'' => E e' s'') s')
        { s with heap := h₁, toks := s.toks + binds.length })
    (hco : scope.isCoroutine = false) (hgen : scope.isGenerator = false) (hk : scope.kind = .function)
    (hcell : ∀ x ∈ scope.names, x.2 ≠ .cell) : wpAny (model prog w) A (call (.ref f) args) Q E s := by
  refine wpAny_call ?_
  obtain ⟨_, BG, _, _⟩ := groundX (R := fun _ _ => True) B F (News.nil : News h₀ L s.heap []) hA hf hke
  refine codeAny_call_def (fd := fnOf name qual params body scope dV kV doc pm an cdv ct) (body := body) (binds := binds) hroom (X₀.keeps F.keep _ _ ho) rfl (T.keeps F.keep).nolimit (codeRec_of (X₀.keeps F.keep) hcd) rfl (BindsTo.of_eq hbind) hcell (locs hloc) (fun h₁ hns hk₁ => ?_) hco hgen hk
  exact wpAny_mono (h s.heap.objs.size h₁ rfl ⟨hns, hk₁, Nat.le_refl _⟩ News.nil BG (X₀.keeps F.keep) (T.keeps F.keep)) (fun fl s' hl => hl) fun _ _ y => y

theorem below_keeps {h : Heap} {outer : List Env} (B : Below A₀ base outer h₀) (k : ∀ b o, h₀.get? b = some o → h.get? b = some o) : Below A₀ base outer h :=
  ⟨B.stack, fun b o e => k b o (B.stays b o e), B.frames.of_keeps fun b o ho _ => ⟨o, k b o ho, rfl⟩⟩

theorem Spec.use {k : Nat} {f : Addr} {vs : List Value} {pre : Heap → Prop} {post : Value → List (Addr × Obj) → Prop} {dp un : Nat} {gd : Option (List Code)} {cn : Str} {cs : Scope} {a : Addr} {ccd : Value} {cl : List (Str × Addr)} {outer : List Env} {news : List (Addr × Obj)} {Q E : Value → Shared → Prop}
    (S : Spec k w f vs pre post) (B : Below A₀ base outer h₀) (F : Fr h₀ L s.heap m) (X : (hd.heap_39 w.params).In h₀) (N : News h₀ L s.heap news) (T : Top hd.view_39 loo mean mg mb h₀) (hk : cs.kind = .function)
    (hd : dp + k < recursionLimit) (hu : un + 10 * k < cLine) (hb : AllBare s.gens) (hp : pre s.heap)
    (ret : ∀ v h' tk' g' news', post v news' → Fr h₀ L h' m → News h₀ L h' (news' ++ news) → OwnOff news' (news.map (·.1)) → AllBare g' → (∀ b o, s.heap.get? b = some o → h'.get? b = some o) → Q v { s with heap := h', toks := tk', gens := g' }) :
    wpAny (model PySem.Challenge.rw_sr0039_01.row.prog w) (ktrTop dp un gd cn cs L a ccd cl outer) (call (.ref f) vs) Q E s := by
  refine S mean mg mb dp un gd cn cs a ccd cl outer A₀ base h₀ L m s Q E B F X T hk hd hu hb hp fun v h' tk' g' news' keep M hb' hpost => ?_
  obtain ⟨oL, es, ep, hoL, r⟩ := id F.ns
  refine ret v h' tk' g' news' hpost ⟨⟨oL, es, ep, keep _ _ hoL, r⟩, fun b o q => keep b o (F.keep b o q), F.above⟩ (fun p hp => ?_) (fun p hp b hb q => ?_) hb' keep
  · rcases List.mem_append.mp hp with z | z
    · refine ⟨(M p z).1, fun q => ?_, ?_⟩
      · have := (M p z).2; rw [q, hoL] at this; cases this
      · cases q : h₀.get? p.1 with
        | none => rfl
        | some o => have := F.keep _ _ q; rw [(M p z).2] at this; cases this
    · exact ⟨keep _ _ (N p z).1, (N p z).2⟩
  · obtain ⟨u, hu, rfl⟩ := List.mem_map.mp hb
    have := (N u hu).1; rw [← q, (M p hp).2] at this; cases this
end
end Mine

-- part SrLoop
namespace Mine
open PySem PySem.W PySem.Spec PySem.Calls PyProof.Rows

/-- a mark: the walk stands still here -/
noncomputable def Stop (p : Prop) : Prop := p
theorem stop {p : Prop} (h : Stop p) : p := h

theorem ints_at {vs : List Value} {ns : List Int} (hi : IntsAre vs ns) {i : Nat} {v : Value} (hv : vs[i]? = some v) : ∃ k t, ns[i]? = some k ∧ v = .int k t := by
  obtain ⟨h, e⟩ := List.getElem?_eq_some_iff.mp hv
  have hn : i < ns.length := hi.length ▸ h
  obtain ⟨t, ht⟩ := hi.get i ns[i] (by simp [hn])
  refine ⟨ns[i], t, by simp [hn], ?_⟩
  rw [hv] at ht; exact Option.some.inj ht

theorem put_self {m : Str → Option Value} {x : Str} {v : Value} (h : m x = some v) : m = fun y => if y = x then some v else m y := by
  funext y; by_cases e : y = x
  · subst e; simp [h]
  · simp [e]

theorem inv_end {h₀ : Heap} {L : Addr} {J : (Str → Option Value) → List (Addr × Obj) → Prop} {m' : Str → Option Value} {own news' : List (Addr × Obj)} {s₁ : Shared} {h' : Heap} {tk : Nat} (nx : List (Addr × Obj)) (F : Fr h₀ L h' m') (N : News h₀ L h' news')
    (hj : J m' nx) (ha : OwnOff own (nx.map (·.1))) (hn : ∀ p ∈ nx, p ∈ news') (ho : ∀ p ∈ own, p ∈ news') : InvEndG h₀ L J own s₁ { s₁ with heap := h', toks := tk } := InvEndG.intro F N hj ha hn ho

section
variable {prog : Program} {w : World} {A : Around} {E : Value → Shared → Prop} {s : Shared} {env : Env} {h₀ : Heap} {x : Str} {body : List Stmt} {Q : Flow → Shared → Prop}

theorem loop_anyG {I : Addr} {fp : List Addr} {n : Nat} {P : Nat → Value → Prop} {St : Nat → Heap → Prop} {m₀ : Str → Option Value} {news₀ : List (Addr × Obj)} (J : Nat → (Str → Option Value) → List (Addr × Obj) → Prop) (obs : List (Addr × Obj))
    (W : Walks prog w A I fp [I] n P St) (hfp : ∀ b ∈ fp, b = I ∨ ∃ o, (b, o) ∈ obs) (hobs : ∀ p ∈ obs, h₀.get? p.1 = some p.2 ∨ ∀ i m news, J i m news → p ∈ news)
    (hlive : ∀ i h, St i h → ∃ o, h.get? I = some o) (hLf : env.locals ∉ fp) (hI0 : h₀.get? I = none) (hIn : ∀ p ∈ news₀, p.1 ≠ I) (hst : St 0 s.heap) (F : Fr h₀ env.locals s.heap m₀) (N : News h₀ env.locals s.heap news₀) (hj : J 0 m₀ news₀)
    (turn : ∀ i v m₁ news₁ h tk own, i < n → P i v → OwnOff own (news₁.map (·.1)) → J i m₁ news₁ → Fr h₀ env.locals h (fun y => if y = x then some v else m₁ y) → News h₀ env.locals h (news₁ ++ own) →
      wpAny (model prog w) A (execs body env) (InvPostG h₀ env.locals (J (i + 1)) own { s with heap := h, toks := tk } Q) E { s with heap := h, toks := tk })
    (done : ∀ m₁ news₁ h tk, J n m₁ news₁ → Fr h₀ env.locals h m₁ → News h₀ env.locals h news₁ → Q .next { s with heap := h, toks := tk }) :
    LoopAtV prog w A h₀ env x body Q E (.ref I) s := by
  refine ⟨I, fp, [I], n, P, St, m₀, news₀, J, rfl, W, hLf, fun b hb => by rw [List.mem_singleton.mp hb]; exact hI0, fun p hp hb => hIn p hp (List.mem_singleton.mp hb), hst, F, N, hj, ?_, ?_⟩
  · rintro i v m₁ news₁ s₁ own ⟨hh', tk', rfl⟩ hin hP hJ hoff hown hat hall hst1 F₁ N₁
    have N₂ : News h₀ env.locals hh' (news₁ ++ own.filter (fun p => p.1 == I)) := fun p hp => N₁ p ((List.mem_append.mp hp).elim (fun h => List.mem_append.mpr (.inr h)) fun h => List.mem_append.mpr (.inl (List.mem_filter.mp h).1))
    have hsep : OwnOff (own.filter (fun p => p.1 == I)) (news₁.map (·.1)) := by
      intro p hp b hb e
      obtain ⟨q, hq, rfl⟩ := List.mem_map.mp hb
      have := beq_iff_eq.mp (List.mem_filter.mp hp).2
      exact hoff q hq (List.mem_singleton.mpr (e.symm.trans this))
    refine wpAny_mono (turn i v m₁ news₁ hh' tk' _ hin hP hsep hJ F₁ N₂) (fun f s₂ p => ?_) fun _ _ e => e
    have fin : InvEndG h₀ env.locals (J (i + 1)) (own.filter (fun p => p.1 == I)) { s with heap := hh', toks := tk' } s₂ → LoopStepU h₀ env.locals [I] own (J (i + 1)) { s with heap := hh', toks := tk' } .next s₂ := by
      rintro ⟨h', tk, m', news', nx, e, F', N', hn, ho, ha, hm⟩
      have hIobj : ∃ oI, (I, oI) ∈ own := by
        obtain ⟨o, ho⟩ := hlive _ _ hst1
        exact ⟨o, hall I (W.sub I (List.mem_singleton.mpr rfl)) hI0 o ho⟩
      refine ⟨rfl, h', tk, m', nx, e, F', fun p hp => ?_, fun p hp hq => ?_, hm⟩
      · rcases List.mem_append.mp hp with hp | hp
        · rcases hfp p.1 (hown p hp) with h | ⟨o, h⟩
          · exact N' p (ho p (List.mem_filter.mpr ⟨hp, beq_iff_eq.mpr h⟩))
          · have hpo : hh'.get? p.1 = some p.2 := hat p hp
            rcases hobs _ h with h1 | h1
            · have := (N₁ p (List.mem_append.mpr (.inl hp))).2.2
              rw [h1] at this; cases this
            · have h2 := N₁ _ (List.mem_append.mpr (.inr (h1 i m₁ news₁ hJ)))
              have h3 : p.2 = o := by have := h2.1; rw [hpo] at this; exact Option.some.inj this
              have h4 := N' _ (hn _ (h1 (i + 1) m' nx hm))
              rw [h3]; exact h4
        · exact N' p (hn p hp)
      · obtain ⟨oI, hoI⟩ := hIobj
        exact ha (I, oI) (List.mem_filter.mpr ⟨hoI, by simp⟩) p.1 (List.mem_map.mpr ⟨p, hp, rfl⟩) (List.mem_singleton.mp hq).symm
    cases f with
    | ret v => exact .ret p
    | brk => exact .brk p
    | next => exact .next (fin p)
    | cont => exact .cont (fin p)
  · rintro h' tk m' news' F' N' _ hJ
    exact done m' news' h' tk hJ F' N'

/-- for over a list of the ledger that stands through the loop -/
theorem iter_listN {l : Addr} {vs : List Value} {n₀ : Nat} {m₀ : Str → Option Value} {news₀ : List (Addr × Obj)} (J : Nat → (Str → Option Value) → List (Addr × Obj) → Prop)
    (hh : A.handled = none) (hl : (l, W.listOf vs.toArray n₀) ∈ news₀) (hJl : ∀ i m news, J i m news → (l, W.listOf vs.toArray n₀) ∈ news) (F : Fr h₀ env.locals s.heap m₀) (N : News h₀ env.locals s.heap news₀) (hj : J 0 m₀ news₀)
    (turn : ∀ i v m₁ news₁ h tk own, vs[i]? = some v → OwnOff own (news₁.map (·.1)) → J i m₁ news₁ → Fr h₀ env.locals h (fun y => if y = x then some v else m₁ y) → News h₀ env.locals h (news₁ ++ own) →
      wpAny (model prog w) A (execs body env) (InvPostG h₀ env.locals (J (i + 1)) own { s with heap := h, toks := tk } Q) E { s with heap := h, toks := tk })
    (done : ∀ m₁ news₁ h tk, J vs.length m₁ news₁ → Fr h₀ env.locals h m₁ → News h₀ env.locals h news₁ → Q .next { s with heap := h, toks := tk }) :
    wpAny (model prog w) A (pyIter (.ref l)) (fun it s₂ => LoopAtV prog w A h₀ env x body Q E it s₂) E s := by
  have hls : s.heap.IsList l vs.toArray := ⟨_, (N _ hl).1, rfl, _, rfl⟩
  have hne : l ≠ s.heap.objs.size := Nat.ne_of_lt (Heap.lt_size (N _ hl).1)
  refine wpAny_pyIter_list hls ?_
  refine loop_anyG J [(l, W.listOf vs.toArray n₀)] (Walks.list (prog := prog) (w := w) hh s.heap.objs.size l hne vs.toArray) ?_ ?_ ?_ ?_ ?_ ?_ ⟨⟨_, Heap.get?_push_size _ rfl, rfl, rfl⟩, hls.at fun o e => Heap.get?_push_of_some _ e⟩ (F.push _)
    (fun p hp => ⟨Heap.get?_push_of_some _ (N p hp).1, (N p hp).2⟩) hj ?_ ?_
  · intro b hb
    rcases List.mem_cons.mp hb with h | h
    · exact .inl h
    · exact .inr ⟨_, by rw [List.mem_singleton.mp h]; exact List.mem_singleton.mpr rfl⟩
  · intro p hp
    rw [List.mem_singleton.mp hp]
    exact .inr hJl
  · rintro i h ⟨⟨o, ho, _⟩, _⟩
    exact ⟨o, ho⟩
  · intro hm
    rcases List.mem_cons.mp hm with e | hm
    · exact absurd F.ns.lt (e ▸ Nat.lt_irrefl _)
    · exact (N _ hl).2.1 (List.mem_singleton.mp hm).symm
  · exact next_is_new F
  · intro p hp e
    exact absurd (Heap.lt_size (N p hp).1) (e ▸ Nat.lt_irrefl _)
  · intro i v m₁ news₁ h tk own hi hP ho hJ F₁ N₁
    exact turn i v m₁ news₁ h tk own (by simpa using hP) ho hJ F₁ N₁
  · intro m₁ news₁ h tk hJ F₁ N₁
    exact done m₁ news₁ h tk (by simpa using hJ) F₁ N₁

/-- for over a list that stood ahead of the call -/
theorem iter_listB {l : Addr} {vs : List Value} {m₀ : Str → Option Value} {news₀ : List (Addr × Obj)} (J : Nat → (Str → Option Value) → List (Addr × Obj) → Prop)
    (hh : A.handled = none) (hl : h₀.IsList l vs.toArray) (F : Fr h₀ env.locals s.heap m₀) (N : News h₀ env.locals s.heap news₀) (hj : J 0 m₀ news₀)
    (turn : ∀ i v m₁ news₁ h tk own, vs[i]? = some v → OwnOff own (news₁.map (·.1)) → J i m₁ news₁ → Fr h₀ env.locals h (fun y => if y = x then some v else m₁ y) → News h₀ env.locals h (news₁ ++ own) →
      wpAny (model prog w) A (execs body env) (InvPostG h₀ env.locals (J (i + 1)) own { s with heap := h, toks := tk } Q) E { s with heap := h, toks := tk })
    (done : ∀ m₁ news₁ h tk, J vs.length m₁ news₁ → Fr h₀ env.locals h m₁ → News h₀ env.locals h news₁ → Q .next { s with heap := h, toks := tk }) :
    wpAny (model prog w) A (pyIter (.ref l)) (fun it s₂ => LoopAtV prog w A h₀ env x body Q E it s₂) E s := by
  have hls : s.heap.IsList l vs.toArray := hl.at fun o e => F.keep l o e
  obtain ⟨ol, hol, _⟩ := id hl
  have hlt : l < h₀.objs.size := Heap.lt_size hol
  have hne : l ≠ s.heap.objs.size := Nat.ne_of_lt (Nat.lt_trans (Nat.lt_of_lt_of_le hlt F.above) F.ns.lt)
  refine wpAny_pyIter_list hls ?_
  refine loop_anyG J [(l, ol)] (Walks.list (prog := prog) (w := w) hh s.heap.objs.size l hne vs.toArray) ?_ ?_ ?_ ?_ ?_ ?_ ⟨⟨_, Heap.get?_push_size _ rfl, rfl, rfl⟩, hls.at fun o e => Heap.get?_push_of_some _ e⟩ (F.push _)
    (fun p hp => ⟨Heap.get?_push_of_some _ (N p hp).1, (N p hp).2⟩) hj ?_ ?_
  · intro b hb
    rcases List.mem_cons.mp hb with h | h
    · exact .inl h
    · exact .inr ⟨_, by rw [List.mem_singleton.mp h]; exact List.mem_singleton.mpr rfl⟩
  · intro p hp
    rw [List.mem_singleton.mp hp]
    exact .inl hol
  · rintro i h ⟨⟨o, ho, _⟩, _⟩
    exact ⟨o, ho⟩
  · intro hm
    rcases List.mem_cons.mp hm with e | hm
    · exact absurd F.ns.lt (e ▸ Nat.lt_irrefl _)
    · exact absurd (Nat.lt_of_lt_of_le hlt F.above) ((List.mem_singleton.mp hm) ▸ Nat.lt_irrefl _)
  · exact next_is_new F
  · intro p hp e
    exact absurd (Heap.lt_size (N p hp).1) (e ▸ Nat.lt_irrefl _)
  · intro i v m₁ news₁ h tk own hi hP ho hJ F₁ N₁
    exact turn i v m₁ news₁ h tk own (by simpa using hP) ho hJ F₁ N₁
  · intro m₁ news₁ h tk hJ F₁ N₁
    exact done m₁ news₁ h tk (by simpa using hJ) F₁ N₁

/-- for over a range by ones -/
theorem iter_rangeG {r : Addr} {a₀ b₀ : Int} {t₀ u₀ v₀ : Tok} {n : Nat} {m₀ : Str → Option Value} {news₀ : List (Addr × Obj)} (J : Nat → (Str → Option Value) → List (Addr × Obj) → Prop)
    (hh : A.handled = none) (hr : IsRange s.heap r a₀ b₀ 1 t₀ u₀ v₀) (hsmall : Builtin.Range.small a₀ b₀ 1 = true) (hn : Builtin.Range.rangeSize a₀ b₀ 1 = (n : Int)) (F : Fr h₀ env.locals s.heap m₀) (N : News h₀ env.locals s.heap news₀) (hj : J 0 m₀ news₀)
    (turn : ∀ (i : Nat) (t : Tok) m₁ news₁ h tk own, i < n → OwnOff own (news₁.map (·.1)) → J i m₁ news₁ → Fr h₀ env.locals h (fun y => if y = x then some (.int (a₀ + (i : Int)) t) else m₁ y) → News h₀ env.locals h (news₁ ++ own) →
      wpAny (model prog w) A (execs body env) (InvPostG h₀ env.locals (J (i + 1)) own { s with heap := h, toks := tk } Q) E { s with heap := h, toks := tk })
    (done : ∀ m₁ news₁ h tk, J n m₁ news₁ → Fr h₀ env.locals h m₁ → News h₀ env.locals h news₁ → Q .next { s with heap := h, toks := tk }) :
    wpAny (model prog w) A (pyIter (.ref r)) (fun it s₂ => LoopAtV prog w A h₀ env x body Q E it s₂) E s := by
  refine wpAny_pyIter_range hr hsmall ?_
  have W : Walks prog w A s.heap.objs.size [s.heap.objs.size] [s.heap.objs.size] n (fun i v => i < n ∧ ∃ t, v = .int (a₀ + i * 1) t)
      (fun i h => IsRangeIter h s.heap.objs.size (a₀ + (i : Nat) * 1) ((n : Int) - (i : Nat)) 1) := (Walks.range hh _ a₀ 1 n).bound
  refine loop_anyG J [] W (fun b hb => .inl (List.mem_singleton.mp hb)) (fun p hp => nomatch hp) (fun i h hs => ⟨_, hs⟩) ?_ ?_ ?_ (by show IsRangeIter _ _ _ _ _; rw [hn]; simpa using Heap.get?_push_size _ rfl) (F.push _)
    (fun p hp => ⟨Heap.get?_push_of_some _ (N p hp).1, (N p hp).2⟩) hj ?_ done
  · intro hm
    exact absurd F.ns.lt ((List.mem_singleton.mp hm) ▸ Nat.lt_irrefl _)
  · exact next_is_new F
  · intro p hp e
    exact absurd (Heap.lt_size (N p hp).1) (e ▸ Nat.lt_irrefl _)
  · rintro i v m₁ news₁ h tk own hi ⟨_, t, rfl⟩ ho hJ F₁ N₁
    refine turn i t m₁ news₁ h tk own hi ho hJ ?_ N₁
    have e1 : a₀ + (i : Int) * 1 = a₀ + (i : Int) := by omega
    rw [e1] at F₁; exact F₁

/-- the end of a turn of a while: the measure has fallen -/
noncomputable def WhileEnd (h₀ : Heap) (L : Addr) (I : Nat → (Str → Option Value) → List (Addr × Obj) → Prop) (n : Nat) (s₀ : Shared) (Q : Flow → Shared → Prop) (f : Flow) (s₃ : Shared) : Prop :=
  match f with
  | .ret v => Q (.ret v) s₃
  | .brk => Q .next s₃
  | _ => ∃ n' h' tk' m' nx, n' < n ∧ s₃ = { s₀ with heap := h', toks := tk' } ∧ Fr h₀ L h' m' ∧ News h₀ L h' nx ∧ I n' m' nx
theorem while_end {L : Addr} {I : Nat → (Str → Option Value) → List (Addr × Obj) → Prop} {n n' : Nat} {s₀ : Shared} {h' : Heap} {tk' : Nat} {m' : Str → Option Value} {news' : List (Addr × Obj)} (nx : List (Addr × Obj)) (F : Fr h₀ L h' m') (N : News h₀ L h' news') (hn : n' < n)
    (hi : I n' m' nx) (hs : ∀ p ∈ nx, p ∈ news') : WhileEnd h₀ L I n s₀ Q .next { s₀ with heap := h', toks := tk' } := ⟨n', h', tk', m', nx, hn, rfl, F, fun p hp => N p (hs p hp), hi⟩

theorem while_G {test : Expr} {pos : Pos} {m₀ : Str → Option Value} {news₀ : List (Addr × Obj)} (I : Nat → (Str → Option Value) → List (Addr × Obj) → Prop) (n₀ : Nat)
    (F : Fr h₀ env.locals s.heap m₀) (N : News h₀ env.locals s.heap news₀) (hi : I n₀ m₀ news₀)
    (turn : ∀ n m₁ news₁ h tk, I n m₁ news₁ → Fr h₀ env.locals h m₁ → News h₀ env.locals h news₁ →
      wpAny (model prog w) A (isTrue test env (eval test env)) (fun b s₂ => if b = true then wpAny (model prog w) A (execs body env) (WhileEnd h₀ env.locals I n s Q) E s₂ else Q .next s₂) E { s with heap := h, toks := tk })
    (hE : PassesOwn (model prog w) A env E) :
    wpAny (model prog w) A (exec (.While test body [] pos) env) Q E s := by
  refine wpAny_While (codeAny_whileLoop (fun n s' => ∃ h tk m₁ news₁, s' = { s with heap := h, toks := tk } ∧ I n m₁ news₁ ∧ Fr h₀ env.locals h m₁ ∧ News h₀ env.locals h news₁) ?_ n₀ ⟨s.heap, s.toks, m₀, news₀, rfl, hi, F, N⟩)
  rintro n s' ⟨h, tk, m₁, news₁, rfl, hI, F₁, N₁⟩
  refine wpAny_passesOwn hE (wpAny_mono (turn n m₁ news₁ h tk hI F₁ N₁) (fun b s₂ hb => ?_) fun _ _ q => q)
  cases b with
  | true =>
    rw [if_pos rfl] at hb
    rw [if_pos rfl]
    refine wpAny_passesOwn hE (wpAny_mono hb (fun f s₃ hf => ?_) fun _ _ q => q)
    cases f with
    | ret v => exact hf
    | brk => exact hf
    | next => obtain ⟨n', h', tk', m', nx, hn, rfl, F₂, N₂, hI₂⟩ := hf; exact ⟨n', hn, h', tk', m', nx, rfl, hI₂, F₂, N₂⟩
    | cont => obtain ⟨n', h', tk', m', nx, hn, rfl, F₂, N₂, hI₂⟩ := hf; exact ⟨n', hn, h', tk', m', nx, rfl, hI₂, F₂, N₂⟩
  | false =>
    rw [if_neg Bool.false_ne_true] at hb
    rw [if_neg Bool.false_ne_true]
    exact wpAny_execs_nil hb
end

theorem inv_end1 {h₀ : Heap} {L : Addr} {J : (Str → Option Value) → List (Addr × Obj) → Prop} {m' : Str → Option Value} {own rest : List (Addr × Obj)} {p : Addr × Obj} {s₁ : Shared} {h' : Heap} {tk : Nat} (F : Fr h₀ L h' m') (N : News h₀ L h' (p :: rest))
    (hj : J m' [p]) (ha : OwnOff own [p.1]) (ho : ∀ q ∈ own, q ∈ p :: rest) : InvEndG h₀ L J own s₁ { s₁ with heap := h', toks := tk } := InvEndG.intro F N hj ha (fun q hq => by rw [List.mem_singleton.mp hq]; exact .head _) ho
theorem while_drop {h₀ : Heap} {L : Addr} {I : Nat → (Str → Option Value) → List (Addr × Obj) → Prop} {n n' : Nat} {s₀ : Shared} {h' : Heap} {tk' : Nat} {m' : Str → Option Value} {p : Addr × Obj} {l : List (Addr × Obj)} {Q : Flow → Shared → Prop} (k : Nat) (F : Fr h₀ L h' m') (N : News h₀ L h' (p :: l)) (hn : n' < n)
    (hi : I n' m' (p :: l.drop k)) : WhileEnd h₀ L I n s₀ Q .next { s₀ with heap := h', toks := tk' } :=
  while_end (p :: l.drop k) F N hn hi fun q hq => (List.mem_cons.mp hq).elim (fun h => by rw [h]; exact .head _) fun h => .tail _ (List.mem_of_mem_drop h)

theorem ownoff1 {own : List (Addr × Obj)} {d : Addr} (h : AllLt d own) : OwnOff own [d] := by
  intro p hp b hb e
  rw [List.mem_singleton.mp hb] at e
  exact Nat.lt_irrefl d (e ▸ kst_ltOf h p hp)
theorem ownoff2 {own : List (Addr × Obj)} {l : List Addr} {d : Addr} (h : AllLt d own) (ho : OwnOff own l) : OwnOff own (d :: l) := by
  intro p hp b hb
  rcases List.mem_cons.mp hb with rfl | hb
  · exact Nat.ne_of_lt (kst_ltOf h p hp)
  · exact ho p hp b hb
theorem sub1 {p : Addr × Obj} {l : List (Addr × Obj)} (h : p ∈ l) : ∀ q ∈ [p], q ∈ l := fun q hq => by rw [List.mem_singleton.mp hq]; exact h
theorem fdiv_e {n m : Int} (h : 0 ≤ m) : n.fdiv m = n / m := Int.fdiv_eq_ediv_of_nonneg n h
theorem fmod_e {n m : Int} (h : 0 ≤ m) : n.fmod m = n % m := Int.fmod_eq_emod_of_nonneg n h
end Mine

-- part SrBegins
namespace Mine
open PySem PySem.W PySem.Spec PySem.Calls PyProof.Rows
local macro_rules | `(tactic| walk_at $s:str) => `(tactic| k_extra $s)
noncomputable def beginsGo (steps : List Int) (start : Int) : Nat → Int → Int → Bool
  | 0, _, _ => true
  | n + 1, back, total => if total + steps.getD ((start - back).fmod 7).toNat 0 ≥ 0 then false else beginsGo steps start n (back + 1) (total + steps.getD ((start - back).fmod 7).toNat 0)
noncomputable def begins (steps : List Int) (start : Int) : Bool := beginsGo steps start 7 1 0
theorem begins_no {ns : List Int} {start total x : Int} {i : Nat} (hi : i < 7) (hx : x = total + ns.getD ((start - (1 + (i : Int))).fmod 7).toNat 0) (h : x ≥ 0) {r : Bool} (e : beginsGo ns start (7 - i) (1 + (i : Int)) total = r) : r = false := by
  rw [show 7 - i = (6 - i) + 1 from by omega, beginsGo, ← hx, if_pos h] at e; exact e.symm
theorem begins_go {ns : List Int} {start total x : Int} {i : Nat} (hi : i < 7) (hx : x = total + ns.getD ((start - (1 + (i : Int))).fmod 7).toNat 0) (h : ¬ x ≥ 0) {r : Bool} (e : beginsGo ns start (7 - i) (1 + (i : Int)) total = r) : beginsGo ns start (7 - (i + 1)) (1 + ((i + 1 : Nat) : Int)) x = r := by
  rw [show 7 - i = (6 - i) + 1 from by omega, beginsGo, ← hx, if_neg h] at e
  rw [show 7 - (i + 1) = 6 - i from by omega, show 1 + ((i + 1 : Nat) : Int) = 1 + (i : Int) + 1 from by omega]; exact e
inductive BegA (l : Addr) (ns : List Int) (start : Int) (t : Tok) (i : Nat) (m : Str → Option Value) (news : List (Addr × Obj)) : Prop
  | mk (total : Int) (tt : Tok) (z1 : m (Str.ofString "total") = some (.int total tt)) (z2 : m (Str.ofString "steps") = some (.ref l)) (z3 : m (Str.ofString "start") = some (.int start t)) (z4 : news = []) (z5 : beginsGo ns start (7 - i) (1 + (i : Int)) total = begins ns start) : BegA l ns start t i m news

set_option maxHeartbeats 4000000 in
theorem begins_spec (w : World) (l : Addr) (vs : List Value) (ns : List Int) (start : Int) (t : Tok) (h7 : ns.length = 7) :
    Spec 4 w 115 [.ref l, .int start t] (fun h => h.IsList l vs.toArray ∧ IntsAre vs ns) (fun v _ => v = .bool (begins ns start)) := by
  unfold Spec
  k_fill
  k_with_none
  w_top off
  intro mean mg mb dp un gd cn cs a ccd cl outer A₀ base h₀ L m s Q E B F X T hk hdp hun hgn hp hret
  obtain ⟨hl, hi⟩ := hp
  refine enterS [(PySem.Str.ofString "steps", .ref l), (PySem.Str.ofString "start", .int start t)] B F X T rfl rfl hk (by k_dflt k_is) (by k_dflt k_is) (by ktr_room) rfl rfl ?_ rfl rfl rfl (by decide)
  intro L' h₁ hL' F₁ N₁ B₁ X₁ T₁
  clear B F X T hL'
  refine wpAny_noRaise ?_
  k_fold
  k_with "pyIter ref" => (refine stop ?_)
  k_steps
  unfold Stop
  k_dflt (refine' iter_rangeG (n := 7) (BegA l ns start t) ?hh ?hr ?hs ?hn ?F ?N ?hj ?turn ?done)
  case hh => exact rfl
  case hr => k_asm
  case hs => decide
  case hn => decide
  case F => k_asm
  case N => k_asm
  case hj => exact ⟨_, _, rfl, rfl, rfl, rfl, rfl⟩
  case turn =>
    rintro i tb m₁ news₁ h2 tk2 own hi7 hoff ⟨total, tt, e1, e2, e3, rfl, e5⟩ F2 N2
    rw [put_self e1, put_self e2, put_self e3] at F2
    k_fold
    k_steps
    · exact hret _ _ _ _ [] (Fr.keep (by k_asm)) (Made.of (L := L') News.nil) hgn (congrArg Value.bool (begins_no hi7 rfl (by assumption) e5).symm)
    · refine' inv_end [] ?f ?n ?j (fun _ _ _ h => nomatch h) (fun _ h => nomatch h) (fun p hp => List.mem_append.mpr (.inr hp))
      case f => k_asm
      case n => k_asm
      case j => exact ⟨_, _, rfl, rfl, rfl, rfl, begins_go hi7 rfl (by assumption) e5⟩
  case done =>
    rintro m₁ news₁ h2 tk2 ⟨total, tt, e1, e2, e3, rfl, e5⟩ F2 N2
    rw [put_self e1, put_self e2, put_self e3] at F2
    k_steps
    exact hret _ _ _ _ [] (Fr.keep (by k_asm)) (Made.of (L := L') News.nil) hgn (congrArg Value.bool e5)
end Mine

-- part SrTerm
namespace Mine
open PySem PySem.W PySem.Spec PySem.Calls PyProof.Rows
local macro_rules | `(tactic| walk_at $s:str) => `(tactic| k_extra $s)
local macro_rules | `(tactic| size_fits) => `(tactic| with_reducible assumption)
/-- a contract of a call that leaves the generators alone -/
noncomputable def SpecK (k : Nat) (w : World) (f : Addr) (vs : List Value) (pre : Heap → Prop) (post : Value → List (Addr × Obj) → Prop) : Prop :=
  ∀ (mean : ExcName → Option Value) (mg mb : Str → Option Value) (dp un : Nat) (gd : Option (List Code)) (cn : Str) (cs : Scope) (a : Addr) (ccd : Value) (cl : List (Str × Addr)) (outer : List Env) (A₀ : Around) (base h₀ : Heap) (L : Addr) (m : Str → Option Value) (s : Shared) (Q E : Value → Shared → Prop),
    Below A₀ base outer h₀ → Fr h₀ L s.heap m → (hd.heap_39 w.params).In h₀ → Top hd.view_39 loo mean mg mb h₀ → cs.kind = .function → dp + k < recursionLimit → un + 10 * k < cLine → pre s.heap →
    (∀ v h' tk' news', (∀ b o, s.heap.get? b = some o → h'.get? b = some o) → Made s.heap h' news' → post v news' → Q v { s with heap := h', toks := tk' }) →
    wpAny (model PySem.Challenge.rw_sr0039_01.row.prog w) (ktrTop dp un gd cn cs L a ccd cl outer) (call (.ref f) vs) Q E s

section
variable {prog : Program} {w : World} {A₀ A : Around} {E : Value → Shared → Prop} {s : Shared} {K : Frag} {L : Addr} {base h₀ : Heap} {m mg mb : Str → Option Value} {p : Program} {loose : List Str} {mean : ExcName → Option Value}
theorem SpecK.use {k : Nat} {f : Addr} {vs : List Value} {pre : Heap → Prop} {post : Value → List (Addr × Obj) → Prop} {dp un : Nat} {gd : Option (List Code)} {cn : Str} {cs : Scope} {a : Addr} {ccd : Value} {cl : List (Str × Addr)} {outer : List Env} {news : List (Addr × Obj)} {Q E : Value → Shared → Prop}
    (S : SpecK k w f vs pre post) (B : Below A₀ base outer h₀) (F : Fr h₀ L s.heap m) (X : (hd.heap_39 w.params).In h₀) (N : News h₀ L s.heap news) (T : Top hd.view_39 loo mean mg mb h₀) (hk : cs.kind = .function)
    (hd : dp + k < recursionLimit) (hu : un + 10 * k < cLine) (hp : pre s.heap)
    (ret : ∀ v h' tk' news', post v news' → Fr h₀ L h' m → News h₀ L h' (news' ++ news) → OwnOff news' (news.map (·.1)) → (∀ b o, s.heap.get? b = some o → h'.get? b = some o) → Q v { s with heap := h', toks := tk' }) :
    wpAny (model PySem.Challenge.rw_sr0039_01.row.prog w) (ktrTop dp un gd cn cs L a ccd cl outer) (call (.ref f) vs) Q E s := by
  refine S mean mg mb dp un gd cn cs a ccd cl outer A₀ base h₀ L m s Q E B F X T hk hd hu hp fun v h' tk' news' keep M hpost => ?_
  obtain ⟨oL, es, ep, hoL, r⟩ := id F.ns
  refine ret v h' tk' news' hpost ⟨⟨oL, es, ep, keep _ _ hoL, r⟩, fun b o q => keep b o (F.keep b o q), F.above⟩ (fun p hp => ?_) (fun p hp b hb q => ?_) keep
  · rcases List.mem_append.mp hp with z | z
    · refine ⟨(M p z).1, fun q => ?_, ?_⟩
      · have := (M p z).2; rw [q, hoL] at this; cases this
      · cases q : h₀.get? p.1 with
        | none => rfl
        | some o => have := F.keep _ _ q; rw [(M p z).2] at this; cases this
    · exact ⟨keep _ _ (N p z).1, (N p z).2⟩
  · obtain ⟨u, hu, rfl⟩ := List.mem_map.mp hb
    have := (N u hu).1; rw [← q, (M p hp).2] at this; cases this
end

set_option maxHeartbeats 4000000 in
theorem isT_spec (w : World) (n : Int) (t : Tok) : SpecK 4 w 59 [.int n t] (fun _ => True) (fun v news => v = .bool (decide (n < 256)) ∧ news = []) := by
  unfold SpecK
  k_fill
  k_with_none
  w_top off
  intro mean mg mb dp un gd cn cs a ccd cl outer A₀ base h₀ L m s Q E B F X T hk hdp hun hp hret
  refine enterS [(PySem.Str.ofString "x", .int n t)] B F X T rfl rfl hk (by k_dflt k_is) (by k_dflt k_is) (by ktr_room) rfl rfl ?_ rfl rfl rfl (by decide)
  intro L' h₁ hL' F₁ N₁ B₁ X₁ T₁
  clear B F X T hL'
  refine wpAny_noRaise ?_
  k_fold
  k_steps
  all_goals exact hret _ _ _ [] (Fr.keep (by k_asm)) (Made.of (L := L') News.nil) ⟨rfl, rfl⟩

set_option maxHeartbeats 4000000 in
theorem isN_spec (w : World) (n : Int) (t : Tok) : SpecK 4 w 66 [.int n t] (fun _ => True) (fun v news => v = .bool (decide (n ≥ 256)) ∧ news = []) := by
  unfold SpecK
  k_fill
  k_with_none
  w_top off
  intro mean mg mb dp un gd cn cs a ccd cl outer A₀ base h₀ L m s Q E B F X T hk hdp hun hp hret
  refine enterS [(PySem.Str.ofString "x", .int n t)] B F X T rfl rfl hk (by k_dflt k_is) (by k_dflt k_is) (by ktr_room) rfl rfl ?_ rfl rfl rfl (by decide)
  intro L' h₁ hL' F₁ N₁ B₁ X₁ T₁
  clear B F X T hL'
  refine wpAny_noRaise ?_
  k_fold
  k_steps
  all_goals exact hret _ _ _ [] (Fr.keep (by k_asm)) (Made.of (L := L') News.nil) ⟨rfl, rfl⟩

theorem dict_keeps {K : Type} [DecidableEq K] {prog : Program} {w : World} {knd : KeyKind prog w K} {h h' : Heap} {d : Addr} {kvs : List (K × Value)} (hD : h.DictOf knd d kvs) (k : ∀ b o, h.get? b = some o → h'.get? b = some o) : h'.DictOf knd d kvs :=
  let ⟨o, es, ep, ho, r⟩ := hD; ⟨o, es, ep, k _ _ ho, r⟩

noncomputable def cmt (x : Str) : Str := if (Txt.rstrip x).length = 0 then Str.ofString "#" else Str.ofString "# " ++ Txt.rstrip x
set_option maxHeartbeats 4000000 in
theorem cmt_spec (w : World) (x : Str) (t : Tok) (hx : x.length ≤ 100) :
    SpecK 4 w 49 [.str x t] (fun _ => True) (fun v news => (∃ t', v = .str (cmt x) t') ∧ news = []) := by
  unfold SpecK
  k_fill
  k_with_none
  w_top off
  intro mean mg mb dp un gd cn cs a ccd cl outer A₀ base h₀ L m s Q E B F X T hk hdp hun hp hret
  refine enterS [(PySem.Str.ofString "line", .str x t)] B F X T rfl rfl hk (by k_dflt k_is) (by k_dflt k_is) (by ktr_room) rfl rfl ?_ rfl rfl rfl (by decide)
  intro L' h₁ hL' F₁ N₁ B₁ X₁ T₁
  clear B F X T hL'
  refine wpAny_noRaise ?_
  k_fold
  have hz : x.length ≤ sizeLine := Nat.le_trans hx (by rw [sizeLine_eq]; decide)
  k_steps
  · rename ((Txt.rstrip x).length : Int) ≠ 0 => hz2
    exact hret _ _ _ [] (Fr.keep (by k_asm)) (Made.of (L := L') News.nil) ⟨⟨_, by rw [cmt, if_neg (by omega)]⟩, rfl⟩
  · rename ((Txt.rstrip x).length : Int) = 0 => hz2
    exact hret _ _ _ [] (Fr.keep (by k_asm)) (Made.of (L := L') News.nil) ⟨⟨_, by rw [cmt, if_pos (by omega)]⟩, rfl⟩
end Mine

-- part SrGenA
namespace Mine
open PySem PySem.W PySem.Spec PySem.Calls PyProof.Rows

section
variable {prog : Program} {w : World} {A : Around} {E : Value → Shared → Prop} {s : Shared}

/-- a StopIteration made and raised: the end of a generator function's run, as pyNext sees it -/
theorem stop_raised {α : Type} {k : Sem α} {Q : α → Shared → Prop} {E : Value → Shared → Prop} (hh : A.handled = none)
    (h : ∀ h' e, (∀ b o, s.heap.get? b = some o → h'.get? b = some o) → (∃ o, h'.get? e = some o ∧ o.cls = .type "StopIteration") → E (.ref e) { s with heap := h' }) :
    wpAny (model prog w) A (newExc (.type "StopIteration") [] >>= fun x => raiseNew x >>= fun (_ : Unit) => k) Q E s := by
  refine wpAny_bind ?_
  simp only [newExc, newTuple]
  refine wpAny_bind (wpAny_newObj_type ?_ (by size_fits))
  refine wpAny_bind (m := firstArgMember _ _) (wpAny_of_eq (a := Value.none) (by first | rfl | (simp only [firstArgMember]; rfl)) ?_)
  refine wpAny_newObj_type ?_ (by size_fits)
  simp only [raiseNew]
  refine wpAny_bind (wpAny_bind (wpAny_handled ?_))
  rw [hh]
  refine wpAny_throw (h _ _ (fun b o hb => Heap.get?_push_of_some _ (Heap.get?_push_of_some _ hb)) ⟨_, Heap.get?_push_size _ rfl, rfl⟩)

/-- a generator function is asked for its next: the suspended state is told to be bare -/
theorem pyNext_genf {a : Addr} {g n : Nat} {gs : GenState} {P : Nat → Shared → Shared → Prop} {Y : Protocol} {Q : Option Value → Shared → Prop} (hh : A.handled = none)
    (hl : s.heap.NoLimit) (hroom : A.depth < recursionLimit) (hg : s.heap.IsGen a g) (hgs : s.gens[g]? = some gs)
    (hgo : gs.Goes (model prog w) A.in1 (fun n s₀ r s₁ => r = .ok (.ret .none) ∧ P n s₀ s₁) Y n (.send .none) (s.setGen g .running))
    (hY : ∀ v s₁ gs', gs'.bare = true → Y (n - 1) (s.setGen g .running) v s₁ (fun r' s'' => match n with
        | 0 => False
        | m + 1 => gs'.Goes (model prog w) A.in1 (fun n s₀ r s₁ => r = .ok (.ret .none) ∧ P n s₀ s₁) Y m r' s'') → Q (some v) (s₁.setGen g gs'))
    (hP : ∀ s₁, P n (s.setGen g .running) s₁ → ∀ h', (∀ b o, s₁.heap.get? b = some o → h'.get? b = some o) → Q none { s₁.setGen g .finished with heap := h' }) :
    wpAny (model prog w) A (pyNext (.ref a)) Q E s := by
  unfold pyNext
  refine wpAny_bind (wpAny_attempt (wpAny_callSpecial?_slot (name := Str.ofString "__next__") hg.typeIs slot_gen_next
    (wpAny_call_entry slot_gen_next hg.typeIs entry_gen_next ?_ (args_gen_next _))))
  show wpAny _ A.in1 (Builtin.Generator.genWake (.ref a) (.send .none)) _ _ s
  unfold Builtin.Generator.genWake
  refine wpAny_bind (wpAny_holding (wpAny_genNumber hg (wpAny_bind (wpAny_genState hgs ?_))))
  cases gs with
  | running => exact hgo.elim
  | finished => exact hgo.elim
  | _ =>
    refine wpAny_bind (wpAny_roomToWake hl hroom ?_)
    show wpAny _ A.in1 (.resume g (.send .none) [] _) _ _ s
    refine wpAny_resumeQ hgs hgo (fun x s₁ hx => ?_) (fun v s₁ gs' hb hv => ?_)
    · obtain ⟨rfl, hp⟩ := hx
      refine stop_raised hh fun h' e hk he => ?_
      obtain ⟨o, ho, hc⟩ := he
      refine wpAny_bind (wpAny_isInstance (T := "StopIteration") (b := true) ⟨o, ho, hc⟩ isSubtype_stop ?_)
      exact wpAny_pure (hP s₁ hp h' hk)
    · exact wpAny_pure ⟨v, rfl, wpAny_pure (hY v s₁ gs' hb hv)⟩
end

section
variable {M : Model} {A : Around} {R : GenEnd} {Y : Protocol} {n : Nat} {s₀ : Shared} {c : Code} {fs : List Frame} {s : Shared} {env : Env}
  {K : Flow → Sem Fin} {H : Value → Sem Fin} {gd : Bool → Bool} {lv : List Value → List Value}

/-- what a for statement does when its loop comes back -/
noncomputable def forBack (env : Env) (K : Flow → Sem Fin) (H : Value → Sem Fin) (gd : Bool → Bool) (lv : List Value → List Value) (r : Result) : Sem Fin :=
  ((match r with | .ok f => (.pure f : Sem Flow) | .error e => .raise e).onRaise fun (x : Value) => do
    if (← field x 1) == Value.none then unsupported "frame.own-activation:exception-without-traceback"
    setFlight x env.frame).wrap K H gd lv

theorem forBack_ok {f : Flow} : forBack env K H gd lv (.ok f) = K f := rfl

theorem seg_For {target iter : Expr} {body orelse : List Stmt} {pos : Pos}
    (h : wpAny M (A.over c fs) (eval iter env) (fun x s₁ => wpAny M (A.over c fs) (pyIter x) (fun it s₂ =>
        ∀ p, Seg M A R Y n s₀ (.forLoop target it body orelse env) (M.den (.forLoop target it body orelse env)) (.ret (forBack env K H gd lv) none (gd false) (lv []) c p [] :: fs) s₂)
        (fun e s' => Seg M A R Y n s₀ c (H e) fs s') s₁) (fun e s' => Seg M A R Y n s₀ c (H e) fs s') s)
    (hs : ∀ x, foldedSetIterable iter env x = pure x) :
    Seg M A R Y n s₀ c ((exec (.For target iter body orelse pos) env).wrap K H gd lv) fs s := by
  rw [exec_For]
  refine seg_bind_wrap (wpAny_standAt (seg_bind_wrap (wpAny_mono h (fun x s₁ h₁ => ?_) fun _ _ y => y)))
  refine seg_bind_wrap (wpAny_of_eq (hs x) ?_)
  refine seg_bind_wrap (wpAny_standAt (seg_bind_wrap (wpAny_holding (wpAny_mono h₁ (fun it s₂ h₂ => ?_) fun _ _ y => y))))
  exact seg_call h₂

theorem seg_If {test : Expr} {body orelse : List Stmt} {pos : Pos}
    (h : wpAny M (A.over c fs) (isTrue test env (eval test env)) (fun b s' => if b then Seg M A R Y n s₀ c ((execs body env).wrap K H gd lv) fs s' else Seg M A R Y n s₀ c ((execs orelse env).wrap K H gd lv) fs s')
      (fun e s' => Seg M A R Y n s₀ c (H e) fs s') s) :
    Seg M A R Y n s₀ c ((exec (.If test body orelse pos) env).wrap K H gd lv) fs s := by
  rw [exec_If]
  refine seg_bind_wrap (wpAny_standAt (seg_bind_wrap (wpAny_mono h (fun b s' h' => ?_) fun _ _ y => y)))
  cases b <;> exact h'
end
end Mine

-- part SrGenB
namespace Mine
open PySem PySem.W PySem.Spec PySem.Calls PyProof.Rows

noncomputable def loopOn (target : Expr) (it : Value) (body : List Stmt) (env : Env) : Flow → Sem Fin
  | .next | .cont => .pure (.again (.forLoop target it body [] env))
  | .brk => .pure (.done .next)
  | .ret v => .pure (.done (.ret v))
noncomputable def loopOff (env : Env) (e : Value) : Sem Fin := (do noteFrame e env; theTreesLotGoes e : Sem Unit).wrap (fun _ => .raise e) .raise id id

section
variable {prog : Program} {w : World} {A : Around} {R : GenEnd} {Y : Protocol} {n : Nat} {s₀ : Shared} {fs : List Frame} {s : Shared} {env : Env}

theorem seg_forLoop {target : Expr} {it : Value} {body : List Stmt}
    (h : wpAny (model prog w) (A.over (.forLoop target it body [] env) fs) (pyNext it) (fun r s₁ => match r with
        | none => Seg (model prog w) A R Y n s₀ (.block [] env) (.pure (.done .next)) fs s₁
        | some v => wpAny (model prog w) (A.over (.forLoop target it body [] env) fs) (letOwnedTupleGo target it v) (fun _ s₂ =>
            wpAny (model prog w) (A.over (.forLoop target it body [] env) fs) (assign target env v) (fun _ s₃ =>
              Seg (model prog w) A R Y n s₀ (.forLoop target it body [] env) ((execs body env).wrap (loopOn target it body env) (loopOff env) id id) fs s₃)
              (fun e s' => Seg (model prog w) A R Y n s₀ (.forLoop target it body [] env) (loopOff env e) fs s') s₂)
            (fun e s' => Seg (model prog w) A R Y n s₀ (.forLoop target it body [] env) (loopOff env e) fs s') s₁)
        (fun e s' => Seg (model prog w) A R Y n s₀ (.forLoop target it body [] env) (loopOff env e) fs s') s) :
    Seg (model prog w) A R Y n s₀ (.forLoop target it body [] env) ((model prog w).den (.forLoop target it body [] env)) fs s := by
  show Seg _ A R Y n s₀ _ ((forTurn target it body [] env).onRaise (fun x => do noteFrame x env; theTreesLotGoes x)) fs s
  unfold forTurn
  rw [Sem.onRaise_eq_wrap]
  have hH : (fun e => (do noteFrame e env; theTreesLotGoes e : Sem Unit).bind fun _ => (.raise e : Sem Fin)) = loopOff env := by
    funext e; unfold loopOff; rw [← Sem.bind_eq_wrap]
  rw [hH]
  refine seg_bind_wrap (wpAny_standAt (seg_bind_wrap (wpAny_onRaise (wpAny_mono h (fun r s₁ h₁ => ?_) fun e s' h' => wpAny_standAt h'))))
  cases r with
  | none => exact seg_again rfl h₁
  | some v =>
    refine seg_bind_wrap (wpAny_mono h₁ (fun _ s₂ h₂ => ?_) fun _ _ y => y)
    refine seg_bind_wrap (wpAny_mono h₂ (fun _ s₃ h₃ => ?_) fun _ _ y => y)
    rw [Sem.bind_eq_wrap', Sem.wrap_wrap]
    refine Eq.mp (congrArg (fun t => Seg (model prog w) A R Y n s₀ (.forLoop target it body [] env) t fs s₃) ?_) h₃
    exact Sem.wrap_congr (execs body env) id id (fun f => by cases f <;> rfl) (fun _ => rfl)

theorem splitR {k : Result → Sem Fin} {h : Option Value} {g : Bool} {l : List Value} {c : Code} {p : Pos} {kp : List Value} : splitAtGen [Frame.ret k h g l c p kp] = none := rfl

/-- what the generator yields: place and sign; kap: it goes on from any state that has its own three objects as they are -/
noncomputable def Yp (x : Str) (L e it : Addr) : Protocol := fun m s₀ v s kap =>
  ∃ (i c : Nat) (T : Addr) (t u : Tok), x.cps.size = i + 1 + m ∧ x.cps[i]? = some c ∧ v = .ref T ∧ s₀.heap.get? T = none ∧ s.heap.IsTuple T #[.int i t, .str ⟨#[c]⟩ u] ∧ T ∉ [L, e, it] ∧ (∀ b ∈ [L, e, it], ∃ o, s.heap.get? b = some o) ∧
    GenSince L [e, it] s₀ s ∧ ∀ s'' : Shared, (∀ b ∈ [L, e, it], ∀ o, s.heap.get? b = some o → s''.heap.get? b = some o) → kap (.send .none) s''
/-- how it ends -/
noncomputable def Rp (L e it : Addr) : GenEnd := fun n s₀ r s₁ => r = .ok (.ret .none) ∧ (n = 0 ∧ GenSince L [e, it] s₀ s₁)

noncomputable def signAt (x : Str) (i : Nat) (v : Value) : Prop := ∃ c u, x.cps[i]? = some c ∧ v = Value.str ⟨#[c]⟩ u

theorem seg_escape {x : Str} {L e it : Addr} {St : Nat → Heap → Prop} {Mid : Nat → Addr → Heap → Prop} {p1 p2 p3 p4 p5 p6 p7 p8 p9 p10 p11 q1 q2 q3 : Pos} {k1 k2 : Nat} {B1 B2 : List Stmt}
    {target : Expr} {body : List Stmt} (htg : target = .Tuple [.Name (Str.ofString "pos") q1, .Name (Str.ofString "ch") q2] k1 q3)
    (hbd : body = [.If (.Name (Str.ofString "escape") p1) B1 [.If (.Compare (.Name (Str.ofString "ch") p2) [.Eq] [.Constant (.str (Str.ofString "\\")) 0 p3] p4) B2 [.Expr (.Yield (some (.Tuple [.Name (Str.ofString "pos") p5, .Name (Str.ofString "ch") p6] k2 p7)) p8) p9] p10] p11])
    (hh : A.handled = none) (hx : ∀ (i c : Nat), x.cps[i]? = some c → c ≠ 92) (hL : env.locals = L) (hLe : L ≠ e) (hLi : L ≠ it)
    (W : ∀ A' : Around, A'.handled = none → WalksT prog w A' e [e, it] [e, it] x.cps.size (fun i vals => ∃ t v, signAt x i v ∧ vals = #[.int i t, v]) St Mid)
    (hk : env.scope.kind = .function) (hco : env.scope.isCoroutine = false) (hint : interactive env = false)
    (k1' : env.kindOf (Str.ofString "escape") = some .local) (k2' : env.kindOf (Str.ofString "pos") = some .local) (k3' : env.kindOf (Str.ofString "ch") = some .local)
    (live : ∀ i h, St i h → (∃ o, h.get? e = some o) ∧ (∃ o, h.get? it = some o))
    {c : Code} {back : Result → Sem Fin}
    (out : ∀ (s₀ s : Shared) (m : Str → Option Value), s.heap.Ns L m → m (Str.ofString "escape") = some (.bool false) → GenSince L [e, it] s₀ s → Seg (model prog w) A (Rp L e it) (Yp x L e it) 0 s₀ c (back (.ok .next)) [] s) :
    ∀ (k i : Nat) (s₀ s : Shared) (m : Str → Option Value) (p : Pos), x.cps.size - i = k → i ≤ x.cps.size → St i s.heap → s.heap.Ns L m → m (Str.ofString "escape") = some (.bool false) → GenSince L [e, it] s₀ s →
      Seg (model prog w) A (Rp L e it) (Yp x L e it) k s₀ (.forLoop target (.ref e) body [] env) ((model prog w).den (.forLoop target (.ref e) body [] env)) [.ret back none false [] c p []] s := by
  intro k
  induction k with
  | zero =>
    intro i s₀ s m p hk hi hst hn hm hsince
    have hin : i = x.cps.size := by omega
    subst hin
    have hh' : (A.over (.forLoop target (.ref e) body [] env) [.ret back none false [] c p []]).handled = none := by
      first | exact hh | simpa [Around.over, topHandled, topHandled.go] using hh
    refine seg_forLoop ((W _ hh').done s _ _ hst fun h' tk hk' => ?_)
    refine seg_leaf (.ok .next) (out _ _ m (hn.at' fun o q => hk' L o (by simp [hLe, hLi]) q) hm (hsince.step fun b o _ hw q => hk' b o hw q))
  | succ k ih =>
    intro i s₀ s m p hk' hi hst hn hm hsince
    have hlt : i < x.cps.size := by omega
    have hh' : (A.over (.forLoop target (.ref e) body [] env) [.ret back none false [] c p []]).handled = none := by
      first | exact hh | simpa [Around.over, topHandled, topHandled.go] using hh
    have hh₂ : (A.over (.forLoop (.Tuple [.Name (Str.ofString "pos") q1, .Name (Str.ofString "ch") q2] k1 q3) (.ref e) body [] env) [.ret back none false [] c p []]).handled = none := by
      first | exact hh | simpa [Around.over, topHandled, topHandled.go] using hh
    refine seg_forLoop ((W _ hh').item i s _ _ hlt hst fun T vals h₁ tk₁ hP hT ht hmid hk₁ => ?_)
    obtain ⟨t, v, ⟨cc, u, hcc, rfl⟩, rfl⟩ := hP
    dsimp only
    have go := (W _ hh').go [.Name (Str.ofString "pos") q1, .Name (Str.ofString "ch") q2] k1 q3 i T
    rw [← htg] at go
    refine go _ _ _ hmid fun h₂ hst₂ hk₂ => ?_
    have hTw : T ∉ [e, it] := (W _ hh').apart i T _ hmid
    have ht₂ : h₂.IsTuple T #[.int i t, .str ⟨#[cc]⟩ u] := ht.at fun o q => hk₂ T o hTw q
    have hLw : L ∉ [e, it] := by simp [hLe, hLi]
    have hn₂ : h₂.Ns L m := (hn.at' fun o q => hk₁ L o hLw q).at' fun o q => hk₂ L o hLw q
    rw [htg]
    refine wpAny_assign_Tuple hh₂ ht₂ rfl rfl fun h₃ hx₃ => ?_
    replace hx₃ : Heap.ExtBut h₂.objs.size h₂ h₃ := hx₃
    rw [← htg]
    have lt₂ : ∀ b o, h₂.get? b = some o → b ≠ h₂.objs.size := fun b o q => Nat.ne_of_lt (Heap.lt_size q)
    have old₃ : ∀ b o, h₂.get? b = some o → h₃.get? b = some o := fun b o q => hx₃ b o (lt₂ b o q) q
    have hn₃ : h₃.Ns L m := hn₂.at' fun o q => old₃ _ o q
    have hst₃ : St (i + 1) h₃ := (W _ hh').frame _ _ _ hst₂ fun b _ o q => old₃ b o q
    show wpAny _ _ (do holding [Value.str ⟨#[cc]⟩ u] (assign (.Name (Str.ofString "pos") q1) env (.int i t)); do holding [] (assign (.Name (Str.ofString "ch") q2) env (Value.str ⟨#[cc]⟩ u)); pure ()) _ _ _
    have hp : (env.scope.kind == .class || (env.scope.kind == .module && env.locals != env.globals)) = false := by rw [hk]; rfl
    rw [← hL] at hn₃
    refine wpAny_bind (wpAny_holding (wpAny_assign_Name (wpAny_storeName_local k2' hn₃ (fun h₄ hn₄ hs₄ => ?_) hp)))
    replace hs₄ : Heap.SameBut env.locals h₃ h₄ := hs₄
    refine wpAny_bind (wpAny_holding (wpAny_assign_Name (wpAny_storeName_local k3' hn₄ (fun h₅ hn₅ hs₅ => wpAny_pure ?_) hp)))
    replace hs₅ : Heap.SameBut env.locals h₄ h₅ := hs₅
    have up : ∀ b o, b ≠ L → h₃.get? b = some o → h₅.get? b = some o := fun b o hb q => hs₅.extBut b o (by rw [hL]; exact hb) (hs₄.extBut b o (by rw [hL]; exact hb) q)
    have hst₅ : St (i + 1) h₅ := (W _ hh').frame _ _ _ hst₃ fun b hb o q => up b o (fun h => hLw (h ▸ hb)) q
    rw [show execs body env = execs _ env from congrArg (fun b => execs b env) hbd]
    refine seg_execs_cons (seg_If (wpAny_isTrue_value (wpAny_Name (wpAny_loadName_local hk k1' hn₅ (v := .bool false) (by rw [if_neg (by decide), if_neg (by decide)]; exact hm) (wpAny_truthy_bool ?_))) ))
    rw [if_neg Bool.false_ne_true]
    refine seg_execs_cons (seg_If (wpAny_isTrue_Compare1 (wpAny_Name (wpAny_loadName_local hk k3' hn₅ (v := .str ⟨#[cc]⟩ u) (by rw [if_pos rfl]) (wpAny_Constant_str (PyProof.Rows.eq_str (wpAny_truthy_bool ?_)))))))
    have hcc' : ((⟨#[cc]⟩ : Str) == Str.ofString "\\") = false := by
      have hne := hx i cc hcc
      have e92 : Str.ofString "\\" = ⟨#[92]⟩ := by decide +kernel
      rw [e92]
      exact beq_false_of_ne fun z => hne (by injection z with z; injection z with z; injection z)
    rw [hcc', if_neg Bool.false_ne_true]
    refine seg_execs_cons (seg_Expr_Yield rfl rfl rfl ?_ hco hint)
    refine Tuple_ (spliced_more (wpAny_Name (wpAny_loadName_local hk k2' hn₅ (v := .int i t) (by rw [if_neg (by decide), if_pos rfl]) ?_)))
    refine spliced_more (wpAny_Name (wpAny_loadName_local hk k3' hn₅ (v := .str ⟨#[cc]⟩ u) (by rw [if_pos rfl]) (spliced_none ?_)))
    refine wpAny_newTuple (fun kap hkap => ?_)
    dsimp only
    generalize hh6 : h₅.push { cls := .type "tuple", data := .seq [Value.int i t, Value.str ⟨#[cc]⟩ u].toArray } = h₆
    have up6 : ∀ b o, h₅.get? b = some o → h₆.get? b = some o := fun b o q => by rw [← hh6]; exact Heap.get?_push_of_some _ q
    have hT6 : h₆.IsTuple h₅.objs.size #[.int i t, .str ⟨#[cc]⟩ u] := by rw [← hh6]; exact ⟨_, Heap.get?_push_size _ rfl, rfl, _, rfl⟩
    have keep1 : ∀ b o, b ≠ L → b ∉ [e, it] → s.heap.get? b = some o → h₅.get? b = some o := fun b o hb hw q => up b o hb (old₃ b o (hk₂ b o hw (hk₁ b o hw q)))
    have hLs : L < s.heap.objs.size := hn.lt
    have hLh : L < h₅.objs.size := hL ▸ hn₅.lt
    have hTL : T ≠ L := fun q => by subst q; exact Nat.lt_irrefl _ (Nat.lt_of_lt_of_le hLs hT)
    have hT5 : T < h₅.objs.size := by obtain ⟨o, ho, _⟩ := ht₂; exact Heap.lt_size (up T o hTL (old₃ T o ho))
    obtain ⟨⟨oe, hoe⟩, ⟨oi, hoi⟩⟩ := live _ _ hst₅
    have he5 : e < h₅.objs.size := Heap.lt_size hoe
    have hi5 : it < h₅.objs.size := Heap.lt_size hoi
    have hfresh : s₀.heap.get? h₅.objs.size = none := by
      cases q : s₀.heap.get? h₅.objs.size with
      | none => rfl
      | some o =>
        obtain ⟨hs', tks, es, ks⟩ := id hsince
        have : hs'.get? h₅.objs.size = some o := ks _ o (fun z => Nat.lt_irrefl _ (z ▸ hLh)) (by
          intro z
          rcases List.mem_cons.mp z with z | z
          · exact Nat.lt_irrefl _ (z ▸ he5)
          · exact Nat.lt_irrefl _ (List.mem_singleton.mp z ▸ hi5)) q
        have hsz : s.heap = hs' := by rw [es]
        have h1 := Heap.lt_size this
        rw [← hsz] at h1
        exact absurd (Nat.lt_of_lt_of_le h1 hT) (Nat.not_lt_of_lt hT5)
    refine ⟨i, cc, h₅.objs.size, t, u, by omega, hcc, rfl, hfresh, hT6, ?_, ?_, hsince.step fun b o hb hw q => up6 b o (keep1 b o hb hw q), fun s'' hal => hkap .none s'' ?_⟩
    · intro z
      rcases List.mem_cons.mp z with z | z
      · exact Nat.lt_irrefl _ (z ▸ hLh)
      · rcases List.mem_cons.mp z with z | z
        · exact Nat.lt_irrefl _ (z ▸ he5)
        · exact Nat.lt_irrefl _ (List.mem_singleton.mp z ▸ hi5)
    · intro b hb
      rcases List.mem_cons.mp hb with rfl | hb
      · obtain ⟨oL, _, _, hoL, _⟩ := hn₅
        exact ⟨oL, up6 _ _ (hL ▸ hoL)⟩
      · rcases List.mem_cons.mp hb with rfl | hb
        · exact ⟨oe, up6 _ _ hoe⟩
        · rw [List.mem_singleton.mp hb]; exact ⟨oi, up6 _ _ hoi⟩
    · have hst6 : St (i + 1) s''.heap := (W _ hh').frame _ _ _ hst₅ fun b hb o q => hal b (List.mem_cons_of_mem _ hb) o (up6 b o q)
      have hn6 := (hn₅.at' fun o q => up6 _ o q).at' fun o q => hal env.locals (hL ▸ List.mem_cons_self ..) o q
      rw [hL] at hn6
      exact seg_again rfl (ih (i + 1) s'' s'' _ p (by omega) hlt hst6 hn6 (by rw [if_neg (by decide), if_neg (by decide)]; exact hm) (GenSince.refl _ _ _))
end
end Mine

-- part SrGenC
namespace Mine
open PySem PySem.W PySem.Spec PySem.Calls PyProof.Rows

theorem enum_draws {prog : Program} {w : World} (x : Str) (t : Tok) (it : Addr) :
    ∃ St : Nat → Heap → Prop, (∀ A : Around, A.handled = none → Draws prog w A it [it] x.cps.size (signAt x) St) ∧ ∀ h : Heap, h.IsStrIter it (strIterType x) x t 0 → St 0 h := by
  cases ha : x.cps.all (· < 128)
  · exact ⟨_, fun A hh => Draws.strWide hh it x t, fun h hi => by simpa [strIterType, ha] using hi⟩
  · exact ⟨_, fun A hh => Draws.strAscii hh it x t, fun h hi => by simpa [strIterType, ha] using hi⟩

section
variable {prog : Program} {w : World} {A : Around} {s : Shared} {env : Env}

theorem seg_start {x : Str} {tk : Tok} {L : Addr} {p1 p2 p3 p4 p5 p6 p7 p8 p9 p10 p11 q1 q2 q3 a1 a2 a3 b1 b2 b3 n1 n2 n3 n4 r1 r2 : Pos} {k1 k2 : Nat} {B1 B2 B3 : List Stmt}
    {target : Expr} {body : List Stmt} (htg : target = .Tuple [.Name (Str.ofString "pos") q1, .Name (Str.ofString "ch") q2] k1 q3)
    (hbd : body = [.If (.Name (Str.ofString "escape") p1) B1 [.If (.Compare (.Name (Str.ofString "ch") p2) [.Eq] [.Constant (.str (Str.ofString "\\")) 0 p3] p4) B2 [.Expr (.Yield (some (.Tuple [.Name (Str.ofString "pos") p5, .Name (Str.ofString "ch") p6] k2 p7)) p8) p9] p10] p11])
    (hh : A.handled = none) (hx : ∀ (i c : Nat), x.cps[i]? = some c → c ≠ 92) (hL : env.locals = L)
    (hk : env.scope.kind = .function) (hco : env.scope.isCoroutine = false) (hint : interactive env = false)
    (k1' : env.kindOf (Str.ofString "escape") = some .local) (k2' : env.kindOf (Str.ofString "pos") = some .local) (k3' : env.kindOf (Str.ofString "ch") = some .local) (k4' : env.kindOf (Str.ofString "addr") = some .local)
    (hsw1 : swapsWith (.Constant (.int 0) 0 a2) (some (.Name (Str.ofString "pos") a1)) a3.line env = pure false) (hsw2 : swapsWith (.Constant (.bool false) 0 b2) (some (.Name (Str.ofString "escape") b1)) b3.line env = pure false)
    {m : Str → Option Value} (hn : s.heap.Ns L m) (hm : m (Str.ofString "addr") = some (.str x tk))
    (hEn : ∀ (A' : Around) (s' : Shared) (Q : Value → Shared → Prop) (E : Value → Shared → Prop), (∀ b o, b ≠ L → s.heap.get? b = some o → s'.heap.get? b = some o) → Q (.type "enumerate") s' → wpAny (model prog w) A' (eval (.Name (Str.ofString "enumerate") n1) env) Q E s') :
    Seg (model prog w) A (Rp L (s.heap.objs.size + 1) s.heap.objs.size) (Yp x L (s.heap.objs.size + 1) s.heap.objs.size) x.cps.size s
      (.func [.Assign [.Name (Str.ofString "pos") a1] (.Constant (.int 0) 0 a2) a3, .Assign [.Name (Str.ofString "escape") b1] (.Constant (.bool false) 0 b2) b3,
        .For target (.Call (.Name (Str.ofString "enumerate") n1) [.Name (Str.ofString "addr") n2] [] n3) body [] n4, .If (.Name (Str.ofString "escape") r1) B3 [] r2] env)
      ((model prog w).den (.func [.Assign [.Name (Str.ofString "pos") a1] (.Constant (.int 0) 0 a2) a3, .Assign [.Name (Str.ofString "escape") b1] (.Constant (.bool false) 0 b2) b3,
        .For target (.Call (.Name (Str.ofString "enumerate") n1) [.Name (Str.ofString "addr") n2] [] n3) body [] n4, .If (.Name (Str.ofString "escape") r1) B3 [] r2] env)) [] s := by
  obtain ⟨St, D, hSt⟩ := enum_draws (prog := prog) (w := w) x tk s.heap.objs.size
  have hLs : L < s.heap.objs.size := hn.lt
  have hp : (env.scope.kind == .class || (env.scope.kind == .module && env.locals != env.globals)) = false := by rw [hk]; rfl
  subst hL
  refine seg_func (seg_execs_cons (seg_wrap (wpAny_Assign_Name (wpAny_Constant_int (wpAny_storeName_local k2' hn (fun h₁ hn₁ hs₁ => ?_) hp)) hsw1)))
  replace hs₁ : Heap.SameBut env.locals s.heap h₁ := hs₁
  refine seg_execs_cons (seg_wrap (wpAny_Assign_Name (wpAny_Constant_bool (wpAny_storeName_local k1' hn₁ (fun h₂ hn₂ hs₂ => ?_) hp)) hsw2))
  replace hs₂ : Heap.SameBut env.locals h₁ h₂ := hs₂
  have sz : h₂.objs.size = s.heap.objs.size := by rw [hs₂.1, hs₁.1]
  have keep2 : ∀ b o, b ≠ env.locals → s.heap.get? b = some o → h₂.get? b = some o := fun b o hb q => hs₂.extBut b o hb (hs₁.extBut b o hb q)
  refine seg_execs_cons (seg_For (PySem.Call_name1 rfl (hEn _ _ _ _ keep2 (PySem.callWith_type1 (wpAny_Name (wpAny_loadName_local hk k4' hn₂ (v := .str x tk) (by rw [if_neg (by decide), if_neg (by decide)]; exact hm) (call_enumerate_str fun h₃ he hi hz hk₃ => ?_)))))) ?_)
  · dsimp only at he hi hz hk₃ ⊢
    rw [sz] at he hi hz ⊢
    refine wpAny_pyIter_enum he fun p => ?_
    have hn₃ := hn₂.at' fun o q => hk₃ _ o q
    refine seg_escape (St := fun i h => (∃ old, IsEnum h (s.heap.objs.size + 1) s.heap.objs.size i old) ∧ St i h) (Mid := fun i T h => (∃ x, IsEnumOut h (s.heap.objs.size + 1) s.heap.objs.size ((i : Int) + 1) x T) ∧ St (i + 1) h ∧ T ≠ s.heap.objs.size + 1 ∧ T ≠ s.heap.objs.size) htg hbd hh hx rfl (Nat.ne_of_lt (Nat.lt_succ_of_lt hLs)) (Nat.ne_of_lt hLs)
      (fun A' hA' => ?_) hk hco hint k1' k2' k3' ?_ ?_ x.cps.size 0 s _ _ p (by omega) (Nat.zero_le _) ⟨⟨_, he⟩, hSt _ hi⟩ hn₃ (by rw [if_pos rfl]) ?_
    · exact WalksT.enumerateD (D A'.in1 hA') _ (Nat.succ_ne_self _) (fun z => Nat.succ_ne_self _ (List.mem_singleton.mp z)) (List.mem_singleton.mpr rfl)
    · exact fun i h hs => ⟨⟨_, hs.1.choose_spec⟩, (D A hh).live i h hs.2⟩
    · intro s₀ s' m' hn' hm' hsince
      refine seg_execs_cons (seg_If (wpAny_isTrue_value (wpAny_Name (wpAny_loadName_local hk k1' hn' hm' (wpAny_truthy_bool ?_)))))
      rw [if_neg Bool.false_ne_true]
      exact seg_end (.ok (.ret .none)) ⟨rfl, rfl, hsince⟩
    · exact ⟨h₃, _, rfl, fun b o hb _ q => hk₃ b o (keep2 b o hb q)⟩
  · intro x; rfl
end
end Mine

-- part SrGenD
namespace Mine
open PySem PySem.W PySem.Spec PySem.Calls PyProof.Rows

/-- the generator over x stands before its i-th sign; own: the objects that are its own -/
noncomputable def GenSt (prog : Program) (w : World) (A : Around) (K : Frag) (TP : Heap → Prop) (x : Str) (g : Nat) (own : List Addr) (i : Nat) (s : Shared) : Prop :=
  (∀ b ∈ own, ∃ o, s.heap.get? b = some o) ∧ ∃ gs, s.gens[g]? = some gs ∧
    ((i = 0 ∧ ∃ L, own = [L] ∧ ∀ s'' : Shared, (∀ b ∈ own, ∀ o, s.heap.get? b = some o → s''.heap.get? b = some o) → K.In s''.heap → TP s''.heap →
        gs.Goes (model prog w) A.in1 (Rp L (s''.heap.objs.size + 1) s''.heap.objs.size) (Yp x L (s''.heap.objs.size + 1) s''.heap.objs.size) x.cps.size (.send .none) s'') ∨
     (∃ L e it, own = [L, e, it] ∧ ∀ s'' : Shared, (∀ b ∈ own, ∀ o, s.heap.get? b = some o → s''.heap.get? b = some o) →
        gs.Goes (model prog w) A.in1 (Rp L e it) (Yp x L e it) (x.cps.size - i) (.send .none) s''))

theorem GenSt.frame {prog : Program} {w : World} {A : Around} {K : Frag} {TP : Heap → Prop} {x : Str} {g : Nat} {own : List Addr} {i : Nat} {s s' : Shared} (st : GenSt prog w A K TP x g own i s) (hg : s'.gens = s.gens)
    (hk : ∀ b ∈ own, ∀ o, s.heap.get? b = some o → s'.heap.get? b = some o) : GenSt prog w A K TP x g own i s' := by
  obtain ⟨hi, gs, hgs, h⟩ := st
  refine ⟨fun b hb => (hi b hb).imp fun o q => hk b hb o q, gs, by rw [hg]; exact hgs, ?_⟩
  rcases h with ⟨h0, L, ho, h⟩ | ⟨L, e, it, ho, h⟩
  · exact .inl ⟨h0, L, ho, fun s'' hal => h s'' fun b hb o q => hal b hb o (hk b hb o q)⟩
  · exact .inr ⟨L, e, it, ho, fun s'' hal => h s'' fun b hb o q => hal b hb o (hk b hb o q)⟩

section
variable {prog : Program} {w : World} {A : Around} {K : Frag} {TP : Heap → Prop} {x : Str} {g : Nat} {own : List Addr} {i : Nat} {E : Value → Shared → Prop} {s : Shared}

theorem gen_goes (hx : GenSt prog w A K TP x g own i s) (X : K.In s.heap) (T : TP s.heap) : ∃ gs L e it, s.gens[g]? = some gs ∧ L ∈ own ∧ (∀ b ∈ [L, e, it], b ∈ own ∨ s.heap.get? b = none) ∧
    gs.Goes (model prog w) A.in1 (Rp L e it) (Yp x L e it) (x.cps.size - i) (.send .none) (s.setGen g .running) := by
  obtain ⟨hi, gs, hgs, h⟩ := hx
  rcases h with ⟨h0, L, ho, h⟩ | ⟨L, e, it, ho, h⟩
  · subst h0 ho
    refine ⟨gs, L, s.heap.objs.size + 1, s.heap.objs.size, hgs, List.mem_cons_self .., fun b hb => ?_, by have := h (s.setGen g .running) (fun _ _ _ q => q) X T; rw [Nat.sub_zero]; exact this⟩
    rcases List.mem_cons.mp hb with rfl | hb
    · exact .inl (List.mem_cons_self ..)
    · refine .inr (Heap.get?_none_of_le ?_)
      rcases List.mem_cons.mp hb with rfl | hb
      · exact Nat.le_succ _
      · rw [List.mem_singleton.mp hb]; exact Nat.le_refl _
  · subst ho
    exact ⟨gs, L, e, it, hgs, List.mem_cons_self .., fun b hb => .inl hb, h _ fun _ _ _ q => q⟩

theorem gen_item {a : Addr} {Q : Option Value → Shared → Prop} (hh : A.handled = none) (hl : s.heap.NoLimit) (hroom : A.depth < recursionLimit) (X : K.In s.heap) (T : TP s.heap) (hg : s.heap.IsGen a g)
    (st : GenSt prog w A K TP x g own i s) (hi : i < x.cps.size)
    (hQ : ∀ own' t c tk u h' tk' G', x.cps[i]? = some c → s.heap.get? t = none → h'.IsTuple t #[.int i tk, .str ⟨#[c]⟩ u] → t ∉ own' → (∀ b ∈ own', b ∈ own ∨ s.heap.get? b = none) →
      (∀ b o, b ∉ own → s.heap.get? b = some o → h'.get? b = some o) → (AllBare s.gens → AllBare G') → GenSt prog w A K TP x g own' (i + 1) { s with heap := h', toks := tk', gens := G' } →
      Q (some (.ref t)) { s with heap := h', toks := tk', gens := G' }) : wpAny (model prog w) A (pyNext (.ref a)) Q E s := by
  obtain ⟨gs, L, e, it, hgs, hLo, hown, hgo⟩ := gen_goes st X T
  refine pyNext_genf (P := fun n s₀ s₁ => n = 0 ∧ GenSince L [e, it] s₀ s₁) hh hl hroom hg hgs hgo (fun v s₁ gs' hb hv => ?_) (fun s₁ hp h' hk => ?_)
  · obtain ⟨j, c, t, tk, u, hsz, hc, rfl, hn, hT, hTo, hlv, ⟨h₁, tk₁, rfl, hk₁⟩, hkap⟩ := hv
    have hj : j = i := by omega
    subst hj
    have keep : ∀ b o, b ∉ own → s.heap.get? b = some o → h₁.get? b = some o := fun b o hb q => by
      refine hk₁ b o (fun z => hb (z ▸ hLo)) (fun z => ?_) q
      rcases hown b (List.mem_cons_of_mem _ z) with h | h
      · exact hb h
      · rw [h] at q; cases q
    refine hQ [L, e, it] t c tk u h₁ tk₁ _ hc hn hT hTo hown keep (fun ha => ?_) ⟨hlv, gs', setGen_self (gs := .running) (setGen_self hgs), .inr ⟨L, e, it, rfl, fun s'' hal => ?_⟩⟩
    · exact (GenOnlyQ.of ((GenOnly.setGen s g .running).trans (GenOnly.setGen { s.setGen g .running with heap := h₁, toks := tk₁ } g gs')) (setGen_self (gs := .running) (setGen_self hgs)) hb).bare ha
    · have := hkap s'' hal
      have e1 : x.cps.size - j = (x.cps.size - (j + 1)) + 1 := by omega
      rw [e1] at this
      exact this
  · exact absurd hp.1 (by omega)

theorem gen_done {a : Addr} {Q : Option Value → Shared → Prop} (hh : A.handled = none) (hl : s.heap.NoLimit) (hroom : A.depth < recursionLimit) (X : K.In s.heap) (T : TP s.heap) (hg : s.heap.IsGen a g)
    (st : GenSt prog w A K TP x g own i s) (hi : i = x.cps.size)
    (hQ : ∀ h' tk' G', (∀ b o, b ∉ own → s.heap.get? b = some o → h'.get? b = some o) → (AllBare s.gens → AllBare G') → Q none { s with heap := h', toks := tk', gens := G' }) : wpAny (model prog w) A (pyNext (.ref a)) Q E s := by
  obtain ⟨gs, L, e, it, hgs, hLo, hown, hgo⟩ := gen_goes st X T
  subst hi
  rw [Nat.sub_self] at hgo
  refine pyNext_genf (P := fun n s₀ s₁ => n = 0 ∧ GenSince L [e, it] s₀ s₁) hh hl hroom hg hgs hgo (fun v s₁ gs' hb hv => ?_) (fun s₁ hp h' hk => ?_)
  · obtain ⟨_, _, _, _, _, _, _, _, _, _, _, _, _, hkap⟩ := hv
    exact (hkap s₁ fun _ _ _ q => q).elim
  · obtain ⟨_, h₁, tk₁, rfl, hk₁⟩ := hp
    refine hQ h' tk₁ _ (fun b o hb q => hk b o (hk₁ b o (fun z => hb (z ▸ hLo)) (fun z => ?_) q)) fun ha => ?_
    · rcases hown b (List.mem_cons_of_mem _ z) with h | h
      · exact hb h
      · rw [h] at q; cases q
    · exact (GenOnlyQ.of ((GenOnly.setGen s g .running).trans (GenOnly.setGen { s.setGen g .running with heap := h₁, toks := tk₁ } g .finished)) (setGen_self (gs := .running) (setGen_self hgs)) rfl).bare ha
end
end Mine

-- part SrGenE
namespace Mine
open PySem PySem.W PySem.Spec PySem.Calls PyProof.Rows

section
variable {prog : Program} {w : World} {A : Around} {E : Value → Shared → Prop} {s : Shared} {K : Frag}

theorem make_gen {Q : Value → Shared → Prop} {name qual : Str} {params : Arguments} {body : List Stmt} {scope : Scope} {dV kV doc pm cdv ct oc : Value} {an od : Option Addr} {osl : Array (Option Value)} {f : Addr} {args : List Value} (binds : List (Str × Value))
    (X : K.In s.heap) (hlim : s.heap.NoLimit)
    (ho : K.lookup f = some ⟨oc, od, .func (fnOf name qual params body scope dV kV doc pm an cdv ct), osl⟩) (hcd : codeIn K cdv qual = true) (hroom : A.depth < recursionLimit)
    (hbind : bindArgs (fnOf name qual params body scope dV kV doc pm an cdv ct) ⟨args, []⟩ = pure binds) (hloc : (binds.all fun x => decide (scope.names.lookup x.1 = some .local)) = true)
    (h : ∀ (h₁ : Heap) (tk : Nat), h₁.Ns s.heap.objs.size (fun y => binds.reverse.lookup y) → (∀ b o, s.heap.get? b = some o → h₁.get? b = some o) → h₁.objs.size = s.heap.objs.size + 1 →
      Q (.ref h₁.objs.size) { s with gens := s.gens.push (.fresh (.func body (envOf qual scope s.heap.objs.size f cdv))), toks := tk + 1 + 1, heap := h₁.push { cls := .type "generator", data := .fields #[.int s.gens.size 0, .str name tk, .str qual (tk + 1)] } })
    (hco : scope.isCoroutine = false) (hgen : scope.isGenerator = true) (hk : scope.kind = .function)
    (hcell : ∀ x ∈ scope.names, x.2 ≠ .cell) : wpAny (model prog w) A (call (.ref f) args) Q E s := by
  refine wpAny_call (codeAny_call_generator (fd := fnOf name qual params body scope dV kV doc pm an cdv ct) (body := body) hroom (X _ _ ho) rfl hco hgen rfl (codeRec_of X hcd) ?_)
  rw [hbind]
  refine wpAny_pure (wpAny_newFunctionEnv hcell (locs hloc) (fun h₁ hns hsb => ⟨hlim.fresh _ hsb, ?_⟩) hk)
  exact h h₁ _ hns (fun b o e => hsb.extBut b o (Nat.ne_of_lt (Heap.lt_size e)) (Heap.get?_push_of_some _ e)) (by rw [hsb.1, Heap.size_push])
end

noncomputable abbrev KK (w : World) : Frag := hd.heap_39 w.params
noncomputable abbrev TT (mean : ExcName → Option Value) (mg mb : Str → Option Value) (h : Heap) : Prop := Top hd.view_39 loo mean mg mb h

set_option maxHeartbeats 1000000 in
theorem gen_make {w : World} {A : Around} {E Q : Value → Shared → Prop} {s : Shared} {mean : ExcName → Option Value} {mg mb : Str → Option Value} {x : Str} {t : Tok} (hh : A.handled = none) (hroom : A.depth < recursionLimit)
    (X : (hd.heap_39 w.params).In s.heap) (T : Top hd.view_39 loo mean mg mb s.heap) (hx : ∀ (i c : Nat), x.cps[i]? = some c → c ≠ 92)
    (hQ : ∀ (a : Addr) (own : List Addr) (h' : Heap) (tk' : Nat) (G' : Array GenState), s.heap.get? a = none → (∀ b o, s.heap.get? b = some o → h'.get? b = some o) → h'.IsGen a s.gens.size → (∀ b ∈ own, s.heap.get? b = none) → a ∉ own → (AllBare s.gens → AllBare G') → s.heap.objs.size < a →
      GenSt PySem.Challenge.rw_sr0039_01.row.prog w A (hd.heap_39 w.params) (TT mean mg mb) x s.gens.size own 0 { s with heap := h', toks := tk', gens := G' } → (∃ o, h'.get? a = some o ∧ o.cls = .type "generator") → Q (.ref a) { s with heap := h', toks := tk', gens := G' }) :
    wpAny (model PySem.Challenge.rw_sr0039_01.row.prog w) A (call (.ref 21) [.str x t]) Q E s := by
  revert X; k_fill; k_with_none; w_top off; intro X
  refine make_gen [(Str.ofString "addr", .str x t)] X T.nolimit (by k_dflt k_is) (by k_dflt k_is) hroom rfl rfl (fun h₁ tk hn hk hz => ?_) rfl rfl rfl (by decide)
  have hgl : mainGlobals < s.heap.objs.size := T.g.lt
  have hbl : builtinsNs < s.heap.objs.size := T.b.lt
  refine hQ h₁.objs.size [s.heap.objs.size] _ _ _ (Heap.get?_none_of_le (by omega)) (fun b o q => Heap.get?_push_of_some _ (hk b o q)) ⟨_, _, _, Heap.get?_push_size _ rfl, rfl, rfl, rfl⟩
    (fun b hb => Heap.get?_none_of_le (by rw [List.mem_singleton.mp hb]; exact Nat.le_refl _)) (fun z => absurd (show (h₁.objs.size : Nat) = s.heap.objs.size from List.mem_singleton.mp z) (by omega)) (fun ha y hy => ?_) (by omega) ⟨fun b hb => ?_, _, Array.getElem?_push_size .., .inl ⟨rfl, _, rfl, fun s'' hal X'' T'' => ⟨rfl, ?_⟩⟩⟩ ⟨_, Heap.get?_push_size _ rfl, rfl⟩
  · rcases Array.mem_push.mp hy with hy | rfl
    · exact ha y hy
    · rfl
  · obtain ⟨oL, _, _, hoL, _⟩ := hn
    exact ⟨oL, Heap.get?_push_of_some _ (by rw [List.mem_singleton.mp hb]; exact hoL)⟩
  · have hn'' : s''.heap.Ns s.heap.objs.size (fun y => [(Str.ofString "addr", Value.str x t)].reverse.lookup y) := hn.at' fun o q => hal _ (List.mem_singleton.mpr rfl) o (Heap.get?_push_of_some _ q)
    refine seg_start (A := A.in1) rfl rfl hh hx rfl rfl rfl rfl rfl rfl rfl rfl rfl rfl hn'' rfl (fun A' s' Q' E' hk' hq => ?_)
    refine Name_function_global rfl rfl (loadGlobal_builtin (mg := mg) (mb := mb) (T''.g.at' fun o q => hk' _ o (Nat.ne_of_lt hgl) q) (mg_none_of X'' T''.g (by k_dflt k_is)) (T''.b.at' fun o q => hk' _ o (Nat.ne_of_lt hbl) q) ((T''.builtins _ (by decide)).trans (by boot_fast)) hq) (by decide)
end Mine

-- part SrGenF
namespace Mine
open PySem PySem.W PySem.Spec PySem.Calls PyProof.Rows

/-- the objects that stand at these addresses -/
noncomputable def objsAt (h : Heap) (l : List Addr) : List (Addr × Obj) := l.filterMap fun b => (h.get? b).map (b, ·)
theorem mem_objsAt {h : Heap} {l : List Addr} {b : Addr} {o : Obj} (hb : b ∈ l) (q : h.get? b = some o) : (b, o) ∈ objsAt h l :=
  List.mem_filterMap.mpr ⟨b, hb, by rw [q]; rfl⟩
theorem of_objsAt {h : Heap} {l : List Addr} {p : Addr × Obj} (hp : p ∈ objsAt h l) : p.1 ∈ l ∧ h.get? p.1 = some p.2 := by
  obtain ⟨b, hb, e⟩ := List.mem_filterMap.mp hp
  cases q : h.get? b with
  | none => rw [q] at e; cases e
  | some o => rw [q] at e; cases e; exact ⟨hb, q⟩

inductive GenInv (prog : Program) (w : World) (A : Around) (K : Frag) (TP : Heap → Prop) (x : Str) (g : Nat) (a L : Addr) (h₀ : Heap) (J : Nat → (Str → Option Value) → List (Addr × Obj) → Prop) (s : Shared) (k : Nat) (s' : Shared) : Prop
  | mk (h : Heap) (tk : Nat) (G' : Array GenState) (i : Nat) (m₁ : Str → Option Value) (news₁ : List (Addr × Obj)) (own : List Addr) (z1 : s' = { s with heap := h, toks := tk, gens := G' }) (z2 : i ≤ x.cps.size) (z3 : k = x.cps.size + 1 - i) (z4 : GenSt prog w A K TP x g own i s') (z5 : h.IsGen a g) (z6 : AllBare G') (z7 : a ∉ own)
      (z8 : ∀ p ∈ news₁, p.1 ≠ a) (z9 : ∀ b ∈ own, h₀.get? b = none ∧ b ≠ L ∧ ∀ p ∈ news₁, p.1 ≠ b) (z10 : Fr h₀ L h m₁) (z11 : News h₀ L h news₁) (z12 : J i m₁ news₁) : GenInv prog w A K TP x g a L h₀ J s k s'

theorem letOwned_gen {M : Model} {A : Around} {E : Value → Shared → Prop} {s : Shared} {elts : List Expr} {k : Nat} {pos : Pos} {a T : Addr} {g : Nat} {Q : Unit → Shared → Prop} (hg : s.heap.IsGen a g) (h : Q () s) :
    wpAny M A (letOwnedTupleGo (.Tuple elts k pos) (.ref a) (.ref T)) Q E s := by
  obtain ⟨o, nm, qn, ho, hc, hd, _⟩ := hg
  unfold letOwnedTupleGo
  refine wpAny_bind (wpAny_load ho ?_)
  rw [hc, hd]
  show wpAny M A (if ((["enumerate", "zip", "dict_itemiterator", "dict_reverseitemiterator", "odict_iterator", "itertools.zip_longest", "itertools.pairwise"].contains "generator") && _) = true then _ else _) Q E s
  rw [if_neg (by
    rw [show (["enumerate", "zip", "dict_itemiterator", "dict_reverseitemiterator", "odict_iterator", "itertools.zip_longest", "itertools.pairwise"].contains "generator") = false from by decide]
    simp)]
  exact wpAny_pure h

section
variable {prog : Program} {w : World} {A : Around} {K : Frag} {TP : Heap → Prop} {s : Shared} {env : Env} {h₀ : Heap} {x : Str} {a : Addr} {g : Nat}

theorem loop_gen {target : Expr} {q1 q2 q3 : Pos} {k1 : Nat} {own₀ : List Addr} {m₀ : Str → Option Value} {news₀ : List (Addr × Obj)} {body : List Stmt} {Q : Flow → Shared → Prop}
    (J : Nat → (Str → Option Value) → List (Addr × Obj) → Prop) (htg : target = .Tuple [.Name (Str.ofString "pos") q1, .Name (Str.ofString "ch") q2] k1 q3)
    (hh : A.handled = none) (hroom : A.depth < recursionLimit) (hk : env.scope.kind = .function)
    (k2' : env.kindOf (Str.ofString "pos") = some .local) (k3' : env.kindOf (Str.ofString "ch") = some .local)
    (X : K.In h₀) (T : TP h₀) (hTP : ∀ h h' : Heap, TP h → (∀ b o, h.get? b = some o → h'.get? b = some o) → TP h') (hlim : h₀.NoLimit)
    (hg : s.heap.IsGen a g) (st : GenSt prog w A K TP x g own₀ 0 s) (hb : AllBare s.gens) (ha₀ : h₀.get? a = none) (haL : a ≠ env.locals) (han : ∀ p ∈ news₀, p.1 ≠ a)
    (hao : a ∉ own₀) (ho₀ : ∀ b ∈ own₀, h₀.get? b = none ∧ b ≠ env.locals ∧ ∀ p ∈ news₀, p.1 ≠ b)
    (F : Fr h₀ env.locals s.heap m₀) (N : News h₀ env.locals s.heap news₀) (hj : J 0 m₀ news₀)
    (turn : ∀ (i c : Nat) (t u : Tok) m₁ news₁ s₁ own, (∃ h tk' G', s₁ = { s with heap := h, toks := tk', gens := G' }) → AllBare s₁.gens → x.cps[i]? = some c → OwnOff own (news₁.map (·.1)) → J i m₁ news₁ →
      Fr h₀ env.locals s₁.heap (fun y => if y = Str.ofString "ch" then some (.str ⟨#[c]⟩ u) else if y = Str.ofString "pos" then some (.int (i : Int) t) else m₁ y) → News h₀ env.locals s₁.heap (news₁ ++ own) →
      wpAny (model prog w) A (execs body env) (InvPostG h₀ env.locals (J (i + 1)) own s₁ Q) (fun _ _ => False) s₁)
    (done : ∀ m₁ news₁ h tk G', J x.cps.size m₁ news₁ → Fr h₀ env.locals h m₁ → News h₀ env.locals h news₁ → AllBare G' → Q .next { s with heap := h, toks := tk, gens := G' }) :
    codeAny (model prog w) A (.forLoop target (.ref a) body [] env) (fun r s' => match r with | .ok f => Q f s' | .error e => cameBackBy (model prog w) A env (fun _ _ => False) e s') s := by
  have hp : (env.scope.kind == .class || (env.scope.kind == .module && env.locals != env.globals)) = false := by rw [hk]; rfl
  subst htg
  refine codeAny_forLoop_any
    (GenInv prog w A K TP x g a env.locals h₀ J s) ?_ (x.cps.size + 1)
    ⟨s.heap, s.toks, s.gens, 0, m₀, news₀, own₀, rfl, Nat.zero_le _, rfl, st, hg, hb, hao, han, ho₀, F, N, hj⟩
  rintro k s' ⟨h, tk, G', i, m₁, news₁, own, rfl, hi, rfl, st', hg', hb', hao', han', hown, F', N', hJ⟩
  have X' : K.In h := X.keeps F'.keep
  have T' : TP h := hTP _ _ T F'.keep
  have hl' : h.NoLimit := hlim.keeps F'.keep
  have keepOff : ∀ h' : Heap, (∀ b o, b ∉ own → h.get? b = some o → h'.get? b = some o) → Fr h₀ env.locals h' m₁ ∧ News h₀ env.locals h' news₁ := fun h' hk' =>
    ⟨⟨F'.ns.at' fun o q => hk' _ o (fun z => (hown _ z).2.1 rfl) q, fun b o q => hk' b o (fun z => by rw [(hown b z).1] at q; cases q) (F'.keep b o q), F'.above⟩,
     fun p hp' => ⟨hk' _ _ (fun z => (hown _ z).2.2 p hp' rfl) (N' p hp').1, (N' p hp').2⟩⟩
  by_cases hlt : i < x.cps.size
  · refine gen_item (E := _) hh hl' hroom X' T' hg' st' hlt fun own' t c ti u h₁ tk₁ G₁ hc hn ht hto hown' hk₁ hbare st₁ => ?_
    obtain ⟨F₁, N₁⟩ := keepOff h₁ hk₁
    have hga : h₁.IsGen a g := let ⟨o, nm, qn, ho, r⟩ := hg'; ⟨o, nm, qn, hk₁ a o hao' ho, r⟩
    have hat : t ≠ a := fun z => by obtain ⟨o, _, _, ho, _⟩ := hg'; rw [z] at hn; rw [ho] at hn; cases hn
    refine letOwned_gen hga ?_
    refine wpAny_assign_Tuple hh ht rfl rfl fun h₃ hx₃ => ?_
    replace hx₃ : Heap.ExtBut h₁.objs.size h₁ h₃ := hx₃
    have old₃ : ∀ b o, h₁.get? b = some o → h₃.get? b = some o := fun b o q => hx₃ b o (Nat.ne_of_lt (Heap.lt_size q)) q
    show wpAny _ _ (do holding [Value.str ⟨#[c]⟩ u] (assign (.Name (Str.ofString "pos") q1) env (.int i ti)); do holding [] (assign (.Name (Str.ofString "ch") q2) env (Value.str ⟨#[c]⟩ u)); pure ()) _ _ _
    refine wpAny_bind (wpAny_holding (wpAny_assign_Name (wpAny_storeName_local k2' (F₁.ns.at' fun o q => old₃ _ o q) (fun h₄ hn₄ hs₄ => ?_) hp)))
    replace hs₄ : Heap.SameBut env.locals h₃ h₄ := hs₄
    refine wpAny_bind (wpAny_holding (wpAny_assign_Name (wpAny_storeName_local k3' hn₄ (fun h₅ hn₅ hs₅ => wpAny_pure ?_) hp)))
    replace hs₅ : Heap.SameBut env.locals h₄ h₅ := hs₅
    have up : ∀ b o, b ≠ env.locals → h₁.get? b = some o → h₅.get? b = some o := fun b o hb q => hs₅.extBut b o hb (hs₄.extBut b o hb (old₃ b o q))
    have hLh : env.locals < h₀.objs.size → False := fun z => Nat.not_lt_of_le F'.above z
    have F₅ : Fr h₀ env.locals h₅ (fun y => if y = Str.ofString "ch" then some (.str ⟨#[c]⟩ u) else if y = Str.ofString "pos" then some (.int (i : Int) ti) else m₁ y) :=
      ⟨hn₅, fun b o q => up b o (fun z => hLh (z ▸ Heap.lt_size q)) (F₁.keep b o q), F'.above⟩
    have N₅ : News h₀ env.locals h₅ news₁ := fun p hp' => ⟨up _ _ (N₁ p hp').2.1 (N₁ p hp').1, (N₁ p hp').2⟩
    have hown5 : ∀ b ∈ own', h₀.get? b = none ∧ b ≠ env.locals ∧ ∀ p ∈ news₁, p.1 ≠ b := fun b hb => by
      rcases hown' b hb with z | z
      · exact hown b z
      · refine ⟨?_, fun q => ?_, fun p hp' q => ?_⟩
        · cases q : h₀.get? b with
          | none => rfl
          | some o => have := F'.keep b o q; rw [show ({ s with heap := h, toks := tk, gens := G' } : Shared).heap.get? b = h.get? b from rfl, this] at z; cases z
        · obtain ⟨oL, _, _, hoL, _⟩ := F'.ns
          rw [q] at z; rw [show ({ s with heap := h, toks := tk, gens := G' } : Shared).heap.get? env.locals = h.get? env.locals from rfl, hoL] at z; cases z
        · have := (N' p hp').1; rw [q] at this; rw [show ({ s with heap := h, toks := tk, gens := G' } : Shared).heap.get? b = h.get? b from rfl, this] at z; cases z
    have hao5 : a ∉ own' := fun z => by
      rcases hown' a z with q | q
      · exact hao' q
      · obtain ⟨o, _, _, ho, _⟩ := hg'; rw [show ({ s with heap := h, toks := tk, gens := G' } : Shared).heap.get? a = h.get? a from rfl, ho] at q; cases q
    have hoff : OwnOff (objsAt h₅ (a :: own')) (news₁.map (·.1)) := fun p hp' b hb z => by
      obtain ⟨q, hq, rfl⟩ := List.mem_map.mp hb
      rcases List.mem_cons.mp (of_objsAt hp').1 with w | w
      · exact han' q hq (z.symm.trans w)
      · exact (hown5 _ w).2.2 q hq z.symm
    have Nall : News h₀ env.locals h₅ (news₁ ++ objsAt h₅ (a :: own')) := fun p hp' => by
      rcases List.mem_append.mp hp' with z | z
      · exact N₅ p z
      · have w := of_objsAt z
        refine ⟨w.2, ?_⟩
        rcases List.mem_cons.mp w.1 with e | e
        · rw [e]; exact ⟨haL, ha₀⟩
        · exact ⟨(hown5 _ e).2.1, (hown5 _ e).1⟩
    refine wpAny_noRaise (wpAny_mono (turn i c ti u m₁ news₁ _ _ ⟨h₅, _, G₁, rfl⟩ (hbare hb') hc hoff hJ F₅ Nall) (fun f s₂ hf => ?_) fun _ _ q => q)
    have hga5 : ∃ o, h₅.get? a = some o ∧ ∃ nm qn, o.cls = .type "generator" ∧ o.data = .fields #[.int g 0, nm, qn] ∧ o.slots = #[] := by
      obtain ⟨o, nm, qn, ho, h1, h2, h3⟩ := hga
      exact ⟨o, up a o haL ho, nm, qn, h1, h2, h3⟩
    obtain ⟨oa, hoa, nma, qna, ha1, ha2, ha3⟩ := hga5
    have fin : InvEndG h₀ env.locals (J (i + 1)) (objsAt h₅ (a :: own')) { s with heap := h₅, toks := tk₁ + 1 + 1, gens := G₁ } s₂ →
        ∃ k, k < x.cps.size + 1 - i ∧ GenInv prog w A K TP x g a env.locals h₀ J s k s₂ := by
      rintro ⟨h', tk', m', news', nx, rfl, F₆, N₆, hnx, hown6, hoff6, hJ6⟩
      have kp : ∀ b ∈ a :: own', ∀ o, h₅.get? b = some o → h'.get? b = some o := fun b hb o q => (N₆ _ (hown6 _ (mem_objsAt hb q))).1
      have ne6 : ∀ b ∈ a :: own', (∃ o, h₅.get? b = some o) → ∀ p ∈ nx, p.1 ≠ b := fun b hb ⟨o, q⟩ p hp' z => hoff6 _ (mem_objsAt hb q) p.1 (List.mem_map_of_mem hp') z.symm
      refine ⟨x.cps.size + 1 - (i + 1), by omega, ⟨h', tk', G₁, i + 1, m', nx, own', rfl, hlt, rfl, ?_, ⟨oa, nma, qna, kp a (List.mem_cons_self ..) oa hoa, ha1, ha2, ha3⟩, hbare hb', hao5, ne6 a (List.mem_cons_self ..) ⟨oa, hoa⟩, fun b hb => ?_, F₆, fun p hp' => N₆ p (hnx p hp'), hJ6⟩⟩
      · exact GenSt.frame (s := { s with heap := h₁, toks := tk₁, gens := G₁ }) st₁ rfl fun b hb o q => kp b (List.mem_cons_of_mem _ hb) o (up b o (hown5 b hb).2.1 q)
      · obtain ⟨ob, hob⟩ := st₁.1 b hb
        exact ⟨(hown5 b hb).1, (hown5 b hb).2.1, ne6 b (List.mem_cons_of_mem _ hb) ⟨ob, up b ob (hown5 b hb).2.1 hob⟩⟩
    cases f with
    | ret v => exact hf
    | brk => exact hf
    | next => exact fin hf
    | cont => exact fin hf
  · have hin : i = x.cps.size := by omega
    refine gen_done hh hl' hroom X' T' hg' st' hin fun h₁ tk₁ G₁ hk₁ hbare => wpAny_execs_nil ?_
    obtain ⟨F₁, N₁⟩ := keepOff h₁ hk₁
    subst hin
    exact done m₁ news₁ h₁ tk₁ G₁ hJ F₁ N₁ (hbare hb')
end
end Mine

-- part SrGenG
namespace Mine
open PySem PySem.W PySem.Spec PySem.Calls PyProof.Rows

section
variable {w : World} {A : Around} {s : Shared} {h₀ : Heap} {x : Str} {L f : Addr} {cn : Str} {cs : Scope} {cd : Value} {m mg mb : Str → Option Value} {mean : ExcName → Option Value} {news : List (Addr × Obj)} {Q : Flow → Shared → Prop}

/-- for pos, ch in _iter_escaped_chars(addr), of a text without a backslash -/
theorem for_iter {q1 q2 q3 np ap cp pos : Pos} {k1 : Nat} {t : Tok} {body : List Stmt} (J : Nat → (Str → Option Value) → List (Addr × Obj) → Prop)
    (F : Fr h₀ L s.heap m) (N : News h₀ L s.heap news) (X : (hd.heap_39 w.params).In h₀) (T : Top hd.view_39 loo mean mg mb h₀) (hb : AllBare s.gens)
    (hm : m (Str.ofString "addr") = some (.str x t)) (hx : ∀ (i c : Nat), x.cps[i]? = some c → c ≠ 92) (hh : A.handled = none) (hroom : A.depth < recursionLimit) (hk : cs.kind = .function)
    (k1' : (envOf cn cs L f cd).kindOf (Str.ofString "addr") = some .local) (k2' : (envOf cn cs L f cd).kindOf (Str.ofString "pos") = some .local) (k3' : (envOf cn cs L f cd).kindOf (Str.ofString "ch") = some .local)
    (k4' : (envOf cn cs L f cd).kindOf (Str.ofString "_iter_escaped_chars") = some .globalImplicit)
    (hj : J 0 m news)
    (turn : ∀ (i c : Nat) (t u : Tok) m₁ news₁ h₁ tk₁ G₁ own, AllBare G₁ → x.cps[i]? = some c → OwnOff own (news₁.map (·.1)) → J i m₁ news₁ →
      Fr h₀ L h₁ (fun y => if y = Str.ofString "ch" then some (.str ⟨#[c]⟩ u) else if y = Str.ofString "pos" then some (.int (i : Int) t) else m₁ y) → News h₀ L h₁ (news₁ ++ own) →
      wpAny (model PySem.Challenge.rw_sr0039_01.row.prog w) A (execs body (envOf cn cs L f cd)) (InvPostG h₀ L (J (i + 1)) own { s with heap := h₁, toks := tk₁, gens := G₁ } Q) (fun _ _ => False) { s with heap := h₁, toks := tk₁, gens := G₁ })
    (done : ∀ m₁ news₁ h tk G', J x.cps.size m₁ news₁ → Fr h₀ L h m₁ → News h₀ L h news₁ → AllBare G' → Q .next { s with heap := h, toks := tk, gens := G' }) :
    wpAny (model PySem.Challenge.rw_sr0039_01.row.prog w) A (exec (.For (.Tuple [.Name (Str.ofString "pos") q1, .Name (Str.ofString "ch") q2] k1 q3) (.Call (.Name (Str.ofString "_iter_escaped_chars") np) [.Name (Str.ofString "addr") ap] [] cp) body [] pos) (envOf cn cs L f cd)) Q (fun _ _ => False) s := by
  revert X; k_fill; k_with_none; w_top off; intro X
  refine wpAny_For ?_ (fun _ => rfl)
  refine PySem.Call_name1 rfl (Name_function_global hk k4' (loadGlobal_global (T.g.keeps F.keep) (mg_of X T.g (v := .ref 21) (by k_dflt k_is)) ?_) (by decide))
  refine callWith_of rfl (keeps_K (by k_dflt k_is)) (evalArgs_plain (Calls.spliced_cons (wpAny_Name (wpAny_loadName_local hk k1' F.ns hm (Calls.spliced_nil ⟨X.keeps F.keep, ?_⟩)))))
  refine gen_make hh hroom (X.keeps F.keep) (T.keeps F.keep) hx fun a own h' tk' G' ha hk' hg ho hao hbare hlt st hcls => ?_
  refine wpAny_pyIter_gen hg ?_
  have hfr : ∀ b, s.heap.get? b = none → h₀.get? b = none ∧ b ≠ L ∧ ∀ p ∈ news, p.1 ≠ b := fun b hb => by
    refine ⟨?_, fun q => ?_, fun p hp q => ?_⟩
    · cases q : h₀.get? b with
      | none => rfl
      | some o => have := F.keep b o q; rw [hb] at this; cases this
    · obtain ⟨oL, _, _, hoL, _⟩ := F.ns; rw [q, hoL] at hb; cases hb
    · have := (N p hp).1; rw [q, hb] at this; cases this
  exact loop_gen (env := envOf cn cs L f cd) J rfl hh hroom hk k2' k3' X T (fun h h' T k => T.keeps k) T.nolimit hg st (hbare hb) (hfr a ha).1 (hfr a ha).2.1 (hfr a ha).2.2 hao (fun b hb => hfr b (ho b hb))
    ⟨F.ns.keeps hk', fun b o q => hk' b o (F.keep b o q), F.above⟩ (fun p hp => ⟨hk' _ _ (N p hp).1, (N p hp).2⟩) hj
    (by rintro i c t u m₁ news₁ s₁ own ⟨h₁, tk₁, G₁, rfl⟩ hb₁ hc hoff hJ F₁ N₁
        exact turn i c t u m₁ news₁ h₁ tk₁ G₁ own hb₁ hc hoff hJ F₁ N₁)
    (fun m₁ news₁ h tk G' hJ F₁ N₁ hb₁ => done m₁ news₁ h tk G' hJ F₁ N₁ hb₁)
end
end Mine

-- part SrCheck
namespace Mine
open PySem PySem.W PySem.Spec PySem.Calls PyProof.Rows

noncomputable def NoBack (x : Str) : Prop := ∀ (i c : Nat), x.cps[i]? = some c → c ≠ 92

noncomputable def chkGo : List Nat → Int → Bool
  | [], o => o == 0
  | c :: r, o => if c = 40 then chkGo r (o + 1) else if c = 41 then (if o - 1 < 0 then false else chkGo r (o - 1)) else chkGo r o

theorem one_beq (c k : Nat) : ((⟨#[c]⟩ : Str) == ⟨#[k]⟩) = decide (c = k) := by
  by_cases h : c = k
  · subst h; simp
  · rw [decide_eq_false h]
    exact beq_false_of_ne fun z => h (by injection z with z; injection z with z; injection z)
theorem str_open : Str.ofString "(" = ⟨#[40]⟩ := by decide +kernel
theorem str_close : Str.ofString ")" = ⟨#[41]⟩ := by decide +kernel

section
variable {x : Str} {i c : Nat} {o : Int} {r : Bool}
theorem drop_at (hc : x.cps[i]? = some c) : x.cps.toList.drop i = c :: x.cps.toList.drop (i + 1) := by
  obtain ⟨h, e⟩ := Array.getElem?_eq_some_iff.mp hc
  rw [List.drop_eq_getElem_cons (by simpa using h)]
  simp [e]
theorem chk_open (hc : x.cps[i]? = some c) (h : ((⟨#[c]⟩ : Str) == Str.ofString "(") = true) (hg : chkGo (x.cps.toList.drop i) o = r) : chkGo (x.cps.toList.drop (i + 1)) (o + 1) = r := by
  rw [str_open, one_beq, decide_eq_true_eq] at h
  rw [drop_at hc, chkGo, if_pos h] at hg
  exact hg
theorem chk_close (hc : x.cps[i]? = some c) (h : ((⟨#[c]⟩ : Str) == Str.ofString "(") = false) (h' : ((⟨#[c]⟩ : Str) == Str.ofString ")") = true) (hn : ¬ o - 1 < 0) (hg : chkGo (x.cps.toList.drop i) o = r) : chkGo (x.cps.toList.drop (i + 1)) (o - 1) = r := by
  rw [str_open, one_beq, decide_eq_false_iff_not] at h
  rw [str_close, one_beq, decide_eq_true_eq] at h'
  rw [drop_at hc, chkGo, if_neg h, if_pos h', if_neg hn] at hg
  exact hg
theorem chk_neg (hc : x.cps[i]? = some c) (h : ((⟨#[c]⟩ : Str) == Str.ofString "(") = false) (h' : ((⟨#[c]⟩ : Str) == Str.ofString ")") = true) (hn : o - 1 < 0) (hg : chkGo (x.cps.toList.drop i) o = r) : r = false := by
  rw [str_open, one_beq, decide_eq_false_iff_not] at h
  rw [str_close, one_beq, decide_eq_true_eq] at h'
  rw [drop_at hc, chkGo, if_neg h, if_pos h', if_pos hn] at hg
  exact hg.symm
theorem chk_other (hc : x.cps[i]? = some c) (h : ((⟨#[c]⟩ : Str) == Str.ofString "(") = false) (h' : ((⟨#[c]⟩ : Str) == Str.ofString ")") = false) (hg : chkGo (x.cps.toList.drop i) o = r) : chkGo (x.cps.toList.drop (i + 1)) o = r := by
  rw [str_open, one_beq, decide_eq_false_iff_not] at h
  rw [str_close, one_beq, decide_eq_false_iff_not] at h'
  rw [drop_at hc, chkGo, if_neg h, if_neg h'] at hg
  exact hg
end

set_option maxHeartbeats 4000000 in
theorem check_spec (w : World) (x y : Str) (t : Tok) (hst : NoBack y) (S : Spec 4 w 28 [.str x t] (fun _ => True) (fun v _ => ∃ t', v = .str y t')) :
    Spec 8 w 35 [.str x t] (fun _ => True) (fun v _ => v = .bool (chkGo y.cps.toList 0)) := by
  unfold Spec
  k_fill
  k_with_none
  w_top off
  intro mean mg mb dp un gd cn cs a ccd cl outer A₀ base h₀ L m s Q E B F X T hk hdp hun hgn hp hret
  refine enterS [(PySem.Str.ofString "addr", .str x t)] B F X T rfl rfl hk (by k_dflt k_is) (by k_dflt k_is) (by ktr_room) rfl rfl ?_ rfl rfl rfl (by decide)
  intro L' h₁ hL' F₁ N₁ B₁ X₁ T₁
  clear B F X T hL'
  refine wpAny_noRaise ?_
  k_fold
  iterate 10 walk1
  k_dflt (refine' Spec.use S B₁ ?kF X₁ ?kN T₁ ?kK ?kd ?ku ?kb trivial ?_)
  case kK => exact rfl
  case kb => exact hgn
  case kF => k_asm
  case kN => k_asm
  case kd => ktr_room
  case ku => ktr_units
  rintro v h' tk' g' news' ⟨t', rfl⟩ F' N' ho' hb' keep'
  clear hgn
  k_steps
  k_dflt (refine' for_iter (x := y) (fun i m news => news = [] ∧ ∃ o t, m (Str.ofString "opens") = some (.int o t) ∧ chkGo (y.cps.toList.drop i) o = chkGo y.cps.toList 0) ?kF (News.nil) X₁ T₁ hb' ?km hst ?kh ?kr ?kk ?k1 ?k2 ?k3 ?k4 ?kj ?turn ?done)
  case kF => k_asm
  case km => exact rfl
  case kh => exact rfl
  case kr => ktr_room
  case kk => exact rfl
  case k1 => exact rfl
  case k2 => exact rfl
  case k3 => exact rfl
  case k4 => exact rfl
  case kj => exact ⟨rfl, _, _, rfl, rfl⟩
  case turn =>
    clear hb' 
    rintro i c t2 u m₁ news₁ h2 tk2 G₂ own hb2 hc hoff ⟨rfl, o, to, ho, hg⟩ F2 N2
    rw [put_self ho] at F2
    k_fold
    k_steps
    · refine' inv_end [] ?f ?n ?j (fun _ _ _ h => nomatch h) (fun _ h => nomatch h) (fun p hp => List.mem_append.mpr (.inr hp))
      case f => k_asm
      case n => k_asm
      case j => exact ⟨rfl, _, _, rfl, chk_open hc (by assumption) hg⟩
    · exact hret _ _ _ _ [] (Fr.keep (by k_asm)) (Made.of (L := L') News.nil) hb2 (congrArg Value.bool (chk_neg hc (by assumption) (by assumption) (by assumption) hg).symm)
    · refine' inv_end [] ?f ?n ?j (fun _ _ _ h => nomatch h) (fun _ h => nomatch h) (fun p hp => List.mem_append.mpr (.inr hp))
      case f => k_asm
      case n => k_asm
      case j => exact ⟨rfl, _, _, rfl, chk_close hc (by assumption) (by assumption) (by assumption) hg⟩
    · refine' inv_end [] ?f ?n ?j (fun _ _ _ h => nomatch h) (fun _ h => nomatch h) (fun p hp => List.mem_append.mpr (.inr hp))
      case f => k_asm
      case n => k_asm
      case j => exact ⟨rfl, _, _, rfl, chk_other hc (by assumption) (by assumption) hg⟩
  case done =>
    rintro m₁ news₁ h2 tk2 G₂ ⟨rfl, o, to, ho, hg⟩ F2 N2 hb2
    rw [put_self ho] at F2
    k_steps
    rw [List.drop_of_length_le (by simp)] at hg
    exact hret _ _ _ _ [] (Fr.keep (by k_asm)) (Made.of (L := L') News.nil) hb2 (congrArg Value.bool hg)
end Mine

-- part SrStrip
namespace Mine
open PySem PySem.W PySem.Spec PySem.Calls PyProof.Rows

local macro_rules | `(tactic| size_fits) => `(tactic| with_reducible assumption)

theorem strv_size {l : List (Str × Tok)} {n : Nat} (h : l.length ≤ n) (hn : n ≤ 1000) : (strValues l).toArray.size ≤ sizeLine := by
  rw [sizeLine_eq, List.size_toArray, strValues, List.length_map]; omega

noncomputable def opV (t : Tok) : Option Nat → Value
  | none => .none
  | some o => .int (o : Int) t

/-- the pieces outside the quotation marks, as the function takes them -/
noncomputable def stripGo (x : Str) : List Nat → Nat → Nat → Option Nat → List Str → List Str
  | [], _, st, _, res => if st < x.length then res ++ [Txt.slice x (some (st : Int)) none] else res
  | c :: r, i, st, op, res => if c = 34 then (match op with
      | none => stripGo x r (i + 1) st (some i) res
      | some o => stripGo x r (i + 1) (i + 1) none (if st = o then res else res ++ [Txt.slice x (some (st : Int)) (some (o : Int))]))
    else stripGo x r (i + 1) st op res
theorem stripGo_cons (x : Str) (c : Nat) (r : List Nat) (i st : Nat) (op : Option Nat) (res : List Str) : stripGo x (c :: r) i st op res = if c = 34 then (match op with
      | none => stripGo x r (i + 1) st (some i) res
      | some o => stripGo x r (i + 1) (i + 1) none (if st = o then res else res ++ [Txt.slice x (some (st : Int)) (some (o : Int))]))
    else stripGo x r (i + 1) st op res := by cases op <;> rfl
noncomputable def strip (x : Str) : Str :=
  if (Builtin.Str.occurrences x (Str.ofString "\"") 0 x.length 1).isEmpty = true then x else Txt.join (Str.ofString "") (stripGo x x.cps.toList 0 0 none [])

theorem str_quote : Str.ofString "\"" = ⟨#[34]⟩ := by decide +kernel
theorem strv_push {l : List (Str × Tok)} {y : Str} {t : Tok} : (strValues l).toArray.push (.str y t) = (strValues (l ++ [(y, t)])).toArray := by
  apply Array.ext'; simp [strValues]

section
variable {x : Str} {i c st : Nat} {op : Option Nat} {res r : List Str}
theorem strip_else (hc : x.cps[i]? = some c) (h : ((⟨#[c]⟩ : Str) == Str.ofString "\"") = false) (hg : stripGo x (x.cps.toList.drop i) i st op res = r) : stripGo x (x.cps.toList.drop (i + 1)) (i + 1) st op res = r := by
  rw [str_quote, one_beq, decide_eq_false_iff_not] at h
  rw [drop_at hc, stripGo_cons, if_neg h] at hg
  exact hg
theorem strip_opens (hc : x.cps[i]? = some c) (h : ((⟨#[c]⟩ : Str) == Str.ofString "\"") = true) (hg : stripGo x (x.cps.toList.drop i) i st none res = r) : stripGo x (x.cps.toList.drop (i + 1)) (i + 1) st (some i) res = r := by
  rw [str_quote, one_beq, decide_eq_true_eq] at h
  rw [drop_at hc, stripGo_cons, if_pos h] at hg
  exact hg
theorem strip_same {o : Nat} (hc : x.cps[i]? = some c) (h : ((⟨#[c]⟩ : Str) == Str.ofString "\"") = true) (he : (st : Int) = (o : Int)) (hg : stripGo x (x.cps.toList.drop i) i st (some o) res = r) : stripGo x (x.cps.toList.drop (i + 1)) (i + 1) (i + 1) none res = r := by
  rw [str_quote, one_beq, decide_eq_true_eq] at h
  rw [drop_at hc, stripGo_cons, if_pos h] at hg
  change stripGo x _ (i + 1) (i + 1) none (if st = o then _ else _) = r at hg
  rw [if_pos (by omega)] at hg
  exact hg
theorem strip_piece {o : Nat} (hc : x.cps[i]? = some c) (h : ((⟨#[c]⟩ : Str) == Str.ofString "\"") = true) (he : (st : Int) ≠ (o : Int)) (hg : stripGo x (x.cps.toList.drop i) i st (some o) res = r) : stripGo x (x.cps.toList.drop (i + 1)) (i + 1) (i + 1) none (res ++ [Txt.slice x (some (st : Int)) (some (o : Int))]) = r := by
  rw [str_quote, one_beq, decide_eq_true_eq] at h
  rw [drop_at hc, stripGo_cons, if_pos h] at hg
  change stripGo x _ (i + 1) (i + 1) none (if st = o then _ else _) = r at hg
  rw [if_neg (by omega)] at hg
  exact hg
end
theorem join_ok {l : List (Str × Tok)} {n : Nat} (h : l.length ≤ n) (hn : n ≤ 2000) (hp : ∀ p ∈ l, p.1.length ≤ 1000) : JoinOk (Str.ofString "") (l.map (·.1)) = true := by
  have e : (Str.ofString "").length = 0 := by decide +kernel
  refine joinOk_of ?_
  rw [e, Nat.mul_zero, Nat.add_zero]
  have key : ∀ l : List (Str × Tok), (∀ p ∈ l, p.1.length ≤ 1000) → ((l.map (·.1)).map (·.length)).sum ≤ 1000 * l.length := by
    intro l
    induction l with
    | nil => intro _; simp
    | cons p l ih =>
      intro h
      have h1 := h p (.head _)
      have h2 := ih fun q hq => h q (.tail _ hq)
      simp only [List.map_cons, List.sum_cons, List.length_cons]
      omega
  have := key l hp
  omega

inductive StrA (x : Str) (t : Tok) (i : Nat) (m : Str → Option Value) (news : List (Addr × Obj)) : Prop
  | mk (st : Nat) (r : Addr) (n : Nat) (l : List (Str × Tok)) (ts to : Tok) (op : Option Nat) (z1 : news = [(r, W.listOf (strValues l).toArray n)]) (z2 : m (Str.ofString "addr") = some (.str x t)) (z3 : m (Str.ofString "start") = some (.int (st : Int) ts)) (z4 : m (Str.ofString "open_pos") = some (opV to op)) (z5 : m (Str.ofString "result") = some (.ref r)) (z6 : l.length ≤ i) (z7 : (∀ o, op = some o → st ≤ o ∧ o < i)) (z8 : st ≤ i) (z9 : (∀ p ∈ l, p.1.length ≤ 1000)) (z10 : stripGo x (x.cps.toList.drop i) i st op (l.map (·.1)) = stripGo x x.cps.toList 0 0 none []) : StrA x t i m news
set_option maxHeartbeats 4000000 in
theorem strip_spec (w : World) (x : Str) (t : Tok) (hx : NoBack x) (hlen : x.length ≤ 1000) :
    Spec 4 w 28 [.str x t] (fun _ => True) (fun v _ => ∃ t', v = .str (strip x) t') := by
  unfold Spec
  k_fill
  k_with_none
  w_top off
  intro mean mg mb dp un gd cn cs a ccd cl outer A₀ base h₀ L m s Q E B F X T hk hdp hun hgn hp hret
  refine enterS [(PySem.Str.ofString "addr", .str x t)] B F X T rfl rfl hk (by k_dflt k_is) (by k_dflt k_is) (by ktr_room) rfl rfl ?_ rfl rfl rfl (by decide)
  intro L' h₁ hL' F₁ N₁ B₁ X₁ T₁
  clear B F X T hL'
  refine wpAny_noRaise ?_
  k_fold
  k_steps
  · have e : strip x = x := by unfold strip; rw [if_pos (by assumption)]
    exact hret _ _ _ _ [] (Fr.keep (by k_asm)) (Made.of (L := L') News.nil) hgn ⟨t, by rw [e]⟩
  have hstr : strip x = Txt.join (Str.ofString "") (stripGo x x.cps.toList 0 0 none []) := by unfold strip; rw [if_neg (by simp only [Bool.not_eq_true]; assumption)]
  k_dflt (refine' for_iter (x := x) (StrA x t) ?kF ?kN X₁ T₁ hgn ?km hx ?kh ?kr ?kk ?k1 ?k2 ?k3 ?k4 ?kj ?turn ?done)
  case kF => k_asm
  case kN => k_asm
  case km => exact rfl
  case kh => exact rfl
  case kr => ktr_room
  case kk => exact rfl
  case k1 => exact rfl
  case k2 => exact rfl
  case k3 => exact rfl
  case k4 => exact rfl
  case kj => exact ⟨0, _, 0, [], _, 0, none, rfl, rfl, rfl, rfl, rfl, Nat.zero_le _, fun _ h => (nomatch h), Nat.zero_le _, fun _ h => (nomatch h), rfl⟩
  case turn =>
    clear hgn 
    rintro i c t2 u m₁ news₁ h2 tk2 G₂ own hb2 hc hoff ⟨st, r, n, l, ts, to, op, rfl, h1, h2, h3, h4, h5, h6, h7, h8, h9⟩ F2 N2
    rw [put_self h1, put_self h2, put_self h3, put_self h4] at F2
    k_fold
    have hi : i < x.cps.size := (Array.getElem?_eq_some_iff.mp hc).1
    have hl : x.cps.size ≤ 1000 := hlen
    simp only [List.cons_append, List.nil_append] at N2
    have hsz : (strValues l).toArray.size ≤ sizeLine := strv_size h5 (by omega)
    cases op with
    | none =>
      dsimp only [opV] at F2
      k_steps
      · refine' inv_end [(r, W.listOf (strValues l).toArray n)] ?f ?n ?j ?a ?b ?c
        case f => k_asm
        case n => k_asm
        case a => exact hoff
        case b => intro p hp; rw [List.mem_singleton.mp hp]; exact .head _
        case c => exact fun p hp => List.mem_cons_of_mem _ hp
        case j => exact ⟨st, r, n, l, ts, t2, some i, rfl, rfl, rfl, rfl, rfl, by omega, fun o e => by cases e; omega, by omega, h8, strip_opens hc (by assumption) h9⟩
      · refine' inv_end [(r, W.listOf (strValues l).toArray n)] ?f ?n ?j ?a ?b ?c
        case f => k_asm
        case n => k_asm
        case a => exact hoff
        case b => intro p hp; rw [List.mem_singleton.mp hp]; exact .head _
        case c => exact fun p hp => List.mem_cons_of_mem _ hp
        case j => exact ⟨st, r, n, l, ts, to, none, rfl, rfl, rfl, rfl, rfl, by omega, fun o e => (nomatch e), by omega, h8, strip_else hc (by assumption) h9⟩
    | some o =>
      have h6' := h6 o rfl
      dsimp only [opV] at F2
      k_steps
      · refine' inv_end [(r, W.listOf ((strValues l).toArray.push _) (n + 1))] ?f ?n ?j ?a ?b ?c
        case f => k_asm
        case n => k_asm
        case a => exact hoff
        case b => intro p hp; rw [List.mem_singleton.mp hp]; exact .head _
        case c => exact fun p hp => List.mem_cons_of_mem _ hp
        case j => exact ⟨i + 1, r, n + 1, l ++ [(Txt.slice x (some (st : Int)) (some (o : Int)), _)], _, 0, none, by rw [strv_push], rfl, rfl, rfl, rfl, by simp; omega, fun o e => (nomatch e), by omega,
            (fun p hp => (List.mem_append.mp hp).elim (h8 p) fun h => by rw [List.mem_singleton.mp h]; exact Nat.le_trans (by assumption) hlen), by rw [List.map_append]; exact strip_piece hc (by assumption) (by assumption) h9⟩
      · refine' inv_end [(r, W.listOf (strValues l).toArray n)] ?f ?n ?j ?a ?b ?c
        case f => k_asm
        case n => k_asm
        case a => exact hoff
        case b => intro p hp; rw [List.mem_singleton.mp hp]; exact .head _
        case c => exact fun p hp => List.mem_cons_of_mem _ hp
        case j => exact ⟨i + 1, r, n, l, _, 0, none, rfl, rfl, rfl, rfl, rfl, by omega, fun o e => (nomatch e), by omega, h8, strip_same hc (by assumption) (by assumption) h9⟩
      · refine' inv_end [(r, W.listOf (strValues l).toArray n)] ?f ?n ?j ?a ?b ?c
        case f => k_asm
        case n => k_asm
        case a => exact hoff
        case b => intro p hp; rw [List.mem_singleton.mp hp]; exact .head _
        case c => exact fun p hp => List.mem_cons_of_mem _ hp
        case j => exact ⟨st, r, n, l, ts, to, some o, rfl, rfl, rfl, rfl, rfl, by omega, fun o' e => by cases e; omega, by omega, h8, strip_else hc (by assumption) h9⟩
  case done =>
    rintro m₁ news₁ h2 tk2 G₂ ⟨st, r, n, l, ts, to, op, rfl, h1, h2, h3, h4, h5, h6, h7, h8, h9⟩ F2 N2 hb2
    have hl : x.cps.size ≤ 1000 := hlen
    have hsz : (strValues l).toArray.size ≤ sizeLine := strv_size h5 (by omega)
    rw [List.drop_of_length_le (by simp)] at h9
    rw [put_self h1, put_self h2, put_self h3, put_self h4] at F2
    k_steps
    · rename News _ _ _ [(r, W.listOf (Array.push _ _) _)] => N3
      rw [strv_push] at N3
      rename (st : Int) < (x.length : Int) => hst
      rename (Txt.slice x (some (st : Int)) none).length ≤ x.length => hsl
      have e9 : stripGo x x.cps.toList 0 0 none [] = l.map (·.1) ++ [Txt.slice x (some (st : Int)) none] := by
        rw [← h9, stripGo, if_pos (by omega)]
      refine SC.join ⟨_, (N3 _ (.head _)).1, rfl, _, rfl⟩ rfl (join_ok (n := 2000) (by simp; omega) (Nat.le_refl _) (fun p hp => (List.mem_append.mp hp).elim (h8 p) fun h => by rw [List.mem_singleton.mp h]; exact Nat.le_trans hsl hlen)) (fun t' k => ?_)
      exact hret _ _ _ _ [] (Fr.keep (by k_asm)) (Made.of (L := L') News.nil) hb2 ⟨t', by rw [hstr, e9, List.map_append]; rfl⟩
    · rename ¬ (st : Int) < (x.length : Int) => hst
      have e9 : stripGo x x.cps.toList 0 0 none [] = l.map (·.1) := by
        rw [← h9, stripGo, if_neg (by omega)]
      rename News _ _ _ [(r, W.listOf _ _)] => N3
      refine SC.join ⟨_, (N3 _ (.head _)).1, rfl, _, rfl⟩ rfl (join_ok h5 (by omega) h8) (fun t' k => ?_)
      exact hret _ _ _ _ [] (Fr.keep (by k_asm)) (Made.of (L := L') News.nil) hb2 ⟨t', by rw [hstr, e9]⟩
end Mine

-- part SrOct
namespace Mine
open PySem PySem.W PySem.Spec PySem.Calls PyProof.Rows
local macro_rules | `(tactic| walk_at $s:str) => `(tactic| k_extra $s)

/-- a symbol: an operator's number or one of the four inner ones -/
noncomputable def Sym (n : Int) : Prop := (7 ≤ n ∧ n ≤ 54) ∨ (256 ≤ n ∧ n ≤ 259)
noncomputable def oct1 (n : Int) : List Int := if n < 256 then [n] else [68, n - 256]
noncomputable def octs (ns : List Int) : List Int := ns.flatMap oct1

theorem oct1_len (n : Int) : (oct1 n).length ≤ 2 := by unfold oct1; split <;> simp
theorem octs_len : ∀ ns : List Int, (octs ns).length ≤ 2 * ns.length
  | [] => Nat.le_refl _
  | n :: ns => by
    have := octs_len ns
    have := oct1_len n
    simp only [octs, List.flatMap_cons, List.length_append, List.length_cons] at *
    omega
theorem octs_take {ns : List Int} {i : Nat} {k : Int} (h : ns[i]? = some k) : octs (ns.take (i + 1)) = octs (ns.take i) ++ oct1 k := by
  rw [List.take_add_one, h]; simp [octs]

inductive OctA (ns : List Int) (i : Nat) (m : Str → Option Value) (news : List (Addr × Obj)) : Prop
  | mk (lo : Addr) (us : List Value) (no : Nat) (z1 : m (Str.ofString "octets") = some (.ref lo)) (z2 : news = [(lo, W.listOf us.toArray no)]) (z3 : IntsAre us (octs (ns.take i))) : OctA ns i m news
inductive OctB (lo : Addr) (us : List Value) (no : Nat) (own : List (Addr × Obj)) (k : Int) (n : Nat) (m : Str → Option Value) (news : List (Addr × Obj)) : Prop
  | mk (num : Int) (t1 : Tok) (ls : Addr) (us' : List Value) (no' : Nat) (ms : List Int) (z1 : m (Str.ofString "number") = some (.int num t1)) (z2 : m (Str.ofString "some") = some (.ref ls)) (z3 : m (Str.ofString "octets") = some (.ref lo)) (z4 : news = (ls, W.listOf us'.toArray no') :: (lo, W.listOf us.toArray no) :: own) (z5 : IntsAre us' ms) (z6 : ms.length ≤ 4) (z7 : ((n = 1 ∧ num = k ∧ ms = [k.fmod 64]) ∨ (n = 0 ∧ num = 4 ∧ ms = [68, k - 256] ∧ 256 ≤ k))) : OctB lo us no own k n m news
set_option maxHeartbeats 4000000 in
theorem octets_spec (w : World) (l : Addr) (vs : List Value) (ns : List Int) (hlen : ns.length ≤ 100) (hsym : ∀ n ∈ ns, Sym n) :
    Spec 4 w 80 [.ref l] (fun h => h.IsList l vs.toArray ∧ IntsAre vs ns) (fun v news => ∃ (lo : Addr) (us : List Value) (no : Nat), v = .ref lo ∧ news = [(lo, W.listOf us.toArray no)] ∧ IntsAre us (octs ns)) := by
  unfold Spec
  k_fill
  k_with_none
  w_top off
  intro mean mg mb dp un gd cn cs a ccd cl outer A₀ base h₀ L m s Q E B F X T hk hdp hun hgn hp hret
  obtain ⟨hl, hi⟩ := hp
  refine enterS [(PySem.Str.ofString "row", .ref l)] B F X T rfl rfl hk (by k_dflt k_is) (by k_dflt k_is) (by ktr_room) rfl rfl ?_ rfl rfl rfl (by decide)
  intro L' h₁ hL' F₁ N₁ B₁ X₁ T₁
  clear B F X T hL'
  refine wpAny_noRaise ?_
  k_fold
  k_with "pyIter ref" => (refine stop ?_)
  k_with "exec While Compare cons nil" => (refine stop ?_)
  k_steps
  unfold Stop
  k_dflt (refine' iter_listB (OctA ns) ?hh hl ?F ?N ?hj ?turn ?done)
  case hh => exact rfl
  case F => k_asm
  case N => k_asm
  case hj => exact ⟨_, [], _, rfl, rfl, IntsAre.nil⟩
  case turn =>
    rintro i v m₁ news₁ h2 tk2 own hv hoff ⟨lo, us, no, h1, rfl, h2i⟩ F2 N2
    rw [put_self h1] at F2
    simp only [List.cons_append, List.nil_append] at N2
    k_fold
    obtain ⟨k, tk, hki, rfl⟩ := ints_at hi hv
    have hsy := hsym k (List.mem_of_getElem? hki)
    have hil : i < ns.length := (List.getElem?_eq_some_iff.mp hki).1
    have hol : (octs (ns.take i)).length ≤ 200 := Nat.le_trans (octs_len _) (by rw [List.length_take]; omega)
    k_steps
    unfold Stop
    k_dflt (refine' while_G (OctB lo us no own k) 1 ?F ?N ?hi ?turn ?hE)
    case F => k_asm
    case N => k_asm
    case hE => exact PassesOwn.never
    case hi => exact ⟨_, _, _, [_], _, _, rfl, rfl, rfl, rfl, IntsAre.cons _ _ IntsAre.nil, by simp, .inl ⟨rfl, rfl, rfl⟩⟩
    case turn =>
      rintro n m3 news3 h3 tk3 ⟨num, t1, ls, us', no', ms, g1, g2, g3, rfl, g5, g6, g7⟩ F3 N3
      rw [put_self g1, put_self g2, put_self g3] at F3
      k_fold
      rcases g7 with ⟨rfl, rfl, rfl⟩ | ⟨rfl, rfl, rfl, hk256⟩
      · k_steps
        · have h256 : 256 ≤ num := by rcases hsy with ⟨_, h⟩ | ⟨h, _⟩ <;> omega
          have h259 : num ≤ 259 := by rcases hsy with ⟨_, h⟩ | ⟨_, h⟩ <;> omega
          have e1 : num.fdiv 64 = 4 := by rw [fdiv_e (by decide)]; omega
          have e2 : num.fmod 64 = num - 256 := by rw [fmod_e (by decide)]; omega
          refine' while_drop (n' := 0) 2 ?f ?n (by decide) ?i
          case f => k_asm
          case n => k_asm
          case i => exact ⟨_, _, _, _, _, [64 + (num.fdiv 64).fmod 64] ++ [num.fmod 64], rfl, rfl, rfl, rfl, by assumption, by simp, .inr ⟨rfl, e1, by rw [e1, e2]; rfl, h256⟩⟩
        · have h54 : num ≤ 63 := by omega
          have h7 : 7 ≤ num := by rcases hsy with ⟨h, _⟩ | ⟨h, _⟩ <;> omega
          have e2 : num.fmod 64 = num := by rw [fmod_e (by decide)]; omega
          refine' inv_end1 ?f ?n ?j ?a ?c
          case f => k_asm
          case n => k_asm
          case j => exact ⟨_, _, _, rfl, rfl, by rw [octs_take hki, oct1, if_pos (by omega)]; refine Eq.mp (congrArg (fun z => IntsAre _ (octs (ns.take i) ++ [z])) e2) ?_; assumption⟩
          case a => rename _ ∧ _ ∧ AllLt _ own => hl1; exact ownoff1 hl1.2.2
          case c => exact fun p hp => .tail _ (.tail _ (.tail _ hp))
      · k_steps
        · refine' inv_end1 ?f ?n ?j ?a ?c
          case f => k_asm
          case n => k_asm
          case j => exact ⟨_, _, _, rfl, rfl, by rw [octs_take hki, oct1, if_neg (by omega)]; assumption⟩
          case a => rename _ ∧ _ ∧ AllLt _ own => hl1; exact ownoff1 hl1.2.2
          case c => exact fun p hp => .tail _ (.tail _ (.tail _ hp))
  case done =>
    rintro m₁ news₁ h2 tk2 ⟨lo, us, no, h1, rfl, h2i⟩ F2 N2
    rw [put_self h1] at F2
    rw [hi.length, List.take_length] at h2i
    k_steps
    exact hret _ _ _ _ [(lo, W.listOf us.toArray no)] (Fr.keep (by k_asm)) (Made.of (by k_asm)) hgn ⟨lo, us, no, rfl, rfl, h2i⟩
end Mine

-- part SrRing
namespace Mine
open PySem PySem.W PySem.Spec PySem.Calls PyProof.Rows
local macro_rules | `(tactic| walk_at $s:str) => `(tactic| k_extra $s)

noncomputable def sym1 (n : Int) : Int := if n % 6 < 2 then 7 + n / 6 % 48 else 254 + n % 6
theorem sym1_sym (n : Int) : Sym (sym1 n) := by unfold sym1 Sym; split <;> omega

theorem inv_end2 {h₀ : Heap} {L : Addr} {J : (Str → Option Value) → List (Addr × Obj) → Prop} {m' : Str → Option Value} {own rest : List (Addr × Obj)} {p p₂ : Addr × Obj} {s₁ : Shared} {h' : Heap} {tk : Nat} (F : Fr h₀ L h' m') (N : News h₀ L h' (p :: p₂ :: rest))
    (hj : J m' [p, p₂]) (ha : OwnOff own [p.1, p₂.1]) (ho : ∀ q ∈ own, q ∈ p :: p₂ :: rest) : InvEndG h₀ L J own s₁ { s₁ with heap := h', toks := tk } :=
  InvEndG.intro F N hj ha (fun q hq => by rcases List.mem_cons.mp hq with rfl | hq; exact .head _; rw [List.mem_singleton.mp hq]; exact .tail _ (.head _)) ho
theorem News.sub {h₀ h : Heap} {L : Addr} {n n' : List (Addr × Obj)} (N : News h₀ L h n) (hs : ∀ p ∈ n', p ∈ n) : News h₀ L h n' := fun p hp => N p (hs p hp)

theorem ints_snoc : ∀ {vs : List Value} {ns : List Int} {k : Int} {t : Tok}, IntsAre vs ns → IntsAre (vs.concat (.int k t)) (ns ++ [k])
  | [], [], _, _, _ => IntsAre.cons _ _ IntsAre.nil
  | _, _, _, _, .cons n t h => IntsAre.cons n t (ints_snoc h)

theorem sym1_a {k : Int} (h : k.fmod 6 < 2) : sym1 k = 7 + (k.fdiv 6).fmod 48 := by
  rw [fmod_e (by decide)] at h
  rw [sym1, fmod_e (by decide), fdiv_e (by decide), if_pos h]
theorem sym1_b {k : Int} (h : ¬ k.fmod 6 < 2) : sym1 k = 254 + k.fmod 6 := by
  rw [fmod_e (by decide)] at h ⊢
  rw [sym1, if_neg h]
inductive RingA (l : Addr) (i : Nat) (m : Str → Option Value) (news : List (Addr × Obj)) : Prop
  | mk (lo : Addr) (us : List Value) (no : Nat) (ms : List Int) (z1 : m (Str.ofString "numbers") = some (.ref lo)) (z2 : m (Str.ofString "script") = some (.ref l)) (z3 : news = [(lo, W.listOf us.toArray no)]) (z4 : IntsAre us ms) (z5 : ms.length = 7) (z6 : ∀ k ∈ ms, 0 ≤ k ∧ k < 100003) : RingA l i m news
inductive RingB (lo : Addr) (us : List Value) (no : Nat) (ms : List Int) (i : Nat) (m : Str → Option Value) (news : List (Addr × Obj)) : Prop
  | mk (lr : Addr) (rs : List Value) (nr : Nat) (z1 : lo < lr) (z2 : m (Str.ofString "ring") = some (.ref lr)) (z3 : news = [(lr, W.listOf rs.toArray nr), (lo, W.listOf us.toArray no)]) (z4 : IntsAre rs ((ms.take i).map sym1)) : RingB lo us no ms i m news
set_option maxHeartbeats 4000000 in
theorem ring_spec (w : World) (l : Addr) (vs : List Value) (ns : List Int) (hlen : ns.length ≤ 63) :
    Spec 4 w 73 [.ref l] (fun h => h.IsList l vs.toArray ∧ IntsAre vs ns) (fun v news => ∃ (lo : Addr) (us : List Value) (no : Nat) (ms : List Int), v = .ref lo ∧ news = [(lo, W.listOf us.toArray no)] ∧ IntsAre us ms ∧ ms.length = 7 ∧ ∀ m ∈ ms, Sym m) := by
  unfold Spec
  k_fill
  k_with_none
  w_top off
  intro mean mg mb dp un gd cn cs a ccd cl outer A₀ base h₀ L m s Q E B F X T hk hdp hun hgn hp hret
  obtain ⟨hl, hi⟩ := hp
  refine enterS [(PySem.Str.ofString "script", .ref l)] B F X T rfl rfl hk (by k_dflt k_is) (by k_dflt k_is) (by ktr_room) rfl rfl ?_ rfl rfl rfl (by decide)
  intro L' h₁ hL' F₁ N₁ B₁ X₁ T₁
  clear B F X T hL'
  refine wpAny_noRaise ?_
  k_fold
  k_with "pyIter ref" => (refine stop ?_)
  k_steps
  unfold Stop
  have hb0 : (if (60 : Int) < (ns.length : Int) then (60 : Int) else (ns.length : Int)) = ((min 60 ns.length : Nat) : Int) := by split <;> omega
  k_dflt (refine' iter_rangeG (n := min 60 ns.length) (RingA l) ?hh ?hr ?hs ?hn ?F ?N ?hj ?turn ?done)
  case hh => exact rfl
  case hr => k_asm
  case hs => rw [hb0]; exact small_one (by decide) (by decide) (by omega) (by omega)
  case hn => rw [hb0, rangeSize_one]; split <;> omega
  case F => k_asm
  case N => k_asm
  case hj => exact ⟨_, [_, _, _, _, _, _, _], _, [0, 4, 2, 5, 6, 270, 42], rfl, rfl, rfl, by repeat constructor, rfl, by decide⟩
  case turn =>
    rintro i t2 m₁ news₁ h2 tk2 own hi2 hoff ⟨lo, us, no, ms, h1, h2', rfl, h3, h4, h5⟩ F2 N2
    rw [put_self h1, put_self h2'] at F2
    simp only [List.cons_append, List.nil_append] at N2
    k_fold
    k_steps
    have hp : ((0 + (i : Int)).fmod 7).toNat < 7 := by have := fmod_e (n := 0 + (i : Int)) (m := 7) (by decide); omega
    refine' inv_end1 ?cf ?cn ?cj ?ca ?cc
    case cf => k_asm
    case cn => k_asm
    case cj => exact ⟨_, _, _, _, rfl, rfl, rfl, by assumption, by rw [List.length_set]; exact h4, fun k hk => (List.mem_or_eq_of_mem_set hk).elim (h5 k) fun e => by rw [e, fmod_e (by decide)]; omega⟩
    case ca => exact hoff
    case cc => exact fun p hp => .tail _ hp
  case done =>
    rintro m₁ news₁ h2 tk2 ⟨lo, us, no, ms, h1, h2', rfl, hums, h4, h5⟩ F2 N2
    rw [put_self h1, put_self h2'] at F2
    k_steps
    unfold Stop
    k_dflt (refine' iter_listN (l := lo) (vs := us) (n₀ := no) (RingB lo us no ms) ?hh ?hl ?hJ ?F ?N ?hj ?turn ?done)
    case hh => exact rfl
    case F => k_asm
    case N => k_asm
    case hl => exact .tail _ (.head _)
    case hJ => rintro i m news ⟨_, _, _, _, _, rfl, _⟩; exact .tail _ (.head _)
    case hj => exact ⟨_, [], _, by assumption, rfl, rfl, IntsAre.nil⟩
    case turn =>
      rintro i v m₃ news₃ h3 tk3 own hv hoff ⟨lr, rs, nr, g0, g1, rfl, g2⟩ F3 N3
      rw [put_self g1] at F3
      simp only [List.cons_append, List.nil_append] at N3
      k_fold
      obtain ⟨k, tk, hki, rfl⟩ := ints_at hums hv
      have hne : lo ≠ lr := Nat.ne_of_lt g0
      have hrl : ((ms.take i).map sym1).length ≤ 7 := by rw [List.length_map, List.length_take]; omega
      k_steps
      all_goals
        refine' inv_end2 ?cf ?cn ?cj ?ca ?cc
        case cf => k_asm
        case cn => k_asm
        case cj => exact ⟨_, _, _, g0, rfl, rfl, by rw [List.take_add_one, hki, Option.toList_some, List.map_append, List.map_singleton]; (first | rw [sym1_a (by assumption)] | rw [sym1_b (by assumption)]); exact ints_snoc g2⟩
        case ca => exact hoff
        case cc => exact fun p hp => .tail _ (.tail _ hp)
    case done =>
      rintro m₃ news₃ h3 tk3 ⟨lr, rs, nr, g0, g1, rfl, g2⟩ F3 N3
      rw [put_self g1] at F3
      rw [hums.length, List.take_length] at g2
      k_steps
      exact hret _ _ _ _ [(lr, W.listOf rs.toArray nr)] (Fr.keep (by k_asm)) (Made.of (News.sub (by k_asm) (fun p hp => by rw [List.mem_singleton.mp hp]; exact .head _))) hgn ⟨lr, rs, nr, _, rfl, rfl, g2, by rw [List.length_map, h4], fun n hn => by obtain ⟨k, _, rfl⟩ := List.mem_map.mp hn; exact sym1_sym k⟩
end Mine

-- part SrSigns
namespace Mine
open PySem PySem.W PySem.Spec PySem.Calls PyProof.Rows
local macro_rules | `(tactic| walk_at $s:str) => `(tactic| k_extra $s)

/-- the signs in the order of the table: the text, the number, the token of the number -/
noncomputable def signL : List (Str × Int × Tok) := [(Str.ofString "!", 54, 337), (Str.ofString "!=", 28, 285), (Str.ofString "%", 24, 277), (Str.ofString "%=", 40, 309), (Str.ofString "&", 19, 267), (Str.ofString "&=", 41, 311), (Str.ofString "(", 7, 243), (Str.ofString ")", 8, 245), (Str.ofString "*", 16, 261), (Str.ofString "**", 35, 299), (Str.ofString "**=", 46, 321), (Str.ofString "*=", 38, 305), (Str.ofString "+", 14, 257), (Str.ofString "+=", 36, 301), (Str.ofString ",", 12, 253), (Str.ofString "-", 15, 259), (Str.ofString "-=", 37, 303), (Str.ofString "->", 51, 331), (Str.ofString ".", 23, 275), (Str.ofString "...", 52, 333), (Str.ofString "/", 17, 263), (Str.ofString "//", 47, 323), (Str.ofString "//=", 48, 325), (Str.ofString "/=", 39, 307), (Str.ofString ":", 11, 251), (Str.ofString ":=", 53, 335), (Str.ofString ";", 13, 255), (Str.ofString "<", 20, 269), (Str.ofString "<<", 33, 295), (Str.ofString "<<=", 44, 317), (Str.ofString "<=", 29, 287), (Str.ofString "=", 22, 273), (Str.ofString "==", 27, 283), (Str.ofString ">", 21, 271), (Str.ofString ">=", 30, 289), (Str.ofString ">>", 34, 297), (Str.ofString ">>=", 45, 319), (Str.ofString "@", 49, 327), (Str.ofString "@=", 50, 329), (Str.ofString "[", 9, 247), (Str.ofString "]", 10, 249), (Str.ofString "^", 32, 293), (Str.ofString "^=", 43, 315), (Str.ofString "{", 25, 279), (Str.ofString "|", 18, 265), (Str.ofString "|=", 42, 313), (Str.ofString "}", 26, 281), (Str.ofString "~", 31, 291)]
noncomputable def signKvs : List (Str × Value) := signL.map fun p => (p.1, .int p.2.1 p.2.2)
/-- the sign of a number -/
noncomputable def sgn (n : Int) : Str := ((signL.find? fun p => p.2.1 = n).map (·.1)).getD ⟨#[]⟩

theorem signKvs_len : signKvs.length = 48 := rfl
theorem signL_nodup : (signL.map (·.1)).Nodup := by decide +kernel
theorem signL_nodup2 : (signL.map (·.2.1)).Nodup := by decide +kernel
theorem signKvs_nodup : (signKvs.map (·.1)).Nodup := by rw [signKvs, List.map_map]; exact signL_nodup
theorem sgn_all : ∀ p ∈ signL, sgn p.2.1 = p.1 := by decide +kernel
theorem sgn_has : ∀ i : Fin 48, ∃ p ∈ signL, p.2.1 = (i.val : Int) + 7 := by decide +kernel

theorem sgn_len : ∀ n : Int, (sgn n).length ≤ 3 := by
  intro n
  unfold sgn
  cases h : signL.find? fun p => p.2.1 = n with
  | none => simp [Str.length]
  | some p =>
    have := List.mem_of_find?_eq_some h
    exact (show ∀ p ∈ signL, p.1.length ≤ 3 by decide +kernel) p this

theorem dict50 {w : World} {h : Heap} (X : (hd.heap_39 w.params).In h) : ∃ ep, h.DictAt (PySem.strKind PySem.Challenge.rw_sr0039_01.row.prog w) 50 signKvs ep := by
  revert X; k_fill; k_with_none; w_top off; intro X
  have hl : ∃ es ep, (hd.heap_39 w.params).lookup 50 = some ⟨.type "dict", none, .dict es ep, #[]⟩ ∧ KeysLit w.params es.toList ∧ Pairs (PySem.strKind PySem.Challenge.rw_sr0039_01.row.prog w) es.toList signKvs := by
    refine ⟨_, _, by k_dflt k_is, by k_keys, ?_⟩
    repeat (first | exact Pairs.nil | refine Pairs.cons (kv := (_, _)) (strKind_is _ _ _ _) rfl ?_)
  obtain ⟨es, ep, hl, hk, hp⟩ := hl
  exact ⟨ep, _, es, X _ _ hl, ⟨rfl, rfl, rfl⟩, rfl, fun e he => by
    obtain ⟨x, t, e1, e2⟩ := hk.all e (Array.mem_toList_iff.mpr he)
    exact ⟨x, by rw [e1]; exact strKind_is _ w x t, e2⟩, hp, signKvs_nodup⟩

theorem valueAt_put {kvs : List (Int × Value)} {n : Int} {v : Value} (hn : n ∉ kvs.map (·.1)) (k : Int) : valueAt (stored kvs n v) k = if k = n then some v else valueAt kvs k := by
  have : kvs.any (fun kv => decide (kv.1 = n)) = false := by
    rw [List.any_eq_false]; intro kv hkv; simp only [decide_eq_true_eq]; exact fun e => hn (e ▸ List.mem_map.mpr ⟨kv, hkv, rfl⟩)
  unfold stored
  rw [this]
  simp only [Bool.false_eq_true, if_false, valueAt, List.find?_append, List.find?_cons, List.find?_nil]
  by_cases e : k = n
  · subst e
    have : kvs.find? (fun kv => decide (kv.1 = k)) = none := List.find?_eq_none.mpr fun kv hkv => by simp only [decide_eq_true_eq]; exact fun e => hn (e ▸ List.mem_map.mpr ⟨kv, hkv, rfl⟩)
    simp [this]
  · rw [if_neg e]
    have : decide (n = k) = false := decide_eq_false fun e' => e e'.symm
    simp [this]
theorem keys_put {kvs : List (Int × Value)} {n : Int} {v : Value} (hn : n ∉ kvs.map (·.1)) : (stored kvs n v).map (·.1) = kvs.map (·.1) ++ [n] := by
  have : kvs.any (fun kv => decide (kv.1 = n)) = false := by
    rw [List.any_eq_false]; intro kv hkv; simp only [decide_eq_true_eq]; exact fun e => hn (e ▸ List.mem_map.mpr ⟨kv, hkv, rfl⟩)
  unfold stored
  rw [this]; simp

section
variable {prog : Program} {w : World} {A : Around} {E : Value → Shared → Prop} {s : Shared} {env : Env} {h₀ : Heap} {x : Str} {body : List Stmt} {Q : Flow → Shared → Prop}
/-- for over a dict with str keys that stood ahead of the call -/
theorem iter_dictB {d : Addr} {kvs : List (Str × Value)} {ep : Nat} {m₀ : Str → Option Value} {news₀ : List (Addr × Obj)} (J : Nat → (Str → Option Value) → List (Addr × Obj) → Prop)
    (hh : A.handled = none) (hd : (d == sysModules) = false) (hl : h₀.DictAt (PySem.strKind prog w) d kvs ep) (F : Fr h₀ env.locals s.heap m₀) (N : News h₀ env.locals s.heap news₀) (hj : J 0 m₀ news₀)
    (turn : ∀ i k u t m₁ news₁ h tk own, kvs[i]? = some (k, u) → OwnOff own (news₁.map (·.1)) → J i m₁ news₁ → Fr h₀ env.locals h (fun y => if y = x then some (.str k t) else m₁ y) → News h₀ env.locals h (news₁ ++ own) →
      wpAny (model prog w) A (execs body env) (InvPostG h₀ env.locals (J (i + 1)) own { s with heap := h, toks := tk } Q) E { s with heap := h, toks := tk })
    (done : ∀ m₁ news₁ h tk, J kvs.length m₁ news₁ → Fr h₀ env.locals h m₁ → News h₀ env.locals h news₁ → Q .next { s with heap := h, toks := tk }) :
    wpAny (model prog w) A (pyIter (.ref d)) (fun it s₂ => LoopAtV prog w A h₀ env x body Q E it s₂) E s := by
  have hls : s.heap.DictAt (PySem.strKind prog w) d kvs ep := hl.at' fun o e => F.keep d o e
  obtain ⟨ol, _, hol, _⟩ := id hl
  have hlt : d < h₀.objs.size := Heap.lt_size hol
  have hne : d ≠ s.heap.objs.size := Nat.ne_of_lt (Nat.lt_trans (Nat.lt_of_lt_of_le hlt F.above) F.ns.lt)
  refine wpAny_pyIter_dict hd hls ?_
  refine loop_anyG J [(d, ol)] (Walks.dictKeys (prog := prog) (w := w) (knd := PySem.strKind prog w) hh s.heap.objs.size d hne kvs ep) ?_ ?_ ?_ ?_ ?_ ?_ ⟨⟨_, Heap.get?_push_size _ rfl, rfl, rfl⟩, hls.at' fun o e => Heap.get?_push_of_some _ e⟩ (F.push _)
    (fun p hp => ⟨Heap.get?_push_of_some _ (N p hp).1, (N p hp).2⟩) hj ?_ ?_
  · intro b hb
    rcases List.mem_cons.mp hb with h | h
    · exact .inl h
    · exact .inr ⟨_, by rw [List.mem_singleton.mp h]; exact List.mem_singleton.mpr rfl⟩
  · intro p hp
    rw [List.mem_singleton.mp hp]
    exact .inl hol
  · rintro i h ⟨⟨o, ho, _⟩, _⟩
    exact ⟨o, ho⟩
  · intro hm
    rcases List.mem_cons.mp hm with e | hm
    · exact absurd F.ns.lt (e ▸ Nat.lt_irrefl _)
    · exact absurd (Nat.lt_of_lt_of_le hlt F.above) ((List.mem_singleton.mp hm) ▸ Nat.lt_irrefl _)
  · exact next_is_new F
  · intro p hp e
    exact absurd (Heap.lt_size (N p hp).1) (e ▸ Nat.lt_irrefl _)
  · rintro i v m₁ news₁ h tk own hi ⟨k, u, hx, hk⟩ ho hJ F₁ N₁
    obtain ⟨t, rfl⟩ := Value.isStrOf_shape hk
    exact turn i k u t m₁ news₁ h tk own hx ho hJ F₁ N₁
  · intro m₁ news₁ h tk hJ F₁ N₁
    exact done m₁ news₁ h tk hJ F₁ N₁
end

theorem nodup_take {l : List (Str × Int × Tok)} (hn : (l.map (·.2.1)).Nodup) {i : Nat} {k : Str} {n : Int} {t : Tok} (hp : l[i]? = some (k, n, t)) : n ∉ (l.take i).map (·.2.1) := by
  induction l generalizing i with
  | nil => simp at hp
  | cons q l ih =>
    rw [List.map_cons, List.nodup_cons] at hn
    cases i with
    | zero => simp
    | succ j =>
      simp only [List.getElem?_cons_succ] at hp
      simp only [List.take_succ_cons, List.map_cons, List.mem_cons, not_or]
      exact ⟨fun e => hn.1 (e ▸ List.mem_map.mpr ⟨_, List.mem_of_getElem? hp, rfl⟩), ih hn.2 hp⟩

/-- a dict from the symbols' numbers to their signs -/
noncomputable def SignsOf (kvs : List (Int × Value)) : Prop := ∀ n : Int, 7 ≤ n → n ≤ 54 → ∃ t, valueAt kvs n = some (.str (sgn n) t)

inductive SigA (w : World) (i : Nat) (m : Str → Option Value) (news : List (Addr × Obj)) : Prop
  | mk (d : Addr) (o : Obj) (kvs : List (Int × Value)) (z1 : m (Str.ofString "signs") = some (.ref d)) (z2 : news = [(d, o)]) (z3 : o.IsDictOf (PySem.intKind PySem.Challenge.rw_sr0039_01.row.prog w) kvs) (z4 : kvs.map (·.1) = (signL.take i).map (·.2.1)) (z5 : ∀ p ∈ signL.take i, ∃ t, valueAt kvs p.2.1 = some (.str p.1 t)) : SigA w i m news
set_option maxHeartbeats 4000000 in
theorem signs_spec (w : World) :
    Spec 4 w 94 [] (fun _ => True) (fun v news => ∃ (d : Addr) (o : Obj) (kvs : List (Int × Value)), v = .ref d ∧ news = [(d, o)] ∧ o.IsDictOf (PySem.intKind PySem.Challenge.rw_sr0039_01.row.prog w) kvs ∧ SignsOf kvs) := by
  unfold Spec
  k_fill
  k_with_none
  w_top off
  intro mean mg mb dp un gd cn cs a ccd cl outer A₀ base h₀ L m s Q E B F X T hk hdp hun hgn hp hret
  refine enterS [] B F X T rfl rfl hk (by k_dflt k_is) (by k_dflt k_is) (by ktr_room) rfl rfl ?_ rfl rfl rfl (by decide)
  intro L' h₁ hL' F₁ N₁ B₁ X₁ T₁
  clear B F X T hL'
  refine wpAny_noRaise ?_
  k_fold
  k_with "exec For Name Name cons nil" => ((rename Fr _ _ _ _ => lF'); (with_unfolding_all refine' For_invVF lF' ?k1 ?k2 ?_; (case k1 => exact rfl); (case k2 => exact rfl); k_whole))
  k_with "pyIter ref" => (refine stop ?_)
  k_with "subscriptTail" => (refine stop ?_)
  k_with "setItem ref int" => (refine stop ?_)
  k_with "setItem" => (refine stop ?_)
  k_steps
  unfold Stop
  obtain ⟨ep, hD⟩ := dict50 (w := w) X₁
  k_dflt (refine' iter_dictB (SigA w) ?hh (by decide) hD ?F ?N ?hj ?turn ?done)
  case hh => exact rfl
  case F => k_asm
  case N => k_asm
  case hj => exact ⟨_, _, [], rfl, rfl, by assumption, rfl, fun p hp => nomatch hp⟩
  case turn =>
    rintro i k u t m₁ news₁ h2 tk2 own hv hoff ⟨d, o, kvs, h1, rfl, hd1, hd2, hd3⟩ F2 N2
    rw [put_self h1] at F2
    simp only [List.cons_append, List.nil_append] at N2
    k_fold
    obtain ⟨⟨k', n, tn⟩, hp, hk⟩ : ∃ p, signL[i]? = some p ∧ (p.1, Value.int p.2.1 p.2.2) = (k, u) := by
      have := hv; rw [signKvs, List.getElem?_map] at this; exact Option.map_eq_some_iff.mp this
    obtain ⟨rfl, rfl⟩ := Prod.mk.inj hk
    k_steps
    unfold Stop
    have hmD := (hD.at' (h' := h2) fun o e => F2.keep 50 o e).dictOf
    refine tail_any (s := { s with heap := h2, toks := tk2 }) hmD.typeIs slot_dict_getitem.lookup (wpAny_getItem_of (strKind_is _ _ _ _) hmD.mapOf (valueAt_of_get signKvs_nodup hv) ?_) (by with_unfolding_all rfl)
    k_steps
    unfold Stop
    have hi48 : i < 48 := (List.getElem?_eq_some_iff.mp hp).1
    have hkl : kvs.length ≤ 48 := by have := congrArg List.length hd2; simp only [List.length_map, List.length_take] at this; omega
    have hnew : n ∉ kvs.map (·.1) := by rw [hd2]; exact nodup_take signL_nodup2 hp
    k_dflt (refine' kda_set (k := n) ?tF ?tN ?tU hd1 (intKind_is _ _ _ _) ?tsz ?_)
    case tF => k_asm
    case tN => k_asm
    case tU => k_updF
    case tsz => exact Nat.le_trans hkl (by decide)
    intro h' o' F' N' hd'
    (try dsimp only at N')
    k_steps
    refine' inv_end1 ?cf ?cn ?cj ?ca ?cc
    case cf => k_asm
    case cn => k_asm
    case cj => exact ⟨_, _, stored kvs n (.str k' t), rfl, rfl, hd', by rw [keys_put hnew, hd2, List.take_add_one, hp]; simp, fun p hpm => by
      rw [List.take_add_one, hp, Option.toList_some, List.mem_append, List.mem_singleton] at hpm
      rw [valueAt_put hnew]
      rcases hpm with hpm | rfl
      · rw [if_neg (fun e => hnew (by rw [hd2]; exact List.mem_map.mpr ⟨p, hpm, e⟩))]; exact hd3 p hpm
      · exact ⟨t, if_pos rfl⟩⟩
    case ca => exact hoff
    case cc => exact fun p hp => .tail _ hp
  case done =>
    rintro m₁ news₁ h2 tk2 ⟨d, o, kvs, h1, rfl, hd1, hd2, hd3⟩ F2 N2
    rw [put_self h1] at F2
    k_steps
    exact hret _ _ _ _ [(d, o)] (Fr.keep (by k_asm)) (Made.of (by k_asm)) hgn ⟨d, o, kvs, rfl, rfl, hd1, fun n h7 h54 => by
      obtain ⟨p, hp, e⟩ := sgn_has ⟨(n - 7).toNat, by omega⟩
      have e' : p.2.1 = n := by rw [e]; simp only []; omega
      obtain ⟨t, ht⟩ := hd3 p (by rw [signKvs_len]; exact hp)
      exact ⟨t, by rw [← e', ht, sgn_all p hp]⟩⟩
end Mine

-- part SrCut
namespace Mine
open PySem PySem.W PySem.Spec PySem.Calls PyProof.Rows
/-- what stands when a while is left -/
noncomputable def ExitG (h₀ : Heap) (L : Addr) (P : (Str → Option Value) → List (Addr × Obj) → Prop) (s₀ : Shared) (f : Flow) (s' : Shared) : Prop :=
  f = .next ∧ ∃ h tk m nx, s' = { s₀ with heap := h, toks := tk } ∧ Fr h₀ L h m ∧ News h₀ L h nx ∧ P m nx
theorem exit_end {h₀ : Heap} {L : Addr} {P : (Str → Option Value) → List (Addr × Obj) → Prop} {s₀ : Shared} {h' : Heap} {tk' : Nat} {m' : Str → Option Value} {news' : List (Addr × Obj)} (nx : List (Addr × Obj)) (F : Fr h₀ L h' m') (N : News h₀ L h' news') (hi : P m' nx) (hs : ∀ p ∈ nx, p ∈ news') :
    ExitG h₀ L P s₀ .next { s₀ with heap := h', toks := tk' } := ⟨rfl, h', tk', m', nx, rfl, F, fun p hp => N p (hs p hp), hi⟩
theorem exit_drop {h₀ : Heap} {L : Addr} {P : (Str → Option Value) → List (Addr × Obj) → Prop} {s₀ : Shared} {h' : Heap} {tk' : Nat} {m' : Str → Option Value} {news' : List (Addr × Obj)} (k : Nat) (F : Fr h₀ L h' m') (N : News h₀ L h' news') (hi : P m' (news'.drop k)) :
    ExitG h₀ L P s₀ .next { s₀ with heap := h', toks := tk' } := exit_end _ F N hi fun _ hp => List.mem_of_mem_drop hp
theorem while_drop0 {h₀ : Heap} {L : Addr} {I : Nat → (Str → Option Value) → List (Addr × Obj) → Prop} {n n' : Nat} {s₀ : Shared} {h' : Heap} {tk' : Nat} {m' : Str → Option Value} {l : List (Addr × Obj)} {Q : Flow → Shared → Prop} (k : Nat) (F : Fr h₀ L h' m') (N : News h₀ L h' l) (hn : n' < n)
    (hi : I n' m' (l.drop k)) : WhileEnd h₀ L I n s₀ Q .next { s₀ with heap := h', toks := tk' } :=
  while_end (l.drop k) F N hn hi fun q hq => List.mem_of_mem_drop hq
section
variable {prog : Program} {w : World} {A : Around} {E : Value → Shared → Prop} {s : Shared} {env : Env} {h₀ : Heap} {body : List Stmt} {Q : Flow → Shared → Prop}
theorem while_cut {test : Expr} {pos : Pos} {m₀ : Str → Option Value} {news₀ : List (Addr × Obj)} (I : Nat → (Str → Option Value) → List (Addr × Obj) → Prop) (P : (Str → Option Value) → List (Addr × Obj) → Prop) (n₀ : Nat)
    (F : Fr h₀ env.locals s.heap m₀) (N : News h₀ env.locals s.heap news₀) (hi : I n₀ m₀ news₀)
    (turn : ∀ n m₁ news₁ h tk, I n m₁ news₁ → Fr h₀ env.locals h m₁ → News h₀ env.locals h news₁ →
      wpAny (model prog w) A (isTrue test env (eval test env)) (fun b s₂ => if b = true then wpAny (model prog w) A (execs body env) (WhileEnd h₀ env.locals I n s (ExitG h₀ env.locals P s)) E s₂ else ExitG h₀ env.locals P s .next s₂) E { s with heap := h, toks := tk })
    (hE : PassesOwn (model prog w) A env E)
    (done : ∀ m₁ news₁ h tk, P m₁ news₁ → Fr h₀ env.locals h m₁ → News h₀ env.locals h news₁ → Q .next { s with heap := h, toks := tk }) :
    wpAny (model prog w) A (exec (.While test body [] pos) env) Q E s := by
  refine wpAny_mono (while_G (s := s) I n₀ F N hi turn hE) (fun f s' hf => ?_) fun _ _ e => e
  obtain ⟨rfl, h, tk, m, nx, rfl, F', N', hP⟩ := hf
  exact done m nx h tk hP F' N'
end
end Mine

-- part SrSetL
namespace Mine
open PySem PySem.W PySem.Spec PySem.Calls PyProof.Rows
section
variable {prog : Program} {w : World} {A : Around} {E : Value → Shared → Prop} {s : Shared}
theorem set_last {l : Addr} {items : Array Value} {n : Nat} {t : Tok} {v : Value} {Q : Unit → Shared → Prop} (ho : s.heap.get? l = some (W.listOf items n)) (hpos : 0 < items.size)
    (h : Q () { s with heap := s.heap.update l (Obj.mapSeq (·.setIfInBounds (items.size - 1) v)) }) :
    wpAny (model prog w) A (setItem (.ref l) (.int (-1) t) v) Q E s := by
  have hl : s.heap.IsList l items := ⟨_, ho, rfl, n, rfl⟩
  unfold setItem
  try with_reducible refine wpAny_holding ?_
  first | refine wpAny_bind (wpAny_pure ?_) | skip
  refine wpAny_bind (wpAny_sequenceKey hl.typeIs (by decide) ?_)
  refine wpAny_bind (wpAny_callSpecial?_slot (name := Str.ofString "__setitem__") hl.typeIs slot_list_setitem
    (wpAny_call_entry slot_list_setitem hl.typeIs entry_list_setitem ?_ (args_list_setitem _ _ _)))
  show wpAny _ _ (Builtin.List.listSubscript? (.int (-1) t) >>= _) _ _ s
  refine wpAny_bind (wpAny_listSubscript_int (fitsIndex_neg (by decide) (by decide)) ?_)
  have hidx := seqIndex_neg (k := -1) (n := items.size) (by decide) (by omega)
  have e1 : ((-1 : Int) + (items.size : Int)).toNat = items.size - 1 := by omega
  rw [e1] at hidx
  show wpAny _ _ ((Builtin.List.listItems (.ref l) >>= fun xs => pure ((seqIndex? (Int.negSucc 0) xs.size).bind fun i => xs[i]?.map (i, ·))) >>= _) _ _ s
  refine wpAny_bind (wpAny_bind ?_)
  show wpAny _ _ (seqItems? (.ref l) >>= _) _ _ s
  refine wpAny_bind (wpAny_seqItems ho rfl (wpAny_pure (wpAny_pure ?_)))
  have hidx' : seqIndex? (Int.negSucc 0) items.size = some (items.size - 1) := hidx
  rw [hidx']
  simp only [Option.bind_some, Array.getElem?_eq_getElem (show items.size - 1 < items.size by omega), Option.map_some]
  show wpAny _ _ (setSeqItemAt l (items.size - 1) v >>= _) _ _ s
  refine wpAny_bind (wpAny_setSeqItemAt ho rfl ?_)
  first
    | exact wpAny_bind (wpAny_pure (wpAny_pure ⟨.none, rfl, wpAny_pure h⟩))
    | exact wpAny_pure ⟨.none, rfl, wpAny_pure h⟩
variable {h₀ : Heap} {L D : Addr} {m : Str → Option Value} {news news' : List (Addr × Obj)} {vs : List Value} {ns : List Int} {n : Nat} {x : Int} {t u : Tok}
theorem ksa_last {Q : Unit → Shared → Prop} (F : Fr h₀ L s.heap m) (N : News h₀ L s.heap news) (U : Upd D (W.listOf vs.toArray n) (W.listOf (vs.set (vs.length - 1) (.int x u)).toArray n) news news') (hi : IntsAre vs ns) (hpos : 0 < vs.length)
    (h : ∀ h', Fr h₀ L h' m → News h₀ L h' news' → IntsAre (vs.set (vs.length - 1) (.int x u)) (ns.set (vs.length - 1) x) → Q () { s with heap := h' }) :
    wpAny (model prog w) A (setItem (.ref D) (.int (-1) t) (.int x u)) Q E s := by
  obtain ⟨pre, post, rfl, rfl, a, b⟩ := U.split
  have z := N (D, W.listOf vs.toArray n) (List.mem_append.mpr (.inr (.head _)))
  refine set_last z.1 (by simpa using hpos) (h _ (F.change (Heap.SameBut.update ..) z.2.1 z.2.2) (ki_turn _ N a b ?_ ?_) (ints_set hi _))
  · show vs.toArray.setIfInBounds _ (.int x u) = (vs.set _ (.int x u)).toArray
    apply Array.toList_inj.mp
    simp
  · simp
end
end Mine

-- part SrText
namespace Mine
open PySem PySem.W PySem.Spec PySem.Calls PyProof.Rows
local macro_rules | `(tactic| walk_at $s:str) => `(tactic| k_extra $s)
local macro_rules | `(tactic| size_fits) => `(tactic| with_reducible assumption)

noncomputable def txtStep (x : Str) (n : Int) : Str := if n < 256 then ((x ++ Str.ofString "\"") ++ sgn n) ++ Str.ofString "\")" else (x ++ Txt.mul (Str.ofString "(") (n - 256)) ++ Str.ofString ")"
/-- the text of a row -/
noncomputable def txtAll (ns : List Int) (tr : Int) : Str := ns.foldl txtStep (Txt.mul (Str.ofString "(") (tr - 1))
theorem str_q1 : (Str.ofString "\"").length = 1 := by decide +kernel
theorem str_q3 : (Str.ofString ")").length = 1 := by decide +kernel
theorem str_q2 : (Str.ofString "\")").length = 2 := by decide +kernel
theorem mul_open (k : Int) : (Txt.mul (Str.ofString "(") k).cps.toList = List.replicate k.toNat 40 := by
  rw [str_open]
  unfold Txt.mul
  have hf : ∀ (n : Nat) (a : Array Nat), ((List.replicate n (#[40] : Array Nat)).foldl (· ++ ·) a).toList = a.toList ++ List.replicate n 40 := by
    intro n
    induction n with
    | zero => intro a; simp
    | succ n ih => intro a; rw [List.replicate_succ, List.foldl_cons, ih, Array.toList_append, List.replicate_succ]; simp
  by_cases h1 : k < 1
  · rw [if_pos h1, show k.toNat = 0 from by omega]; rfl
  · rw [if_neg h1]
    by_cases h2 : k = 1
    · subst h2; rfl
    · rw [if_neg (by simp [h2, Str.length])]
      exact hf _ _
theorem txt_room {x : Str} {k : Int} {b : Nat} (h : x.length ≤ b) (hk : k ≤ 259) : (txtStep x k).length ≤ b + 6 := by
  unfold txtStep
  have h3 := sgn_len k
  by_cases hc : k < 256
  · rw [if_pos hc, Str.length_append, Str.length_append, Str.length_append, str_q1, str_q2]; omega
  · have hm : (Txt.mul (Str.ofString "(") (k - 256)).length = (k - 256).toNat := by
      show (Txt.mul (Str.ofString "(") (k - 256)).cps.toList.length = _
      rw [mul_open, List.length_replicate]
    rw [if_neg hc, Str.length_append, Str.length_append, str_q3, hm]; omega
inductive TxtA (d : Addr) (ns : List Int) (tr : Int) (i : Nat) (m : Str → Option Value) (news : List (Addr × Obj)) : Prop
  | mk (x : Str) (t : Tok) (z1 : m (Str.ofString "text") = some (.str x t)) (z2 : m (Str.ofString "signs") = some (.ref d)) (z3 : news = []) (z4 : x = txtAll (ns.take i) tr) (z5 : x.length ≤ 19 + 6 * i) : TxtA d ns tr i m news
set_option maxHeartbeats 4000000 in
theorem text_spec (w : World) (l d : Addr) (vs : List Value) (ns : List Int) (kvs : List (Int × Value)) (tr : Int) (tt : Tok) (hlen : ns.length ≤ 7) (hsym : ∀ n ∈ ns, Sym n) (htr : -20 ≤ tr ∧ tr ≤ 20) (hsg : SignsOf kvs) :
    Spec 8 w 101 [.ref l, .ref d, .int tr tt] (fun h => h.IsList l vs.toArray ∧ IntsAre vs ns ∧ h.DictOf (PySem.intKind PySem.Challenge.rw_sr0039_01.row.prog w) d kvs) (fun v _ => ∃ t', v = .str (Txt.slice (txtAll ns tr) none (some (-1))) t') := by
  unfold Spec
  k_fill
  k_with_none
  w_top off
  intro mean mg mb dp un gd cn cs a ccd cl outer A₀ base h₀ L m s Q E B F X T hk hdp hun hgn hp hret
  obtain ⟨hl, hi, hD⟩ := hp
  refine enterS [(PySem.Str.ofString "row", .ref l), (PySem.Str.ofString "signs", .ref d), (PySem.Str.ofString "trees", .int tr tt)] B F X T rfl rfl hk (by k_dflt k_is) (by k_dflt k_is) (by ktr_room) rfl rfl ?_ rfl rfl rfl (by decide)
  intro L' h₁ hL' F₁ N₁ B₁ X₁ T₁
  clear B F X T hL'
  refine wpAny_noRaise ?_
  k_fold
  k_with "pyIter ref" => (refine stop ?_)
  k_with "subscriptTail" => (refine stop ?_)
  k_steps
  unfold Stop
  rename _ → ((Txt.mul (Str.ofString "(") (tr - 1)).length = 0) => z1
  rename _ → (((Txt.mul (Str.ofString "(") (tr - 1)).length : Int) = _) => z2
  have hz0 : (Txt.mul (Str.ofString "(") (tr - 1)).length ≤ 19 := by
    by_cases h : tr - 1 < 0
    · exact Nat.le_trans (Nat.le_of_eq (z1 h)) (by decide)
    · have := z2 (by omega); omega
  k_dflt (refine' iter_listB (TxtA d ns tr) ?hh hl ?F ?N ?hj ?turn ?done)
  case hh => exact rfl
  case F => k_asm
  case N => k_asm
  case hj => exact ⟨_, _, rfl, rfl, rfl, rfl, hz0⟩
  case turn =>
    rintro i v m₁ news₁ h2 tk2 own hv hoff ⟨x, t, h1, h1', rfl, hx, hxl⟩ F2 N2
    rw [put_self h1, put_self h1'] at F2
    k_fold
    rename IntsAre vs ns => hi
    obtain ⟨k, tk, hki, rfl⟩ := ints_at hi hv
    have hsy := hsym k (List.mem_of_getElem? hki)
    have hlo : 7 ≤ k := by rcases hsy with h | h <;> omega
    have hhi : k ≤ 259 := by rcases hsy with h | h <;> omega
    have hil : i < ns.length := (List.getElem?_eq_some_iff.mp hki).1
    k_steps
    k_dflt (refine' SpecK.use (isT_spec w k tk) B₁ ?kF X₁ ?kN T₁ ?kK ?kd ?ku trivial ?_)
    case kK => exact rfl
    case kF => k_asm
    case kN => k_asm
    case kd => ktr_room
    case ku => ktr_units
    rintro v h' tk' news' ⟨rfl, rfl⟩ F' N' _ _
    rw [List.nil_append] at N'
    k_steps
    · unfold Stop
      have hk54 : k ≤ 54 := by rcases hsy with h | h <;> omega
      obtain ⟨t3, ht3⟩ := hsg k hlo hk54
      have hl3 := sgn_len k
      have hmD := dict_keeps hD (h' := h') fun b o e => F'.keep b o e
      refine tail_any (s := { s with heap := h', toks := _ }) hmD.typeIs slot_dict_getitem.lookup (wpAny_getItem_of (intKind_is _ _ _ _) hmD.mapOf ht3 ?_) (by with_unfolding_all rfl)
      k_steps
      refine' inv_end [] ?f ?n ?j (fun _ _ _ h => nomatch h) (fun _ h => nomatch h) (fun p hp => List.mem_append.mpr (.inr hp))
      case f => k_asm
      case n => k_asm
      case j => exact ⟨_, _, rfl, rfl, rfl, by rw [txtAll, List.take_add_one, hki, Option.toList_some, List.foldl_append, List.foldl_cons, List.foldl_nil, ← txtAll, ← hx, txtStep, if_pos (by assumption)], by
        have := txt_room hxl hhi; rw [txtStep, if_pos (by assumption)] at this; exact this⟩
    · refine' inv_end [] ?cf ?cn ?cj (fun _ _ _ h => nomatch h) (fun _ h => nomatch h) (fun p hp => List.mem_append.mpr (.inr hp))
      case cf => k_asm
      case cn => k_asm
      case cj => exact ⟨_, _, rfl, rfl, rfl, by rw [txtAll, List.take_add_one, hki, Option.toList_some, List.foldl_append, List.foldl_cons, List.foldl_nil, ← txtAll, ← hx, txtStep, if_neg (by assumption)], by
        have := txt_room hxl hhi; rw [txtStep, if_neg (by assumption)] at this; exact this⟩
  case done =>
    rintro m₁ news₁ h2 tk2 ⟨x, t, h1, h1', rfl, hx, hxl⟩ F2 N2
    rw [put_self h1] at F2
    rename IntsAre vs ns => hi
    rw [hi.length, List.take_length] at hx
    rw [hi.length] at hxl
    k_with_none
    k_steps
    exact hret _ _ _ _ [] (Fr.keep (by k_asm)) (Made.of (L := L') News.nil) hgn ⟨_, by rw [← hx]⟩
end Mine

-- part SrRows
namespace Mine
open PySem PySem.W PySem.Spec PySem.Calls PyProof.Rows
local macro_rules | `(tactic| walk_at $s:str) => `(tactic| k_extra $s)
local macro_rules | `(tactic| size_fits) => `(tactic| with_reducible assumption)

noncomputable def abIx (start ahead : Int) : Nat := ((start + ahead).fmod 7).toNat
noncomputable def abG (ss : List Int) (start : Int) : Nat → Int → Int → List Int → List Int
  | 0, _, _, ms => ms
  | f + 1, total, ahead, ms => if total ≥ 0 ∧ ahead < 7 then abG ss start f (total + ss.getD (abIx start ahead) 0) (ahead + 1) (ms.set (abIx start ahead) (ms.getD (abIx start ahead) 0 + 1)) else ms
noncomputable def abOne (ss ms : List Int) (i : Nat) : List Int := abG ss (0 + (i : Int)) 6 (ss.getD (0 + (i : Int)).toNat 0) 1 ms
noncomputable def abAll (ss : List Int) (i : Nat) : List Int := (List.range i).foldl (abOne ss) [0, 0, 0, 0, 0, 0, 0]
noncomputable def rowAt (r a : Int) : Str := if r < 256 then Txt.mul (Str.ofString "# ") a ++ sgn r else if a > 0 then Txt.mul (Str.ofString "# ") (a - 1) ++ Str.ofString "#" else ⟨#[]⟩
theorem abAll_succ (ss : List Int) (i : Nat) : abAll ss (i + 1) = abOne ss (abAll ss i) i := by rw [abAll, List.range_succ, List.foldl_append]; rfl
theorem abIx_lt (start ahead : Int) : abIx start ahead < 7 := by unfold abIx; have := fmod_e (n := start + ahead) (m := 7) (by decide); omega

theorem getD_mem {l : List Int} {i : Nat} (h : i < l.length) : l.getD i 0 ∈ l := by rw [List.getD_eq_getElem?_getD, List.getElem?_eq_getElem h]; exact List.getElem_mem h

theorem two_eq {lr : Addr} {q : Addr × Obj} {ts : List (Str × Tok)} {y : Str} {t : Tok} {n1 : Nat} :
    [(lr, W.listOf ((strValues ts).toArray.push (.str y t)) n1), q] = [(lr, W.listOf (strValues (ts ++ [(y, t)])).toArray n1), q] := by
  rw [strv_push]
inductive RowsA (l l2 d : Addr) (ss : List Int) (i : Nat) (m : Str → Option Value) (news : List (Addr × Obj)) : Prop
  | mk (la : Addr) (us : List Value) (na : Nat) (z1 : m (Str.ofString "above") = some (.ref la)) (z2 : m (Str.ofString "ring") = some (.ref l)) (z3 : m (Str.ofString "steps") = some (.ref l2)) (z4 : m (Str.ofString "signs") = some (.ref d)) (z5 : news = [(la, W.listOf us.toArray na)]) (z6 : IntsAre us (abAll ss i)) (z7 : (abAll ss i).length = 7) (z8 : ∀ k ∈ abAll ss i, 0 ≤ k ∧ k ≤ 6 * (i : Int)) : RowsA l l2 d ss i m news
inductive RowsB (l l2 d la : Addr) (ss : List Int) (i : Nat) (t2 : Tok) (own : List (Addr × Obj)) (n : Nat) (m : Str → Option Value) (news : List (Addr × Obj)) : Prop
  | mk (total ahead : Int) (tt ta : Tok) (us' : List Value) (na' : Nat) (ms' : List Int) (z1 : m (Str.ofString "total") = some (.int total tt)) (z2 : m (Str.ofString "ahead") = some (.int ahead ta)) (z3 : m (Str.ofString "start") = some (.int (0 + (i : Int)) t2)) (z4 : m (Str.ofString "above") = some (.ref la)) (z5 : m (Str.ofString "ring") = some (.ref l)) (z6 : m (Str.ofString "steps") = some (.ref l2)) (z7 : m (Str.ofString "signs") = some (.ref d)) (z8 : news = (la, W.listOf us'.toArray na') :: own) (z9 : IntsAre us' ms') (z10 : ms'.length = 7) (z11 : (n : Int) = 7 - ahead) (z12 : 1 ≤ ahead) (z13 : abG ss (0 + (i : Int)) n total ahead ms' = abOne ss (abAll ss i) i) (z14 : ∀ k ∈ ms', 0 ≤ k ∧ k ≤ 6 * (i : Int) + (ahead - 1)) : RowsB l l2 d la ss i t2 own n m news
inductive RowsC (l l2 d la : Addr) (ss : List Int) (i : Nat) (own : List (Addr × Obj)) (m : Str → Option Value) (news : List (Addr × Obj)) : Prop
  | mk (us' : List Value) (na' : Nat) (z1 : m (Str.ofString "above") = some (.ref la)) (z2 : m (Str.ofString "ring") = some (.ref l)) (z3 : m (Str.ofString "steps") = some (.ref l2)) (z4 : m (Str.ofString "signs") = some (.ref d)) (z5 : news = (la, W.listOf us'.toArray na') :: own) (z6 : IntsAre us' (abAll ss (i + 1))) (z7 : (abAll ss (i + 1)).length = 7) (z8 : ∀ k ∈ abAll ss (i + 1), 0 ≤ k ∧ k ≤ 6 * ((i + 1 : Nat) : Int)) : RowsC l l2 d la ss i own m news
inductive RowsD (l d la : Addr) (us : List Value) (na : Nat) (ns ss : List Int) (i : Nat) (m : Str → Option Value) (news : List (Addr × Obj)) : Prop
  | mk (lr : Addr) (ts : List (Str × Tok)) (nt : Nat) (z1 : la < lr) (z2 : m (Str.ofString "rows") = some (.ref lr)) (z3 : m (Str.ofString "above") = some (.ref la)) (z4 : m (Str.ofString "ring") = some (.ref l)) (z5 : m (Str.ofString "signs") = some (.ref d)) (z6 : news = [(lr, W.listOf (strValues ts).toArray nt), (la, W.listOf us.toArray na)]) (z7 : ts.length = i) (z8 : ts.map (·.1) = (List.range i).map fun p => rowAt (ns.getD p 0) ((abAll ss 7).getD p 0)) : RowsD l d la us na ns ss i m news
set_option maxHeartbeats 4000000 in
theorem rows_spec (w : World) (l l2 d : Addr) (vs vs2 : List Value) (ns ss : List Int) (kvs : List (Int × Value)) (hlen : ns.length = 7) (hlen2 : ss.length = 7) (hsym : ∀ n ∈ ns, Sym n) (hsg : SignsOf kvs) :
    Spec 8 w 122 [.ref l, .ref l2, .ref d] (fun h => h.IsList l vs.toArray ∧ IntsAre vs ns ∧ h.IsList l2 vs2.toArray ∧ IntsAre vs2 ss ∧ h.DictOf (PySem.intKind PySem.Challenge.rw_sr0039_01.row.prog w) d kvs)
      (fun v news => ∃ (lr la : Addr) (ts : List (Str × Tok)) (nt : Nat) (oa : Obj), v = .ref lr ∧ news = [(lr, W.listOf (strValues ts).toArray nt), (la, oa)] ∧ ts.map (·.1) = (List.range 7).map fun p => rowAt (ns.getD p 0) ((abAll ss 7).getD p 0)) := by
  unfold Spec
  k_fill
  k_with_none
  w_top off
  intro mean mg mb dp un gd cn cs a ccd cl outer A₀ base h₀ L m s Q E B F X T hk hdp hun hgn hp hret
  obtain ⟨hl, hi, hl2, hi2, hD⟩ := hp
  refine enterS [(PySem.Str.ofString "ring", .ref l), (PySem.Str.ofString "steps", .ref l2), (PySem.Str.ofString "signs", .ref d)] B F X T rfl rfl hk (by k_dflt k_is) (by k_dflt k_is) (by ktr_room) rfl rfl ?_ rfl rfl rfl (by decide)
  intro L' h₁ hL' F₁ N₁ B₁ X₁ T₁
  clear B F X T hL'
  refine wpAny_noRaise ?_
  k_fold
  k_with "pyIter ref" => (refine stop ?_)
  k_with "exec While BoolOp cons nil" => (refine stop ?_)
  k_steps
  unfold Stop
  k_dflt (refine' iter_rangeG (n := 7) (RowsA l l2 d ss) ?hh ?hr ?hs ?hn ?F ?N ?hj ?turn ?done)
  case hh => exact rfl
  case hr => k_asm
  case hs => decide
  case hn => decide
  case F => k_asm
  case N => k_asm
  case hj => exact ⟨_, [_, _, _, _, _, _, _], _, rfl, rfl, rfl, rfl, rfl, by repeat constructor, rfl, fun k hk => by rw [show abAll ss 0 = [0, 0, 0, 0, 0, 0, 0] from rfl] at hk; simp at hk; omega⟩
  case turn =>
    rintro i t2 m₁ news₁ h2 tk2 own hil hoff ⟨la, us, na, e1, e2, e3, e4, rfl, f1, f2, f3⟩ F2 N2
    rw [put_self e1, put_self e2, put_self e3, put_self e4] at F2
    simp only [List.cons_append, List.nil_append] at N2
    k_fold
    k_steps
    (try unfold Stop)
    k_dflt (refine' while_cut (RowsB l l2 d la ss i t2 own) (RowsC l l2 d la ss i own) 6 ?wF ?wN ?wi ?wt ?wE ?wd)
    case wF => k_asm
    case wN => k_asm
    case wE => exact PassesOwn.never
    case wi => exact ⟨_, 1, _, _, us, _, _, rfl, rfl, rfl, rfl, rfl, rfl, rfl, rfl, f1, f2, by decide, by decide, rfl, fun k hk => by have := f3 k hk; omega⟩
    case wt =>
      clear f1
      rintro n m₃ news₃ h3 tk3 ⟨total, ahead, tt, ta, us', na', ms', g1, g2, g3, g4, g5, g6, g7, rfl, p1, p2, p3, p4, p5, p6⟩ F3 N3
      rw [put_self g1, put_self g2, put_self g3, put_self g4, put_self g5, put_self g6, put_self g7] at F3
      k_fold
      k_steps
      · obtain ⟨n, rfl⟩ : ∃ n', n = n' + 1 := ⟨n - 1, by omega⟩
        refine' while_drop0 (n' := n) 0 ?cfa ?cna ?cma ?cja
        case cfa => k_asm
        case cna => k_asm
        case cma => omega
        case cja =>
          refine' ⟨_, ahead + 1, _, _, _, _, _, rfl, rfl, rfl, rfl, rfl, rfl, rfl, rfl, ?s1, ?s2, ?s3, ?s4, ?s5, ?s6⟩
          case s1 => assumption
          case s2 => rw [List.length_set]; exact p2
          case s3 => omega
          case s4 => omega
          case s5 => rw [← p5, abG, if_pos ⟨by assumption, by assumption⟩]; rfl
          case s6 =>
            intro k hk
            rcases List.mem_or_eq_of_mem_set hk with h | h
            · have := p6 k h; omega
            · have := p6 _ (getD_mem (i := abIx (0 + (i : Int)) ahead) (l := ms') (by rw [p2]; exact abIx_lt _ _))
              unfold abIx at this
              omega
      · refine' exit_drop 0 ?cfb ?cnb ?cjb
        case cfb => k_asm
        case cnb => k_asm
        case cjb =>
          have e : ms' = abAll ss (i + 1) := by
            rw [abAll_succ, ← p5]
            cases n with
            | zero => rfl
            | succ n => omega
          exact ⟨_, _, rfl, rfl, rfl, rfl, rfl, e ▸ p1, e ▸ p2, e ▸ fun k hk => by have := p6 k hk; omega⟩
      · refine' exit_drop 0 ?cfc ?cnc ?cjc
        case cfc => k_asm
        case cnc => k_asm
        case cjc =>
          have e : ms' = abAll ss (i + 1) := by
            rw [abAll_succ, ← p5]
            cases n with
            | zero => rfl
            | succ n => rw [abG, if_neg (fun h => by have := h.1; omega)]
          exact ⟨_, _, rfl, rfl, rfl, rfl, rfl, e ▸ p1, e ▸ p2, e ▸ fun k hk => by have := p6 k hk; omega⟩
    case wd =>
      clear f1
      rintro m₃ news₃ h3 tk3 ⟨us', na', g4, g5, g6, g7, rfl, p1, p2, p3⟩ F3 N3
      rw [put_self g4, put_self g5, put_self g6, put_self g7] at F3
      k_steps
      refine' inv_end1 ?cf ?cn ?cj ?ca ?cc
      case cf => k_asm
      case cn => k_asm
      case cj => exact ⟨_, _, _, rfl, rfl, rfl, rfl, rfl, p1, p2, p3⟩
      case ca => exact hoff
      case cc => exact fun p hp => .tail _ hp
  case done =>
    rintro m₁ news₁ h2 tk2 ⟨la, us, na, e1, e2, e3, e4, rfl, f1, f2, f3⟩ F2 N2
    rw [put_self e1, put_self e2, put_self e3, put_self e4] at F2
    k_steps
    unfold Stop
    k_dflt (refine' iter_rangeG (n := 7) (RowsD l d la us na ns ss) ?hh ?hr ?hs ?hn ?F ?N ?hj ?turn ?done)
    case hh => exact rfl
    case hr => k_asm
    case hs => decide
    case hn => decide
    case F => k_asm
    case N => k_asm
    case hj => exact ⟨_, [], _, by assumption, rfl, rfl, rfl, rfl, rfl, rfl, rfl⟩
    case turn =>
      rintro i t2 m₃ news₃ h3 tk3 own hil hoff ⟨lr, ts, nt, g0, g1, g2, g3, g4, rfl, p1, p2⟩ F3 N3
      rw [put_self g1, put_self g2, put_self g3, put_self g4] at F3
      simp only [List.cons_append, List.nil_append] at N3
      k_fold
      have hne1 : la ≠ lr := Nat.ne_of_lt g0
      have hne2 : lr ≠ la := hne1.symm
      have hsz : (strValues ts).toArray.size ≤ sizeLine := strv_size (Nat.le_of_eq p1) (by omega)
      have hb := f3 ((abAll ss 7).getD (0 + (i : Int)).toNat 0) (getD_mem (by rw [f2]; omega))
      have hsy := hsym (ns.getD (0 + (i : Int)).toNat 0) (getD_mem (by rw [hlen]; omega))
      have hlo : 7 ≤ ns.getD (0 + (i : Int)).toNat 0 := by rcases hsy with h | h <;> omega
      have e0 : (0 + (i : Int)).toNat = i := by omega
      k_steps
      · rename ns.getD _ 0 < 256 => hlt
        have hk54 : ns.getD (0 + (i : Int)).toNat 0 ≤ 54 := by rcases hsy with h | h <;> omega
        obtain ⟨t3, ht3⟩ := hsg _ hlo hk54
        have hl3 := sgn_len (ns.getD (0 + (i : Int)).toNat 0)
        have hmD := dict_keeps hD (h' := h3) fun b o e => F3.keep b o e
        refine tail_any (s := { s with heap := h3, toks := _ }) hmD.typeIs slot_dict_getitem.lookup (wpAny_getItem_of (intKind_is _ _ _ _) hmD.mapOf ht3 ?_) (by with_unfolding_all rfl)
        k_steps
        rw [e0] at hlt
        refine' inv_end2 ?caA ?cbA ?ccA ?cdA ?ceA
        case caA => k_asm
        case cbA => k_asm
        case ccA =>
          refine' ⟨_, ts ++ [(_, _)], _, g0, rfl, rfl, rfl, rfl, ?r0A, ?r1A, ?r2A⟩
          case r0A => exact two_eq
          case r1A => rw [List.length_append, p1, List.length_singleton]
          case r2A => rw [List.map_append, p2, List.range_succ, List.map_append, List.map_singleton, List.map_singleton, rowAt, if_pos hlt, e0]
        case cdA => exact hoff
        case ceA => exact fun p hp => .tail _ (.tail _ hp)
      · rename ¬ ns.getD _ 0 < 256 => hlt
        rename 0 < (abAll ss 7).getD _ 0 => hgt
        rw [e0] at hlt hgt
        refine' inv_end2 ?caB ?cbB ?ccB ?cdB ?ceB
        case caB => k_asm
        case cbB => k_asm
        case ccB =>
          refine' ⟨_, ts ++ [(_, _)], _, g0, rfl, rfl, rfl, rfl, ?r0B, ?r1B, ?r2B⟩
          case r0B => exact two_eq
          case r1B => rw [List.length_append, p1, List.length_singleton]
          case r2B => rw [List.map_append, p2, List.range_succ, List.map_append, List.map_singleton, List.map_singleton, rowAt, if_neg hlt, if_pos hgt, e0]
        case cdB => exact hoff
        case ceB => exact fun p hp => .tail _ (.tail _ hp)
      · rename ¬ ns.getD _ 0 < 256 => hlt
        rename ¬ 0 < (abAll ss 7).getD _ 0 => hgt
        rw [e0] at hlt hgt
        refine' inv_end2 ?caC ?cbC ?ccC ?cdC ?ceC
        case caC => k_asm
        case cbC => k_asm
        case ccC =>
          refine' ⟨_, ts ++ [(_, _)], _, g0, rfl, rfl, rfl, rfl, ?r0C, ?r1C, ?r2C⟩
          case r0C => exact two_eq
          case r1C => rw [List.length_append, p1, List.length_singleton]
          case r2C => rw [List.map_append, p2, List.range_succ, List.map_append, List.map_singleton, List.map_singleton, rowAt, if_neg hlt, if_neg hgt]; rfl
        case cdC => exact hoff
        case ceC => exact fun p hp => .tail _ (.tail _ hp)
    case done =>
      rintro m₃ news₃ h3 tk3 ⟨lr, ts, nt, g0, g1, g2, g3, g4, rfl, p1, p2⟩ F3 N3
      rw [put_self g1] at F3
      k_steps
      exact hret _ _ _ _ _ (Fr.keep (by k_asm)) (Made.of (by k_asm)) hgn ⟨_, _, ts, _, _, rfl, rfl, p2⟩
end Mine

-- part SrOutl
namespace Mine
open PySem PySem.W PySem.Spec PySem.Calls PyProof.Rows
local macro_rules | `(tactic| walk_at $s:str) => `(tactic| k_extra $s)
local macro_rules | `(tactic| size_fits) => `(tactic| with_reducible assumption)

noncomputable def popz (ws : List Int) : List Int := (ws.reverse.dropWhile (· = 0)).reverse
theorem popz_last (l : List Int) (x : Int) : popz (l ++ [x]) = if x = 0 then popz l else l ++ [x] := by
  unfold popz
  rw [List.reverse_append, List.reverse_singleton, List.singleton_append, List.dropWhile_cons]
  by_cases h : x = 0
  · simp [h]
  · simp [h]
theorem last_get {l : List Int} (h : 0 < l.length) : l = l.dropLast ++ [l.getD (-1 + (l.length : Int)).toNat 0] := by
  have hne : l ≠ [] := List.length_pos_iff.mp h
  have e : (-1 + (l.length : Int)).toNat = l.length - 1 := by omega
  rw [e]
  have : l.getD (l.length - 1) 0 = l.getLast hne := by rw [List.getLast_eq_getElem, List.getD_eq_getElem?_getD, List.getElem?_eq_getElem (by omega)]; rfl
  rw [this, List.dropLast_concat_getLast]
theorem popz_zero {l : List Int} (h : 0 < l.length) (hz : l.getD (-1 + (l.length : Int)).toNat 0 = 0) : popz l.dropLast = popz l := by
  have e := last_get h
  rw [hz] at e
  conv => rhs; rw [e]
  rw [popz_last, if_pos rfl]
theorem popz_stop {l : List Int} (h : 0 < l.length) (hz : l.getD (-1 + (l.length : Int)).toNat 0 ≠ 0) : popz l = l := by
  have e := last_get h
  rw [e, popz_last, if_neg hz]
noncomputable def cmts : Nat → Str → Str
  | 0, x => x
  | n + 1, x => cmt (cmts n x)
theorem cmt_len (x : Str) : (cmt x).length ≤ x.length + 2 := by
  unfold cmt
  have := fact_rstrip x
  split
  · exact Nat.le_trans (show (Str.ofString "#").length ≤ 2 by decide +kernel) (by omega)
  · rw [Str.length_append, show (Str.ofString "# ").length = 2 by decide +kernel]; omega
theorem cmts_len : ∀ (n : Nat) (x : Str), (cmts n x).length ≤ x.length + 2 * n
  | 0, _ => Nat.le_refl _
  | n + 1, x => by have := cmt_len (cmts n x); have := cmts_len n x; simp only [cmts]; omega
noncomputable def lineOf (n : Int) (k : Nat) : Str := cmts k (if n < 256 then sgn n else ⟨#[]⟩)
noncomputable def less1 (ws : List Int) : List Int := if ws = [] then [] else ws.dropLast ++ [ws.getLastD 0 - 1]
noncomputable def outStep (p : List Int × List Str) (n : Int) : List Int × List Str := (less1 (popz p.1) ++ [if n < 256 then 0 else n - 256], p.2 ++ [lineOf n (popz p.1).length])
noncomputable def outAll (ns : List Int) : List Int × List Str := ns.foldl outStep ([], [])

theorem out_next {ns : List Int} {i : Nat} {k : Int} (hki : ns[i]? = some k) {ws nw ws' : List Int} {tsm : List Str} {line : Str} (g7 : (ws, tsm) = outAll (ns.take i)) (f7 : ws' = popz ws) (h1 : nw = less1 ws' ++ [if k < 256 then 0 else k - 256]) (h2 : line = lineOf k ws'.length) :
    (nw, tsm ++ [line]) = outAll (ns.take (i + 1)) := by
  subst f7
  rw [outAll, List.take_add_one, hki, Option.toList_some, List.foldl_append, List.foldl_cons, List.foldl_nil, ← outAll, ← g7, outStep, h1, h2]
theorem less1_nil {l : List Int} (h : l = []) : l = less1 l := by rw [h]; rfl
theorem less1_set {l : List Int} {n : Nat} (hn : n = l.length) (h : 0 < l.length) : l.set (n - 1) (l.getD (-1 + (l.length : Int)).toNat 0 - 1) = less1 l := by
  have hne : l ≠ [] := List.length_pos_iff.mp h
  have e := last_get h
  have e2 : l.getLastD 0 = l.getD (-1 + (l.length : Int)).toNat 0 := by
    conv => lhs; rw [e]
    rw [List.getLastD_concat]
  rw [less1, if_neg hne, e2, hn]
  generalize l.getD (-1 + (l.length : Int)).toNat 0 = y at e
  have hl : l.length - 1 = l.dropLast.length := by rw [List.length_dropLast]
  rw [hl]
  conv => lhs; rw [e]
  rw [List.set_append_right _ _ (Nat.le_of_eq (by rw [List.dropLast_concat])), List.dropLast_concat, Nat.sub_self]; rfl
theorem ints_app : ∀ {vs : List Value} {ns : List Int} {k : Int} {t : Tok}, IntsAre vs ns → IntsAre (vs ++ [.int k t]) (ns ++ [k])
  | [], [], _, _, _ => IntsAre.cons _ _ IntsAre.nil
  | _, _, _, _, .cons n t h => IntsAre.cons n t (ints_app h)
theorem ints_le {vs : List Value} {ns : List Int} (h : IntsAre vs ns) (hl : ns.length ≤ 7) : vs.length ≤ 7 := h.length ▸ hl
theorem ints_fit {vs : List Value} {ns : List Int} (h : IntsAre vs ns) (hl : ns.length ≤ 7) : vs.toArray.size ≤ sizeLine := by
  rw [List.size_toArray, sizeLine_eq]; have := ints_le h hl; omega
theorem rows_eq {lr lw : Addr} {ts : List (Str × Tok)} {y : Str} {t : Tok} {us : List Value} {v : Value} {n1 n2 : Nat} :
    [(lr, W.listOf ((strValues ts).toArray.push (.str y t)) n1), (lw, W.listOf (us.toArray.push v) n2)] = [(lr, W.listOf (strValues (ts ++ [(y, t)])).toArray n1), (lw, W.listOf (us ++ [v]).toArray n2)] := by
  rw [strv_push, List.push_toArray]
theorem inv_keep2 {h₀ : Heap} {L : Addr} {J : (Str → Option Value) → List (Addr × Obj) → Prop} {m' : Str → Option Value} {own : List (Addr × Obj)} {p₂ p₃ : Addr × Obj} {s₁ : Shared} {h' : Heap} {tk : Nat} (F : Fr h₀ L h' m') (N : News h₀ L h' (p₂ :: p₃ :: own))
    (hj : J m' [p₂, p₃]) (ha : OwnOff own [p₂.1, p₃.1]) : InvEndG h₀ L J own s₁ { s₁ with heap := h', toks := tk } :=
  InvEndG.intro F N hj ha (fun q hq => List.mem_append_left own hq) fun q hq => .tail _ (.tail _ hq)

noncomputable def baseOf (k : Int) : Str := if k < 256 then sgn k else ⟨#[]⟩
noncomputable def aryOf (k : Int) : Int := if k < 256 then 0 else k - 256
theorem base_len (k : Int) : (baseOf k).length ≤ 3 := by
  unfold baseOf
  split
  · exact sgn_len k
  · exact Nat.zero_le _
theorem less1_len (l : List Int) : (less1 l).length = l.length := by
  unfold less1
  by_cases h : l = []
  · rw [if_pos h, h]
  · rw [if_neg h, List.length_append, List.length_dropLast, List.length_singleton, Nat.sub_add_cancel (List.length_pos_iff.mpr h)]
section
variable {M : Model} {A : Around} {E : Value → Shared → Prop} {s : Shared} {h₀ : Heap} {L : Addr} {m : Str → Option Value} {news : List (Addr × Obj)}
/-- whatever road an expression took: its one value, then on -/
theorem join_val {c : Sem Value} {Q : Value → Shared → Prop} (F : Fr h₀ L s.heap m) (N : News h₀ L s.heap news) (f : Tok → Value)
    (h1 : ∀ Q' : Value → Shared → Prop, (∀ h tk t, Fr h₀ L h m → News h₀ L h news → Q' (f t) { s with heap := h, toks := tk }) → wpAny M A c Q' E s)
    (h2 : ∀ h tk t, Fr h₀ L h m → News h₀ L h news → Q (f t) { s with heap := h, toks := tk }) : wpAny M A c Q E s := h1 Q h2
/-- the same of a statement that changes a list of ints -/
theorem join_list {c : Sem Flow} {Q : Flow → Shared → Prop} {p : Addr × Obj} {l : Addr} {o : Obj} (F : Fr h₀ L s.heap m) (N : News h₀ L s.heap (p :: (l, o) :: news)) (ws : List Int)
    (h1 : ∀ Q' : Flow → Shared → Prop, (∀ h tk us nu, Fr h₀ L h m → News h₀ L h (p :: (l, W.listOf us.toArray nu) :: news) → IntsAre us ws → Q' .next { s with heap := h, toks := tk }) → wpAny M A c Q' E s)
    (h2 : ∀ h tk us nu, Fr h₀ L h m → News h₀ L h (p :: (l, W.listOf us.toArray nu) :: news) → IntsAre us ws → Q .next { s with heap := h, toks := tk }) : wpAny M A c Q E s := h1 Q h2
end
inductive OutA (d : Addr) (ns : List Int) (i : Nat) (m : Str → Option Value) (news : List (Addr × Obj)) : Prop
  | mk (lw lr : Addr) (us : List Value) (nu : Nat) (ts : List (Str × Tok)) (nt : Nat) (ws : List Int) (z1 : lw < lr) (z2 : m (Str.ofString "waiting") = some (.ref lw)) (z3 : m (Str.ofString "rows") = some (.ref lr)) (z4 : m (Str.ofString "signs") = some (.ref d)) (z5 : news = [(lr, W.listOf (strValues ts).toArray nt), (lw, W.listOf us.toArray nu)]) (z6 : IntsAre us ws) (z7 : ws.length ≤ i) (z8 : ts.length = i) (z9 : (ws, ts.map (·.1)) = outAll (ns.take i)) : OutA d ns i m news
inductive OutB (d lw lr : Addr) (k : Int) (tkk : Tok) (ts : List (Str × Tok)) (nt : Nat) (own : List (Addr × Obj)) (i : Nat) (ws : List Int) (n : Nat) (m : Str → Option Value) (news : List (Addr × Obj)) : Prop
  | mk (us' : List Value) (nu' : Nat) (ws' : List Int) (z1 : m (Str.ofString "symbol") = some (.int k tkk)) (z2 : m (Str.ofString "waiting") = some (.ref lw)) (z3 : m (Str.ofString "rows") = some (.ref lr)) (z4 : m (Str.ofString "signs") = some (.ref d)) (z5 : news = (lr, W.listOf (strValues ts).toArray nt) :: (lw, W.listOf us'.toArray nu') :: own) (z6 : IntsAre us' ws') (z7 : ws'.length = n) (z8 : n ≤ i) (z9 : popz ws' = popz ws) : OutB d lw lr k tkk ts nt own i ws n m news
inductive OutC (d lw lr : Addr) (k : Int) (tkk : Tok) (ts : List (Str × Tok)) (nt : Nat) (own : List (Addr × Obj)) (i : Nat) (ws : List Int) (m : Str → Option Value) (news : List (Addr × Obj)) : Prop
  | mk (us' : List Value) (nu' : Nat) (ws' : List Int) (z1 : m (Str.ofString "symbol") = some (.int k tkk)) (z2 : m (Str.ofString "waiting") = some (.ref lw)) (z3 : m (Str.ofString "rows") = some (.ref lr)) (z4 : m (Str.ofString "signs") = some (.ref d)) (z5 : news = (lr, W.listOf (strValues ts).toArray nt) :: (lw, W.listOf us'.toArray nu') :: own) (z6 : IntsAre us' ws') (z7 : ws'.length ≤ i) (z8 : ws' = popz ws) : OutC d lw lr k tkk ts nt own i ws m news
inductive OutD (d lw lr : Addr) (k : Int) (tkk : Tok) (ts : List (Str × Tok)) (nt : Nat) (us' : List Value) (nu' : Nat) (own : List (Addr × Obj)) (j : Nat) (m : Str → Option Value) (news : List (Addr × Obj)) : Prop
  | mk (t : Tok) (z1 : m (Str.ofString "line") = some (.str (cmts j (baseOf k)) t)) (z2 : m (Str.ofString "symbol") = some (.int k tkk)) (z3 : m (Str.ofString "waiting") = some (.ref lw)) (z4 : m (Str.ofString "rows") = some (.ref lr)) (z5 : m (Str.ofString "signs") = some (.ref d)) (z6 : news = (lr, W.listOf (strValues ts).toArray nt) :: (lw, W.listOf us'.toArray nu') :: own) : OutD d lw lr k tkk ts nt us' nu' own j m news

set_option maxHeartbeats 4000000 in
theorem outl_spec (w : World) (l d : Addr) (vs : List Value) (ns : List Int) (kvs : List (Int × Value)) (hlen : ns.length ≤ 7) (hsym : ∀ n ∈ ns, Sym n) (hsg : SignsOf kvs) :
    Spec 8 w 108 [.ref l, .ref d] (fun h => h.IsList l vs.toArray ∧ IntsAre vs ns ∧ h.DictOf (PySem.intKind PySem.Challenge.rw_sr0039_01.row.prog w) d kvs) (fun v news => ∃ (lr lw : Addr) (ts : List (Str × Tok)) (nt : Nat) (ow : Obj), v = .ref lr ∧ news = [(lr, W.listOf (strValues ts).toArray nt), (lw, ow)] ∧ ts.map (·.1) = (outAll ns).2) := by
  unfold Spec
  k_fill
  k_with_none
  w_top off
  intro mean mg mb dp un gd cn cs a ccd cl outer A₀ base h₀ L m s Q E B F X T hk hdp hun hgn hp hret
  obtain ⟨hl, hi, hD⟩ := hp
  refine enterS [(PySem.Str.ofString "row", .ref l), (PySem.Str.ofString "signs", .ref d)] B F X T rfl rfl hk (by k_dflt k_is) (by k_dflt k_is) (by ktr_room) rfl rfl ?_ rfl rfl rfl (by decide)
  intro L' h₁ hL' F₁ N₁ B₁ X₁ T₁
  clear B F X T hL'
  refine wpAny_noRaise ?_
  k_fold
  k_with "pyIter ref" => (refine stop ?_)
  k_with "exec While BoolOp cons nil" => (refine stop ?_)
  k_steps
  unfold Stop
  k_dflt (refine' iter_listB (OutA d ns) ?hh hl ?F ?N ?hj ?turn ?done)
  case hh => exact rfl
  case F => k_asm
  case N => k_asm
  case hj => exact ⟨_, _, [], _, [], _, [], by assumption, rfl, rfl, rfl, rfl, IntsAre.nil, Nat.le_refl _, rfl, rfl⟩
  case turn =>
    rintro i v m₁ news₁ h2 tk2 own hv hoff ⟨lw, lr, us, nu, ts, nt, ws, g0, g1, g2, g3, rfl, g4, g5, g6, g7⟩ F2 N2
    rw [put_self g1, put_self g2, put_self g3] at F2
    simp only [List.cons_append, List.nil_append] at N2
    k_fold
    rename IntsAre vs ns => hi
    obtain ⟨k, tkk, hki, rfl⟩ := ints_at hi hv
    have hsy := hsym k (List.mem_of_getElem? hki)
    have hlo : 7 ≤ k := by rcases hsy with h | h <;> omega
    have hhi : k ≤ 259 := by rcases hsy with h | h <;> omega
    have hne1 : lw ≠ lr := Nat.ne_of_lt g0
    have hne2 : lr ≠ lw := hne1.symm
    have hil : i < ns.length := (List.getElem?_eq_some_iff.mp hki).1
    k_steps
    unfold Stop
    k_dflt (refine' while_cut (OutB d lw lr k tkk ts nt own i ws) (OutC d lw lr k tkk ts nt own i ws) ws.length ?wF ?wN ?wi ?wt ?wE ?wd)
    case wF => k_asm
    case wN => k_asm
    case wE => exact PassesOwn.never
    case wi => exact ⟨_, _, ws, rfl, rfl, rfl, rfl, rfl, g4, rfl, by omega, rfl⟩
    case wt =>
      clear g4 g7
      rintro n m₃ news₃ h3 tk3 ⟨us', nu', ws', f1, f2, f3, f4, rfl, f5, f6, f7, f8⟩ F3 N3
      rw [put_self f1, put_self f2, put_self f3, put_self f4] at F3
      k_fold
      k_steps
      · rename decide (ws' = []) = true => he
        have he : ws' = [] := of_decide_eq_true he
        refine' exit_drop 1 ?cfa ?cna ?cja
        case cfa => k_asm
        case cna => k_asm
        case cja => exact ⟨_, _, ws', rfl, rfl, rfl, rfl, rfl, by assumption, by omega, by rw [← f8, he]; rfl⟩
      · rename decide (ws' = []) = false => hne
        have hpos : 0 < ws'.length := List.length_pos_iff.mpr (of_decide_eq_false hne)
        have hun : us'.length = ws'.length := by rename IntsAre us' ws' => hI; exact hI.length
        have hup : 0 < us'.length := by omega
        k_steps
        · rename ws'.getD _ 0 = 0 => hz
          refine' while_drop0 (n' := n - 1) 1 ?cfb ?cnb ?cmb ?cjb
          case cfb => k_asm
          case cnb => k_asm
          case cmb => omega
          case cjb => exact ⟨_, _, ws'.dropLast, rfl, rfl, rfl, rfl, rfl, by assumption, by rw [List.length_dropLast, f6], by omega, by rw [← f8]; exact popz_zero hpos hz⟩
        · rename ws'.getD _ 0 ≠ 0 => hz
          refine' exit_drop 1 ?cfc ?cnc ?cjc
          case cfc => k_asm
          case cnc => k_asm
          case cjc => exact ⟨_, _, ws', rfl, rfl, rfl, rfl, rfl, by assumption, by omega, by rw [← f8]; exact (popz_stop hpos hz).symm⟩
    case wd =>
      clear g4
      rintro m₃ news₃ h3 tk3 ⟨us', nu', ws', f1, f2, f3, f4, rfl, f5, f6, f7⟩ F3 N3
      rw [put_self f1, put_self f2, put_self f3, put_self f4] at F3
      have hsz : (strValues ts).toArray.size ≤ sizeLine := strv_size (Nat.le_of_eq g6) (by omega)
      have hul : us'.length ≤ 7 := by rw [f5.length]; omega
      k_with "eval IfExp" => (refine stop ?_)
      k_with "exec If" => (refine stop ?_)
      k_steps
      unfold Stop
      rename Fr _ _ _ _ => F4
      rename News _ _ _ _ => N4
      refine join_val F4 N4 (fun t => .str (baseOf k) t) ?eA ?eB
      case eA =>
        intro Q' hQ
        clear hret
        k_with_none
        k_with "subscriptTail" => (refine stop ?_)
        k_steps
        k_dflt (refine' SpecK.use (isT_spec w k tkk) B₁ ?kFx X₁ ?kNx T₁ ?kKx ?kdx ?kux trivial ?_)
        case kKx => exact rfl
        case kFx => k_asm
        case kNx => k_asm
        case kdx => ktr_room
        case kux => ktr_units
        rintro v h' tk' news' ⟨rfl, rfl⟩ F' N' _ _
        rw [List.nil_append] at N'
        k_steps
        · rename k < 256 => hk256
          have hk54 : k ≤ 54 := by rcases hsy with h | h <;> omega
          obtain ⟨t3, ht3⟩ := hsg k hlo hk54
          have hmD := dict_keeps hD (h' := h') fun b o e => F'.keep b o e
          rw [baseOf, if_pos hk256] at hQ
          unfold Stop
          refine tail_any (s := { s with heap := h', toks := _ }) hmD.typeIs slot_dict_getitem.lookup (wpAny_getItem_of (intKind_is _ _ _ _) hmD.mapOf ht3 ?_) (by with_unfolding_all rfl)
          k_steps
          refine' hQ _ _ _ ?qFA ?qNA
          case qFA => k_asm
          case qNA => k_asm
        · rename ¬ k < 256 => hk256
          rw [baseOf, if_neg hk256] at hQ
          k_steps
          refine' hQ _ _ _ ?qFB ?qNB
          case qFB => k_asm
          case qNB => k_asm
      case eB =>
        intro h4 tk4 t4 F5 N5
        clear F4 N4
        k_with_none
        k_with "pyIter ref" => (refine stop ?_)
        k_with "eval IfExp" => (refine stop ?_)
        k_with "exec If" => (refine stop ?_)
        have hl3 := base_len k
        k_steps
        unfold Stop
        k_dflt (refine' iter_listN (l := lw) (vs := us') (n₀ := nu') (OutD d lw lr k tkk ts nt us' nu' own) ?lhA ?llA ?lJA ?lFA ?lNA ?ljA ?ltA ?ldA)
        case lhA => exact rfl
        case lFA => k_asm
        case lNA => k_asm
        case llA => exact .tail _ (.head _)
        case lJA => rintro j m news ⟨_, _, _, _, _, _, rfl⟩; exact .tail _ (.head _)
        case ljA => exact ⟨_, rfl, rfl, rfl, rfl, rfl, rfl⟩
        case ltA =>
          rintro j v4 m₄ news₄ h4 tk4 own4 hv4 hoff4 ⟨tl, e1, e2, e3, e4, e5, rfl⟩ F4 N4
          rw [put_self e1, put_self e2, put_self e3, put_self e4, put_self e5] at F4
          simp only [List.cons_append, List.nil_append] at N4
          k_fold
          have hjl : j < 7 := Nat.lt_of_lt_of_le (List.getElem?_eq_some_iff.mp hv4).1 (by omega)
          have hcl := cmts_len j (baseOf k)
          k_steps
          k_dflt (refine' SpecK.use (cmt_spec w (cmts j (baseOf k)) tl (by omega)) B₁ ?kFcA X₁ ?kNcA T₁ ?kKcA ?kdcA ?kucA trivial ?_)
          case kKcA => exact rfl
          case kFcA => k_asm
          case kNcA => k_asm
          case kdcA => ktr_room
          case kucA => ktr_units
          rintro v h' tk' news' ⟨⟨t', rfl⟩, rfl⟩ F' N' _ _
          rw [List.nil_append] at N'
          k_steps
          refine' inv_end (_ :: _ :: own) ?yaA ?ybA ?ycA hoff4 ?ydA ?yeA
          case yaA => k_asm
          case ybA => k_asm
          case ycA => exact ⟨_, rfl, rfl, rfl, rfl, rfl, rfl⟩
          case ydA => exact fun p hp => List.mem_append.mpr (.inl hp)
          case yeA => exact fun p hp => .tail _ (.tail _ (List.mem_append.mpr (.inr hp)))
        case ldA =>
          rintro m₄ news₄ h4 tk4 ⟨tl, e1, e2, e3, e4, e5, rfl⟩ F4 N4
          rw [put_self e1, put_self e2, put_self e3, put_self e4, put_self e5] at F4
          k_steps
          unfold Stop
          rename Fr _ _ _ _ => F6
          rename News _ _ _ _ => N6
          refine join_list F6 N6 (less1 ws') ?iA ?iB
          case iA =>
            intro Q' hQ
            clear hret
            k_with_none
            k_steps
            · rename decide (ws' = []) = true => he
              have he : ws' = [] := of_decide_eq_true he
              rename News _ _ _ _ => N9
              exact hQ _ _ us' nu' (by k_asm) (News.sub N9 fun p hp => List.mem_cons_of_mem _ hp) (less1_nil he ▸ f5)
            · rename decide (ws' = []) = false => hne
              have hpos : 0 < ws'.length := List.length_pos_iff.mpr (of_decide_eq_false hne)
              have hlu : us'.length = ws'.length := f5.length
              have hup : 0 < us'.length := by omega
              k_steps
              k_dflt (refine' ksa_last ?sFA ?sNA ?sUA f5 hup ?_)
              case sFA => k_asm
              case sNA => k_asm
              case sUA => k_upd
              intro h' F' N' hi'
              (try dsimp only [List.nil_append, List.cons_append] at N')
              rw [less1_set hlu hpos] at hi'
              k_steps
              rename News _ _ _ _ => N9
              (try rw [← List.push_toArray] at N9)
              exact hQ _ _ _ _ (by k_asm) (News.sub N9 fun p hp => List.mem_cons_of_mem _ hp) hi'
          case iB =>
            intro h5 tk5 us5 nu5 F7 N7 hI5
            clear F6 N6
            k_with "eval IfExp" => (refine stop ?_)
            have hl5 : (less1 ws').length ≤ 7 := by rw [less1_len]; omega
            have hsz2 := ints_fit hI5 hl5
            have hsl2 := ints_le hI5 hl5
            k_steps
            unfold Stop
            rename Fr _ _ _ _ => F8
            rename News _ _ _ _ => N8
            refine join_val F8 N8 (fun t => .int (aryOf k) t) ?fA ?fB
            case fA =>
              intro Q' hQ
              clear hret
              k_with_none
              k_steps
              k_dflt (refine' SpecK.use (isN_spec w k tkk) B₁ ?kFpA X₁ ?kNpA T₁ ?kKpA ?kdpA ?kupA trivial ?_)
              case kKpA => exact rfl
              case kFpA => k_asm
              case kNpA => k_asm
              case kdpA => ktr_room
              case kupA => ktr_units
              rintro v h' tk' news' ⟨rfl, rfl⟩ F' N' _ _
              rw [List.nil_append] at N'
              k_steps
              · rename k ≥ 256 => hk256
                rw [aryOf, if_neg (by omega)] at hQ
                refine' hQ _ _ _ ?qFE ?qNE
                case qFE => k_asm
                case qNE => k_asm
              · rename ¬ k ≥ 256 => hk256
                rw [aryOf, if_pos (by omega)] at hQ
                refine' hQ _ _ _ ?qFF ?qNF
                case qFF => k_asm
                case qNF => k_asm
            case fB =>
              intro h6 tk6 t6 F9 N9
              clear F8 N8
              k_with_none
              k_steps
              refine' inv_keep2 ?zaqA ?zbqA ?zcqA ?zdqA
              case zaqA => k_asm
              case zbqA => k_asm
              case zcqA =>
                refine' ⟨lw, lr, _, _, _, _, less1 ws' ++ [aryOf k], g0, rfl, rfl, rfl, ?r0A, ?r1A, ?r2A, ?r3A, ?r4A⟩
                case r0A => exact rows_eq
                case r1A => exact ints_app hI5
                case r2A => rw [List.length_append, less1_len, List.length_singleton]; omega
                case r3A => rw [List.length_append, List.length_singleton]; omega
                case r4A => rw [List.map_append]; exact out_next hki g7 f7 rfl (by rw [f5.length]; rfl)
              case zdqA => exact hoff
  case done =>
    rintro m₁ news₁ h2 tk2 ⟨lw, lr, us, nu, ts, nt, ws, g0, g1, g2, g3, rfl, g4, g5, g6, g7⟩ F2 N2
    rw [put_self g1, put_self g2, put_self g3] at F2
    rename IntsAre vs ns => hi
    rw [hi.length, List.take_length] at g7
    k_steps
    exact hret _ _ _ _ _ (Fr.keep (by k_asm)) (Made.of (by k_asm)) hgn ⟨_, _, ts, _, _, rfl, rfl, by rw [← g7]⟩
end Mine

-- part SrNext
namespace Mine
open PySem PySem.W PySem.Spec PySem.Calls PyProof.Rows

/-- a list's iterator at a place -/
noncomputable def itObj (l : Addr) (i : Nat) : Obj := { cls := .type "list_iterator", data := .fields #[.ref l, .int i 0] }
section
variable {prog : Program} {w : World} {A : Around} {E : Value → Shared → Prop} {s : Shared}
theorem it_at {h : Heap} {it l : Addr} {i : Nat} (h1 : h.get? it = some (itObj l i)) : h.IsListIter it l i := ⟨_, h1, rfl, rfl⟩

theorem special_item {it l : Addr} {i : Nat} {items : Array Value} {x : Value} {Q : Option Value → Shared → Prop} (ho : s.heap.get? it = some (itObj l i)) (hl : s.heap.IsList l items) (hx : items[i]? = some x)
    (hQ : ∀ h', h'.get? it = some (itObj l (i + 1)) → Heap.SameBut it s.heap h' → Q (some x) { s with heap := h' }) :
    wpAny (model prog w) A (callSpecial? (.ref it) (Str.ofString "__next__")) Q E s := by
  have hit := it_at ho
  obtain ⟨ol, hol, _, nl, hdl⟩ := hl
  refine wpAny_callSpecial?_slot (name := Str.ofString "__next__") hit.typeIs slot_listiter_next
    (wpAny_call_entry slot_listiter_next hit.typeIs entry_listiter_next ?_ (args_listiter_next _))
  show wpAny _ _ (field (.ref it) 0 >>= _) _ _ s
  refine wpAny_bind (wpAny_field ho rfl (x := .ref l) rfl ?_)
  show wpAny _ _ (if (Value.ref l == Value.none) = true then _ else _) _ _ s
  rw [if_neg (show ¬ ((Value.ref l == Value.none) = true) from Bool.false_ne_true)]
  show wpAny _ _ (field (.ref it) 1 >>= _) _ _ s
  refine wpAny_bind (wpAny_field ho rfl (x := .int i 0) rfl ?_)
  show wpAny _ _ (seqItems? (.ref l) >>= _) _ _ s
  refine wpAny_bind (wpAny_seqItems hol hdl ?_)
  simp only [Int.toNat_natCast, hx]
  refine wpAny_bind (wpAny_setField ho rfl (by simp) (wpAny_pure ⟨x, rfl, hQ _ ?_ (Heap.SameBut.update ..)⟩))
  rw [Heap.get?_update_self _ ho rfl]
  rfl

theorem special_end {it l : Addr} {i : Nat} {items : Array Value} {Q : Option Value → Shared → Prop} (hh : A.handled = none) (ho : s.heap.get? it = some (itObj l i)) (hl : s.heap.IsList l items) (hx : items[i]? = none)
    (hE : ∀ hm h' e, Heap.SameBut it s.heap hm → (∃ o, hm.get? it = some o ∧ o.isFreed = false) → Heap.NewExcOf hm h' e "StopIteration" → E (.ref e) { s with heap := h' }) :
    wpAny (model prog w) A (callSpecial? (.ref it) (Str.ofString "__next__")) Q E s := by
  have hit := it_at ho
  obtain ⟨ol, hol, _, nl, hdl⟩ := hl
  refine wpAny_callSpecial?_slot (name := Str.ofString "__next__") hit.typeIs slot_listiter_next
    (wpAny_call_entry slot_listiter_next hit.typeIs entry_listiter_next ?_ (args_listiter_next _))
  show wpAny _ _ (field (.ref it) 0 >>= _) _ _ s
  refine wpAny_bind (wpAny_field ho rfl (x := .ref l) rfl ?_)
  show wpAny _ _ (if (Value.ref l == Value.none) = true then _ else _) _ _ s
  rw [if_neg (show ¬ ((Value.ref l == Value.none) = true) from Bool.false_ne_true)]
  show wpAny _ _ (field (.ref it) 1 >>= _) _ _ s
  refine wpAny_bind (wpAny_field ho rfl (x := .int i 0) rfl ?_)
  show wpAny _ _ (seqItems? (.ref l) >>= _) _ _ s
  refine wpAny_bind (wpAny_seqItems hol hdl ?_)
  simp only [Int.toNat_natCast, hx]
  refine wpAny_bind (wpAny_rule (wpAny_bind (wpAny_setField ho rfl (by simp) ?_)))
  show wpAny _ _ (newExc (.type "StopIteration") [] >>= _) _ _ _
  refine wpAny_bind ?_
  simp only [newExc, newTuple]
  refine wpAny_bind (wpAny_newObj_type ?_ (by size_fits))
  refine wpAny_bind (m := firstArgMember _ _) (wpAny_of_eq (a := Value.none) (by first | rfl | (simp only [firstArgMember]; rfl)) ?_)
  refine wpAny_newObj_type ?_ (by size_fits)
  simp only [raiseNew]
  refine wpAny_bind (wpAny_handled ?_)
  rw [show A.in1.handled = none from hh]
  refine wpAny_bind (wpAny_pure (wpAny_throw ?_))
  exact hE _ _ _ (Heap.SameBut.update ..) ⟨_, Heap.get?_update_self _ ho rfl, rfl⟩
    ⟨fun b o q => Heap.get?_push_of_some _ (Heap.get?_push_of_some _ q), Heap.get?_none_of_le (by rw [Heap.size_push]; omega), _, _, Heap.get?_push_size _ rfl, rfl, rfl, rfl⟩
end
end Mine

-- part SrVar
namespace Mine
open PySem PySem.W PySem.Spec PySem.Calls PyProof.Rows
local macro_rules | `(tactic| walk_at $s:str) => `(tactic| k_extra $s)

section
variable {prog : Program} {w : World} {A A₀ : Around} {E : Value → Shared → Prop} {s : Shared} {h₀ base : Heap} {L it l : Addr} {m mg mb : Str → Option Value} {news news' : List (Addr × Obj)} {i : Nat} {items : Array Value} {x : Value}
theorem next_itemK {Q : Value → Shared → Prop} (F : Fr h₀ L s.heap m) (N : News h₀ L s.heap news) (U : Upd it (itObj l i) (itObj l (i + 1)) news news') (hl : s.heap.IsList l items) (hx : items[i]? = some x)
    (h : ∀ h', Fr h₀ L h' m → News h₀ L h' news' → Heap.SameBut it s.heap h' → Q x { s with heap := h' }) : wpAny (model prog w) A (call (.builtin "next") [.ref it]) Q E s := by
  obtain ⟨pre, post, rfl, rfl, a, b⟩ := U.split
  have hm := N (it, itObj l i) (List.mem_append_right _ (.head _))
  refine call_function_entry (by decide +kernel) (by decide +kernel) kdk_entry_next (kdk_args_next _) ?_
  unfold Builtin.«next»
  refine wpAny_bind (m := someArgs "next" 1 2 _) (wpAny_of_eq (a := [Value.ref it]) (by first | rfl | kernel_rfl!) ?_)
  dsimp only
  refine wpAny_bind (wpAny_specialOf (name := Str.ofString "__next__") (it_at hm.1).typeIs slot_listiter_next.lookup ?_)
  refine wpAny_ite_split (fun hab => absurd hab (by decide)) (fun _ => ?_)
  refine wpAny_bind (special_item hm.1 hl hx fun h' ho' hs => ?_)
  exact wpAny_pure ⟨_, rfl, h h' (F.change hs hm.2.1 hm.2.2) (N.setIn a b hs ho') hs⟩
theorem next_endK {Q : Value → Shared → Prop} (hh : A.handled = none) (hm : s.heap.get? it = some (itObj l i)) (hl : s.heap.IsList l items) (hx : items[i]? = none)
    (h : ∀ hm h' e, Heap.SameBut it s.heap hm → Heap.NewExcOf hm h' e "StopIteration" → E (.ref e) { s with heap := h' }) : wpAny (model prog w) A (call (.builtin "next") [.ref it]) Q E s := by
  refine call_function_entry (by decide +kernel) (by decide +kernel) kdk_entry_next (kdk_args_next _) ?_
  unfold Builtin.«next»
  refine wpAny_bind (m := someArgs "next" 1 2 _) (wpAny_of_eq (a := [Value.ref it]) (by first | rfl | kernel_rfl!) ?_)
  dsimp only
  refine wpAny_bind (wpAny_specialOf (name := Str.ofString "__next__") (it_at hm).typeIs slot_listiter_next.lookup ?_)
  refine wpAny_ite_split (fun hab => absurd hab (by decide)) (fun _ => ?_)
  exact wpAny_bind (special_end hh hm hl hx fun hm h' e hs _ hx => h hm h' e hs hx)

/-- enter a def with what stood but the ledger for base; the ledger goes along -/
theorem enterV {K : Frag} {p : Program} {loose : List Str} {mean : ExcName → Option Value} {env : Env} {outer : List Env} {Q : Value → Shared → Prop} {name qual : Str} {params : Arguments} {body : List Stmt} {scope : Scope} {dV kV doc pm cdv ct oc : Value} {an od : Option Addr} {osl : Array (Option Value)} {f : Addr} {args : List Value} (binds : List (Str × Value))
    (B : Below A₀ base outer h₀) (F : Fr h₀ L s.heap m) (N : News h₀ L s.heap news) (X₀ : K.In h₀) (T : Top p loose mean mg mb h₀) (hA : A.frames = some (env :: outer)) (hf : env.frame = some L) (hke : env.scope.kind = .function)
    (ho : K.lookup f = some ⟨oc, od, .func (fnOf name qual params body scope dV kV doc pm an cdv ct), osl⟩) (hcd : codeIn K cdv qual = true) (hroom : A.depth < recursionLimit)
    (hbind : bindArgs (fnOf name qual params body scope dV kV doc pm an cdv ct) ⟨args, []⟩ = pure binds) (hloc : (binds.all fun x => decide (scope.names.lookup x.1 = some .local)) = true)
    (h : ∀ L' h₁ g, g = hideAll s.heap (news.map (·.1)) → s.heap.get? L' = none → Fr g L' h₁ (fun y => binds.reverse.lookup y) → News g L' h₁ news → Below A base (env :: outer) g → K.In g → Top p loose mean mg mb g → Fr h₀ L g m →
      wpAny (model prog w) (A.deeper (envOf qual scope L' f cdv)) (execs body (envOf qual scope L' f cdv))
        (fun fl s' => Q (match fl with | .ret v => v | _ => .none) s')
        (fun e s' => wpAny (model prog w) (A.deeper (envOf qual scope L' f cdv)) (leaving (envOf qual scope L' f cdv) e) (fun _ s'' => E e s'') (fun e' s'' => E e' s'') s')
        { s with heap := h₁, toks := s.toks + binds.length })
    (hco : scope.isCoroutine = false) (hgen : scope.isGenerator = false) (hk : scope.kind = .function)
    (hcell : ∀ x ∈ scope.names, x.2 ≠ .cell) : wpAny (model prog w) A (call (.ref f) args) Q E s := by
  refine wpAny_call ?_
  obtain ⟨FG, BG, st, _⟩ := groundX (R := fun _ _ => True) B F N hA hf hke
  refine codeAny_call_def (fd := fnOf name qual params body scope dV kV doc pm an cdv ct) (body := body) (binds := binds) hroom (X₀.keeps F.keep _ _ ho) rfl (T.keeps F.keep).nolimit (codeRec_of (X₀.keeps F.keep) hcd) rfl (BindsTo.of_eq hbind) hcell (locs hloc) (fun h₁ hns hk₁ => ?_) hco hgen hk
  refine wpAny_mono (h s.heap.objs.size h₁ _ rfl (Heap.get?_none_of_le (Nat.le_refl _)) ⟨hns, fun b o q => hk₁ b o (of_hideAll _ q), Nat.le_of_eq (hideAll_size _ _)⟩ (fun p hp => ⟨hk₁ _ _ (N p hp).1, fun q => ?_, hideAll_none _ (List.mem_map.mpr ⟨p, hp, rfl⟩)⟩) BG (X₀.keeps st) (T.keeps st) FG) (fun fl s' hl => hl) fun _ _ y => y
  exact absurd (Heap.lt_size (N p hp).1) (q ▸ Nat.lt_irrefl _)
end

theorem and63 : ∀ b : Int, 0 ≤ b → b < 64 → Builtin.bitAnd b 63 = b := by
  intro b h0 h1
  obtain ⟨n, rfl⟩ := Int.eq_ofNat_of_zero_le h0
  have : ∀ k : Fin 64, Builtin.bitAnd (k.val : Int) 63 = (k.val : Int) := by decide +kernel
  exact this ⟨n, by omega⟩
theorem and64 : ∀ b : Int, 0 ≤ b → b < 64 → Builtin.bitAnd b 64 = 0 := by
  intro b h0 h1
  obtain ⟨n, rfl⟩ := Int.eq_ofNat_of_zero_le h0
  have : ∀ k : Fin 64, Builtin.bitAnd (k.val : Int) 64 = 0 := by decide +kernel
  exact this ⟨n, by omega⟩
theorem or256 : ∀ b : Int, 0 ≤ b → b < 4 → Builtin.bitOr 256 b = 256 + b := by
  intro b h0 h1
  obtain ⟨n, rfl⟩ := Int.eq_ofNat_of_zero_le h0
  have : ∀ k : Fin 4, Builtin.bitOr 256 (k.val : Int) = 256 + (k.val : Int) := by decide +kernel
  exact this ⟨n, by omega⟩

/-- where a varint's call starts -/
noncomputable def VarStart (w : World) (it l : Addr) (vs : List Value) (i : Nat) (post : Addr → Heap → Shared → Around → List Env → Env → Heap → Heap → (Value → Shared → Prop) → (Value → Shared → Prop) → Prop) : Prop :=
  ∀ (mean : ExcName → Option Value) (mg mb : Str → Option Value) (dp un : Nat) (gd : Option (List Code)) (cn : Str) (cs : Scope) (a : Addr) (ccd : Value) (cl : List (Str × Addr)) (outer : List Env) (A₀ : Around) (base h₀ : Heap) (L : Addr) (m : Str → Option Value) (s : Shared) (Q E : Value → Shared → Prop),
    Below A₀ base outer h₀ → Fr h₀ L s.heap m → News h₀ L s.heap [(it, itObj l i)] → (hd.heap_39 w.params).In h₀ → Top hd.view_39 loo mean mg mb h₀ → cs.kind = .function → dp + 4 < recursionLimit → un + 40 < cLine → (hideAll s.heap [it]).IsList l vs.toArray →
    post L h₀ s (ktrTop dp un gd cn cs L a ccd cl outer) outer (envX cn cs L a ccd cl) base (hideAll s.heap [it]) Q E →
    wpAny (model PySem.Challenge.rw_sr0039_01.row.prog w) (ktrTop dp un gd cn cs L a ccd cl outer) (call (.ref 42) [.ref it]) Q E s

inductive VarA (it l : Addr) (i : Nat) (b : Int) (n : Nat) (m : Str → Option Value) (news : List (Addr × Obj)) : Prop
  | mk (tb tv : Tok) (z1 : n = 0) (z2 : m (Str.ofString "b") = some (.int b tb)) (z3 : m (Str.ofString "val") = some (.int (Builtin.bitAnd b 63) tv)) (z4 : news = [(it, itObj l (i + 1))]) : VarA it l i b n m news
set_option maxHeartbeats 4000000 in
theorem var_one (w : World) (it l : Addr) (vs : List Value) (i : Nat) (b : Int) (tb : Tok) (hx : vs[i]? = some (.int b tb)) (h0 : 0 ≤ b) (h1 : b < 64) :
    VarStart w it l vs i (fun _ _ s _ _ _ _ g Q _ => ∀ h' t tk', (∀ a o, g.get? a = some o → h'.get? a = some o) → h'.get? it = some (itObj l (i + 1)) → Q (.int b t) { s with heap := h', toks := tk' }) := by
  unfold VarStart
  k_fill
  k_with_none
  w_top off
  intro mean mg mb dp un gd cn cs a ccd cl outer A₀ base h₀ L m s Q E B F N X T hk hdp hun hl hret
  refine enterV [(PySem.Str.ofString "iterator", .ref it)] B F N X T rfl rfl hk (by k_dflt k_is) (by k_dflt k_is) (by ktr_room) rfl rfl ?_ rfl rfl rfl (by decide)
  intro L' h₁ g hg hL' F₁ N₁ B₁ X₁ T₁ FG
  have hl : g.IsList l vs.toArray := hg ▸ hl
  have hret : ∀ h' t tk', (∀ a o, g.get? a = some o → h'.get? a = some o) → h'.get? it = some (itObj l (i + 1)) → Q (.int b t) { s with heap := h', toks := tk' } := fun h' t tk' q => hret h' t tk' (fun a o z => q a o (hg ▸ z))
  clear B F N X T hL' FG hg
  refine wpAny_noRaise ?_
  k_fold
  k_with "call builtin:next" => (refine stop ?_)
  k_with "exec While BinOp cons nil" => (refine stop ?_)
  k_steps
  unfold Stop
  k_dflt (refine' next_itemK ?nF ?nN ?nU ?nl ?nx ?_)
  case nF => k_asm
  case nN => k_asm
  case nU => k_upd
  case nl => exact hl.at fun o e => F₁.keep _ o e
  case nx => simpa using hx
  intro h' F' N' _
  k_steps
  unfold Stop
  have e63 := and63 b h0 h1
  have e64 := and64 b h0 h1
  k_dflt (refine' while_G (VarA it l i b) 0 ?wF ?wN ?wi ?wt ?wE)
  case wF => k_asm
  case wN => k_asm
  case wE => exact PassesOwn.never
  case wi => exact ⟨_, _, rfl, rfl, rfl, rfl⟩
  case wt =>
    rintro n m₃ news₃ h3 tk3 ⟨tb, tv, rfl, g1, g2, rfl⟩ F3 N3
    rw [put_self g1, put_self g2] at F3
    k_fold
    k_steps
    · exact absurd e64 (by assumption)
    · rw [e63]
      exact hret _ _ _ (fun b o z => Fr.keep (by k_asm) b o z) (N3 _ (.head _)).1

inductive VarB (it l : Addr) (i : Nat) (c : Int) (n : Nat) (m : Str → Option Value) (news : List (Addr × Obj)) : Prop
  | mk (bb v : Int) (tb tv : Tok) (z1 : m (Str.ofString "b") = some (.int bb tb)) (z2 : m (Str.ofString "val") = some (.int v tv)) (z3 : m (Str.ofString "iterator") = some (.ref it)) (z4 : ((n = 1 ∧ bb = 68 ∧ v = Builtin.bitAnd 68 63 ∧ news = [(it, itObj l (i + 1))]) ∨ (n = 0 ∧ bb = c ∧ v = 256 + c ∧ news = [(it, itObj l (i + 2))]))) : VarB it l i c n m news
set_option maxHeartbeats 4000000 in
theorem var_two (w : World) (it l : Addr) (vs : List Value) (i : Nat) (c : Int) (tb tc : Tok) (hx : vs[i]? = some (.int 68 tb)) (hy : vs[i + 1]? = some (.int c tc)) (h0 : 0 ≤ c) (h1 : c < 4) :
    VarStart w it l vs i (fun _ _ s _ _ _ _ g Q _ => ∀ h' t tk', (∀ a o, g.get? a = some o → h'.get? a = some o) → h'.get? it = some (itObj l (i + 2)) → Q (.int (256 + c) t) { s with heap := h', toks := tk' }) := by
  unfold VarStart
  k_fill
  k_with_none
  w_top off
  intro mean mg mb dp un gd cn cs a ccd cl outer A₀ base h₀ L m s Q E B F N X T hk hdp hun hl hret
  refine enterV [(PySem.Str.ofString "iterator", .ref it)] B F N X T rfl rfl hk (by k_dflt k_is) (by k_dflt k_is) (by ktr_room) rfl rfl ?_ rfl rfl rfl (by decide)
  intro L' h₁ g hg hL' F₁ N₁ B₁ X₁ T₁ FG
  have hl : g.IsList l vs.toArray := hg ▸ hl
  have hret : ∀ h' t tk', (∀ a o, g.get? a = some o → h'.get? a = some o) → h'.get? it = some (itObj l (i + 2)) → Q (.int (256 + c) t) { s with heap := h', toks := tk' } := fun h' t tk' q => hret h' t tk' (fun a o z => q a o (hg ▸ z))
  clear B F N X T hL' FG hg
  refine wpAny_noRaise ?_
  k_fold
  k_with "call builtin:next" => (refine stop ?_)
  k_with "exec While BinOp cons nil" => (refine stop ?_)
  k_steps
  unfold Stop
  k_dflt (refine' next_itemK ?nF ?nN ?nU ?nl ?nx ?_)
  case nF => k_asm
  case nN => k_asm
  case nU => k_upd
  case nl => exact hl.at fun o e => F₁.keep _ o e
  case nx => simpa using hx
  intro h' F' N' _
  k_steps
  unfold Stop
  have e63 := and63 c h0 (by omega)
  have e64 := and64 c h0 (by omega)
  k_dflt (refine' while_G (VarB it l i c) 1 ?wF ?wN ?wi ?wt ?wE)
  case wF => k_asm
  case wN => k_asm
  case wE => exact PassesOwn.never
  case wi => exact ⟨_, _, _, _, rfl, rfl, rfl, .inl ⟨rfl, rfl, rfl, rfl⟩⟩
  case wt =>
    rintro n m₃ news₃ h3 tk3 ⟨bb, v, tb, tv, g1, g2, g3, g4⟩ F3 N3
    rw [put_self g1, put_self g2, put_self g3] at F3
    k_fold
    rcases g4 with ⟨rfl, rfl, rfl, rfl⟩ | ⟨rfl, rfl, rfl, rfl⟩
    · k_steps
      unfold Stop
      k_dflt (refine' next_itemK ?nF2 ?nN2 ?nU2 ?nl2 ?nx2 ?_)
      case nF2 => k_asm
      case nN2 => k_asm
      case nU2 => k_upd
      case nl2 => exact hl.at fun o e => Fr.keep (by k_asm) _ o e
      case nx2 => simpa using hy
      intro h' F' N' _
      k_steps
      refine' while_drop0 (n' := 0) 0 ?zf ?zn ?zm ?zi
      case zf => k_asm
      case zn => k_asm
      case zm => decide
      case zi => exact ⟨_, _, _, _, rfl, rfl, rfl, .inr ⟨rfl, rfl, by rw [show Builtin.bitAnd 68 63 * 2 ^ Int.toNat 6 = 256 by decide +kernel, e63, or256 c h0 h1], rfl⟩⟩
    · k_steps
      · exact absurd e64 (by assumption)
      · exact hret _ _ _ (fun b o z => Fr.keep (by k_asm) b o z) (N3 _ (.head _)).1

section
variable {M : Model} {A : Around} {E : Value → Shared → Prop} {s' : Shared} {base g h : Heap} {outer : List Env} {L a e : Addr} {m : Str → Option Value} {name : Str} {scope : Scope} {cd : Value} {Q : Unit → Shared → Prop}
theorem leave_own {cls : String} (K : Below A base outer g) (hx : Heap.NewExcOf h s'.heap e cls) (F : Fr g L h m) (hk : scope.kind = .function)
    (hQ : ∀ h' B a0, base.StaysIn B → (∀ b o, h.get? b = some o → b ∉ (envOf name scope L a cd :: outer).filterMap (·.frame) → B.get? b = some o) → Heap.FlyingW B outer e (.type cls) a0 h' → g.UpToSlots h' → Q () { s' with heap := h' }) :
    wpAny M (A.deeper (envOf name scope L a cd)) (leaving (envOf name scope L a cd) (.ref e)) Q E s' := by
  have K' := K.push (name := name) (a := a) (cd := cd) F hk
  have hin : ∀ env ∈ (envOf name scope L a cd :: outer), ∀ b, env.frame = some b → b ∈ (envOf name scope L a cd :: outer).filterMap (·.frame) := fun env he b hb => List.mem_filterMap.mpr ⟨env, he, hb⟩
  obtain ⟨ob, vs, he, hcls, hd, h1⟩ := hx.there
  have hsz := (Array.getElem?_eq_some_iff.mp h1).1
  have h0 : vs[0]? = some vs[0] := Array.getElem?_eq_getElem (by omega)
  have hen : (hideAll h ((envOf name scope L a cd :: outer).filterMap (·.frame))).get? e = none := by
    cases q : (hideAll h ((envOf name scope L a cd :: outer).filterMap (·.frame))).get? e with
    | none => rfl
    | some o => have := of_hideAll _ q; rw [hx.new] at this; cases this
  refine wpAny_leaving_firstW K'.stack ((funFrames_hide K'.frames hin).of_keeps fun b o hb _ => ⟨o, hx.keeps b o hb, rfl⟩) rfl he (fun b o hb => hx.keeps b o (of_hideAll _ hb)) hen hd h1 h0 fun h' hL => ?_
  obtain ⟨k1, ⟨_, _, k2⟩, k3, k4⟩ := hL
  refine hQ h' _ _ (fun b o q => hideAll_get _ (K'.stays b o q) fun hm => ?_) (fun b o q hn => hideAll_get _ q hn) ⟨k1, hen, k2, by rw [← hcls]; exact k3⟩ (((Heap.UpToSlots.of_keeps F.keep).trans (Heap.UpToSlots.of_keeps hx.keeps)).trans k4)
  rw [(K'.frames.mem hm).1] at q; cases q
end

set_option maxHeartbeats 4000000 in
theorem var_end (w : World) (it l : Addr) (vs : List Value) (i : Nat) (hx : vs[i]? = none) :
    VarStart w it l vs i (fun _ _ s _ outer env base g _ E => ∀ h' e B a0 tk', base.StaysIn B → (∀ b o, g.get? b = some o → b ∉ (env :: outer).filterMap (·.frame) → B.get? b = some o) → Heap.FlyingW B (env :: outer) e (.type "StopIteration") a0 h' → g.UpToSlots h' → E (.ref e) { s with heap := h', toks := tk' }) := by
  unfold VarStart
  k_fill
  k_with_none
  w_top off
  intro mean mg mb dp un gd cn cs a ccd cl outer A₀ base h₀ L m s Q E B F N X T hk hdp hun hl hret
  refine enterV [(PySem.Str.ofString "iterator", .ref it)] B F N X T rfl rfl hk (by k_dflt k_is) (by k_dflt k_is) (by ktr_room) rfl rfl ?_ rfl rfl rfl (by decide)
  intro L' h₁ g hg hL' F₁ N₁ B₁ X₁ T₁ FG
  have hl : g.IsList l vs.toArray := hg ▸ hl
  simp only [← show g = hideAll s.heap [it] from hg] at hret
  have hgL : g.get? L' = none := by
    cases q : g.get? L' with
    | none => rfl
    | some o => have := of_hideAll _ (hg ▸ q); rw [hL'] at this; cases this
  clear B F N X T hL' FG hg
  show wpAny _ _ _ _ _ _
  k_fold
  k_with "call builtin:next" => (refine stop ?_)
  k_steps
  unfold Stop
  refine next_endK rfl (N₁ _ (.head _)).1 (hl.at fun o e => F₁.keep _ o e) (by simpa using hx) fun hm h' e hs hexc => ?_
  have hni := (N₁ _ (.head _)).2.2
  show wpAny _ _ (leaving _ (.ref e)) _ _ _
  refine leave_own (h := hm) B₁ hexc (F₁.change hs (N₁ _ (.head _)).2.1 hni) rfl fun h'' B a0 b1 b2 b3 b4 => ?_
  refine hret h'' e B a0 _ b1 (fun b o q hn => b2 b o ?_ fun hm' => ?_) b3 b4
  · rw [hs.2 b fun e => by rw [e, hni] at q; cases q]; exact F₁.keep b o q
  · obtain ⟨env', he', hf'⟩ := List.mem_filterMap.mp hm'
    rcases List.mem_cons.mp he' with rfl | he'
    · rw [← Option.some.inj hf', hgL] at q; cases q
    · exact hn (List.mem_filterMap.mpr ⟨env', he', hf'⟩)
end Mine

-- part SrRead
namespace Mine
open PySem PySem.W PySem.Spec PySem.Calls PyProof.Rows
local macro_rules | `(tactic| walk_at $s:str) => `(tactic| k_extra $s)

section
variable {prog : Program} {w : World} {A A₀ : Around} {E : Value → Shared → Prop} {s : Shared} {h₀ base : Heap} {L it l : Addr} {m mg mb : Str → Option Value} {news news' : List (Addr × Obj)} {i : Nat} {items : Array Value} {x : Value}
theorem iter_listK {Q : Value → Shared → Prop} (F : Fr h₀ L s.heap m) (N : News h₀ L s.heap news) (hl : s.heap.IsList l items)
    (h : ∀ I h', Fr h₀ L h' m → News h₀ L h' ((I, itObj l 0) :: news) → (∀ p ∈ news, p.1 < I) → Q (.ref I) { s with heap := h' }) :
    wpAny (model prog w) A (call (.builtin "iter") [.ref l]) Q E s := by
  refine call_function_entry (by decide +kernel) (by decide +kernel) kdk_entry_iter (kdk_args_iter _) ?_
  unfold Builtin.«iter»
  refine wpAny_bind (m := someArgs "iter" 1 2 _) (wpAny_of_eq (a := [Value.ref l]) (by first | rfl | kernel_rfl!) ?_)
  show wpAny _ _ (pyIter (.ref l) >>= _) _ _ _
  refine wpAny_bind (wpAny_pyIter_list hl ?_)
  exact wpAny_pure ⟨_, rfl, h _ _ (F.push _) (News.push F N _ rfl) (fun q hq => Heap.lt_size (N q hq).1)⟩

theorem back_F {h h' : Heap} (F : Fr h₀ L h m) (hit : it ≠ L) (hn : h₀.get? it = none) (keep : ∀ a o, (hideAll h [it]).get? a = some o → h'.get? a = some o) : Fr h₀ L h' m := by
  obtain ⟨oL, es, ep, hoL, r⟩ := id F.ns
  exact ⟨⟨oL, es, ep, keep _ _ (hideAll_get _ hoL fun hm => hit (List.mem_singleton.mp hm).symm), r⟩, fun b o q => keep b o (hideAll_get _ (F.keep b o q) fun hm => by rw [List.mem_singleton.mp hm, hn] at q; cases q), F.above⟩
theorem back_N {h h' : Heap} {o' : Obj} {lr : Addr} {ob : Obj} (N : News h₀ L h [(lr, ob), (it, x')]) (hne : lr ≠ it) (keep : ∀ a o, (hideAll h [it]).get? a = some o → h'.get? a = some o) (hi : h'.get? it = some o') : News h₀ L h' [(lr, ob), (it, o')] := by
  intro p hp
  rcases List.mem_cons.mp hp with rfl | hp
  · exact ⟨keep _ _ (hideAll_get _ (N _ (.head _)).1 fun hm => hne (List.mem_singleton.mp hm)), (N _ (.head _)).2⟩
  · rw [List.mem_singleton.mp hp]
    exact ⟨hi, (N _ (.tail _ (.head _))).2⟩

theorem VarStart.use {vs : List Value} {post : Addr → Heap → Shared → Around → List Env → Env → Heap → Heap → (Value → Shared → Prop) → (Value → Shared → Prop) → Prop} {mean : ExcName → Option Value} {dp un : Nat} {gd : Option (List Code)} {cn : Str} {cs : Scope} {a : Addr} {ccd : Value} {cl : List (Str × Addr)} {outer : List Env} {Q : Value → Shared → Prop}
    (S : VarStart w it l vs i post) (B : Below A₀ base outer h₀) (F : Fr h₀ L s.heap m) (N : News h₀ L s.heap [(it, itObj l i)]) (X : (hd.heap_39 w.params).In h₀) (T : Top hd.view_39 loo mean mg mb h₀) (hk : cs.kind = .function) (hdp : dp + 4 < recursionLimit) (hun : un + 40 < cLine) (hl : (hideAll s.heap [it]).IsList l vs.toArray)
    (hp : post L h₀ s (ktrTop dp un gd cn cs L a ccd cl outer) outer (envX cn cs L a ccd cl) base (hideAll s.heap [it]) Q E) :
    wpAny (model PySem.Challenge.rw_sr0039_01.row.prog w) (ktrTop dp un gd cn cs L a ccd cl outer) (call (.ref 42) [.ref it]) Q E s :=
  S mean mg mb dp un gd cn cs a ccd cl outer A₀ base h₀ L m s Q E B F N X T hk hdp hun hl hp
end

/-- a fact kept out of the walk's sight -/
structure Hold (p : Prop) : Prop where
  out : p
theorem stop_isExc : isSubtype (.type "StopIteration") (.type "BaseException") = pure true := by rw [isSubtype_type]; kernel_rfl
theorem stop_notTuple : isSubtype (.type ((Manifest.find? "StopIteration").elim "type" fun x => x.metatype)) (.type "tuple") = pure false := by
  rw [show ((Manifest.find? "StopIteration").elim "type" fun x => x.metatype) = "type" from by kernel_rfl, isSubtype_type]; kernel_rfl
theorem stop_self : isSubtype (.type "StopIteration") (.type "StopIteration") = pure true := by rw [isSubtype_type]; kernel_rfl

section
variable {prog : Program} {w : World} {A₀ : Around} {E : Value → Shared → Prop} {s' : Shared} {h₀ h B : Heap} {outer : List Env} {L a e : Addr} {a0 : Value} {m : Str → Option Value} {name : Str} {scope : Scope} {cd : Value}
  {b₀ : Stmt} {suite : List Stmt} {pos np : Pos} {rest : List ExceptHandler} {Q : Flow → Shared → Prop} {p : Program} {loose : List Str} {mg mb : Str → Option Value}
/-- a StopIteration that flies is caught: what stood in B and the frame's names are still there -/
theorem catch_own (hst : A₀.frames = some outer) (F : Fr h₀ L h m) (hsm : h.UpToSlots s'.heap) (hB : h₀.StaysIn B) (hfl : Heap.FlyingW B (envOf name scope L a cd :: outer) e (.type "StopIteration") a0 s'.heap)
    (T : TopRead p loose mg mb h₀)
    (k : ∀ h', Fr h₀ L h' m → B.StaysIn h' → h.UpToSlots h' →
      wpAny (model prog w) ((A₀.deeper (envOf name scope L a cd)).mark (some (.ref e))) (execs (b₀ :: suite) (envOf name scope L a cd)) Q E { s' with heap := h' })
    (h1 : Str.ofString "StopIteration" ∉ startupNames := by decide +kernel) (h2 : Str.ofString "StopIteration" ∉ loose := by decide +kernel) (h3 : Str.ofString "StopIteration" ∉ (recsOf p).map (·.name) := by decide +kernel) (h4 : Str.ofString "StopIteration" ∉ (litsOf p).map (·.1) := by decide +kernel) (h4c : Str.ofString "StopIteration" ∉ (clssOf p loose).map (·.name) := by decide +kernel)
    (hk : scope.kind = .function := by rfl) (hx : (envOf name scope L a cd).kindOf (Str.ofString "StopIteration") = some .globalImplicit := by rfl)
    (hE : PassesOwnAt (model prog w) ((A₀.deeper (envOf name scope L a cd)).mark (some (.ref e))) (A₀.deeper (envOf name scope L a cd)) (envOf name scope L a cd) E := by passes_own) :
    wpAny (model prog w) (A₀.deeper (envOf name scope L a cd)) (noteFrame (.ref e) (envOf name scope L a cd))
      (fun _ s₂ => wpAny (model prog w) (A₀.deeper (envOf name scope L a cd)) (setFlight (.ref e) none) (fun _ s₃ =>
        wpAny (model prog w) (A₀.deeper (envOf name scope L a cd)) (handleBy (.ref e) (envOf name scope L a cd) (.ExceptHandler (some (.Name (Str.ofString "StopIteration") np)) none (b₀ :: suite) pos :: rest)) Q E s₃) E s₂) E s' := by
  refine wpAny_looks_onW (Around.frames_deeper hst) rfl hfl fun h₄ hheld₄ hsm₄ => ?_
  refine wpAny_landsW hheld₄ fun h₅ hheld hsm₅' => ?_
  have hsm₅ := hsm.trans (hsm₄.trans hsm₅')
  have F₅ := F.of_stays (fun b o q => hheld.1 b o (hB b o q)) hsm₅
  obtain ⟨ob, hob, hobc⟩ := hheld.there
  refine wpAny_handleBy_builtin (X := "StopIteration") (T := "StopIteration") (b := true) stop_isExc stop_notTuple stop_self (ld_builtin_at F₅ T.g (T.free _ h1 h2 h3 h4 h4c) T.b ((T.builtins _ (by decide)).trans PyProof.Rows.Boot.«StopIteration») ⟨rfl, ⟨ob, hob, hobc⟩, ?_⟩ hk hx (by decide))
  refine lands_againW hheld fun h₆ hfl₆ hsm₆ => ?_
  exact wpAny_passesOwnAt hE (k h₆ (F₅.of_stays (fun b o q => hfl₆.1 b o (hB b o q)) hsm₆) hfl₆.1 (hsm₅.trans hsm₆))
end

theorem ints_room {vs : List Value} {ns : List Int} (h : IntsAre vs ns) (hl : ns.length ≤ 7) : vs.length ≤ 7 := h.length ▸ hl
theorem octs_split {ns : List Int} {q : Nat} {k : Int} (h : ns[q]? = some k) : octs ns = octs (ns.take q) ++ (oct1 k ++ octs (ns.drop (q + 1))) := by
  obtain ⟨hq, e⟩ := List.getElem?_eq_some_iff.mp h
  conv => lhs; rw [← List.take_append_drop q ns, List.drop_eq_getElem_cons hq, e]
  simp only [octs, List.flatMap_append, List.flatMap_cons]
theorem octs_at {ns : List Int} {q : Nat} {k : Int} (h : ns[q]? = some k) {j : Nat} (hj : j < (oct1 k).length) : (octs ns)[(octs (ns.take q)).length + j]? = (oct1 k)[j]? := by
  rw [octs_split h, List.getElem?_append_right (Nat.le_add_right _ _), Nat.add_sub_cancel_left, List.getElem?_append_left hj]
theorem octs_next {ns : List Int} {q : Nat} {k : Int} (h : ns[q]? = some k) : (octs (ns.take (q + 1))).length = (octs (ns.take q)).length + (oct1 k).length := by
  rw [octs_take h, List.length_append]

section
variable {h₀ H h : Heap} {L L' it lr : Addr} {m m' : Str → Option Value} {ob o : Obj} {news : List (Addr × Obj)}
theorem cross_F (FL : Fr h₀ L H m) (hL' : L' = H.objs.size) (F : Fr H L' h m') (N : News H L' h [(lr, ob), (it, o)]) : Fr h₀ L' (hideAll h [it]) m' := by
  obtain ⟨oL, es, ep, hoL, r⟩ := id F.ns
  have hi := N _ (.tail _ (.head _))
  refine ⟨⟨oL, es, ep, hideAll_get _ hoL fun hm => hi.2.1 (List.mem_singleton.mp hm).symm, r⟩, fun b o q => hideAll_get _ (F.keep b o (FL.keep b o q)) fun hm => ?_, ?_⟩
  · have := FL.keep b o q
    rw [List.mem_singleton.mp hm, hi.2.2] at this; cases this
  · rw [hL']; exact Nat.le_of_lt (Nat.lt_of_le_of_lt FL.above FL.ns.lt)
theorem cross_L (FL : Fr h₀ L H m) (F : Fr H L' h m') (N : News H L' h [(lr, ob), (it, o)]) : Fr h₀ L (hideAll h [it]) m := by
  obtain ⟨oL, es, ep, hoL, r⟩ := id FL.ns
  have hi := N _ (.tail _ (.head _))
  refine ⟨⟨oL, es, ep, hideAll_get _ (F.keep _ _ hoL) fun hm => ?_, r⟩, fun b o q => hideAll_get _ (F.keep b o (FL.keep b o q)) fun hm => ?_, FL.above⟩
  · rw [List.mem_singleton.mp hm, hi.2.2] at hoL; cases hoL
  · have := FL.keep b o q
    rw [List.mem_singleton.mp hm, hi.2.2] at this; cases this
theorem cross_N {B h₆ : Heap} (FL : Fr h₀ L H m) (NL : News h₀ L H news) (hL' : L' = H.objs.size) (F : Fr H L' h m') (N : News H L' h [(lr, ob), (it, o)]) (hne : lr ≠ it) (b2 : ∀ b o, (hideAll h [it]).get? b = some o → b ∉ [L', L] → B.get? b = some o) (S : B.StaysIn h₆) :
    News h₀ L h₆ ((lr, ob) :: news) ∧ ∀ p ∈ news, p.1 ≠ lr := by
  have hi := N _ (.tail _ (.head _))
  have hr := N _ (.head _)
  obtain ⟨oL, es, ep, hoL, _⟩ := id FL.ns
  refine ⟨fun p hp => ?_, fun p hp e => by have := (NL p hp).1; rw [e, hr.2.2] at this; cases this⟩
  rcases List.mem_cons.mp hp with rfl | hp
  · refine ⟨S _ _ (b2 _ _ (hideAll_get _ hr.1 fun hm => hne (List.mem_singleton.mp hm)) fun hm => ?_), fun e => ?_, ?_⟩
    · rcases List.mem_cons.mp hm with e | hm
      · exact hr.2.1 e
      · have e := List.mem_singleton.mp hm
        have := hr.2.2; rw [show lr = L from e, hoL] at this; cases this
    · have := hr.2.2; rw [show lr = L from e, hoL] at this; cases this
    · cases q : h₀.get? lr with
      | none => rfl
      | some o => have := FL.keep _ _ q; rw [hr.2.2] at this; cases this
  · have hp1 := NL p hp
    refine ⟨S _ _ (b2 _ _ (hideAll_get _ (F.keep _ _ hp1.1) fun hm => ?_) fun hm => ?_), hp1.2⟩
    · have := hp1.1; rw [List.mem_singleton.mp hm, hi.2.2] at this; cases this
    · rcases List.mem_cons.mp hm with e | hm
      · exact absurd (Heap.lt_size hp1.1) (by rw [e, hL']; exact Nat.lt_irrefl _)
      · exact hp1.2.1 (List.mem_singleton.mp hm)
end

inductive ReadA (it lo : Addr) (ns : List Int) (n : Nat) (m : Str → Option Value) (news : List (Addr × Obj)) : Prop
  | mk (q : Nat) (us : List Value) (nr : Nat) (lr : Addr) (z1 : q ≤ ns.length) (z2 : n = ns.length - q) (z3 : lr ≠ it) (z4 : m (Str.ofString "stream") = some (.ref it)) (z5 : m (Str.ofString "row") = some (.ref lr)) (z6 : news = [(lr, W.listOf us.toArray nr), (it, itObj lo (octs (ns.take q)).length)]) (z7 : IntsAre us (ns.take q)) : ReadA it lo ns n m news
set_option maxHeartbeats 4000000 in
theorem read_spec (w : World) (lo : Addr) (vs : List Value) (ns : List Int) (hlen : ns.length ≤ 7) (hsym : ∀ n ∈ ns, Sym n) :
    ∀ (mean : ExcName → Option Value) (mg mb : Str → Option Value) (dp un : Nat) (gd : Option (List Code)) (cn : Str) (cs : Scope) (a : Addr) (ccd : Value) (cl : List (Str × Addr)) (A₀ : Around) (h₀ : Heap) (L : Addr) (m : Str → Option Value) (s : Shared) (Q E : Value → Shared → Prop) (news : List (Addr × Obj)),
    Below A₀ h₀ [] h₀ → Fr h₀ L s.heap m → News h₀ L s.heap news → (hd.heap_39 w.params).In h₀ → Top hd.view_39 loo mean mg mb h₀ → cs.kind = .function → dp + 8 < recursionLimit → un + 80 < cLine → s.heap.IsList lo vs.toArray → IntsAre vs (octs ns) →
    (∀ h' tk' lr us nr, Fr h₀ L h' m → News h₀ L h' ((lr, W.listOf us.toArray nr) :: news) → IntsAre us ns → (∀ p ∈ news, p.1 ≠ lr) → Q (.ref lr) { s with heap := h', toks := tk' }) →
    wpAny (model PySem.Challenge.rw_sr0039_01.row.prog w) (ktrTop dp un gd cn cs L a ccd cl []) (call (.ref 87) [.ref lo]) Q E s := by
  k_fill
  k_with_none
  w_top off
  intro mean mg mb dp un gd cn cs a ccd cl A₀ h₀ L m s Q E news B F N X T hk hdp hun hl hi hret
  refine enterS [(PySem.Str.ofString "octets", .ref lo)] B F X T rfl rfl hk (by k_dflt k_is) (by k_dflt k_is) (by ktr_room) rfl rfl ?_ rfl rfl rfl (by decide)
  intro L' h₁ hL' F₁ N₁ B₁ X₁ T₁
  have hold : Hold (Fr h₀ L s.heap m ∧ News h₀ L s.heap news ∧ TopRead hd.view_39 loo mg mb h₀) := ⟨F, N, by k_asm⟩
  clear F N X T B
  refine wpAny_noRaise ?_
  k_fold
  k_with "call builtin:iter" => (refine stop ?_)
  k_with "exec While Constant cons nil" => (refine stop ?_)
  k_steps
  unfold Stop
  k_dflt (refine' iter_listK ?iF ?iN ?il ?_)
  case iF => k_asm
  case iN => k_asm
  case il => exact hl.at fun o e => F₁.keep _ o e
  intro it h' F' N' _
  k_steps
  unfold Stop
  k_dflt (refine' while_G (ReadA it lo ns) ns.length ?wF ?wN ?wi ?wt ?wE)
  case wF => k_asm
  case wN => k_asm
  case wE => exact PassesOwn.looking
  case wi => exact ⟨0, [], _, _, Nat.zero_le _, rfl, Nat.ne_of_gt (by assumption), rfl, rfl, rfl, IntsAre.nil⟩
  case wt =>
    rintro n m₃ news₃ h3 tk3 ⟨q, us, nr, lr, hq, rfl, g1, g2, g3, rfl, g4⟩ F3 N3
    rw [put_self g2, put_self g3] at F3
    k_fold
    have g1' : it ≠ lr := g1.symm
    have hin := (N3 _ (.tail _ (.head _))).2.2
    have hiL := (N3 _ (.tail _ (.head _))).2.1
    have hsz := ints_room g4 (by rw [List.length_take]; omega)
    rcases Nat.lt_or_ge q ns.length with hql | hql
    · have hki : ns[q]? = some ns[q] := List.getElem?_eq_getElem hql
      generalize ns[q] = k at hki
      have hsy := hsym k (List.mem_of_getElem? hki)
      have hlo : 7 ≤ k := by rcases hsy with h | h <;> omega
      by_cases hk2 : k < 256
      · have hk54 : k ≤ 54 := by rcases hsy with h | h <;> omega
        have hlk : (oct1 k).length = 1 := by rw [oct1, if_pos hk2]; rfl
        obtain ⟨t0, ht0⟩ := hi.get (octs (ns.take q)).length k (by have := octs_at hki (j := 0) (by omega); rw [Nat.add_zero] at this; rw [this, oct1, if_pos hk2]; rfl)
        k_steps
        k_dflt (refine' VarStart.use (var_one w it lo vs _ k t0 ht0 (by omega) (by omega)) B₁ ?vFA ?vNA X₁ T₁ ?vkA ?vdA ?vuA ?vlA ?vpA)
        case vFA => k_asm
        case vNA => exact fun p hp => N3 p (.tail _ hp)
        case vkA => exact rfl
        case vdA => ktr_room
        case vuA => ktr_units
        case vlA => exact hl.at fun o e => hideAll_get _ (F3.keep _ o e) fun hm => by rw [List.mem_singleton.mp hm, hin] at e; cases e
        case vpA =>
          intro h4 t4 tk4 keep hi4
          have F4 := back_F F3 hiL hin keep
          have N4 := back_N N3 g1 keep hi4
          clear F3 N3
          k_steps
          refine' while_drop0 (n' := ns.length - (q + 1)) 0 ?zfA ?znA ?zmA ?ziA
          case zfA => k_asm
          case znA => k_asm
          case zmA => omega
          case ziA => exact ⟨q + 1, _, _, lr, hql, rfl, g1, rfl, rfl, by rw [octs_next hki, hlk]; rfl, by rw [List.take_add_one, hki, Option.toList_some]; exact ints_snoc g4⟩

      · have hk3 : 256 ≤ k ∧ k ≤ 259 := by rcases hsy with h | h <;> omega
        have hlk : (oct1 k).length = 2 := by rw [oct1, if_neg hk2]; rfl
        obtain ⟨t0, ht0⟩ := hi.get (octs (ns.take q)).length 68 (by have := octs_at hki (j := 0) (by omega); rw [Nat.add_zero] at this; rw [this, oct1, if_neg hk2]; rfl)
        obtain ⟨t1, ht1⟩ := hi.get ((octs (ns.take q)).length + 1) (k - 256) (by rw [octs_at hki (j := 1) (by omega), oct1, if_neg hk2]; rfl)
        have hsum : 256 + (k - 256) = k := by omega
        k_steps
        k_dflt (refine' VarStart.use (var_two w it lo vs _ (k - 256) t0 t1 ht0 ht1 (by omega) (by omega)) B₁ ?vFB ?vNB X₁ T₁ ?vkB ?vdB ?vuB ?vlB ?vpB)
        case vFB => k_asm
        case vNB => exact fun p hp => N3 p (.tail _ hp)
        case vkB => exact rfl
        case vdB => ktr_room
        case vuB => ktr_units
        case vlB => exact hl.at fun o e => hideAll_get _ (F3.keep _ o e) fun hm => by rw [List.mem_singleton.mp hm, hin] at e; cases e
        case vpB =>
          intro h4 t4 tk4 keep hi4
          rw [hsum]
          have F4 := back_F F3 hiL hin keep
          have N4 := back_N N3 g1 keep hi4
          clear F3 N3
          k_steps
          refine' while_drop0 (n' := ns.length - (q + 1)) 0 ?zfB ?znB ?zmB ?ziB
          case zfB => k_asm
          case znB => k_asm
          case zmB => omega
          case ziB => exact ⟨q + 1, _, _, lr, hql, rfl, g1, rfl, rfl, by rw [octs_next hki, hlk]; rfl, by rw [List.take_add_one, hki, Option.toList_some]; exact ints_snoc g4⟩

    · have hqe : ns.take q = ns := List.take_of_length_le hql
      k_steps
      k_dflt (refine' VarStart.use (var_end w it lo vs (octs (ns.take q)).length (by rw [hqe]; exact List.getElem?_eq_none (by rw [hi.length]; exact Nat.le_refl _))) B₁ ?vFC ?vNC X₁ T₁ ?vkC ?vdC ?vuC ?vlC ?vpC)
      case vFC => k_asm
      case vNC => exact fun p hp => N3 p (.tail _ hp)
      case vkC => exact rfl
      case vdC => ktr_room
      case vuC => ktr_units
      case vlC => exact hl.at fun o e => hideAll_get _ (F3.keep _ o e) fun hm => by rw [List.mem_singleton.mp hm, hin] at e; cases e
      case vpC =>
        intro h4 e4 B4 a4 tk4 b1 b2 b3 b4
        show wpAny _ _ (noteFrame (.ref e4) _) _ _ _
        refine catch_own rfl (cross_F hold.out.1 hL' F3 N3) b4 b1 b3 hold.out.2.2 fun h6 F6 S6 U6 => ?_
        have FL := (cross_L hold.out.1 F3 N3).of_stays (fun b o z => S6 b o (b1 b o z)) U6
        have NL := cross_N hold.out.1 hold.out.2.1 hL' F3 N3 g1 b2 S6
        rw [hqe] at g4
        have fin := fun tk => hret h6 tk lr us nr FL NL.1 g4 NL.2
        clear F3 N3 FL NL hold
        k_steps
        exact fin _
end Mine

-- part SrBare
namespace Mine
open PySem PySem.W PySem.Spec PySem.Calls PyProof.Rows

/-- the end of a turn of a loop in which generators may be born -/
noncomputable def TurnEnd (h₀ : Heap) (L : Addr) (J : (Str → Option Value) → List (Addr × Obj) → Prop) (p : Addr × Obj) (s : Shared) (Q : Flow → Shared → Prop) (f : Flow) (s' : Shared) : Prop :=
  match f with
  | .ret v => Q (.ret v) s'
  | .brk => Q .next s'
  | _ => ∃ h' tk' G' m' nx, s' = { s with heap := h', toks := tk', gens := G' } ∧ AllBare G' ∧ Fr h₀ L h' m' ∧ News h₀ L h' (nx ++ [p]) ∧ (∀ q ∈ nx, q.1 ≠ p.1) ∧ J m' nx

theorem turn_end {h₀ : Heap} {L : Addr} {J : (Str → Option Value) → List (Addr × Obj) → Prop} {q : Addr × Obj} {s : Shared} {Q : Flow → Shared → Prop} {h' : Heap} {tk' : Nat} {G' : Array GenState} {m' : Str → Option Value} {news' : List (Addr × Obj)} (nx : List (Addr × Obj))
    (hb : AllBare G') (F : Fr h₀ L h' m') (N : News h₀ L h' news') (hs : ∀ p ∈ nx ++ [q], p ∈ news') (hq : ∀ p ∈ nx, p.1 ≠ q.1) (hj : J m' nx) : TurnEnd h₀ L J q s Q .next { s with heap := h', toks := tk', gens := G' } :=
  ⟨h', tk', G', m', nx, rfl, hb, F, fun p hp => N p (hs p hp), hq, hj⟩

inductive BareInv (St : Nat → Heap → Prop) (n : Nat) (I L : Addr) (h₀ : Heap) (J : Nat → (Str → Option Value) → List (Addr × Obj) → Prop) (s : Shared) (k : Nat) (s' : Shared) : Prop
  | mk (h : Heap) (tk : Nat) (G : Array GenState) (i : Nat) (m₁ : Str → Option Value) (news₁ : List (Addr × Obj)) (z1 : s' = { s with heap := h, toks := tk, gens := G }) (z2 : i ≤ n) (z3 : k = n + 1 - i) (z4 : St i h) (z5 : AllBare G)
      (z6 : ∀ p ∈ news₁, p.1 ≠ I) (z7 : Fr h₀ L h m₁) (z8 : News h₀ L h news₁) (z9 : J i m₁ news₁) : BareInv St n I L h₀ J s k s'

section
variable {prog : Program} {w : World} {A : Around} {s : Shared} {env : Env} {h₀ : Heap} {x : Str} {body : List Stmt} {Q : Flow → Shared → Prop}
theorem loop_bare {px : Pos} {I : Addr} {n : Nat} {P : Nat → Value → Prop} {St : Nat → Heap → Prop} {m₀ : Str → Option Value} {news₀ : List (Addr × Obj)} (J : Nat → (Str → Option Value) → List (Addr × Obj) → Prop)
    (W : Walks prog w A I [I] [I] n P St) (hlive : ∀ i h, St i h → ∃ o, h.get? I = some o) (hx : env.kindOf x = some .local) (hk : env.scope.kind = .function)
    (hI0 : h₀.get? I = none) (hIL : I ≠ env.locals) (hIn : ∀ p ∈ news₀, p.1 ≠ I) (hst : St 0 s.heap) (hb : AllBare s.gens) (F : Fr h₀ env.locals s.heap m₀) (N : News h₀ env.locals s.heap news₀) (hj : J 0 m₀ news₀)
    (turn : ∀ i v m₁ news₁ h tk G oI, i < n → P i v → AllBare G → (∀ p ∈ news₁, p.1 ≠ I) → J i m₁ news₁ → Fr h₀ env.locals h (fun y => if y = x then some v else m₁ y) → News h₀ env.locals h (news₁ ++ [(I, oI)]) →
      wpAny (model prog w) A (execs body env) (TurnEnd h₀ env.locals (J (i + 1)) (I, oI) s Q) (fun _ _ => False) { s with heap := h, toks := tk, gens := G })
    (done : ∀ m₁ news₁ h tk G, J n m₁ news₁ → Fr h₀ env.locals h m₁ → News h₀ env.locals h news₁ → AllBare G → Q .next { s with heap := h, toks := tk, gens := G }) :
    codeAny (model prog w) A (.forLoop (.Name x px) (.ref I) body [] env) (fun r s' => match r with | .ok f => Q f s' | .error e => cameBackBy (model prog w) A env (fun _ _ => False) e s') s := by
  have hp : (env.scope.kind == .class || (env.scope.kind == .module && env.locals != env.globals)) = false := by rw [hk]; rfl
  refine codeAny_forLoop
    (BareInv St n I env.locals h₀ J s) ?_ (n + 1)
    ⟨s.heap, s.toks, s.gens, 0, m₀, news₀, rfl, Nat.zero_le _, rfl, hst, hb, hIn, F, N, hj⟩
  rintro k s' ⟨h, tk, G, i, m₁, news₁, rfl, hi, rfl, hst', hb', hIn', F', N', hJ⟩
  have keepOff : ∀ h' : Heap, (∀ b o, b ∉ [I] → h.get? b = some o → h'.get? b = some o) → Fr h₀ env.locals h' m₁ ∧ News h₀ env.locals h' news₁ := fun h' hk' =>
    ⟨⟨F'.ns.at' fun o q => hk' _ o (fun z => hIL (List.mem_singleton.mp z).symm) q, fun b o q => hk' b o (fun z => by rw [List.mem_singleton.mp z, hI0] at q; cases q) (F'.keep b o q), F'.above⟩,
     fun p hp' => ⟨hk' _ _ (fun z => hIn' p hp' (List.mem_singleton.mp z)) (N' p hp').1, (N' p hp').2⟩⟩
  by_cases hlt : i < n
  · refine W.item i _ _ _ hlt hst' fun v h₁ tk₁ hP hst₁ hk₁ => ?_
    obtain ⟨F₁, N₁⟩ := keepOff h₁ hk₁
    refine wpAny_assign_Name (wpAny_storeName_local hx F₁.ns (fun h₂ hn₂ hs₂ => ?_) hp)
    have F₂ := F₁.set hn₂ hs₂
    have hst₂ : St (i + 1) h₂ := W.frame _ _ _ hst₁ fun b hb o e => (hs₂.2 b fun q => hIL ((List.mem_singleton.mp hb).symm.trans q)).trans e
    obtain ⟨oI, hoI⟩ := hlive _ _ hst₂
    have N₂ : News h₀ env.locals h₂ (news₁ ++ [(I, oI)]) := fun p hp' => by
      rcases List.mem_append.mp hp' with z | z
      · exact N₁.set hs₂ p z
      · rw [List.mem_singleton.mp z]; exact ⟨hoI, hIL, hI0⟩
    refine wpAny_noRaise (wpAny_mono (turn i v m₁ news₁ h₂ _ G oI hlt hP hb' hIn' hJ F₂ N₂) (fun f s₃ hf => ?_) fun _ _ q => q)
    have fin : (∃ h' tk' G' m' nx, s₃ = { s with heap := h', toks := tk', gens := G' } ∧ AllBare G' ∧ Fr h₀ env.locals h' m' ∧ News h₀ env.locals h' (nx ++ [(I, oI)]) ∧ (∀ q ∈ nx, q.1 ≠ I) ∧ J (i + 1) m' nx) →
        ∃ k, k < n + 1 - i ∧ BareInv St n I env.locals h₀ J s k s₃ := by
      rintro ⟨h', tk', G', m', nx, rfl, hb3, F₃, N₃, hn3, hJ3⟩
      refine ⟨n + 1 - (i + 1), by omega, ⟨h', tk', G', i + 1, m', nx, rfl, hlt, rfl, W.frame _ _ _ hst₂ fun b hb o e => ?_, hb3, hn3, F₃, fun p hp' => N₃ p (List.mem_append_left _ hp'), hJ3⟩⟩
      rw [List.mem_singleton.mp hb] at e ⊢
      rw [hoI] at e
      cases e
      exact (N₃ _ (List.mem_append_right _ (.head _))).1
    cases f with
    | ret v => exact hf
    | brk => exact hf
    | next => exact fin hf
    | cont => exact fin hf
  · have hin : i = n := by omega
    subst hin
    refine W.done _ _ _ hst' fun h₁ tk₁ hk₁ => wpAny_execs_nil ?_
    obtain ⟨F₁, N₁⟩ := keepOff h₁ hk₁
    exact done m₁ news₁ h₁ tk₁ G hJ F₁ N₁ hb'

theorem range_bare {px : Pos} {r : Addr} {a₀ b₀ : Int} {t₀ u₀ v₀ : Tok} {n : Nat} {m₀ : Str → Option Value} {news₀ : List (Addr × Obj)} (J : Nat → (Str → Option Value) → List (Addr × Obj) → Prop)
    (hh : A.handled = none) (hr : IsRange s.heap r a₀ b₀ 1 t₀ u₀ v₀) (hsmall : Builtin.Range.small a₀ b₀ 1 = true) (hn : Builtin.Range.rangeSize a₀ b₀ 1 = (n : Int)) (hx : env.kindOf x = some .local) (hk : env.scope.kind = .function) (hb : AllBare s.gens)
    (F : Fr h₀ env.locals s.heap m₀) (N : News h₀ env.locals s.heap news₀) (hj : J 0 m₀ news₀)
    (turn : ∀ (i : Nat) (t : Tok) m₁ news₁ h tk G q, i < n → AllBare G → (∀ p ∈ news₁, p.1 ≠ q.1) → J i m₁ news₁ → Fr h₀ env.locals h (fun y => if y = x then some (.int (a₀ + (i : Int)) t) else m₁ y) → News h₀ env.locals h (news₁ ++ [q]) →
      wpAny (model prog w) A (execs body env) (TurnEnd h₀ env.locals (J (i + 1)) q s Q) (fun _ _ => False) { s with heap := h, toks := tk, gens := G })
    (done : ∀ m₁ news₁ h tk G, J n m₁ news₁ → Fr h₀ env.locals h m₁ → News h₀ env.locals h news₁ → AllBare G → Q .next { s with heap := h, toks := tk, gens := G }) :
    wpAny (model prog w) A (pyIter (.ref r)) (fun it s₂ => codeAny (model prog w) A (.forLoop (.Name x px) it body [] env) (fun r s' => match r with | .ok f => Q f s' | .error e => cameBackBy (model prog w) A env (fun _ _ => False) e s') s₂) (fun _ _ => False) s := by
  refine wpAny_pyIter_range hr hsmall ?_
  have W : Walks prog w A s.heap.objs.size [s.heap.objs.size] [s.heap.objs.size] n (fun i v => i < n ∧ ∃ t, v = .int (a₀ + i * 1) t)
      (fun i h => IsRangeIter h s.heap.objs.size (a₀ + (i : Nat) * 1) ((n : Int) - (i : Nat)) 1) := (Walks.range hh _ a₀ 1 n).bound
  refine loop_bare J W (fun i h hs => ⟨_, hs⟩) hx hk ?_ ?_ ?_ (by show IsRangeIter _ _ _ _ _; rw [hn]; simpa using Heap.get?_push_size _ rfl) hb (F.push _)
    (fun p hp => ⟨Heap.get?_push_of_some _ (N p hp).1, (N p hp).2⟩) hj ?_ done
  · exact next_is_new F
  · exact fun e => absurd F.ns.lt (e ▸ Nat.lt_irrefl _)
  · exact fun p hp e => absurd (Heap.lt_size (N p hp).1) (e ▸ Nat.lt_irrefl _)
  · rintro i v m₁ news₁ h tk G oI hi ⟨_, t, rfl⟩ hG hn1 hJ F₁ N₁
    refine turn i t m₁ news₁ h tk G _ hi hG hn1 hJ ?_ N₁
    have e1 : a₀ + (i : Int) * 1 = a₀ + (i : Int) := by omega
    rw [e1] at F₁; exact F₁
end
end Mine

-- part SrNe
namespace Mine
open PySem PySem.W PySem.Spec PySem.Calls PyProof.Rows PyProof.V
theorem ss_lay : ∀ ns : List Str, (∀ x ∈ ns, PyData.strOk x = true) → PyData.canLayAll0 (ns.map PyData.str) = true
  | [], _ => rfl
  | x :: r, h => by simp [PyData.canLayAll0, PyData.canLay0, h x (.head _), ss_lay r fun y hy => h y (.tail _ hy)]
theorem ss_depth : ∀ ns : List Str, PyData.depthAll (ns.map PyData.str) ≤ 1
  | [] => by simp [PyData.depthAll]
  | _ :: r => by have := ss_depth r; simp [PyData.depthAll, PyData.depth]; omega
theorem ss_same : ∀ ns ms : List Str, PySem.Spec.sameAll (ns.map PyData.str) (ms.map PyData.str) = decide (ns = ms)
  | [], [] => by simp [PySem.Spec.sameAll]
  | [], _ :: _ => by simp [PySem.Spec.sameAll]
  | _ :: _, [] => by simp [PySem.Spec.sameAll]
  | a :: r, b :: t => by
    simp only [List.map_cons, PySem.Spec.sameAll, PySem.Spec.same, ss_same r t]
    by_cases h : a = b <;> by_cases h' : r = t <;> simp [h, h']
theorem ss_carried : ∀ ts : List (Str × Tok), CarriedAll (strValues ts) ((ts.map (·.1)).map PyData.str)
  | [] => .nil
  | (_, t) :: r => .cons (.str _ t) (ss_carried r)
theorem ss_shaped {ns : List Str} (h : ∀ x ∈ ns, PyData.strOk x = true) : SeqAt.shaped (.list (ns.map PyData.str)) = true := by
  have := ss_depth ns
  simp [SeqAt.shaped, PyData.canLay0, PyData.depth, ss_lay ns h]
  omega
theorem ne_strs {prog : Program} {w : World} {A : Around} {E : Value → Shared → Prop} {s : Shared} {a b : Addr} {xs ys : List (Str × Tok)} {Q : Value → Shared → Prop} (ha : s.heap.IsList a (strValues xs).toArray) (hb : s.heap.IsList b (strValues ys).toArray)
    (hx : ∀ x ∈ xs.map (·.1), PyData.strOk x = true) (hy : ∀ x ∈ ys.map (·.1), PyData.strOk x = true) (hu : A.units + 64 < cLine) (h : Q (.bool (!decide (xs.map (·.1) = ys.map (·.1)))) s) :
    wpAny (model prog w) A (compareOp .NotEq (.ref a) (.ref b)) Q E s :=
  ne_dataH_same (reads_newData ha (ss_carried xs)) (reads_newData hb (ss_carried ys)) (ss_shaped hx) (ss_shaped hy) hu (SeqAt.noMix_of_shape (.list .str) rfl _ _ (list_map_has fun _ => rfl) (list_map_has fun _ => rfl)) (by rw [PySem.Spec.same, ss_same]; exact h)
end Mine

-- part SrStub
namespace Mine
open PySem PySem.W PySem.Spec PySem.Calls PyProof.Rows
noncomputable def stepsOf (ms : List Int) : List Int := ms.map fun k' => (if 256 > k' then 256 else k') - 257
noncomputable def treesOf (ms : List Int) : Int := -(stepsOf ms).sum
noncomputable def turnedAt (ms : List Int) (i : Nat) : List Int := ms.drop i ++ ms.take i
noncomputable def textAt (ms : List Int) (i : Nat) : Str := Txt.slice (txtAll (turnedAt ms i) (treesOf ms)) none (some (-1))
noncomputable def rowsL (ms : List Int) : List Str := (List.range 7).map fun p => rowAt (ms.getD p 0) ((abAll (stepsOf ms) 7).getD p 0)
noncomputable def takenAt (ms : List Int) : Nat → Int
  | 0 => 0
  | i + 1 => if begins (stepsOf ms) (0 + (i : Int)) then takenAt ms i + 1 else takenAt ms i
theorem turned_len {ms : List Int} (h : ms.length = 7) (i : Nat) : (turnedAt ms i).length = 7 := by rw [turnedAt, List.length_append, List.length_drop, List.length_take]; omega
theorem turned_sym {ms : List Int} (hs : ∀ m ∈ ms, Sym m) (i : Nat) : ∀ m ∈ turnedAt ms i, Sym m := fun m hm => (List.mem_append.mp hm).elim (fun h => hs m (List.mem_of_mem_drop h)) fun h => hs m (List.mem_of_mem_take h)
end Mine

-- part SrNumA
namespace Mine
open PySem
/-- prefix sums of the ring, run on and on -/
noncomputable def pre (ss : List Int) : Nat → Int
  | 0 => 0
  | n + 1 => pre ss n + ss.getD (n % 7) 0
theorem pre_next (ss : List Int) (n : Nat) : pre ss (n + 1) = pre ss n + ss.getD (n % 7) 0 := rfl
theorem pre_list : ∀ (l : List Int) (ss : List Int) (k : Nat), k + l.length ≤ 7 → (∀ j, j < l.length → l.getD j 0 = ss.getD (k + j) 0) → pre ss (k + l.length) = pre ss k + l.sum
  | [], ss, k, _, _ => (Int.add_zero _).symm
  | a :: r, ss, k, hk, h => by
    have h0 : a = ss.getD k 0 := h 0 (Nat.zero_lt_succ _)
    have e := pre_list r ss (k + 1) (by rw [List.length_cons] at hk; omega) fun j hj => by
      rw [Nat.add_right_comm]; exact h (j + 1) (Nat.succ_lt_succ hj)
    rw [pre_next, Nat.mod_eq_of_lt (show k < 7 by rw [List.length_cons] at hk; omega), ← h0] at e
    rw [List.length_cons, List.sum_cons, ← Int.add_assoc, ← e, Nat.add_right_comm]; rfl
theorem pre_first {ss : List Int} (h : ss.length = 7) : pre ss 7 = ss.sum := by
  have e := pre_list ss ss 0 (by rw [h]; exact Nat.le_refl _) fun j _ => by rw [Nat.zero_add]
  rw [Nat.zero_add, h] at e
  exact e.trans (Int.zero_add _)
theorem pre_seven {ss : List Int} (h : ss.length = 7) : ∀ n, pre ss (n + 7) = pre ss n + ss.sum
  | 0 => by rw [Nat.zero_add, pre_first h]; exact (Int.zero_add _).symm
  | n + 1 => by
    have e := pre_seven h n
    rw [Nat.add_right_comm, pre_next ss (n + 7), pre_next ss n, e, Nat.add_mod_right, Int.add_right_comm]

theorem ix_back (D : Nat) {i b : Int} (hb : i - b = (D : Int) - 7) : ((0 + i) - b).fmod 7 = ((D % 7 : Nat) : Int) := by
  rw [Int.zero_add, hb, Int.fmod_eq_emod_of_nonneg _ (by decide), Int.sub_emod_right]; rfl
/-- the ring's turn at i begins with a root: before i + 7 the sums of all of the seven places before are higher -/
noncomputable def low (ss : List Int) (i n : Nat) : Prop := ∀ d, i ≤ d → d < i + n → pre ss (i + 7) < pre ss d
theorem beginsGo_iff (ss : List Int) (i : Nat) : ∀ (n : Nat) (b t : Int), b + (n : Int) = 8 → t = pre ss (i + 7) - pre ss (i + n) → (beginsGo ss (0 + (i : Int)) n b t = true ↔ low ss i n)
  | 0, b, t, hb, ht => ⟨fun _ d h1 h2 => absurd h2 (Nat.not_lt.mpr h1), fun _ => rfl⟩
  | n + 1, b, t, hb, ht => by
    have e1 : pre ss (i + (n + 1)) = pre ss (i + n) + ss.getD ((i + n) % 7) 0 := pre_next ss (i + n)
    rw [beginsGo, ix_back (i + n) (by push_cast at hb ⊢; omega), Int.toNat_natCast]
    generalize ss.getD ((i + n) % 7) 0 = x at e1
    have e2 : t + x = pre ss (i + 7) - pre ss (i + n) := by omega
    rw [e2]
    by_cases h : pre ss (i + 7) - pre ss (i + n) ≥ 0
    · rw [if_pos h]
      refine ⟨fun z => (nomatch z), fun hh => ?_⟩
      have := hh (i + n) (Nat.le_add_right _ _) (Nat.lt_succ_self _)
      omega
    · rw [if_neg h, beginsGo_iff ss i n (b + 1) _ (by push_cast at hb; omega) rfl]
      constructor
      · intro hh d h2 h3
        rcases Nat.eq_or_lt_of_le (Nat.le_of_lt_succ h3) with e | h4
        · rw [show d = i + n from e]; omega
        · exact hh d h2 h4
      · exact fun hh d h2 h3 => hh d h2 (Nat.lt_succ_of_lt h3)
theorem begins_iff (ss : List Int) (i : Nat) : begins ss (0 + (i : Int)) = true ↔ low ss i 7 :=
  beginsGo_iff ss i 7 1 0 rfl (Int.sub_self _).symm

noncomputable def takenS (ss : List Int) : Nat → Int
  | 0 => 0
  | i + 1 => if begins ss (0 + (i : Int)) then takenS ss i + 1 else takenS ss i

noncomputable def IsMin (ss : List Int) (k : Nat) (m : Int) : Prop := (∀ j, k ≤ j → j < k + 7 → m ≤ pre ss j) ∧ ∃ j, k ≤ j ∧ j < k + 7 ∧ pre ss j = m
theorem min_is (f : Nat → Int) : ∀ n, ∃ m, (∀ j, j < n + 1 → m ≤ f j) ∧ ∃ j, j < n + 1 ∧ f j = m
  | 0 => ⟨f 0, fun j hj => by rw [Nat.lt_one_iff.mp hj]; exact Int.le_refl _, 0, Nat.zero_lt_one, rfl⟩
  | n + 1 => by
    obtain ⟨m, h, j, hj, e⟩ := min_is f n
    have split : ∀ {P : Nat → Prop}, (∀ k, k < n + 1 → P k) → P (n + 1) → ∀ k, k < n + 1 + 1 → P k := fun h1 h2 k hk => (Nat.eq_or_lt_of_le (Nat.le_of_lt_succ hk)).elim (fun e => e ▸ h2) (h1 k)
    by_cases hc : f (n + 1) < m
    · exact ⟨f (n + 1), split (fun k hk => Int.le_trans (Int.le_of_lt hc) (h k hk)) (Int.le_refl _), n + 1, Nat.lt_succ_self _, rfl⟩
    · exact ⟨m, split h (Int.not_lt.mp hc), j, Nat.lt_succ_of_lt hj, e⟩
theorem isMin_uniq {ss : List Int} {k : Nat} {a b : Int} (h : IsMin ss k a) (h' : IsMin ss k b) : a = b := by
  obtain ⟨h1, j, h2, h3, h4⟩ := h
  obtain ⟨g1, i, g2, g3, g4⟩ := h'
  exact Int.le_antisymm (g4 ▸ h1 i g2 g3) (h4 ▸ g1 j h2 h3)
theorem isMin_next {ss : List Int} (h7 : ss.length = 7) (hlo : ∀ n, -1 ≤ ss.getD n 0) (hT : ss.sum < 0) {i : Nat} {m : Int} (h : IsMin ss i m) :
    IsMin ss (i + 1) (if begins ss (0 + (i : Int)) then m - 1 else m) := by
  obtain ⟨h1, j, h2, h3, h4⟩ := h
  have e7 := pre_seven h7 i
  have e6 : pre ss (i + 7) = pre ss (i + 6) + ss.getD ((i + 6) % 7) 0 := pre_next ss (i + 6)
  have l6 := hlo ((i + 6) % 7)
  have m6 := h1 (i + 6) (Nat.le_add_right _ _) (Nat.lt_succ_self _)
  have split : ∀ {P : Nat → Prop}, (∀ k, i + 1 ≤ k → k < i + 7 → P k) → P (i + 7) → ∀ k, i + 1 ≤ k → k < i + 1 + 7 → P k := fun g1 g2 k a b => (Nat.eq_or_lt_of_le (show k ≤ i + 7 from by omega)).elim (fun e => e ▸ g2) (g1 k a)
  by_cases hb : begins ss (0 + (i : Int)) = true
  · rw [if_pos hb]
    rw [begins_iff] at hb
    have hj := hb j h2 h3
    exact ⟨split (fun k hk hk' => by have := h1 k (Nat.le_of_succ_le hk) hk'; omega) (by omega), i + 7, by omega, by omega, by omega⟩
  · rw [if_neg hb]
    have hge : m ≤ pre ss (i + 7) := by
      refine Decidable.byContradiction fun hc => hb ((begins_iff ss i).mpr fun d a b => ?_)
      have := h1 d a b; omega
    refine ⟨split (fun k hk hk' => h1 k (Nat.le_of_succ_le hk) hk') hge, j, ?_, Nat.lt_succ_of_lt h3, h4⟩
    rcases Nat.eq_or_lt_of_le h2 with e | h5
    · rw [← e] at h4; omega
    · exact h5
theorem takenS_all {ss : List Int} (h7 : ss.length = 7) (hlo : ∀ n, -1 ≤ ss.getD n 0) : takenS ss 7 = if 0 > -ss.sum then 0 else -ss.sum := by
  by_cases hT : ss.sum < 0
  · rw [if_neg (by omega)]
    obtain ⟨m, h1, j, h2, h3⟩ := min_is (pre ss) 6
    have h0 : IsMin ss 0 m := ⟨fun k _ hk => h1 k hk, j, Nat.zero_le _, h2, h3⟩
    have hn : ∀ n, IsMin ss n (m - takenS ss n) := by
      intro n
      induction n with
      | zero => rw [takenS, Int.sub_zero]; exact h0
      | succ n ih =>
        have := isMin_next h7 hlo hT ih
        rw [takenS]
        by_cases hb : begins ss (0 + (n : Int)) = true
        · rw [if_pos hb] at this ⊢; rw [← Int.sub_sub]; exact this
        · rw [if_neg hb] at this ⊢; exact this
    have h77 : IsMin ss (0 + 7) (m + ss.sum) := by
      refine ⟨fun k hk hk' => ?_, j + 7, Nat.add_le_add_right (Nat.zero_le _) _, Nat.add_lt_add_right h2 _, by rw [pre_seven h7, h3]⟩
      obtain ⟨d, rfl⟩ := Nat.exists_eq_add_of_le' hk
      rw [Nat.zero_add] at *
      rw [pre_seven h7]
      exact Int.add_le_add_right (h1 d (Nat.lt_of_add_lt_add_right hk')) _
    have := isMin_uniq (hn 7) h77
    omega
  · have hf : ∀ n, takenS ss n = 0 := by
      intro n
      induction n with
      | zero => rfl
      | succ n ih =>
        rw [takenS, if_neg, ih]
        intro hb
        have := (begins_iff ss n).mp hb n (Nat.le_refl _) (Nat.lt_add_of_pos_right (by decide))
        have e := pre_seven h7 n
        omega
    rw [hf]
    split <;> omega

/-- the walk over a row's text: the last closing sign is cut off -/
noncomputable def runGo : List Int → Int → Bool
  | [], o => o == 0
  | [s], o => o + s + 1 == 0
  | s :: t :: r, o => if o + s < 0 then false else runGo (t :: r) (o + s)
theorem runGo_iff (ss : List Int) (e : Nat) : ∀ (l : List Int) (p : Nat) (o : Int), p + l.length = e → l ≠ [] → (∀ j, j < l.length → l.getD j 0 = ss.getD ((p + j) % 7) 0) →
    (runGo l o = true ↔ (∀ q, p < q → q < e → pre ss p ≤ o + pre ss q) ∧ o + pre ss e + 1 = pre ss p)
  | [], _, _, _, h, _ => (h rfl).elim
  | [s], p, o, hj, _, hp => by
    subst hj
    have e1 : s = ss.getD (p % 7) 0 := hp 0 Nat.zero_lt_one
    have e2 : pre ss (p + 1) = pre ss p + ss.getD (p % 7) 0 := pre_next ss p
    rw [← e1] at e2
    rw [runGo, beq_iff_eq, List.length_singleton]
    refine ⟨fun h => ⟨fun q h1 h2 => absurd h2 (Nat.not_lt.mpr h1), by omega⟩, fun h => by have := h.2; omega⟩
  | s :: t :: r, p, o, hj, _, hp => by
    have e1 : s = ss.getD (p % 7) 0 := hp 0 (Nat.zero_lt_succ _)
    have e2 : pre ss (p + 1) = pre ss p + ss.getD (p % 7) 0 := pre_next ss p
    rw [← e1] at e2
    rw [List.length_cons] at hj
    have hlt : p + 1 < e := by rw [List.length_cons] at hj; omega
    rw [runGo]
    by_cases hs : o + s < 0
    · rw [if_pos hs]
      refine ⟨fun z => (nomatch z), fun h => ?_⟩
      have := h.1 (p + 1) (Nat.lt_succ_self _) hlt
      omega
    · rw [if_neg hs, runGo_iff ss e (t :: r) (p + 1) (o + s) (by omega) (List.cons_ne_nil _ _) (fun j hlt => by
        have := hp (j + 1) (Nat.succ_lt_succ hlt)
        rw [List.getD_cons_succ] at this
        rw [this, Nat.add_right_comm]; rfl)]
      constructor
      · rintro ⟨h1, h2⟩
        refine ⟨fun q a b => ?_, by omega⟩
        rcases Nat.eq_or_lt_of_le (Nat.succ_le_of_lt a) with h3 | h4
        · rw [← h3]; show pre ss p ≤ o + pre ss (p + 1); omega
        · have := h1 q h4 b; omega
      · rintro ⟨h1, h2⟩
        exact ⟨fun q a b => by have := h1 q (Nat.lt_of_succ_lt a) b; omega, by omega⟩
theorem turn_getq {α : Type} {l : List α} (h7 : l.length = 7) {i : Nat} (hi : i < 7) {p : Nat} (hp : p < 7) : (l.drop i ++ l.take i)[p]? = l[(i + p) % 7]? := by
  have hd : (l.drop i).length = 7 - i := by rw [List.length_drop, h7]
  by_cases h : i + p < 7
  · rw [List.getElem?_append_left (by rw [hd]; exact Nat.lt_sub_iff_add_lt'.mpr h), List.getElem?_drop, Nat.mod_eq_of_lt h]
  · obtain ⟨u, hu⟩ := Nat.exists_eq_add_of_le (Nat.not_lt.mp h)
    have h2 : u < i := by omega
    have h3 : p = (7 - i) + u := by omega
    rw [hu, Nat.add_mod_left, Nat.mod_eq_of_lt (Nat.lt_trans h2 hi), h3, List.getElem?_append_right (by rw [hd]; exact Nat.le_add_right _ _), hd, Nat.add_sub_cancel_left, List.getElem?_take_of_lt h2]
theorem turn_get {ss : List Int} (h7 : ss.length = 7) {i : Nat} (hi : i < 7) {p : Nat} (hp : p < 7) : (ss.drop i ++ ss.take i).getD p 0 = ss.getD ((i + p) % 7) 0 := by
  rw [List.getD_eq_getElem?_getD, List.getD_eq_getElem?_getD, turn_getq h7 hi hp]
theorem turn_len {ss : List Int} (h7 : ss.length = 7) {i : Nat} (hi : i < 7) : (ss.drop i ++ ss.take i).length = 7 := by
  rw [List.length_append, List.length_drop, List.length_take, h7, Nat.min_eq_left (Nat.le_of_lt hi), Nat.sub_add_cancel (Nat.le_of_lt hi)]
theorem run_begins {ss : List Int} (h7 : ss.length = 7) {i : Nat} (hi : i < 7) : runGo (ss.drop i ++ ss.take i) (if -ss.sum - 1 < 0 then 0 else -ss.sum - 1) = begins ss (0 + (i : Int)) := by
  have hl := turn_len h7 hi
  rw [Bool.eq_iff_iff, runGo_iff ss (i + 7) _ i _ (by rw [hl]) (fun h => by rw [h] at hl; cases hl) (fun p hp => turn_get h7 hi (hl ▸ hp)), begins_iff]
  have e7 := pre_seven h7 i
  by_cases hT : ss.sum < 0
  · rw [if_neg (by omega)]
    constructor
    · rintro ⟨h1, h2⟩ d a b
      rcases Nat.eq_or_lt_of_le a with e | h4
      · rw [← e]; omega
      · have := h1 d h4 b; omega
    · intro h
      exact ⟨fun q a b => by have := h q (Nat.le_of_lt a) b; omega, by omega⟩
  · rw [if_pos (by omega)]
    constructor
    · rintro ⟨h1, h2⟩; omega
    · intro h
      have := h i (Nat.le_refl _) (Nat.lt_add_of_pos_right (by decide))
      omega
end Mine

-- part SrNumB
namespace Mine
open PySem
/-- p stands above q: no stretch from p on to q falls below -/
noncomputable abbrev anc (ss : List Int) (p k : Nat) : Prop := ∀ t, t < k → pre ss p ≤ pre ss (p + (t + 1))
theorem anc_next {ss : List Int} {p k : Nat} : anc ss p (k + 1) ↔ anc ss p k ∧ pre ss p ≤ pre ss (p + (k + 1)) := by
  constructor
  · exact fun h => ⟨fun t ht => h t (Nat.lt_succ_of_lt ht), h k (Nat.lt_succ_self _)⟩
  · rintro ⟨h, h'⟩ t ht
    rcases Nat.eq_or_lt_of_le (Nat.le_of_lt_succ ht) with e | h4
    · rw [e]; exact h'
    · exact h t h4
theorem anc_turn {ss : List Int} (h7 : ss.length = 7) {p k : Nat} : anc ss (p + 7) k ↔ anc ss p k := by
  unfold anc
  refine forall_congr' fun t => forall_congr' fun _ => ?_
  rw [pre_seven h7, Nat.add_right_comm, pre_seven h7]
  exact ⟨Int.le_of_add_le_add_right, fun h => Int.add_le_add_right h _⟩
noncomputable def one (b : Prop) [Decidable b] : Int := if b then 1 else 0
theorem one_congr {a b : Prop} [Decidable a] [Decidable b] (h : a ↔ b) : one a = one b := by unfold one; by_cases hb : b <;> simp [h, hb]
theorem one_no {a : Prop} [Decidable a] (h : ¬ a) : one a = 0 := if_neg h
theorem one_room (b : Prop) [Decidable b] : 0 ≤ one b ∧ one b ≤ 1 := by unfold one; split <;> decide

theorem abIx_nat (s a : Nat) : abIx (0 + (s : Int)) (a : Int) = (s + a) % 7 := by
  unfold abIx
  rw [Int.zero_add, Int.fmod_eq_emod_of_nonneg _ (by decide), ← Int.natCast_add]; rfl
theorem set_get {ms : List Int} {a b : Nat} {v : Int} (ha : a < ms.length) : (ms.set a v).getD b 0 = if a = b then v else ms.getD b 0 := by
  simp only [List.getD_eq_getElem?_getD, List.getElem?_set]
  by_cases h : a = b
  · subst h; simp [ha]
  · simp [h]
/-- how far ahead of p the place N stands on the ring -/
noncomputable def far (N p : Nat) : Nat := (N + 6 * p) % 7
theorem far_at {N s a : Nat} (ha : a < 7) : (s + a) % 7 = N % 7 ↔ a = far N s := by unfold far; omega
theorem abG_get (ss : List Int) {s N : Nat} : ∀ (f a : Nat) (total : Int) (ms : List Int), a + f = 7 → total = pre ss (s + a) - pre ss s → (∀ t, t + 1 < a → pre ss s ≤ pre ss (s + (t + 1))) → 1 ≤ a → ms.length = 7 →
    (abG ss (0 + (s : Int)) f total (a : Int) ms).length = 7 ∧ (abG ss (0 + (s : Int)) f total (a : Int) ms).getD (N % 7) 0 = ms.getD (N % 7) 0 + one (a ≤ far N s ∧ anc ss s (far N s))
  | 0, a, total, ms, hf, ht, han, h1, hl => by
    refine ⟨hl, ?_⟩
    have : far N s < 7 := Nat.mod_lt _ (by decide)
    rw [abG, one_no (fun h => absurd h.1 (by omega)), Int.add_zero]
  | f + 1, a, total, ms, hf, ht, han, h1, hl => by
    have ha7 : a < 7 := by omega
    rw [abG, abIx_nat]
    by_cases hc : total ≥ 0
    · have hle : pre ss s ≤ pre ss (s + a) := by omega
      rw [if_pos ⟨hc, by omega⟩, show (a : Int) + 1 = ((a + 1 : Nat) : Int) from rfl]
      have han' : ∀ t, t + 1 < a + 1 → pre ss s ≤ pre ss (s + (t + 1)) := fun t h => (Nat.eq_or_lt_of_le (Nat.le_of_lt_succ h)).elim (fun e => by rw [e]; exact hle) (han t)
      obtain ⟨e1, e2⟩ := abG_get ss (s := s) (N := N) f (a + 1) (total + ss.getD ((s + a) % 7) 0) (ms.set ((s + a) % 7) (ms.getD ((s + a) % 7) 0 + 1)) (by omega) (by rw [← Nat.add_assoc, pre_next, ht]; exact Int.add_right_comm _ (-_) _) han' (Nat.le_add_left _ _) (by rw [List.length_set]; exact hl)
      refine ⟨e1, ?_⟩
      rw [e2, set_get (by rw [hl]; exact Nat.mod_lt _ (by decide))]
      by_cases hk : (s + a) % 7 = N % 7
      · have hk2 := (far_at ha7).mp hk
        rw [if_pos hk, hk, one_no (fun h => absurd h.1 (by rw [← hk2]; exact Nat.not_succ_le_self _)), Int.add_zero, one, if_pos ⟨Nat.le_of_eq hk2, fun t h => han' t (by rw [hk2]; exact Nat.succ_lt_succ h)⟩]
      · rw [if_neg hk]
        have hk2 := fun e => hk ((far_at ha7).mpr e)
        congr 1
        exact one_congr (and_congr_left fun _ => ⟨Nat.le_of_succ_le, fun h => Nat.lt_of_le_of_ne h hk2⟩)
    · rw [if_neg (fun h => hc h.1)]
      refine ⟨hl, ?_⟩
      rw [one_no, Int.add_zero]
      rintro ⟨h2, h3⟩
      obtain ⟨u, rfl⟩ := Nat.exists_eq_add_of_le' h1
      have := h3 u h2
      omega
noncomputable def sumTo (g : Nat → Int) : Nat → Int
  | 0 => 0
  | n + 1 => sumTo g n + g n
theorem sum_congr {g g' : Nat → Int} : ∀ n, (∀ k, k < n → g k = g' k) → sumTo g n = sumTo g' n
  | 0, _ => rfl
  | n + 1, h => by rw [sumTo, sumTo, sum_congr n fun k hk => h k (Nat.lt_succ_of_lt hk), h n (Nat.lt_succ_self _)]
theorem sum_first (g : Nat → Int) : ∀ n, sumTo g (n + 1) = g 0 + sumTo (fun k => g (k + 1)) n
  | 0 => Int.add_comm _ _
  | n + 1 => by rw [sumTo, sum_first g n, sumTo, Int.add_assoc]
theorem sum_split (g : Nat → Int) (d : Nat) : ∀ n, sumTo g (d + n) = sumTo g d + sumTo (fun k => g (d + k)) n
  | 0 => (Int.add_zero _).symm
  | n + 1 => by rw [← Nat.add_assoc, sumTo, sum_split g d n, sumTo, Int.add_assoc]
theorem sum_zero {g : Nat → Int} : ∀ n, (∀ k, k < n → g k = 0) → sumTo g n = 0
  | 0, _ => rfl
  | n + 1, h => by rw [sumTo, sum_zero n fun k hk => h k (Nat.lt_succ_of_lt hk), h n (Nat.lt_succ_self _)]; rfl
theorem sum_room {g : Nat → Int} (h : ∀ k, 0 ≤ g k ∧ g k ≤ 1) : ∀ n, 0 ≤ sumTo g n ∧ sumTo g n ≤ (n : Int)
  | 0 => ⟨Int.le_refl _, Int.le_refl _⟩
  | n + 1 => ⟨Int.add_nonneg (sum_room h n).1 (h n).1, Int.add_le_add (sum_room h n).2 (h n).2⟩
/-- a sum over a whole turn, wherever it is begun -/
theorem sum_turn {H : Nat → Int} (h : ∀ p, H (p + 7) = H p) : ∀ a, sumTo (fun t => H (a + t)) 7 = sumTo H 7
  | 0 => sum_congr 7 fun k _ => by rw [Nat.zero_add]
  | a + 1 => by
    rw [← sum_turn h a, sum_first (fun t => H (a + t)) 6, sumTo, Int.add_comm, Nat.add_right_comm, h]
    congr 1
noncomputable def upon (ss : List Int) (N p : Nat) : Int := one (1 ≤ far N p ∧ anc ss p (far N p))
theorem upon_turn {ss : List Int} (h7 : ss.length = 7) (N p : Nat) : upon ss N (p + 7) = upon ss N p := by
  have e : far N (p + 7) = far N p := by unfold far; rw [Nat.mul_add, ← Nat.add_assoc]; exact Nat.add_mul_mod_self_right _ 6 7
  unfold upon
  rw [e]
  exact one_congr (and_congr_right fun _ => anc_turn h7)
theorem abAll_get (ss : List Int) (N : Nat) : ∀ n, n ≤ 7 → (abAll ss n).length = 7 ∧ (abAll ss n).getD (N % 7) 0 = sumTo (upon ss N) n
  | 0, _ => by
    refine ⟨rfl, ?_⟩
    have : ∀ q : Fin 7, ([0, 0, 0, 0, 0, 0, 0] : List Int).getD q.val 0 = 0 := by decide
    exact this ⟨N % 7, Nat.mod_lt _ (by decide)⟩
  | n + 1, hn => by
    obtain ⟨e1, e2⟩ := abAll_get ss N n (Nat.le_of_succ_le hn)
    have := abG_get ss (s := n) (N := N) 6 1 (ss.getD (0 + (n : Int)).toNat 0) (abAll ss n) rfl (by rw [pre_next, Nat.mod_eq_of_lt hn, Int.zero_add, Int.toNat_natCast, Int.add_comm, Int.add_sub_cancel]) (fun t ht => absurd ht (Nat.not_lt.mpr (Nat.le_add_left _ _))) (Nat.le_refl _) e1
    rw [abAll_succ, abOne]
    refine ⟨this.1, ?_⟩
    rw [show (1 : Int) = ((1 : Nat) : Int) from rfl, this.2, e2, sumTo]; rfl
/-- how many stand above a place -/
theorem abAll_sum {ss : List Int} (h7 : ss.length = 7) (M : Nat) : (abAll ss 7).getD (M % 7) 0 = sumTo (fun t => one (1 ≤ t ∧ anc ss (M + t) (far M (M + t)))) 7 := by
  rw [(abAll_get ss M 7 (Nat.le_refl _)).2, ← sum_turn (upon_turn h7 M) M]
  refine sum_congr 7 fun t ht => one_congr (and_congr_left fun _ => ?_)
  unfold far; omega
end Mine

-- part SrNumC
namespace Mine
open PySem
/-- the places above the j-th of a row, nearest first -/
noncomputable def anl (ss : List Int) (i : Nat) : Nat → List Nat
  | 0 => []
  | j + 1 => (j :: anl ss i j).filter fun u => pre ss (i + u) ≤ pre ss (i + (j + 1))
theorem anl_eq (ss : List Int) (i : Nat) : ∀ j, anl ss i j = (List.range j).reverse.filter fun u => anc ss (i + u) (j - u)
  | 0 => rfl
  | j + 1 => by
    have key : ∀ u, u ≤ j → (anc ss (i + u) (j + 1 - u) ↔ anc ss (i + u) (j - u) ∧ pre ss (i + u) ≤ pre ss (i + (j + 1))) := fun u hu => by
      rw [Nat.succ_sub hu, anc_next, Nat.add_assoc i u, ← Nat.add_assoc u, Nat.add_sub_cancel' hu]
    rw [anl, anl_eq ss i j, List.range_succ, List.reverse_append, List.reverse_singleton, List.singleton_append, List.filter_cons, List.filter_cons, List.filter_filter]
    have e : ∀ u, u ∈ (List.range j).reverse → (decide (pre ss (i + u) ≤ pre ss (i + (j + 1))) && decide (anc ss (i + u) (j - u))) = decide (anc ss (i + u) (j + 1 - u)) := by
      intro u hu
      rw [List.mem_reverse, List.mem_range] at hu
      rw [Bool.eq_iff_iff, Bool.and_eq_true, decide_eq_true_eq, decide_eq_true_eq, decide_eq_true_eq, key u (Nat.le_of_lt hu), and_comm]
    rw [List.filter_congr e]
    have e2 : anc ss (i + j) (j + 1 - j) ↔ pre ss (i + j) ≤ pre ss (i + (j + 1)) := (key j (Nat.le_refl _)).trans ⟨fun h => h.2, fun h => ⟨fun t ht => absurd ht (by rw [Nat.sub_self]; exact Nat.not_lt_zero _), h⟩⟩
    rw [show decide (anc ss (i + j) (j + 1 - j)) = decide (pre ss (i + j) ≤ pre ss (i + (j + 1))) from decide_eq_decide.mpr e2]
theorem filter_sum (P : Nat → Prop) [DecidablePred P] : ∀ n, (((List.range n).reverse.filter fun p => P p).length : Int) = sumTo (fun t => one (P t)) n
  | 0 => rfl
  | n + 1 => by
    rw [List.range_succ, List.reverse_append, List.reverse_singleton, List.singleton_append, List.filter_cons, sumTo, ← filter_sum P n, one]
    by_cases h : P n
    · rw [if_pos (decide_eq_true h), if_pos h]; rfl
    · rw [if_neg (by rw [decide_eq_false h]; decide), if_neg h, Int.add_zero]
theorem far_on (M t : Nat) (h1 : 1 ≤ t) (h7 : t < 7) : far M (M + t) = 7 - t := by unfold far; omega
theorem anl_len {ss : List Int} (h7 : ss.length = 7) {i j d : Nat} (hd : d + j = 7) (hd1 : 1 ≤ d) (hb : begins ss (0 + (i : Int)) = true) : ((anl ss i j).length : Int) = (abAll ss 7).getD ((i + j) % 7) 0 := by
  rw [begins_iff] at hb
  rw [abAll_sum h7, anl_eq, filter_sum (fun u => anc ss (i + u) (j - u)) j]
  have hs := sum_split (fun t => one (1 ≤ t ∧ anc ss (i + j + t) (far (i + j) (i + j + t)))) d j
  rw [hd] at hs
  rw [hs, sum_zero d fun t ht => ?_, Int.zero_add]
  · refine sum_congr j fun u hu => one_congr ?_
    rw [far_on _ _ (Nat.le_trans hd1 (Nat.le_add_right _ _)) (hd ▸ Nat.add_lt_add_left hu d), show i + j + (d + u) = i + u + 7 from by rw [← hd, Nat.add_comm d u, Nat.add_comm d j]; exact Nat.add_add_add_comm _ _ _ _, anc_turn h7, show 7 - (d + u) = j - u from by rw [← hd, Nat.add_sub_add_left]]
    exact ⟨fun h => ⟨Nat.le_trans hd1 (Nat.le_add_right _ _), h⟩, fun h => h.2⟩
  · refine one_no ?_
    rintro ⟨h1, h⟩
    rw [far_on _ _ h1 (Nat.lt_of_lt_of_le ht (hd ▸ Nat.le_add_right d j))] at h
    obtain ⟨v, rfl⟩ := Nat.exists_eq_add_of_lt ht
    have h2 := h v (Nat.lt_sub_iff_add_lt.mpr (by omega))
    have h3 := hb (i + j + t) (by omega) (by omega)
    rw [show i + j + t + (v + 1) = i + 7 from by omega] at h2
    exact absurd h2 (Int.not_le.mpr h3)

noncomputable def basesR : List Int → Int → List Int
  | [], _ => []
  | w :: r, c => (c - w) :: basesR r (c - w)
theorem bases_len : ∀ (l : List Int) (c : Int), (basesR l c).length = l.length
  | [], _ => rfl
  | w :: r, c => by rw [basesR, List.length_cons, bases_len r, List.length_cons]
theorem bases_le : ∀ (l : List Int) (c : Int), (∀ w ∈ l, 0 ≤ w) → ∀ b ∈ basesR l c, b ≤ c
  | [], _, _, b, h => nomatch h
  | w :: r, c, hw, b, h => by
    have h0 := hw w (.head _)
    rcases List.mem_cons.mp h with rfl | h
    · omega
    · have := bases_le r (c - w) (fun x hx => hw x (.tail _ hx)) b h; omega
theorem bases_filter : ∀ (l : List Int) (c : Int), (∀ w ∈ l, 0 ≤ w) → (basesR l c).filter (fun b => b ≤ c - 1) = basesR (l.dropWhile (· = 0)) c
  | [], _, _ => rfl
  | w :: r, c, hw => by
    have h0 := hw w (.head _)
    have hr : ∀ x ∈ r, 0 ≤ x := fun x hx => hw x (.tail _ hx)
    rw [List.dropWhile_cons]
    by_cases hz : w = 0
    · subst hz
      rw [if_pos (by simp), basesR, List.filter_cons, if_neg (by simp; omega), Int.sub_zero, bases_filter r c hr]
    · rw [if_neg (by simpa using hz)]
      refine List.filter_eq_self.mpr fun b hb => ?_
      rw [basesR] at hb
      have : b ≤ c - w := by
        rcases List.mem_cons.mp hb with rfl | h
        · exact Int.le_refl _
        · exact bases_le r (c - w) hr b h
      simp; omega
theorem less1_rev (w : Int) (r : List Int) : less1 (w :: r).reverse = ((w - 1) :: r).reverse := by
  rw [List.reverse_cons, List.reverse_cons, less1, if_neg (by simp), List.dropLast_concat, List.getLastD_concat]
theorem head_ne_zero : ∀ {l r : List Int} {w : Int}, l.dropWhile (· = 0) = w :: r → w ≠ 0
  | [], _, _, h => nomatch h
  | x :: l, r, w, h => by
    rw [List.dropWhile_cons] at h
    by_cases hx : x = 0
    · rw [if_pos (by simpa using hx)] at h; exact head_ne_zero h
    · rw [if_neg (by simpa using hx)] at h; injection h with h _; exact h ▸ hx
theorem out_next_inv {ss : List Int} {i j : Nat} {ws : List Int} {s : Int} (hs : -1 ≤ s) (hp : pre ss (i + (j + 1)) = pre ss (i + j) + s) (h0 : ∀ w ∈ ws, 0 ≤ w) (hb : basesR (popz ws).reverse (pre ss (i + j) + 1) = (anl ss i j).map (fun u => pre ss (i + u))) :
    (∀ w ∈ less1 (popz ws) ++ [s + 1], 0 ≤ w) ∧ basesR (popz (less1 (popz ws) ++ [s + 1])).reverse (pre ss (i + (j + 1)) + 1) = (anl ss i (j + 1)).map (fun u => pre ss (i + u)) := by
  have hpos : ∀ w ∈ less1 (popz ws) ++ [s + 1], 0 ≤ w := by
    intro w hw
    rcases List.mem_append.mp hw with hw | hw
    · unfold popz at hw
      cases hR : ws.reverse.dropWhile (· = 0) with
      | nil => rw [hR] at hw; exact nomatch hw
      | cons x r =>
        rw [hR, less1_rev, List.mem_reverse] at hw
        have hx : ∀ y ∈ x :: r, 0 ≤ y := fun y hy => h0 y (List.mem_reverse.mp ((List.dropWhile_sublist _).subset (hR ▸ hy)))
        have hx0 := head_ne_zero hR
        have := hx x (.head _)
        rcases List.mem_cons.mp hw with rfl | h
        · omega
        · exact hx w (.tail _ h)
    · rw [List.mem_singleton.mp hw]; omega
  refine ⟨hpos, ?_⟩
  have key : basesR (less1 (popz ws) ++ [s + 1]).reverse (pre ss (i + (j + 1)) + 1) = (j :: anl ss i j).map (fun u => pre ss (i + u)) := by
    rw [List.map_cons, ← hb, List.reverse_append, List.reverse_singleton, List.singleton_append, basesR, hp, show pre ss (i + j) + s + 1 - (s + 1) = pre ss (i + j) from by omega]
    congr 1
    unfold popz
    cases ws.reverse.dropWhile (· = 0) with
    | nil => rfl
    | cons x r =>
      rw [less1_rev, List.reverse_reverse, List.reverse_reverse, basesR, basesR, show pre ss (i + j) - (x - 1) = pre ss (i + j) + 1 - x from by omega]
  have hf := bases_filter (less1 (popz ws) ++ [s + 1]).reverse (pre ss (i + (j + 1)) + 1) (fun w hw => hpos w (List.mem_reverse.mp hw))
  rw [key, List.filter_map] at hf
  rw [show (popz (less1 (popz ws) ++ [s + 1])).reverse = (less1 (popz ws) ++ [s + 1]).reverse.dropWhile (· = 0) from by unfold popz; rw [List.reverse_reverse], ← hf, anl]
  congr 1
  refine List.filter_congr fun p _ => ?_
  simp
end Mine

-- part SrPlA
namespace Mine
open PySem
theorem str_ext {x y : Str} (h : x.cps.toList = y.cps.toList) : x = y := by
  cases x; cases y; exact congrArg Str.mk (Array.toList_inj.mp h)
theorem rstrip_self {x : Str} {l : List Nat} {c : Nat} (h : x.cps.toList = l ++ [c]) (hc : Unicode.isSpace c = false) : Txt.rstrip x = x := by
  unfold Txt.rstrip Txt.stripBy
  refine if_pos ?_
  have e : ((x.cps.toList.drop 0).reverse.takeWhile Unicode.isSpace).length = 0 := by
    rw [List.drop_zero, h, List.reverse_append, List.reverse_singleton, List.singleton_append, List.takeWhile_cons, hc]; rfl
  show ((0 : Nat) == 0 && (x.length - ((x.cps.toList.drop 0).reverse.takeWhile Unicode.isSpace).length) == x.length) = true
  rw [e, Nat.sub_zero, beq_self_eq_true, beq_self_eq_true]; rfl
theorem hash_list : (Str.ofString "# ").cps = #[35, 32] := by decide +kernel
theorem mul_hash (k : Nat) : (Txt.mul (Str.ofString "# ") (k : Int)).cps.toList = (List.replicate k [35, 32]).flatten := by
  unfold Txt.mul
  have hf : ∀ (n : Nat) (a : Array Nat), ((List.replicate n (#[35, 32] : Array Nat)).foldl (· ++ ·) a).toList = a.toList ++ (List.replicate n [35, 32]).flatten := by
    intro n
    induction n with
    | zero => intro a; simp
    | succ n ih => intro a; rw [List.replicate_succ, List.foldl_cons, ih, Array.toList_append, List.replicate_succ, List.flatten_cons, List.append_assoc]
  match k with
  | 0 => rfl
  | 1 =>
    rw [if_neg (by decide), if_pos (by rfl), hash_list]; rfl
  | n + 2 =>
    have e : (((n + 2 : Nat) : Int) == 1 || (Str.ofString "# ").length == 0) = false := by
      rw [show (Str.ofString "# ").length = 2 from congrArg Array.size hash_list]
      have : ((n + 2 : Nat) : Int) ≠ 1 := by omega
      rw [beq_false_of_ne this]; rfl
    rw [if_neg (by omega), e, hash_list]
    exact (hf (n + 2) #[]).trans (List.nil_append _)
noncomputable def rowS (k : Nat) (s : Str) : Str := Txt.mul (Str.ofString "# ") (k : Int) ++ s
theorem rowS_list (k : Nat) (s : Str) : (rowS k s).cps.toList = (List.replicate k [35, 32]).flatten ++ s.cps.toList := by
  show ((Txt.mul (Str.ofString "# ") (k : Int)).cps ++ s.cps).toList = _
  rw [Array.toList_append, mul_hash]
theorem cmt_rowS {s : Str} {l : List Nat} {c : Nat} (hs : s.cps.toList = l ++ [c]) (hc : Unicode.isSpace c = false) (k : Nat) : cmt (rowS k s) = rowS (k + 1) s := by
  have e := rowS_list k s
  have er : Txt.rstrip (rowS k s) = rowS k s := rstrip_self (l := (List.replicate k [35, 32]).flatten ++ l) (by rw [e, hs, List.append_assoc]) hc
  unfold cmt
  rw [er, if_neg]
  · refine str_ext ?_
    show ((Str.ofString "# ").cps ++ (rowS k s).cps).toList = _
    rw [Array.toList_append, e, rowS_list, hash_list, List.replicate_succ, List.flatten_cons, List.append_assoc]
  · show ¬ (rowS k s).cps.toList.length = 0
    rw [e, hs, ← List.append_assoc, List.length_append]
    exact Nat.succ_ne_zero _
theorem cmts_rowS {s : Str} {l : List Nat} {c : Nat} (hs : s.cps.toList = l ++ [c]) (hc : Unicode.isSpace c = false) : ∀ k, cmts k s = rowS k s
  | 0 => str_ext (by rw [rowS_list]; rfl)
  | k + 1 => by rw [cmts, cmts_rowS hs hc k, cmt_rowS hs hc k]
theorem hash_one : (Str.ofString "#").cps.toList = [] ++ [35] := by decide +kernel
theorem hash_sign : Unicode.isSpace 35 = false := by decide +kernel
theorem cmt_blank : cmt ⟨#[]⟩ = Str.ofString "#" := by decide +kernel
theorem cmts_blank : ∀ k, cmts (k + 1) ⟨#[]⟩ = rowS k (Str.ofString "#")
  | 0 => cmt_blank.trans (str_ext (by rw [rowS_list]; rfl))
  | k + 1 => by rw [cmts, cmts_blank k, cmt_rowS hash_one hash_sign k]
theorem ok_of {x : Str} (h : ∀ c ∈ x.cps.toList, c < 0x110000) : PyData.strOk x = true := by
  unfold PyData.strOk
  rw [← Array.all_toList, List.all_eq_true]
  exact fun c hc => decide_eq_true (h c hc)
theorem rowS_ok {s : Str} (h : ∀ c ∈ s.cps.toList, c < 0x110000) (k : Nat) : PyData.strOk (rowS k s) = true := ok_of fun c hc => by
  rw [rowS_list] at hc
  rcases List.mem_append.mp hc with hc | hc
  · obtain ⟨l, hl, hc⟩ := List.mem_flatten.mp hc
    rw [List.eq_of_mem_replicate hl] at hc
    rcases List.mem_cons.mp hc with rfl | hc
    · decide
    · rw [List.mem_singleton.mp hc]; decide
  · exact h c hc
noncomputable def goodSign (x : Str) : Bool := x.cps.toList.all (fun c => decide (c < 0x110000)) && (match x.cps.toList.getLast? with | some c => !Unicode.isSpace c | none => false)
theorem signs_dec : (signL.all fun p => goodSign p.1) = true := by decide +kernel
theorem good_sign {x : Str} (h : goodSign x = true) : (∀ c ∈ x.cps.toList, c < 0x110000) ∧ ∃ l c, x.cps.toList = l ++ [c] ∧ Unicode.isSpace c = false := by
  rw [goodSign, Bool.and_eq_true, List.all_eq_true] at h
  refine ⟨fun c hc => of_decide_eq_true (h.1 c hc), ?_⟩
  cases hl : x.cps.toList.getLast? with
  | none => rw [hl] at h; exact nomatch h.2
  | some c =>
    rw [hl] at h
    obtain ⟨l, e⟩ := List.getLast?_eq_some_iff.mp hl
    exact ⟨l, c, e, (Bool.not_eq_true' _).mp h.2⟩
theorem sgn_in : ∀ i : Fin 48, ∃ p ∈ signL, sgn ((i.val : Int) + 7) = p.1 := fun i => by
  obtain ⟨p, hp, e⟩ := sgn_has i
  exact ⟨p, hp, by rw [← e]; exact sgn_all p hp⟩
theorem lines_at {n : Int} (h : Sym n) {k : Nat} : lineOf n k = rowAt n (k : Int) ∧ PyData.strOk (rowAt n (k : Int)) = true := by
  rcases h with h | h
  · obtain ⟨p, hp, e⟩ := sgn_in ⟨(n - 7).toNat, by omega⟩
    have e2 : (((⟨(n - 7).toNat, by omega⟩ : Fin 48).val : Int) + 7) = n := by show ((n - 7).toNat : Int) + 7 = n; omega
    rw [e2] at e
    obtain ⟨h1, l, c, h2, h3⟩ := good_sign (List.all_eq_true.mp signs_dec p hp)
    unfold lineOf rowAt
    rw [if_pos (by omega), if_pos (by omega), e]
    exact ⟨cmts_rowS h2 h3 k, rowS_ok h1 k⟩
  · unfold lineOf rowAt
    rw [if_neg (by omega), if_neg (by omega)]
    match k with
    | 0 => exact ⟨rfl, by rw [if_neg (by decide)]; exact ok_of fun c hc => (nomatch hc)⟩
    | k + 1 =>
      rw [if_pos (by omega), show ((k + 1 : Nat) : Int) - 1 = (k : Int) from by omega]
      exact ⟨cmts_blank k, rowS_ok (by decide +kernel) k⟩
end Mine

-- part SrPlB
namespace Mine
open PySem
theorem step_room {m : Int} (h : Sym m) : -1 ≤ (if 256 > m then 256 else m) - 257 ∧ (if 256 > m then 256 else m) - 257 ≤ 2 := by
  rcases h with h | h
  · rw [if_pos (by omega)]; omega
  · by_cases h5 : 256 > m
    · rw [if_pos h5]; omega
    · rw [if_neg h5]; omega
theorem steps_get {ms : List Int} {p : Nat} (hp : p < ms.length) : (stepsOf ms).getD p 0 = (if 256 > ms.getD p 0 then 256 else ms.getD p 0) - 257 := by
  simp only [stepsOf, List.getD_eq_getElem?_getD, List.getElem?_map, List.getElem?_eq_getElem hp, Option.map_some, Option.getD_some]
theorem steps_len {ms : List Int} (h7 : ms.length = 7) : (stepsOf ms).length = 7 := by rw [stepsOf, List.length_map]; exact h7
theorem ring_mem {ms : List Int} {p : Nat} (hp : p < ms.length) : ms.getD p 0 ∈ ms := by
  rw [List.getD_eq_getElem?_getD, List.getElem?_eq_getElem hp]; exact List.getElem_mem hp
theorem takenS_eq (ms : List Int) : ∀ i, takenAt ms i = takenS (stepsOf ms) i
  | 0 => rfl
  | i + 1 => by rw [takenAt, takenS, takenS_eq ms i]
section
variable {ms : List Int} (h7 : ms.length = 7) (hs : ∀ m ∈ ms, Sym m)
include h7 hs
theorem steps_lo (n : Nat) : -1 ≤ (stepsOf ms).getD n 0 := by
  by_cases h : n < ms.length
  · rw [steps_get h]; exact (step_room (hs _ (ring_mem h))).1
  · rw [List.getD_eq_getElem?_getD, List.getElem?_eq_none (by rw [steps_len h7]; omega)]; decide
theorem taken_all' : takenAt ms 7 = if 0 > treesOf ms then 0 else treesOf ms := by
  rw [takenS_eq, treesOf]; exact takenS_all (steps_len h7) (steps_lo h7 hs)
theorem trees_room' : -20 ≤ treesOf ms ∧ treesOf ms ≤ 20 := by
  have e : ∀ l : List Int, (∀ x ∈ l, -1 ≤ x ∧ x ≤ 2) → -(l.length : Int) ≤ l.sum ∧ l.sum ≤ 2 * l.length := by
    intro l
    induction l with
    | nil => simp
    | cons x r ih =>
      intro h
      have h1 := h x (.head _)
      have h2 := ih fun y hy => h y (.tail _ hy)
      simp only [List.sum_cons, List.length_cons]; omega
  have := e (stepsOf ms) (fun x hx => by obtain ⟨m, hm, rfl⟩ := List.mem_map.mp hx; exact step_room (hs m hm))
  rw [steps_len h7] at this
  rw [treesOf]; omega
theorem above_room (M : Nat) : ∃ k : Nat, (abAll (stepsOf ms) 7).getD (M % 7) 0 = (k : Int) := by
  have e := abAll_sum (steps_len h7) M
  exact Int.eq_ofNat_of_zero_le (e ▸ (sum_room (fun t => one_room _) 7).1)
theorem rowsL_ok' : ∀ x ∈ rowsL ms, PyData.strOk x = true := by
  intro x hx
  obtain ⟨p, hp, rfl⟩ := List.mem_map.mp hx
  have hp7 := List.mem_range.mp hp
  obtain ⟨k, e⟩ := above_room h7 hs p
  rw [Nat.mod_eq_of_lt hp7] at e
  rw [e]
  exact (lines_at (hs _ (ring_mem (by omega)))).2
theorem turned_get {i p : Nat} (hi : i < 7) (hp : p < 7) : (turnedAt ms i).getD p 0 = ms.getD ((i + p) % 7) 0 := turn_get h7 hi hp
theorem out_inv {i : Nat} (hi : i < 7) : ∀ j, j ≤ 7 → (∀ w ∈ (outAll ((turnedAt ms i).take j)).1, 0 ≤ w) ∧ basesR (popz (outAll ((turnedAt ms i).take j)).1).reverse (pre (stepsOf ms) (i + j) + 1) = (anl (stepsOf ms) i j).map (fun u => pre (stepsOf ms) (i + u)) ∧
    (outAll ((turnedAt ms i).take j)).2 = (List.range j).map fun p => lineOf ((turnedAt ms i).getD p 0) (anl (stepsOf ms) i p).length
  | 0, _ => ⟨fun w hw => (nomatch hw), rfl, rfl⟩
  | j + 1, hj => by
    obtain ⟨h1, h2, h3⟩ := out_inv hi j (by omega)
    have hl := turned_len h7 i
    have hm : (turnedAt ms i)[j]? = some ((turnedAt ms i).getD j 0) := by rw [List.getD_eq_getElem?_getD, List.getElem?_eq_getElem (by omega)]; rfl
    have hsym := turned_sym hs i _ (ring_mem (ms := turnedAt ms i) (p := j) (by omega))
    have hst : (stepsOf ms).getD ((i + j) % 7) 0 + 1 = if (turnedAt ms i).getD j 0 < 256 then 0 else (turnedAt ms i).getD j 0 - 256 := by
      rw [steps_get (by omega), ← turned_get h7 hs hi (show j < 7 by omega)]
      by_cases hc : (turnedAt ms i).getD j 0 < 256
      · rw [if_pos hc, if_pos (by omega)]; omega
      · rw [if_neg hc, if_neg (by omega)]; omega
    have hlo := steps_lo h7 hs ((i + j) % 7)
    have hnext := out_next_inv (ss := stepsOf ms) (i := i) (j := j) hlo (pre_next _ (i + j)) h1 h2
    have hlen : (popz (outAll ((turnedAt ms i).take j)).1).length = (anl (stepsOf ms) i j).length := by
      have := congrArg List.length h2
      rw [bases_len, List.length_reverse, List.length_map] at this
      exact this
    have hout : outAll ((turnedAt ms i).take (j + 1)) = outStep (outAll ((turnedAt ms i).take j)) ((turnedAt ms i).getD j 0) := by
      rw [List.take_add_one, hm, Option.toList_some]
      unfold outAll
      rw [List.foldl_append]; rfl
    rw [hout]
    unfold outStep
    rw [← hst]
    refine ⟨hnext.1, hnext.2, ?_⟩
    rw [List.range_succ, List.map_append, ← h3, hlen]; rfl
theorem outl_rows' (i : Nat) (hi : i < 7) (hb : begins (stepsOf ms) (0 + (i : Int)) = true) : (outAll (turnedAt ms i)).2 = (rowsL ms).drop i ++ (rowsL ms).take i := by
  have h := (out_inv h7 hs hi 7 (Nat.le_refl _)).2.2
  rw [List.take_of_length_le (Nat.le_of_eq (turned_len h7 i))] at h
  rw [h]
  have hrl : (rowsL ms).length = 7 := by rw [rowsL, List.length_map, List.length_range]
  refine List.ext_getElem? fun p => ?_
  by_cases hp : p < 7
  · rw [turn_getq hrl hi hp, List.getElem?_map, List.getElem?_range hp, rowsL, List.getElem?_map, List.getElem?_range (Nat.mod_lt _ (by decide)), Option.map_some, Option.map_some, turned_get h7 hs hi hp, ← anl_len (steps_len h7) (Nat.sub_add_cancel (Nat.le_of_lt hp)) (Nat.sub_pos_of_lt hp) hb]
    congr 1
    exact (lines_at (hs _ (ring_mem (by rw [h7]; exact Nat.mod_lt _ (by decide))))).1
  · rw [List.getElem?_eq_none (by simp; omega), List.getElem?_eq_none (by simp; omega)]
end
end Mine

-- part SrPlC
namespace Mine
open PySem
/-- what stands outside the quotation marks, sign by sign -/
noncomputable def unq : List Nat → Bool → List Nat
  | [], _ => []
  | c :: r, b => if c = 34 then unq r (!b) else if b then unq r b else c :: unq r b
noncomputable def balq : List Nat → Bool → Bool
  | [], b => !b
  | c :: r, b => if c = 34 then balq r (!b) else balq r b
noncomputable def flat (l : List Str) : List Nat := l.flatMap fun x => x.cps.toList
theorem flat_app (l : List Str) (x : Str) : flat (l ++ [x]) = flat l ++ x.cps.toList := by simp [flat]
theorem join_flat (x : Str) (h : x.cps = #[]) : ∀ l : List Str, (Str.join x l).cps.toList = flat l
  | [] => rfl
  | [a] => by show a.cps.toList = _; simp [flat]
  | a :: b :: r => by
    show (a.cps ++ x.cps ++ (Str.join x (b :: r)).cps).toList = _
    rw [h, Array.append_empty, Array.toList_append, join_flat x h (b :: r)]
    simp [flat]
theorem txt_join_flat (l : List Str) : (Txt.join (Str.ofString "") l).cps.toList = flat l := by
  show (Builtin.Str.glued _ l).cps.toList = _
  rw [StrLaws.glued_eq_join, join_flat _ (by decide +kernel)]
theorem piece_to {x : Str} {a b : Nat} (h : a ≤ b) (hb : b ≤ x.cps.toList.length) : (Txt.slice x (some (a : Int)) (some (b : Int))).cps.toList = (x.cps.toList.drop a).take (b - a) := by
  show (StrLaws.sliceText x (some (a : Int)) (some (b : Int))).cps.toList = _
  rw [StrLaws.sliceText_plain ⟨by omega, by omega, by omega⟩]
  simp only [show ((b : Int) - (a : Int)).toNat = b - a from by omega, Int.toNat_natCast]
theorem piece_end {x : Str} {a : Nat} (h : a ≤ x.cps.toList.length) : (Txt.slice x (some (a : Int)) none).cps.toList = x.cps.toList.drop a := by
  show (StrLaws.sliceText x (some (a : Int)) none).cps.toList = _
  rw [StrLaws.sliceText_from ⟨by omega, by omega⟩]
  simp only [Int.toNat_natCast]
  exact List.take_of_length_le (by rw [List.length_drop]; omega)
theorem cut_last {x : Str} (h : 0 < x.cps.toList.length) : (Txt.slice x none (some (-1))).cps.toList = x.cps.toList.dropLast := by
  show (StrLaws.sliceText x none (some (-1))).cps.toList = _
  have e : x.length = x.cps.toList.length := rfl
  rw [StrLaws.sliceText_to_neg (by decide) (by rw [e]; omega)]
  simp only [List.drop_zero]
  rw [List.dropLast_eq_take, e, show (-1 + (x.cps.toList.length : Int) - 0).toNat = x.cps.toList.length - 1 from by omega]
theorem take_next {x : List Nat} {st i c : Nat} {r : List Nat} (hst : st ≤ i) (hr : x.drop i = c :: r) : (x.drop st).take (i + 1 - st) = (x.drop st).take (i - st) ++ [c] := by
  rw [show i + 1 - st = (i - st) + 1 from by omega, List.take_add_one, List.getElem?_drop, show st + (i - st) = i from by omega]
  have : x[i]? = some c := by
    have := congrArg (fun l => l[0]?) hr
    simpa [List.getElem?_drop] using this
  rw [this]; rfl
theorem drop_next {x : List Nat} {i c : Nat} {r : List Nat} (hr : x.drop i = c :: r) : x.drop (i + 1) = r := by
  rw [← List.drop_drop, hr]; rfl
theorem lt_of_drop {x : List Nat} {i c : Nat} {r : List Nat} (hr : x.drop i = c :: r) : i < x.length := by
  by_cases h : i < x.length
  · exact h
  · rw [List.drop_eq_nil_of_le (by omega)] at hr; cases hr
theorem stripGo_unq (x : Str) : ∀ (r : List Nat) (i st : Nat) (res : List Str), x.cps.toList.drop i = r → st ≤ i → i ≤ x.cps.toList.length →
    (balq r false = true → flat (stripGo x r i st none res) = flat res ++ (x.cps.toList.drop st).take (i - st) ++ unq r false) ∧
    (∀ o, st ≤ o → o ≤ i → balq r true = true → flat (stripGo x r i st (some o) res) = flat res ++ (x.cps.toList.drop st).take (o - st) ++ unq r true)
  | [], i, st, res, hr, hst, hi => by
    have hil : x.cps.toList.length ≤ i := by rw [← List.drop_eq_nil_iff]; exact hr
    constructor
    · intro _
      rw [unq, List.append_nil, stripGo]
      by_cases h : st < x.length
      · rw [if_pos h, flat_app, piece_end (by omega), List.take_of_length_le (by rw [List.length_drop]; omega)]
      · rw [if_neg h]
        have : x.length = x.cps.toList.length := rfl
        rw [List.drop_eq_nil_of_le (by omega), List.take_nil, List.append_nil]
    · intro o _ _ h; exact absurd h (by decide)
  | c :: r, i, st, res, hr, hst, hi => by
    have hlt := lt_of_drop hr
    have ih := stripGo_unq x r (i + 1)
    have hd := drop_next hr
    constructor
    · intro hb
      rw [balq] at hb
      rw [stripGo_cons, unq]
      by_cases hc : c = 34
      · rw [if_pos hc] at hb ⊢
        rw [if_pos hc]
        exact (ih st res hd (by omega) (by omega)).2 i hst (by omega) hb
      · rw [if_neg hc] at hb ⊢
        rw [if_neg hc, (ih st res hd (by omega) (by omega)).1 hb, take_next hst hr]
        simp
    · intro o h1 h2 hb
      rw [balq] at hb
      rw [stripGo_cons, unq]
      by_cases hc : c = 34
      · rw [if_pos hc] at hb ⊢
        rw [if_pos hc]
        have hb' : balq r false = true := hb
        refine ((ih (i + 1) (if st = o then res else res ++ [Txt.slice x (some (st : Int)) (some (o : Int))]) hd (Nat.le_refl _) (by omega)).1 hb').trans ?_
        rw [Nat.sub_self, List.take_zero, List.append_nil]
        by_cases hso : st = o
        · rw [if_pos hso, hso, Nat.sub_self, List.take_zero, List.append_nil]; rfl
        · rw [if_neg hso, flat_app, piece_to h1 (by omega)]; rfl
      · rw [if_neg hc] at hb ⊢
        rw [if_neg hc, if_pos rfl]
        exact (ih st res hd (by omega) (by omega)).2 o h1 (by omega) hb
theorem unq_none : ∀ l : List Nat, 34 ∉ l → unq l false = l
  | [], _ => rfl
  | c :: r, h => by
    have h1 : c ≠ 34 := fun e => h (e ▸ .head _)
    have h2 : 34 ∉ r := fun e => h (.tail _ e)
    rw [unq, if_neg h1, unq_none r h2]; rfl
theorem unq_sub : ∀ (l : List Nat) (b : Bool), ∀ c ∈ unq l b, c ∈ l
  | [], _, c, h => nomatch h
  | a :: r, b, c, h => by
    rw [unq] at h
    by_cases ha : a = 34
    · rw [if_pos ha] at h; exact .tail _ (unq_sub r _ c h)
    · rw [if_neg ha] at h
      cases b with
      | true => exact .tail _ (unq_sub r _ c h)
      | false =>
        rcases List.mem_cons.mp h with rfl | h
        · exact .head _
        · exact .tail _ (unq_sub r _ c h)
theorem strip_unq {x : Str} (h : balq x.cps.toList false = true) : (strip x).cps.toList = unq x.cps.toList false := by
  unfold strip
  have hf := StrLaws.found_one x 34
  rw [str_quote]
  by_cases hq : (Builtin.Str.occurrences x ⟨#[34]⟩ 0 x.length 1).isEmpty = true
  · rw [if_pos hq]
    rw [hq] at hf
    exact (unq_none _ (of_decide_eq_false hf.symm)).symm
  · rw [if_neg hq, txt_join_flat, (stripGo_unq x x.cps.toList 0 0 [] rfl (Nat.le_refl _) (Nat.zero_le _)).1 h]
    simp [flat]
end Mine

-- part SrPlD
namespace Mine
open PySem
/-- a symbol's signs, but for its last ) -/
noncomputable def head (n : Int) : List Nat := if n < 256 then 34 :: ((sgn n).cps.toList ++ [34]) else List.replicate (n - 256).toNat 40
noncomputable def heads : List Int → List Nat
  | [] => []
  | [n] => head n
  | n :: m :: r => head n ++ 41 :: heads (m :: r)
theorem heads_cut : ∀ l : List Int, l ≠ [] → (l.flatMap fun n => head n ++ [41]) = heads l ++ [41]
  | [], h => (h rfl).elim
  | [n], _ => by simp [heads]
  | n :: m :: r, _ => by
    rw [List.flatMap_cons, heads_cut (m :: r) (by simp), heads]; simp
theorem step_list (x : Str) (n : Int) : (txtStep x n).cps.toList = x.cps.toList ++ (head n ++ [41]) := by
  unfold txtStep head
  by_cases h : n < 256
  · rw [if_pos h, if_pos h]
    show (x.cps ++ (Str.ofString "\"").cps ++ (sgn n).cps ++ (Str.ofString "\")").cps).toList = _
    rw [show (Str.ofString "\"").cps = #[34] from by decide +kernel, show (Str.ofString "\")").cps = #[34, 41] from by decide +kernel]
    simp
  · rw [if_neg h, if_neg h]
    show (x.cps ++ (Txt.mul (Str.ofString "(") (n - 256)).cps ++ (Str.ofString ")").cps).toList = _
    rw [Array.toList_append, Array.toList_append, mul_open, str_close]
    simp
theorem all_list (tr : Int) (ns : List Int) : (txtAll ns tr).cps.toList = List.replicate (tr - 1).toNat 40 ++ ns.flatMap fun n => head n ++ [41] := by
  have e : ∀ (l : List Int) (x : Str), (l.foldl txtStep x).cps.toList = x.cps.toList ++ l.flatMap fun n => head n ++ [41] := by
    intro l
    induction l with
    | nil => intro x; simp
    | cons a r ih => intro x; rw [List.foldl_cons, ih, step_list, List.flatMap_cons, List.append_assoc]
  unfold txtAll
  rw [e, mul_open]
theorem text_list {ms : List Int} (h7 : ms.length = 7) (i : Nat) : (textAt ms i).cps.toList = List.replicate (treesOf ms - 1).toNat 40 ++ heads (turnedAt ms i) := by
  have hl := turned_len h7 i
  have hne : turnedAt ms i ≠ [] := by intro h; rw [h] at hl; simp at hl
  unfold textAt
  have e := all_list (treesOf ms) (turnedAt ms i)
  rw [heads_cut _ hne, ← List.append_assoc] at e
  rw [cut_last (by rw [e, List.length_append]; simp), e, List.dropLast_concat]

theorem sgn_signs (n : Int) : ∀ c ∈ (sgn n).cps.toList, c ≠ 34 ∧ c ≠ 92 := by
  unfold sgn
  cases h : signL.find? fun p => p.2.1 = n with
  | none => intro c hc; exact nomatch hc
  | some p =>
    have hm := List.mem_of_find?_eq_some h
    exact (show ∀ p ∈ signL, ∀ c ∈ p.1.cps.toList, c ≠ 34 ∧ c ≠ 92 by decide +kernel) p hm
theorem balq_in : ∀ (s : List Nat) (r : List Nat) (b : Bool), (∀ c ∈ s, c ≠ 34) → balq (s ++ r) b = balq r b
  | [], _, _, _ => rfl
  | c :: s, r, b, h => by rw [List.cons_append, balq, if_neg (h c (.head _)), balq_in s r b fun x hx => h x (.tail _ hx)]
theorem unq_out : ∀ (s : List Nat) (r : List Nat), (∀ c ∈ s, c ≠ 34) → unq (s ++ r) false = s ++ unq r false
  | [], _, _ => rfl
  | c :: s, r, h => by rw [List.cons_append, unq, if_neg (h c (.head _)), unq_out s r fun x hx => h x (.tail _ hx)]; rfl
theorem unq_in : ∀ (s : List Nat) (r : List Nat), (∀ c ∈ s, c ≠ 34) → unq (s ++ r) true = unq r true
  | [], _, _ => rfl
  | c :: s, r, h => by rw [List.cons_append, unq, if_neg (h c (.head _)), if_pos rfl, unq_in s r fun x hx => h x (.tail _ hx)]
noncomputable def bare (n : Int) : List Nat := if n < 256 then [] else List.replicate (n - 256).toNat 40
theorem rep_ne (k : Nat) : ∀ c ∈ List.replicate k 40, c ≠ 34 := fun c hc => by rw [List.eq_of_mem_replicate hc]; decide
theorem head_bal (n : Int) (r : List Nat) : balq (head n ++ r) false = balq r false := by
  unfold head
  by_cases h : n < 256
  · rw [if_pos h, List.cons_append, List.append_assoc, balq, if_pos rfl, balq_in _ _ _ fun c hc => (sgn_signs n c hc).1]
    show balq (34 :: r) true = _
    rw [balq, if_pos rfl]; rfl
  · rw [if_neg h, balq_in _ _ _ (rep_ne _)]
theorem head_unq (n : Int) (r : List Nat) : unq (head n ++ r) false = bare n ++ unq r false := by
  unfold head bare
  by_cases h : n < 256
  · rw [if_pos h, if_pos h, List.cons_append, List.append_assoc, unq, if_pos rfl]
    show unq ((sgn n).cps.toList ++ ([34] ++ r)) true = _
    rw [unq_in _ _ fun c hc => (sgn_signs n c hc).1]
    show unq (34 :: r) true = _
    rw [unq, if_pos rfl]; rfl
  · rw [if_neg h, if_neg h, unq_out _ _ (rep_ne _)]
noncomputable def bares : List Int → List Nat
  | [] => []
  | [n] => bare n
  | n :: m :: r => bare n ++ 41 :: bares (m :: r)
theorem heads_bal : ∀ l : List Int, balq (heads l) false = true
  | [] => rfl
  | [n] => by rw [heads, ← List.append_nil (head n), head_bal]; rfl
  | n :: m :: r => by rw [heads, head_bal, balq, if_neg (by decide), heads_bal (m :: r)]
theorem heads_unq : ∀ l : List Int, unq (heads l) false = bares l
  | [] => rfl
  | [n] => by rw [heads, ← List.append_nil (head n), head_unq, bares]; simp [unq]
  | n :: m :: r => by rw [heads, head_unq, unq, if_neg (by decide), heads_unq (m :: r), bares]; rfl
theorem chk_opens : ∀ (k : Nat) (r : List Nat) (o : Int), chkGo (List.replicate k 40 ++ r) o = chkGo r (o + k)
  | 0, r, o => by simp
  | k + 1, r, o => by
    rw [List.replicate_succ, List.cons_append, chkGo, if_pos rfl, chk_opens k r, show o + 1 + (k : Int) = o + ((k + 1 : Nat) : Int) from by omega]
theorem bare_rep {n : Int} (h : Sym n) : ∃ k : Nat, bare n = List.replicate k 40 ∧ (k : Int) = (if 256 > n then 256 else n) - 257 + 1 := by
  unfold bare
  by_cases h5 : n < 256
  · exact ⟨0, by rw [if_pos h5]; rfl, by rw [if_pos h5]; omega⟩
  · exact ⟨(n - 256).toNat, by rw [if_neg h5], by rw [if_neg (by omega)]; omega⟩
theorem chk_bares : ∀ (l : List Int) (o : Int), (∀ n ∈ l, Sym n) → chkGo (bares l) o = runGo (stepsOf l) o
  | [], o, _ => rfl
  | [n], o, h => by
    obtain ⟨k, e, hk⟩ := bare_rep (h n (.head _))
    rw [bares, e, ← List.append_nil (List.replicate k 40), chk_opens, chkGo]
    show _ = (o + ((if 256 > n then 256 else n) - 257) + 1 == 0)
    rw [hk, Int.add_assoc]
  | n :: m :: r, o, h => by
    obtain ⟨k, e, hk⟩ := bare_rep (h n (.head _))
    rw [bares, e, chk_opens, chkGo, if_neg (by decide), if_pos rfl, chk_bares (m :: r) _ fun x hx => h x (.tail _ hx)]
    show _ = (if o + ((if 256 > n then 256 else n) - 257) < 0 then false else runGo (stepsOf (m :: r)) (o + ((if 256 > n then 256 else n) - 257)))
    rw [hk, show o + ((if 256 > n then 256 else n) - 257 + 1) - 1 = o + ((if 256 > n then 256 else n) - 257) from by omega]
theorem head_len (n : Int) (h : Sym n) : (head n).length ≤ 5 := by
  unfold head
  by_cases h5 : n < 256
  · have := sgn_len n
    have e : (sgn n).length = (sgn n).cps.toList.length := rfl
    rw [if_pos h5, List.length_cons, List.length_append, List.length_singleton]; omega
  · rw [if_neg h5, List.length_replicate]
    rcases h with h | h <;> omega
theorem heads_len : ∀ l : List Int, (∀ n ∈ l, Sym n) → (heads l).length ≤ 6 * l.length
  | [], _ => Nat.le_refl _
  | [n], h => by have := head_len n (h n (.head _)); rw [heads]; simp; omega
  | n :: m :: r, h => by
    have := head_len n (h n (.head _))
    have := heads_len (m :: r) fun x hx => h x (.tail _ hx)
    rw [heads, List.length_append, List.length_cons]; simp only [List.length_cons] at *; omega
theorem head_back (n : Int) : ∀ c ∈ head n, c ≠ 92 := by
  unfold head
  intro c hc
  by_cases h5 : n < 256
  · rw [if_pos h5] at hc
    rcases List.mem_cons.mp hc with rfl | hc
    · decide
    · rcases List.mem_append.mp hc with hc | hc
      · exact (sgn_signs n c hc).2
      · rw [List.mem_singleton.mp hc]; decide
  · rw [if_neg h5] at hc
    rw [List.eq_of_mem_replicate hc]; decide
theorem heads_back : ∀ l : List Int, ∀ c ∈ heads l, c ≠ 92
  | [], c, hc => nomatch hc
  | [n], c, hc => head_back n c hc
  | n :: m :: r, c, hc => by
    rw [heads] at hc
    rcases List.mem_append.mp hc with hc | hc
    · exact head_back n c hc
    · rcases List.mem_cons.mp hc with rfl | hc
      · decide
      · exact heads_back (m :: r) c hc
theorem noBack_of {x : Str} (h : ∀ c ∈ x.cps.toList, c ≠ 92) : NoBack x := fun i c hc => h c (by
  obtain ⟨hi, e⟩ := Array.getElem?_eq_some_iff.mp hc
  rw [← e]; exact Array.mem_def.mp (Array.getElem_mem hi))
theorem steps_turned (ms : List Int) (i : Nat) : stepsOf (turnedAt ms i) = (stepsOf ms).drop i ++ (stepsOf ms).take i := by
  simp only [stepsOf, turnedAt, List.map_append, List.map_drop, List.map_take]
section
variable {ms : List Int} (h7 : ms.length = 7) (hs : ∀ m ∈ ms, Sym m)
include h7 hs
theorem text_chars (i : Nat) : ∀ c ∈ (textAt ms i).cps.toList, c ≠ 92 := by
  intro c hc
  rw [text_list h7] at hc
  rcases List.mem_append.mp hc with hc | hc
  · rw [List.eq_of_mem_replicate hc]; decide
  · exact heads_back _ c hc
theorem text_bal (i : Nat) : balq (textAt ms i).cps.toList false = true := by
  rw [text_list h7, balq_in _ _ _ (rep_ne _)]; exact heads_bal _
theorem text_noBack' (i : Nat) : NoBack (textAt ms i) := noBack_of (text_chars h7 hs i)
theorem strip_noBack' (i : Nat) : NoBack (strip (textAt ms i)) := noBack_of fun c hc => by
  rw [strip_unq (text_bal h7 hs i)] at hc
  exact text_chars h7 hs i c (unq_sub _ _ c hc)
theorem text_len' (i : Nat) : (textAt ms i).length ≤ 1000 := by
  have e : (textAt ms i).length = (textAt ms i).cps.toList.length := rfl
  have h1 := heads_len (turnedAt ms i) (turned_sym hs i)
  have h2 := trees_room' h7 hs
  rw [turned_len h7] at h1
  rw [e, text_list h7, List.length_append, List.length_replicate]; omega
theorem told_begins' (i : Nat) (hi : i < 7) : chkGo (strip (textAt ms i)).cps.toList 0 = begins (stepsOf ms) (0 + (i : Int)) := by
  rw [strip_unq (text_bal h7 hs i), text_list h7, unq_out _ _ (rep_ne _), heads_unq, chk_opens, chk_bares _ _ (turned_sym hs i), steps_turned, ← run_begins (steps_len h7) hi]
  congr 1
  rw [treesOf]
  by_cases h : -(stepsOf ms).sum - 1 < 0
  · rw [if_pos h]; omega
  · rw [if_neg h]; omega
end
end Mine

-- part SrFacts
namespace Mine
open PySem
section
variable {ms : List Int} (h7 : ms.length = 7) (hs : ∀ m ∈ ms, Sym m)
include h7 hs
theorem trees_room : -20 ≤ treesOf ms ∧ treesOf ms ≤ 20 := trees_room' h7 hs
theorem text_noBack (i : Nat) (_hi : i < 7) : NoBack (textAt ms i) := text_noBack' h7 hs i
theorem strip_noBack (i : Nat) (_hi : i < 7) : NoBack (strip (textAt ms i)) := strip_noBack' h7 hs i
theorem text_len (i : Nat) (_hi : i < 7) : (textAt ms i).length ≤ 1000 := text_len' h7 hs i
theorem told_begins (i : Nat) (hi : i < 7) : chkGo (strip (textAt ms i)).cps.toList 0 = begins (stepsOf ms) (0 + (i : Int)) := told_begins' h7 hs i hi
theorem outl_rows (i : Nat) (hi : i < 7) (hb : begins (stepsOf ms) (0 + (i : Int)) = true) : (outAll (turnedAt ms i)).2 = (rowsL ms).drop i ++ (rowsL ms).take i := outl_rows' h7 hs i hi hb
theorem rowsL_ok : ∀ x ∈ rowsL ms, PyData.strOk x = true := rowsL_ok' h7 hs
theorem taken_all : takenAt ms 7 = if 0 > treesOf ms then 0 else treesOf ms := taken_all' h7 hs
end
end Mine

-- part SrLaw
namespace Mine
open PySem PySem.W PySem.Spec PySem.Calls PyProof.Rows
local macro_rules | `(tactic| walk_at $s:str) => `(tactic| k_extra $s)
theorem pick_from (l : List Value) (i : Nat) : (slicePick l.toArray (some (0 + (i : Int))) none none).toList = l.drop i := by
  have e : sliceBounds (some (0 + (i : Int))) none none l.toArray.size = (((min i l.toArray.size : Nat) : Int), ((l.toArray.size : Nat) : Int), 1) := by
    simp only [sliceBounds, Option.getD_none, show (1 : Int) > 0 by decide, if_true, if_neg (show ¬ (0 + (i : Int) < 0) by omega)]
    congr 1
    omega
  rw [kmk_pick_nat _ e]
  simp only [List.size_toArray]
  rw [kmk_drop_min]
  exact List.take_of_length_le (by rw [List.length_drop]; omega)
theorem pick_upto (l : List Value) (i : Nat) : (slicePick l.toArray none (some (0 + (i : Int))) none).toList = l.take i := by
  have e : sliceBounds none (some (0 + (i : Int))) none l.toArray.size = (((0 : Nat) : Int), ((min i l.toArray.size : Nat) : Int), 1) := by
    simp only [sliceBounds, Option.getD_none, show (1 : Int) > 0 by decide, if_true, if_neg (show ¬ (0 + (i : Int) < 0) by omega)]
    congr 1
    congr 1
    omega
  rw [kmk_pick_nat _ e]
  simp only [List.size_toArray, List.drop_zero, Nat.sub_zero]
  rw [kmk_take_min]
inductive LawA (lr d lrow : Addr) (rs : List Value) (nr : Nat) (od : Obj) (ms : List Int) (ts : List (Str × Tok)) (nt : Nat) (ys : List Value) (i : Nat) (m : Str → Option Value) (news : List (Addr × Obj)) : Prop
  | mk (ls la : Addr) (oa : Obj) (tc tt : Tok) (z1 : m (Str.ofString "ring") = some (.ref lr)) (z2 : m (Str.ofString "signs") = some (.ref d)) (z3 : m (Str.ofString "steps") = some (.ref ls)) (z4 : m (Str.ofString "trees") = some (.int (treesOf ms) tt)) (z5 : m (Str.ofString "rows") = some (.ref lrow)) (z6 : m (Str.ofString "taken") = some (.int (takenAt ms i) tc)) (z7 : news = [(lrow, W.listOf (strValues ts).toArray nt), (la, oa), (ls, W.listOf ys.toArray ys.length), (d, od), (lr, W.listOf rs.toArray nr)]) : LawA lr d lrow rs nr od ms ts nt ys i m news
set_option maxHeartbeats 4000000 in
theorem law_holds : PySem.Challenge.rw_sr0039_01.Holds := by
  refine hd ?_
  k_fill
  k_with_none
  w_top off
  intro w s₀ s₁ mg mb G Y fa o pm cd doc dV kV ho hd hcd hD hmg hg args vals as hpre hlay hrd hwl hlo
  have KX := kIn_of Y
  have X := (Ground.X G).1
  have V := (Ground.X G).2
  refine Ground.open G ?_
  intro T B D TE TW
  try (refine guard_noD D (by decide +kernel) ?_; clear D)
  obtain ⟨_, _, M⟩ := bmod_of_top T
  have TA := at_of_top T
  try (obtain ⟨_, _, he, B0⟩ := based_of_top T rfl hmg ho hd; have he' : cd = _ := he; subst he'; clear he)
  clear hmg
  wrow_args hpre hlay hrd hwl hlo
  rename_i ns hs hlay0 hLy hrr hl2 a4 a3 l vs as hLs ra wl r0 hI hrw hlen ht
  first | refine callC_kw (enter_call ?_) | refine enter_call ?_ | refine callC_kw (enter_callW ?_) | refine enter_callW ?_ | w_how
  w_top on
  have K0 := below_caller (Top.heap T)
  w_call any ho hd hcd hD T F
  clear hd TA
  k_drop
  have hn63 : ns.length ≤ 63 := by omega
  have hbare : AllBare s₁.gens := AllBare.of_eq hg
  have K1 : Below callerA s₁.heap [] s₁.heap := K0
  show wpAny _ _ _ _ _ _
  refine wpAny_noRaise ?_
  try clear hcd
  try clear hD
  try clear GL
  try clear X
  try clear V
  try clear B
  try clear TE
  try clear TW
  try clear M
  try clear ho
  try clear Y
  try clear G
  k_with "pyIter ref" => (refine stop ?_)
  k_with "call ref" => (refine stop ?_)
  k_with "subscriptTail Name Slice ref ref" => (refine stop ?_)
  k_with "exec For Name Call cons nil" => (refine stop ?_)
  k_fold
  k_steps
  unfold Stop
  k_dflt (refine' Spec.use (ring_spec w l vs ns hn63) K1 ?kF1 KX ?kN1 T ?kK1 ?kd1 ?ku1 ?kb1 ?kp1 ?_)
  case kK1 => exact rfl
  case kb1 => first | exact hbare | assumption
  case kF1 => k_asm
  case kN1 => k_asm
  case kd1 => ktr_room
  case ku1 => ktr_units
  case kp1 => exact ⟨hLs.at fun o e => F.keep _ o e, hI⟩
  rintro v h' tk' g' news' ⟨lr, rs, nr, ms, rfl, rfl, hrs, hm7, hms⟩ F1 N1 _ hb1 _
  simp only [List.cons_append, List.nil_append] at N1
  clear hbare
  k_steps
  unfold Stop
  k_dflt (refine' Spec.use (signs_spec w) K1 ?kF2 KX ?kN2 T ?kK2 ?kd2 ?ku2 ?kb2 ?kp2 ?_)
  case kK2 => exact rfl
  case kb2 => first | exact hbare | assumption
  case kF2 => k_asm
  case kN2 => k_asm
  case kd2 => ktr_room
  case ku2 => ktr_units
  case kp2 => exact trivial
  rintro v h' tk' g' news' ⟨d, od, kvs, rfl, rfl, hdk, hsg⟩ F2 N2 hoff2 hb2 _
  simp only [List.cons_append, List.nil_append] at N2
  clear hb1
  k_steps
  rename List Value => ys
  rename IntsAre ys (List.map _ ms) => hys
  rename Fr _ _ _ _ => F3
  rename News _ _ _ _ => N3
  change IntsAre _ (stepsOf ms) at hys
  change News _ _ _ [(_, W.listOf (List.toArray _) _), _, _] at N3
  have hs7 : (stepsOf ms).length = 7 := by rw [stepsOf, List.length_map]; exact hm7
  unfold Stop
  k_dflt (refine' Spec.use (rows_spec w lr _ d rs ys ms (stepsOf ms) kvs hm7 hs7 hms hsg) K1 ?kF3 KX ?kN3 T ?kK3 ?kd3 ?ku3 ?kb3 ?kp3 ?_)
  case kK3 => exact rfl
  case kb3 => assumption
  case kF3 => k_asm
  case kN3 => k_asm
  case kd3 => ktr_room
  case ku3 => ktr_units
  case kp3 => exact ⟨⟨_, (N3 _ (.tail _ (.tail _ (.head _)))).1, rfl, _, rfl⟩, hrs, ⟨_, (N3 _ (.head _)).1, rfl, _, rfl⟩, hys, kda_dict N3 (.tail _ (.head _)) hdk⟩
  rintro v h' tk' g' news' ⟨lrow, la, ts, nt, oa, rfl, rfl, hts⟩ F4 N4 hoff4 hb4 _
  simp only [List.cons_append, List.nil_append] at N4
  clear hb2
  k_steps
  unfold Stop
  refine wpAny_For ?_ (fun _ => rfl)
  k_steps
  unfold Stop
  k_dflt (refine' range_bare (n := 7) (LawA lr d lrow rs nr od ms ts nt ys) ?rh ?rr ?rs ?rn ?rx ?rk ?rb ?rF ?rN ?rj ?rt ?rd)
  case rh => exact rfl
  case rr => k_asm
  case rs => decide
  case rn => decide
  case rx => exact rfl
  case rk => exact rfl
  case rb => exact hb4
  case rF => k_asm
  case rN => k_asm
  case rj => exact ⟨_, _, _, _, _, rfl, rfl, rfl, rfl, rfl, rfl, rfl⟩
  case rt =>
    rintro i t m₁ news₁ h5 tk5 G q hi hG hoffq ⟨ls, la, oa, tc, tt, e1, e2, e3, e4, e5, e6, rfl⟩ F5 N5
    rw [put_self e1, put_self e2, put_self e3, put_self e4, put_self e5, put_self e6] at F5
    simp only [List.cons_append, List.nil_append] at N5
    clear hb4
    k_fold
    have h0i : (0 : Int) ≤ 0 + (i : Int) := by omega
    k_steps
    unfold Stop
    k_dflt (refine' kmk_slice_ints ?sFA ?sNA ?slA ?spA ?sqA hrs (kmk_from (x := 0 + (i : Int)) hrs h0i) rfl ?_ ?ssA ?stA ?szA)
    case sFA => k_asm
    case sNA => k_asm
    case slA => kmk_list
    case spA => kmk_part
    case sqA => kmk_part
    case ssA => with_unfolding_all rfl
    case stA => kmk_pure
    case szA => exact ints_fit hrs (Nat.le_of_eq hm7)
    intro D1 w1 h' F' N' l1 hI1 _ _
    (try k_lt l1)
    (try k_sweep)
    k_steps
    unfold Stop
    k_dflt (refine' kmk_slice_ints ?sFB ?sNB ?slB ?spB ?sqB hrs (kmk_upto (y := 0 + (i : Int)) hrs h0i) rfl ?_ ?ssB ?stB ?szB)
    case sFB => k_asm
    case sNB => k_asm
    case slB => kmk_list
    case spB => kmk_part
    case sqB => kmk_part
    case ssB => with_unfolding_all rfl
    case stB => kmk_pure
    case szB => exact ints_fit hrs (Nat.le_of_eq hm7)
    intro D2 w2 h' F' N' l1 hI2 _ _
    (try k_lt l1)
    (try k_sweep)
    k_steps
    rename List Value => wt
    rename IntsAre wt _ => hwt
    rename News _ _ _ _ => N6
    have e0 : (0 + (i : Int)).toNat = i := by omega
    rw [e0] at hwt
    change IntsAre wt (turnedAt ms i) at hwt
    have ht7 := turned_len hm7 i
    have hts7 := turned_sym hms i
    unfold Stop
    k_dflt (refine' Spec.use (octets_spec w _ wt (turnedAt ms i) (by omega) hts7) K1 ?kF6 KX ?kN6 T ?kK6 ?kd6 ?ku6 ?kb6 ?kp6 ?_)
    case kK6 => exact rfl
    case kb6 => assumption
    case kF6 => k_asm
    case kN6 => k_asm
    case kd6 => ktr_room
    case ku6 => ktr_units
    case kp6 => exact ⟨⟨_, (N6 _ (.head _)).1, rfl, _, rfl⟩, hwt⟩
    rintro v h' tk' g' news' ⟨lo, uo, no, rfl, rfl, huo⟩ F7 N7 hoff7 hb7 _
    simp only [List.cons_append, List.nil_append] at N7
    clear hG
    k_steps
    unfold Stop
    k_dflt (refine' read_spec w lo uo (turnedAt ms i) (by omega) hts7 _ _ _ _ _ _ _ _ _ _ _ _ _ _ _ _ _ _ _ K1 ?uF ?uN KX T ?uk ?ud ?uu ?ul huo ?_)
    case uk => exact rfl
    case uF => k_asm
    case uN => k_asm
    case ud => ktr_room
    case uu => ktr_units
    case ul => exact ⟨_, (N7 _ (.head _)).1, rfl, _, rfl⟩
    intro h8 tk8 lrd us8 nr8 F8 N8 hus8 hne8
    clear F7 N7 N6
    k_steps
    rename News _ _ _ _ => N9
    replace N9 : News _ _ _ ((lrd, W.listOf us8.toArray nr8) :: [(lrow, W.listOf (strValues ts).toArray nt), (la, oa), (ls, W.listOf ys.toArray ys.length), (d, od), (lr, W.listOf rs.toArray nr), q]) :=
      News.sub N9 (fun p hp => (List.mem_cons.mp hp).elim (fun h => h ▸ List.Mem.head _) fun h => List.mem_of_mem_drop (i := 5) h)
    unfold Stop
    k_dflt (refine' Spec.use (text_spec w lrd d us8 (turnedAt ms i) kvs (treesOf ms) tt (Nat.le_of_eq ht7) hts7 (trees_room hm7 hms) hsg) K1 ?kF9 KX ?kN9 T ?kK9 ?kd9 ?ku9 ?kb9 ?kp9 ?_)
    case kK9 => exact rfl
    case kb9 => assumption
    case kF9 => k_asm
    case kN9 => k_asm
    case kd9 => ktr_room
    case ku9 => ktr_units
    case kp9 => exact ⟨⟨_, (N9 _ (.head _)).1, rfl, _, rfl⟩, hus8, kda_dict N9 (by repeat (first | exact List.Mem.head _ | apply List.Mem.tail)) hdk⟩
    rintro v h' tk' g' news' ⟨tx, rfl⟩ F10 N10 _ hb10 _
    replace N10 := News.sub N10 (fun p hp => List.mem_append_right _ hp)
    clear hb7 N9
    k_steps
    unfold Stop
    k_dflt (refine' Spec.use (check_spec w (textAt ms i) (strip (textAt ms i)) tx (strip_noBack hm7 hms i hi) (strip_spec w _ tx (text_noBack hm7 hms i hi) (text_len hm7 hms i hi))) K1 ?kF10 KX ?kN10 T ?kK10 ?kd10 ?ku10 ?kb10 ?kp10 ?_)
    case kK10 => exact rfl
    case kb10 => assumption
    case kF10 => k_asm
    case kN10 => k_asm
    case kd10 => ktr_room
    case ku10 => ktr_units
    case kp10 => exact trivial
    rintro v h' tk' g' news' hv F11 N11 _ hb11 _
    replace N11 := News.sub N11 (fun p hp => List.mem_append_right _ hp)
    rw [told_begins hm7 hms i hi] at hv
    clear hb10
    generalize hbeg : begins (stepsOf ms) (0 + (i : Int)) = b at hv
    subst hv
    k_steps
    rename News _ _ _ _ => N12
    rename IntsAre ys _ => hys
    unfold Stop
    k_dflt (refine' Spec.use (begins_spec w ls ys (stepsOf ms) (0 + (i : Int)) t hs7) K1 ?kF11 KX ?kN11 T ?kK11 ?kd11 ?ku11 ?kb11 ?kp11 ?_)
    case kK11 => exact rfl
    case kb11 => assumption
    case kF11 => k_asm
    case kN11 => k_asm
    case kd11 => ktr_room
    case ku11 => ktr_units
    case kp11 => exact ⟨⟨_, (N12 (ls, _) (by repeat (first | exact List.Mem.head _ | apply List.Mem.tail))).1, rfl, _, rfl⟩, hys⟩
    rintro v h' tk' g' news' hv F13 N13 _ hb13 _
    replace N13 := News.sub N13 (fun p hp => List.mem_append_right _ hp)
    rw [hbeg] at hv
    subst hv
    clear hb11 N12
    k_steps
    · rename (b != b) = true => hz
      exact absurd hz (by cases b <;> decide)
    · rename b = true => hbt
      rw [hbt] at hbeg
      rename News _ _ _ _ => N14
      unfold Stop
      k_dflt (refine' Spec.use (outl_spec w lrd d us8 (turnedAt ms i) kvs (Nat.le_of_eq ht7) hts7 hsg) K1 ?kF13 KX ?kN13 T ?kK13 ?kd13 ?ku13 ?kb13 ?kp13 ?_)
      case kK13 => exact rfl
      case kb13 => assumption
      case kF13 => k_asm
      case kN13 => k_asm
      case kd13 => ktr_room
      case ku13 => ktr_units
      case kp13 => exact ⟨⟨_, (N14 _ (.head _)).1, rfl, _, rfl⟩, hus8, kda_dict N14 (by repeat (first | exact List.Mem.head _ | apply List.Mem.tail)) hdk⟩
      rintro v h' tk' g' news' ⟨lout, lw, tso, nto, ow, rfl, rfl, htso⟩ F15 N15 _ hb15 _
      simp only [List.cons_append, List.nil_append] at N15
      rw [outl_rows hm7 hms i hi hbeg] at htso
      clear hb13 N14
      have hts7' : ts.length = 7 := by have := congrArg List.length hts; simpa using this
      k_with "compareOp NotEq ref ref" => (refine stop ?_)
      k_steps
      unfold Stop
      k_dflt (refine' kmk_slice_lit ?sFC ?sNC ?slC ?spC ?sqC (pick_from (strValues ts) i) ?_ ?ssC ?stC ?szC)
      case sFC => k_asm
      case sNC => k_asm
      case slC => kmk_list
      case spC => kmk_part
      case sqC => kmk_part
      case ssC => with_unfolding_all rfl
      case stC => kmk_pure
      case szC => exact strv_size (n := 7) (Nat.le_of_eq hts7') (by decide)
      intro D3 h' F' N' l1
      (try k_lt l1)
      (try k_sweep)
      k_steps
      unfold Stop
      k_dflt (refine' kmk_slice_lit ?sFD ?sND ?slD ?spD ?sqD (pick_upto (strValues ts) i) ?_ ?ssD ?stD ?szD)
      case sFD => k_asm
      case sND => k_asm
      case slD => kmk_list
      case spD => kmk_part
      case sqD => kmk_part
      case ssD => with_unfolding_all rfl
      case stD => kmk_pure
      case szD => exact strv_size (n := 7) (Nat.le_of_eq hts7') (by decide)
      intro D4 h' F' N' l1
      (try k_lt l1)
      (try k_sweep)
      k_steps
      k_dflt (refine' kmk_add_lit ?aF ?aN ?aa ?ab (zs := (strValues ts).drop i ++ (strValues ts).take i) rfl ?_ ?az)
      case aF => k_asm
      case aN => k_asm
      case aa => kmk_list
      case ab => kmk_list
      case az => simp only [List.length_drop, List.length_take, sizeLine_eq, strValues, List.length_map]; omega
      intro D5 h' F' N' l1
      (try k_lt l1)
      (try k_sweep)
      k_steps
      have htt : (ts.drop i ++ ts.take i).map (·.1) = (rowsL ms).drop i ++ (rowsL ms).take i := by rw [List.map_append, List.map_drop, List.map_take, hts]; rfl
      have hzz : (strValues ts).drop i ++ (strValues ts).take i = strValues (ts.drop i ++ ts.take i) := by simp only [strValues, List.map_append, List.map_drop, List.map_take]
      rw [hzz] at N'
      unfold Stop
      have hrok := rowsL_ok hm7 hms
      k_dflt (refine' ne_strs (xs := tso) (ys := ts.drop i ++ ts.take i) ?eA ?eB ?eX ?eY ?eU ?_)
      case eA => kmk_list
      case eB => kmk_list
      case eX => rw [htso]; exact fun x hx => (List.mem_append.mp hx).elim (fun h => hrok x (List.mem_of_mem_drop h)) fun h => hrok x (List.mem_of_mem_take h)
      case eY => rw [htt]; exact fun x hx => (List.mem_append.mp hx).elim (fun h => hrok x (List.mem_of_mem_drop h)) fun h => hrok x (List.mem_of_mem_take h)
      case eU => ktr_units
      rw [htso, htt, decide_eq_true rfl, Bool.not_true]
      k_steps
      have etk : takenAt ms (i + 1) = takenAt ms i + 1 := by rw [takenAt, hbeg]; rfl
      refine' turn_end [(lrow, W.listOf (strValues ts).toArray nt), (la, oa), (ls, W.listOf ys.toArray ys.length), (d, od), (lr, W.listOf rs.toArray nr)] ?gbF ?gFF ?gNF ?gsF ?gqF ?gjF
      case gbF => assumption
      case gFF => k_asm
      case gNF => k_asm
      case gsF => exact fun p hp => List.mem_of_mem_drop (i := 6) (show p ∈ List.drop 6 _ from hp)
      case gqF => exact hoffq
      case gjF => exact ⟨ls, la, oa, _, _, rfl, rfl, rfl, rfl, rfl, by rw [etk]; rfl, rfl⟩
    · rename b = false => hbt
      rw [hbt] at hbeg
      have etk : takenAt ms (i + 1) = takenAt ms i := by rw [takenAt, hbeg]; rfl
      refine' turn_end [(lrow, W.listOf (strValues ts).toArray nt), (la, oa), (ls, W.listOf ys.toArray ys.length), (d, od), (lr, W.listOf rs.toArray nr)] ?ebF ?eFF ?eNF ?esF ?eqF ?ejF
      case ebF => assumption
      case eFF => k_asm
      case eNF => k_asm
      case esF => exact fun p hp => List.mem_of_mem_drop (i := 1) (show p ∈ List.drop 1 _ from hp)
      case eqF => exact hoffq
      case ejF => exact ⟨ls, la, oa, _, _, rfl, rfl, rfl, rfl, rfl, by rw [etk]; rfl, rfl⟩
  case rd =>
    rintro m₁ news₁ h5 tk5 G ⟨ls, la, oa, tc, tt, e1, e2, e3, e4, e5, e6, rfl⟩ F5 N5 hG
    rw [put_self e1, put_self e2, put_self e3, put_self e4, put_self e5, put_self e6] at F5
    k_with_none
    k_steps
    rename Fr _ _ _ _ => F9
    rw [taken_all hm7 hms, beq_self_eq_true]
    show GoodWG _ _ _ _ _ _ _
    exact ⟨.inl ⟨_, _, [], rfl, fun _ => rfl, ReadsW.bool true, by first | rfl | wrow_post, fun _ => ⟨List.nodup_nil, fun _ hm => nomatch hm⟩⟩, .of_keep (fun b o e => F9.keep b o e), rfl, hG⟩
end Mine

theorem PySem.Challenge.cw_sr0039_01_holds : PySem.Challenge.rw_sr0039_01.Holds :=
  Mine.law_holds
