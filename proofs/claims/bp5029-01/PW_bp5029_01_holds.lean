import PyProof.Rows.All
import Wide.All
import OpenK.AllK
import Wide.FinOn
import PySem.Challenge.RW_bp5029_01
set_option Elab.async false
set_option maxRecDepth 100000
namespace Mine
open PySem PySem.W PyProof.Rows
set_option maxRecDepth 100000 in
set_option maxHeartbeats 8000000 in
open_top hd for PySem.Challenge.rw_bp5029_01
end Mine
namespace Mine
open PySem PySem.W PyProof.Rows PySem.Calls PySem.Spec

/-- what a call of the text's own def does: its footprint ahead, what it hands back and the footprint behind; all else stands -/
def Tell (w : World) (f : Addr) (vs : List Value) (room : Nat) (pre : List (Addr × Obj)) (post : Value → List (Addr × Obj) → Prop) : Prop :=
  ∀ (p : Program) (loose : List Str) (mean : ExcName → Option Value) (mg mb : Str → Option Value) (dp un : Nat) (gd : Option (List Code)) (cn : Str) (cs : Scope) (a : Addr) (ccd : Value) (cl : List (Str × Addr)) (outer : List Env) (A₀ : Around) (base h₀ : Heap) (L : Addr) (m : Str → Option Value) (s : Shared)
    (Q E : Value → Shared → Prop),
    Below A₀ base outer h₀ → Fr h₀ L s.heap m → (hd.heap_39 w.params).In h₀ → News h₀ L s.heap pre → Top p loose mean mg mb h₀ → cs.kind = .function → dp + room ≤ 400 → un + 30 * room ≤ 4000 →
    (∀ r news' h' tk', Fr h₀ L h' m → News h₀ L h' news' → (∀ b o, b ∉ pre.map (·.1) → s.heap.get? b = some o → h'.get? b = some o) → (∀ q ∈ news', q.1 ∈ pre.map (·.1) ∨ s.heap.get? q.1 = none) → post r news' → Q r { s with heap := h', toks := tk' }) →
    wpAny (model PySem.Challenge.rw_bp5029_01.row.prog w) (ktrTop dp un gd cn cs L a ccd cl outer) (call (.ref f) vs) Q E s

theorem leaveT {h₀ H g : Heap} {L L' : Addr} {adr : List Addr} {m m' : Str → Option Value} {news' : List (Addr × Obj)} {R : Result → Shared → Prop} {v : Value} {s' : Shared} (F' : Fr g L' s'.heap m') (N' : News g L' s'.heap news') (G : GSub H g adr)
    (k : Fr h₀ L s'.heap m → News h₀ L s'.heap news' → (∀ b o, b ∉ adr → H.get? b = some o → s'.heap.get? b = some o) → (∀ q ∈ news', q.1 ∈ adr ∨ H.get? q.1 = none) → R (.ok (.ret v)) s') : LeaveK h₀ L m g R v s' :=
  ⟨L', m', news', F', N', fun F N => k F N (fun b o hb e => F'.keep b o (G b o e hb)) fun q hq => by
    by_cases h : q.1 ∈ adr
    · exact .inl h
    · refine .inr ?_
      cases e : H.get? q.1 with
      | none => rfl
      | some o => have := (N' q hq).2.2; rw [G _ _ e h] at this; cases this⟩

theorem ground_sub (H : Heap) (adr : List Addr) : GSub H (hideAll H adr) adr := fun _ _ e n => hideAll_get adr e n
section
variable {prog : Program} {w : World} {A₀ A : Around} {s : Shared} {base h₀ : Heap} {outer : List Env} {L : Addr} {m : Str → Option Value} {env : Env} {news : List (Addr × Obj)} {K : Frag} {p : Program} {loose : List Str} {mean : ExcName → Option Value} {mg mb : Str → Option Value}
/-- a call of a def whose locals are captured, and what it leaves alone -/
theorem code_defCG {R : Result → Shared → Prop} {name qual : Str} {params : Arguments} {body : List Stmt} {scope : Scope} {dV kV doc pm cdv ct oc : Value} {an od : Option Addr} {osl : Array (Option Value)} {f : Addr} {args : Args} {binds : List (Str × Value)}
    (B : Below A₀ base outer h₀) (F : Fr h₀ L s.heap m) (X₀ : K.In h₀) (N : News h₀ L s.heap news) (T : Top p loose mean mg mb h₀) (hA : A.frames = some (env :: outer)) (hf : env.frame = some L) (hke : env.scope.kind = .function)
    (ho : K.lookup f = some ⟨oc, od, .func (fnOf name qual params body scope dV kV doc pm an cdv ct), osl⟩) (hcd : codeIn K cdv qual = true) (hroom : A.depth < recursionLimit)
    (hbind : BindsTo s (fnOf name qual params body scope dV kV doc pm an cdv ct) args binds) (hkind : (binds.all fun y => scope.names.lookup y.1 == some .local || scope.names.lookup y.1 == some .cell) = true)
    (hnd : ((cellsFrom 0 scope.names []).map (·.1)).Nodup)
    (h : ∀ g L' h₁ tk cells, Fr h₀ L g m → Fr g L' h₁ (bindL (envOfC qual scope L' f cdv).kindOf binds fun _ => none) → News g L' h₁ (cells ++ news) →
      CellsAre (bindC (envOfC qual scope L' f cdv).kindOf binds fun _ => none) (cellsFrom (L' + 1) scope.names []) cells → Below A base (env :: outer) g → K.In g → Top p loose mean mg mb g → (∀ p ∈ news, p.1 < L') → GSub s.heap g (news.map (·.1)) →
      wpAny (model prog w) (A.deeper (envOfC qual scope L' f cdv)) (execs body (envOfC qual scope L' f cdv))
        (fun fl s' => LeaveK h₀ L m g R (match fl with | .ret v => v | _ => .none) s')
        (fun e s' => wpAny (model prog w) (A.deeper (envOfC qual scope L' f cdv)) (leaving (envOfC qual scope L' f cdv) e) (fun _ s'' => R (.error e) s'') (fun e' s'' => R (.error e') s'') s')
        { s with heap := h₁, toks := tk })
    (hco : scope.isCoroutine = false) (hgen : scope.isGenerator = false) (hk : scope.kind = .function) : codeAny (model prog w) A (.call (.ref f) args) R s := by
  obtain ⟨FG, BG, st, lv⟩ := groundX (R := R) B F N hA hf hke
  have XH := X₀.keeps F.keep
  refine codeAny_call_function hroom (XH _ _ ho) rfl hco hgen rfl (codeRec_of XH hcd) (hbind _ _ _ _ (wpAny_newFunctionEnv_cells hk (kindsX hkind _) fun env' he s' x => ?_))
  subst he
  obtain ⟨h₁, tk, rfl, _⟩ := x.done
  have up := x.toInCall.keep
  refine ⟨(T.nolimit.keeps F.keep).keeps up, codeAny_func ?_⟩
  have nd : ∀ c n, (n, c) ∈ cellsFrom (s.heap.objs.size + 1) scope.names [] → (cellsFrom (s.heap.objs.size + 1) scope.names []).lookup n = some c := fun c n hm =>
    lookup_of_mem_nodup (cellsFrom_names scope.names 0 (s.heap.objs.size + 1) [] [] rfl ▸ hnd) hm
  obtain ⟨cells, NC, Y⟩ := Cl.news (h₀ := s.heap) (Nat.le_refl _) fun n c hm => ⟨x.cell n c (nd c n hm), x.above n c hm⟩
  have old : ∀ q ∈ news, q.1 < s.heap.objs.size := fun q hq => Heap.lt_size (N q hq).1
  have N₁ : News (hideAll s.heap (news.map (·.1))) s.heap.objs.size h₁ (cells ++ news) := fun q hq => (List.mem_append.mp hq).elim
    (fun hc => ⟨(NC q hc).1, (NC q hc).2.1, by
      cases e : (hideAll s.heap (news.map (·.1))).get? q.1 with
      | none => rfl
      | some o => exact absurd (of_hideAll _ e) (by rw [(NC q hc).2.2]; exact fun z => nomatch z)⟩)
    fun hn => ⟨up _ _ (N q hn).1, Nat.ne_of_lt (old q hn), hideAll_none _ (List.mem_map_of_mem hn)⟩
  have F₁ : Fr (hideAll s.heap (news.map (·.1))) s.heap.objs.size h₁ (bindL (envOfC qual scope s.heap.objs.size f cdv).kindOf binds fun _ => none) := ⟨x.toInCall.ns, fun b o e => up b o (of_hideAll _ e), Nat.le_of_eq (hideAll_size _ _)⟩
  exact wpAny_mono (h _ _ h₁ tk cells FG F₁ N₁ Y BG (X₀.keeps st) (T.keeps st) old (ground_sub _ _)) (fun fl s' hl => lv _ _ hl) fun _ _ y => y
end

section
variable {prog : Program} {w : World} {A : Around} {E : Value → Shared → Prop} {s : Shared} {h₀ : Heap} {L D : Addr} {m : Str → Option Value} {news news' : List (Addr × Obj)} {n : Nat}
theorem pop0 {y : Value} {q : List Value} {u : Tok} {Q : Value → Shared → Prop} (F : Fr h₀ L s.heap m) (N : News h₀ L s.heap news) (U : Upd D (listOf (y :: q).toArray n) (listOf q.toArray (n + 1)) news news')
    (hz : (y :: q).length ≤ 1000) (h : ∀ h', Fr h₀ L h' m → News h₀ L h' news' → Q y { s with heap := h' }) : wpAny (model prog w) A (call (.builtin "list.pop") [.ref D, .int 0 u]) Q E s :=
  kl_popAt (k := 0) (p := []) (q := q) (y := y) F N rfl (by unfold seqIndex?; simp) rfl U (by rw [sizeLine_eq]; simp only [List.length_cons] at hz ⊢; omega) h
end

def Dig (ds : List Value) : Prop := (∃ ns, IntsAre ds ns) ∧ ds.length ≤ 48
theorem Dig.nil : Dig [] := ⟨⟨_, .nil⟩, by simp⟩
theorem Dig.tail {v : Value} {r : List Value} (h : Dig (v :: r)) : Dig r := by
  obtain ⟨⟨ns, hi⟩, hl⟩ := h
  cases hi with
  | cons _ _ h => exact ⟨⟨_, h⟩, by simp only [List.length_cons] at hl; omega⟩
theorem Dig.head {v : Value} {r : List Value} (h : Dig (v :: r)) : ∃ z t, v = .int z t := by
  obtain ⟨⟨ns, hi⟩, hl⟩ := h
  cases hi with
  | cons _ _ h => exact ⟨_, _, rfl⟩

section
variable {w : World} {f : Addr} {vs : List Value} {room : Nat} {pre news : List (Addr × Obj)} {post : Value → List (Addr × Obj) → Prop} {p : Program} {loose : List Str} {mean : ExcName → Option Value} {mg mb : Str → Option Value} {dp un : Nat} {gd : Option (List Code)} {cn : Str} {cs : Scope} {a : Addr} {ccd : Value} {cl : List (Str × Addr)} {outer : List Env} {A₀ : Around} {base h₀ : Heap} {L : Addr} {m : Str → Option Value} {s : Shared} {Q E : Value → Shared → Prop}
/-- a contract at a call, the rest of the caller's ledger carried along -/
theorem tell_use (R : List (Addr × Obj)) (C : Tell w f vs room pre post) (B : Below A₀ base outer h₀) (F : Fr h₀ L s.heap m) (X : (hd.heap_39 w.params).In h₀) (N : News h₀ L s.heap news) (T : Top p loose mean mg mb h₀) (hk : cs.kind = .function)
    (hp : ∀ q ∈ pre, q ∈ news) (hR : ∀ q ∈ R, q ∈ news) (hRd : ∀ q ∈ R, q.1 ∉ pre.map (·.1)) (hd : dp + room ≤ 400) (hu : un + 30 * room ≤ 4000)
    (ret : ∀ r news' h' tk', Fr h₀ L h' m → News h₀ L h' (news' ++ R) → (∀ b o, b ∉ pre.map (·.1) → s.heap.get? b = some o → h'.get? b = some o) → (∀ q ∈ news', q.1 ∈ pre.map (·.1) ∨ s.heap.get? q.1 = none) →
      (∀ q ∈ news', ∀ r ∈ R, q.1 ≠ r.1) → post r news' → Q r { s with heap := h', toks := tk' }) :
    wpAny (model PySem.Challenge.rw_bp5029_01.row.prog w) (ktrTop dp un gd cn cs L a ccd cl outer) (call (.ref f) vs) Q E s :=
  C _ _ _ _ _ _ _ _ _ _ _ _ _ _ _ _ _ _ _ _ _ _ B F X (fun q hq => N q (hp q hq)) T hk hd hu fun r news' h' tk' F' N' hk' hf' hpost =>
    ret r news' h' tk' F' (fun q hq => (List.mem_append.mp hq).elim (N' q) fun h => ⟨hk' _ _ (hRd q h) (N q (hR q h)).1, (N q (hR q h)).2⟩) hk' hf'
      (fun q hq r hr e => (hf' q hq).elim (fun z => hRd r hr (e ▸ z)) fun z => by rw [e, (N r (hR r hr)).1] at z; cases z) hpost
end
end Mine
namespace Mine
open PySem PySem.W PyProof.Rows PySem.Calls PySem.Spec

/-- an element of a comprehension has been reckoned: the ledger may have turned, all else stands -/
def EltEnd (h₀ : Heap) (L : Addr) (m : Str → Option Value) (news₁ : List (Addr × Obj)) (s₁ : Shared) (K : Value → List (Addr × Obj) → Prop) (y : Value) (s' : Shared) : Prop :=
  ∃ h' tk' news₂, s' = { s₁ with heap := h', toks := tk' } ∧ Fr h₀ L h' m ∧ News h₀ L h' news₂ ∧ (∀ b o, b ∉ news₁.map (·.1) → s₁.heap.get? b = some o → h'.get? b = some o) ∧
    (∀ q ∈ news₂, q.1 ∈ news₁.map (·.1) ∨ s₁.heap.get? q.1 = none) ∧ K y news₂

def CompAt (prog : Program) (w : World) (A : Around) (h₀ : Heap) (L : Addr) (m : Str → Option Value) (env : Env) (scope : Scope) (cl : List (Str × Addr)) (x : Str) (elt : Expr) (Q : Value → Shared → Prop) (it : Value) (s₂ : Shared) : Prop :=
  ∃ (I : Addr) (fp wr : List Addr) (n : Nat) (P : Nat → Value → Prop) (St : Nat → Heap → Prop) (ro news : List (Addr × Obj)) (J : Nat → List Value → List (Addr × Obj) → Prop),
    it = .ref I ∧ Walks prog w A I fp wr n P St ∧ n ≤ 1000 ∧ St 0 s₂.heap ∧ (∀ i h, St i h → ∀ b ∈ fp, ∃ o, h.get? b = some o) ∧ (∀ b ∈ fp, b ∈ ro.map (·.1) ∨ b ∉ news.map (·.1)) ∧
    (∀ b ∈ wr, b ∉ ro.map (·.1) ∧ b ≠ L ∧ h₀.get? b = none) ∧ (∀ q ∈ ro, q ∈ news) ∧ Fr h₀ L s₂.heap m ∧ News h₀ L s₂.heap news ∧ J 0 [] news ∧
    (∀ i v ys news₁ h tk C mC E', i < n → P i v → J i ys news₁ → ys.length = i → Fr h₀ L h m → News h₀ L h news₁ → h.Ns C mC → mC x = some v → (∀ q ∈ news₁, q.1 ≠ C) →
      wpAny (model prog w) A (eval elt (compEnvC scope cl C env)) (EltEnd h₀ L m news₁ { s₂ with heap := h, toks := tk } fun y news₂ => J (i + 1) (ys ++ [y]) news₂ ∧ ∀ q ∈ ro, q ∈ news₂) E' { s₂ with heap := h, toks := tk }) ∧
    (∀ D ys news₁ h tk k, J n ys news₁ → ys.length = n → Fr h₀ L h m → News h₀ L h ((D, listOf ys.toArray k) :: news₁) → (∀ q ∈ news₁, q.1 ≠ D) → Q (.ref D) { s₂ with heap := h, toks := tk })

section
variable {prog : Program} {w : World} {A : Around} {E : Value → Shared → Prop} {s : Shared} {env : Env} {h₀ : Heap} {L : Addr} {m : Str → Option Value} {elt iter : Expr} {x : Str} {px pos : Pos} {scope : Scope} {cl : List (Str × Addr)} {Q : Value → Shared → Prop}

theorem comp_led (_F : Fr h₀ L s.heap m) (hcell : ∀ y ∈ scope.names, y.2 ≠ .cell) (hclos : closureFor scope env = pure cl) (hkind : scope.kind = .function)
    (hnames : ∀ y ∈ scope.names, y.2 = .local → scope.names.lookup y.1 = some .local) (hx : scope.names.lookup x = some .local)
    (h : wpAny (model prog w) A (eval iter env) (fun xv s₁ => wpAny (model prog w) A (pyIter xv) (fun it s₂ => CompAt prog w A h₀ L m env scope cl x elt Q it s₂) E s₁) E s)
    (hs : ∀ x, foldedSetIterable iter env x = pure x := by intro _; rfl) :
    wpAny (model prog w) A (eval (.ListComp elt [⟨.Name x px, iter, [], 0⟩] scope pos) env) Q E s := by
  rw [eval_ListComp]
  refine wpAny_comprehension_free (use := none) rfl hs hclos hkind hnames (wpAny_mono h (fun xv s₁ h₁ => wpAny_mono h₁ (fun it s₂ h₂ => ?_) fun _ _ e => e) fun _ _ e => e)
  obtain ⟨I, fp, wr, n, P, St, ro, news, J, rfl, W, hn, hst, live, hfp, hwr, hro, F, N, hJ, turn, done⟩ := h₂
  refine wpAny_newObj_type (wpAny_newFunctionEnv hcell (by intro y hy; simp at hy) (fun h₁ hns₁ hsb₁ => ?_) hkind)
  dsimp only at hns₁ hsb₁ ⊢
  generalize hD : s₂.heap.objs.size = D at hns₁ hsb₁ ⊢
  generalize hH : s₂.heap.push { cls := .type "list", dict := none, data := .seq ([] : List Value).toArray } = H2 at hns₁ hsb₁ ⊢
  generalize hC : H2.objs.size = C at hns₁ hsb₁ ⊢
  have hCD : C = D + 1 := by rw [← hC, ← hH, Heap.size_push, hD]
  have hDC : D ≠ C := by rw [hCD]; exact Nat.ne_of_lt (Nat.lt_succ_self _)
  have hb : ∀ b o, s₂.heap.get? b = some o → b ≠ D ∧ b ≠ C := fun b o e => by
    have := Heap.lt_size e
    rw [hD] at this
    exact ⟨Nat.ne_of_lt this, by rw [hCD]; exact Nat.ne_of_lt (Nat.lt_succ_of_lt this)⟩
  have up : ∀ b o, s₂.heap.get? b = some o → h₁.get? b = some o := fun b o e => hsb₁.extBut b o (hb b o e).2 (Heap.get?_push_of_some _ (hH ▸ Heap.get?_push_of_some _ e))
  have hacc : h₁.PlainList D #[] := ⟨0, hsb₁.extBut _ _ hDC (Heap.get?_push_of_some _ (by rw [← hH, ← hD]; exact Heap.get?_push_size _ rfl))⟩
  have loop : ∀ s₃ : Shared, s₃ = { s₂ with heap := h₁, toks := s₂.toks + ([] : List (Str × Value)).length } →
      codeAny (model prog w) A (.compLoop (.ListComp elt [⟨.Name x px, iter, [], 0⟩] scope pos) 0 (.ref I) (.ref D) (compEnvC scope cl C env)) (compPost (model prog w) A E none Q (.ref D) C) s₃ := by
    rintro s₃ rfl
    refine codeAny_compLoop_list
      (fun k s' => ∃ i h tk mC ys news₁, s' = { s₂ with heap := h, toks := tk } ∧ i ≤ n ∧ k = n + 1 - i ∧ St i h ∧ h.PlainList D ys.toArray ∧ h.Ns C mC ∧ Fr h₀ L h m ∧ News h₀ L h news₁ ∧ J i ys news₁ ∧ ys.length = i ∧ (∀ q ∈ ro, q ∈ news₁) ∧
        (∀ q ∈ news₁, q.1 ≠ D ∧ q.1 ≠ C ∧ (q.1 ∈ fp → q.1 ∈ ro.map (·.1)))) ?_ (n + 1)
      ⟨0, h₁, _, _, [], news, rfl, Nat.zero_le _, rfl, W.frame _ _ _ hst fun b _ o e => up b o e, hacc, hns₁, F.keeps up, fun q hq => ⟨up _ _ (N q hq).1, (N q hq).2⟩, hJ, rfl, hro,
        fun q hq => ⟨(hb _ _ (N q hq).1).1, (hb _ _ (N q hq).1).2, fun hf => (hfp _ hf).elim id fun z => absurd (List.mem_map_of_mem hq) z⟩⟩
    rintro k s' ⟨i, h, tk, mC, ys, news₁, rfl, hi, rfl, hst', hacc', hns', F', N', hJ', hlen, hro', hq'⟩
    have hnw : ∀ q ∈ news₁, q.1 ∉ wr := fun q hq hw => (hwr _ hw).1 ((hq' q hq).2.2 (W.sub _ hw))
    have hfD : D ∉ fp := fun hf => by
      obtain ⟨o, e⟩ := live _ _ hst _ hf
      exact (hb _ _ e).1 rfl
    have hfC : C ∉ fp := fun hf => by
      obtain ⟨o, e⟩ := live _ _ hst _ hf
      exact (hb _ _ e).2 rfl
    have hDw : D ∉ wr := fun hw => hfD (W.sub _ hw)
    have hCw : C ∉ wr := fun hw => hfC (W.sub _ hw)
    have nextF : ∀ h₂ : Heap, (∀ b o, b ∉ wr → h.get? b = some o → h₂.get? b = some o) → Fr h₀ L h₂ m ∧ News h₀ L h₂ news₁ := fun h₂ hk =>
      ⟨⟨F'.ns.at' fun o e => hk _ o (fun hw => (hwr _ hw).2.1 rfl) e, fun b o e => hk b o (fun hw => by rw [(hwr _ hw).2.2] at e; cases e) (F'.keep b o e), F'.above⟩,
        fun q hq => ⟨hk _ _ (hnw q hq) (N' q hq).1, (N' q hq).2⟩⟩
    have oldCD : ∀ q ∈ news₁, q.1 ≠ C := fun q hq => (hq' q hq).2.1
    have hLC : L ≠ C := fun e => by
      obtain ⟨o, _, _, e1, _⟩ := F.ns
      exact (hb _ _ e1).2 e
    have hLD : L ≠ D := fun e => by
      obtain ⟨o, _, _, e1, _⟩ := F.ns
      exact (hb _ _ e1).1 e
    have hC0 : ∀ b o, h₀.get? b = some o → b ≠ C ∧ b ≠ D := fun b o e => ⟨(hb _ _ (F.keep b o e)).2, (hb _ _ (F.keep b o e)).1⟩
    by_cases hlt : i < n
    · refine W.item i _ _ _ hlt hst' fun v h₂ tk₂ hP hst₂ hk₂ => ?_
      obtain ⟨F₂, N₂⟩ := nextF h₂ hk₂
      refine wpAny_assign_Name (wpAny_storeName_local (lookup_relabel_local hx) (hns'.at' fun o e => hk₂ _ o hCw e) (fun h₃ hn₃ hs₃ => ?_) (by simp [compEnvC, relabel, hkind]))
      replace hn₃ : h₃.Ns C (fun y => if y = x then some v else mC y) := hn₃
      replace hs₃ : Heap.SameBut C h₂ h₃ := hs₃
      have F₃ : Fr h₀ L h₃ m := ⟨F₂.ns.sameBut hs₃ hLC, fun b o e => hs₃.extBut b o (hC0 b o e).1 (F₂.keep b o e), F₂.above⟩
      have N₃ : News h₀ L h₃ news₁ := fun q hq => ⟨hs₃.extBut _ _ (oldCD q hq) (N₂ q hq).1, (N₂ q hq).2⟩
      have hst₃ : St (i + 1) h₃ := W.frame _ _ _ hst₂ fun b hb' o e => hs₃.extBut b o (fun z => hfC (z ▸ hb')) e
      have hacc₃ : h₃.PlainList D ys.toArray := (hacc'.at fun o e => hk₂ _ o hDw e).extBut hs₃.extBut hDC
      refine wpAny_mono (turn i v ys news₁ h₃ _ C _ _ hlt hP hJ' hlen F₃ N₃ hn₃ (by simp) oldCD) (fun y s₄ h₄ => ?_) fun _ _ e => e
      obtain ⟨h₄, tk₄, news₂, rfl, F₄, N₄, hk₄, hf₄, hJ₄, hro₄⟩ := h₄
      replace hk₄ : ∀ b o, b ∉ news₁.map (·.1) → h₃.get? b = some o → h₄.get? b = some o := hk₄
      replace hf₄ : ∀ q ∈ news₂, q.1 ∈ news₁.map (·.1) ∨ h₃.get? q.1 = none := hf₄
      have nD : D ∉ news₁.map (·.1) := fun z => by
        obtain ⟨q, hq, e⟩ := List.mem_map.mp z
        exact (hq' q hq).1 e
      have nC : C ∉ news₁.map (·.1) := fun z => by
        obtain ⟨q, hq, e⟩ := List.mem_map.mp z
        exact (hq' q hq).2.1 e
      have hst₄ : St (i + 1) h₄ := W.frame _ _ _ hst₃ fun b hb' o e => by
        by_cases z : b ∈ news₁.map (·.1)
        · obtain ⟨q, hq, rfl⟩ := List.mem_map.mp z
          obtain ⟨r, hr, er⟩ := List.mem_map.mp ((hq' q hq).2.2 hb')
          have e1 := (N₃ r (hro' r hr)).1
          rw [er, e] at e1
          have e2 := (N₄ r (hro₄ r hr)).1
          rw [er, ← e1] at e2
          exact e2
        · exact hk₄ b o z e
      have hacc₄ : h₄.PlainList D ys.toArray := hacc₃.at fun o e => hk₄ _ o nD e
      have hns₄ : h₄.Ns C (fun y => if y = x then some v else mC y) := hn₃.at' fun o e => hk₄ _ o nC e
      have fresh₂ : ∀ q ∈ news₂, q.1 ≠ D ∧ q.1 ≠ C ∧ (q.1 ∈ fp → q.1 ∈ ro.map (·.1)) := fun q hq => by
        rcases hf₄ q hq with z | z
        · obtain ⟨r, hr, er⟩ := List.mem_map.mp z
          rw [← er]
          exact hq' r hr
        · refine ⟨fun e => ?_, fun e => ?_, fun hf => ?_⟩
          · obtain ⟨_, e1⟩ := hacc₃; rw [← e, z] at e1; cases e1
          · obtain ⟨_, _, _, e1, _⟩ := hn₃; rw [← e, z] at e1; cases e1
          · obtain ⟨o, e1⟩ := live _ _ hst₃ _ hf; rw [z] at e1; cases e1
      refine wpAny_list_append_plain (hsz := by rw [sizeLine_eq, List.size_toArray, hlen]; omega) hacc₄ fun h₅ hl₅ hs₅ => ?_
      refine ⟨n + 1 - (i + 1), by omega, i + 1, h₅, tk₄, _, ys ++ [y], news₂, rfl, hlt, rfl, ?_, by simpa using hl₅, hns₄.sameBut hs₅ (Ne.symm hDC), ?_, ?_, hJ₄, by simp [hlen], hro₄, fresh₂⟩
      · exact W.frame _ _ _ hst₄ fun b hb' o e => hs₅.extBut b o (fun z => hfD (z ▸ hb')) e
      · exact ⟨F₄.ns.sameBut hs₅ hLD, fun b o e => hs₅.extBut b o (hC0 b o e).2 (F₄.keep b o e), F₄.above⟩
      · exact fun q hq => ⟨hs₅.extBut _ _ (fresh₂ q hq).1 (N₄ q hq).1, (N₄ q hq).2⟩
    · have hin : i = n := by omega
      subst hin
      refine W.done _ _ _ hst' fun h₂ tk₂ hk₂ => ?_
      obtain ⟨F₂, N₂⟩ := nextF h₂ hk₂
      refine ⟨mC, hns'.at' fun o e => hk₂ _ o hCw e, fun h₃ hs₃ => ?_⟩
      replace hs₃ : Heap.SameBut C h₂ h₃ := hs₃
      have F₃ : Fr h₀ L h₃ m := ⟨F₂.ns.sameBut hs₃ hLC, fun b o e => hs₃.extBut b o (hC0 b o e).1 (F₂.keep b o e), F₂.above⟩
      obtain ⟨kk, eD⟩ := hacc'
      refine done D ys news₁ h₃ tk₂ kk hJ' hlen F₃ (fun q hq => ?_) (fun q hq => (hq' q hq).1)
      rcases List.mem_cons.mp hq with rfl | hq
      · refine ⟨hs₃.extBut _ _ hDC (hk₂ _ _ hDw eD), fun e => hLD e.symm, ?_⟩
        cases e : h₀.get? D with
        | none => rfl
        | some o => exact absurd rfl (hC0 _ _ e).2
      · exact ⟨hs₃.extBut _ _ (oldCD q hq) (N₂ q hq).1, (N₂ q hq).2⟩
  exact codeAny_compStart_list (loop _ rfl) (W.self 0 _ _ _ (W.frame _ _ _ hst fun b _ o e => up b o e) (loop _ rfl))
end

section
variable {prog : Program} {w : World} {A : Around} {E : Value → Shared → Prop} {s : Shared} {env : Env} {h₀ : Heap} {L : Addr} {m : Str → Option Value} {elt : Expr} {x : Str} {scope : Scope} {cl : List (Str × Addr)} {Q : Value → Shared → Prop} {news : List (Addr × Obj)}
theorem comp_range {r : Addr} {z : Int} {t u v : Tok} (J : Nat → List Value → List (Addr × Obj) → Prop) (hh : A.handled = none) (F : Fr h₀ L s.heap m) (N : News h₀ L s.heap news) (hr : IsRange s.heap r 0 z 1 t u v) (h0 : 0 ≤ z) (hz : z ≤ 1000) (hJ : J 0 [] news)
    (turn : ∀ i v ys news₁ h tk C mC E', i < z.toNat → J i ys news₁ → ys.length = i → Fr h₀ L h m → News h₀ L h news₁ → h.Ns C mC → mC x = some v → (∀ q ∈ news₁, q.1 ≠ C) →
      wpAny (model prog w) A (eval elt (compEnvC scope cl C env)) (EltEnd h₀ L m news₁ { s with heap := h, toks := tk } fun y news₂ => J (i + 1) (ys ++ [y]) news₂) E' { s with heap := h, toks := tk })
    (done : ∀ D ys news₁ h tk k, J z.toNat ys news₁ → ys.length = z.toNat → Fr h₀ L h m → News h₀ L h ((D, listOf ys.toArray k) :: news₁) → (∀ q ∈ news₁, q.1 ≠ D) → Q (.ref D) { s with heap := h, toks := tk }) :
    wpAny (model prog w) A (pyIter (.ref r)) (fun it s₂ => CompAt prog w A h₀ L m env scope cl x elt Q it s₂) E s := by
  have hsz : Builtin.Range.rangeSize 0 z 1 = z := by rw [rangeSize_one]; split <;> omega
  refine wpAny_pyIter_range hr (small_one (by omega) (by omega) (by omega) (by omega)) ?_
  have hlt : ∀ b o, s.heap.get? b = some o → b ≠ s.heap.objs.size := fun b o e => Nat.ne_of_lt (Heap.lt_size e)
  obtain ⟨oL, _, _, eL, _⟩ := id F.ns
  refine ⟨s.heap.objs.size, [s.heap.objs.size], [s.heap.objs.size], z.toNat, _, _, [], news, J, rfl, Walks.range hh s.heap.objs.size 0 1 z.toNat, by omega, ?_, ?_, ?_, ?_, (fun q hq => nomatch hq), F.push _, fun q hq => ⟨Heap.get?_push_of_some _ (N q hq).1, (N q hq).2⟩, hJ, ?_, ?_⟩
  · have e : IsRangeIter (s.heap.push { cls := .type "range_iterator", data := .fields #[rawInt 0, rawInt (Builtin.Range.rangeSize 0 z 1), rawInt 1] }) s.heap.objs.size 0 (Builtin.Range.rangeSize 0 z 1) 1 := Heap.get?_push_size _ rfl
    rw [hsz] at e
    simpa [Int.toNat_of_nonneg h0, hsz] using e
  · intro i h e b hb
    rw [List.mem_singleton.mp hb]
    exact ⟨_, e⟩
  · intro b hb
    rw [List.mem_singleton.mp hb]
    exact .inr fun z => by
      obtain ⟨q, hq, e⟩ := List.mem_map.mp z
      exact hlt _ _ (N q hq).1 e
  · intro b hb
    rw [List.mem_singleton.mp hb]
    refine ⟨List.not_mem_nil, fun e => hlt _ _ eL e.symm, ?_⟩
    cases e : h₀.get? s.heap.objs.size with
    | none => rfl
    | some o => exact absurd rfl (hlt _ _ (F.keep _ _ e))
  · intro i v ys news₁ h tk C mC E' hi _ hJ hl F₁ N₁ hC hx hq
    refine wpAny_mono (turn i v ys news₁ h tk C mC E' hi hJ hl F₁ N₁ hC hx hq) (fun y s' hy => ?_) fun _ _ e => e
    obtain ⟨h', tk', news₂, a, b, c, d, e, f⟩ := hy
    exact ⟨h', tk', news₂, a, b, c, d, e, f, fun q hq => nomatch hq⟩
  · intro D ys news₁ h tk k a b c d e
    exact done D ys news₁ h tk k a b c d e

theorem comp_list {l : Addr} {vs : List Value} {nn : Nat} (J : Nat → List Value → List (Addr × Obj) → Prop) (hh : A.handled = none) (F : Fr h₀ L s.heap m) (N : News h₀ L s.heap news) (hl : (l, listOf vs.toArray nn) ∈ news) (hz : vs.length ≤ 1000) (hJ : J 0 [] news)
    (turn : ∀ i v ys news₁ h tk C mC E', vs[i]? = some v → J i ys news₁ → ys.length = i → Fr h₀ L h m → News h₀ L h news₁ → h.Ns C mC → mC x = some v → (∀ q ∈ news₁, q.1 ≠ C) →
      wpAny (model prog w) A (eval elt (compEnvC scope cl C env)) (EltEnd h₀ L m news₁ { s with heap := h, toks := tk } fun y news₂ => J (i + 1) (ys ++ [y]) news₂ ∧ (l, listOf vs.toArray nn) ∈ news₂) E' { s with heap := h, toks := tk })
    (done : ∀ D ys news₁ h tk k, J vs.length ys news₁ → ys.length = vs.length → Fr h₀ L h m → News h₀ L h ((D, listOf ys.toArray k) :: news₁) → (∀ q ∈ news₁, q.1 ≠ D) → Q (.ref D) { s with heap := h, toks := tk }) :
    wpAny (model prog w) A (pyIter (.ref l)) (fun it s₂ => CompAt prog w A h₀ L m env scope cl x elt Q it s₂) E s := by
  have hol := (N _ hl).1
  have hls : s.heap.IsList l vs.toArray := ⟨_, hol, rfl, nn, rfl⟩
  have hlt : ∀ b o, s.heap.get? b = some o → b ≠ s.heap.objs.size := fun b o e => Nat.ne_of_lt (Heap.lt_size e)
  obtain ⟨oL, _, _, eL, _⟩ := id F.ns
  refine wpAny_pyIter_list hls ?_
  refine ⟨s.heap.objs.size, [s.heap.objs.size, l], [s.heap.objs.size], vs.toArray.size, _, _, [(l, listOf vs.toArray nn)], news, J, rfl, Walks.list hh s.heap.objs.size l (hlt _ _ hol) vs.toArray, by simpa using hz, ?_, ?_, ?_, ?_, fun q hq => by rw [List.mem_singleton.mp hq]; exact hl, F.push _,
    fun q hq => ⟨Heap.get?_push_of_some _ (N q hq).1, (N q hq).2⟩, hJ, ?_, ?_⟩
  · exact ⟨⟨_, Heap.get?_push_size _ rfl, rfl, rfl⟩, hls.at fun o e => Heap.get?_push_of_some _ e⟩
  · rintro i h ⟨⟨o, e, _⟩, ⟨o', e', _⟩⟩ b hb
    rcases List.mem_cons.mp hb with rfl | hb
    · exact ⟨_, e⟩
    · rw [List.mem_singleton.mp hb]; exact ⟨_, e'⟩
  · intro b hb
    rcases List.mem_cons.mp hb with rfl | hb
    · exact .inr fun z => by
        obtain ⟨q, hq, e⟩ := List.mem_map.mp z
        exact hlt _ _ (N q hq).1 e
    · rw [List.mem_singleton.mp hb]; exact .inl (by simp)
  · intro b hb
    rw [List.mem_singleton.mp hb]
    refine ⟨fun e => ?_, fun e => hlt _ _ eL e.symm, ?_⟩
    · simp at e; exact hlt _ _ hol e.symm
    · cases e : h₀.get? s.heap.objs.size with
      | none => rfl
      | some o => exact absurd rfl (hlt _ _ (F.keep _ _ e))
  · intro i v ys news₁ h tk C mC E' hi hv hJ hl F₁ N₁ hC hx hq
    refine wpAny_mono (turn i v ys news₁ h tk C mC E' (by simpa using hv) hJ hl F₁ N₁ hC hx hq) (fun y s' hy => ?_) fun _ _ e => e
    obtain ⟨h', tk', news₂, a, b, c, d, e, f, g⟩ := hy
    exact ⟨h', tk', news₂, a, b, c, d, e, f, fun q hq => by rw [List.mem_singleton.mp hq]; exact g⟩
  · intro D ys news₁ h tk k a b c d e
    exact done D ys news₁ h tk k (by simpa using a) (by simpa using b) c d e
end

section
variable {M : Model} {A : Around} {E : Value → Shared → Prop} {s : Shared} {env : Env} {h₀ : Heap} {L C : Addr} {m mC : Str → Option Value} {x : Str} {pos : Pos} {v : Value} {Q : Value → Shared → Prop} {news : List (Addr × Obj)} {c : Addr} {o : Obj}
theorem name_cell (N : News h₀ L s.heap news) (hm : (c, o) ∈ news) (hd : o.data = .cell (some v)) (hc : env.cells.lookup x = some c) (hk : env.scope.kind = .function) (hx : env.kindOf x = some .cell) (hb : (x == ("__debug__" : Str)) = false) (h : Q v s) :
    wpAny M A (eval (.Name x pos) env) Q E s := wpAny_Name (wpAny_loadName_cell hk hx hc ⟨o, N.get hm, hd⟩ h) hb
theorem name_own (hn : s.heap.Ns C mC) (hv : mC x = some v) (hC : env.locals = C) (hk : env.scope.kind = .function) (hx : env.kindOf x = some .local) (hb : (x == ("__debug__" : Str)) = false) (h : Q v s) :
    wpAny M A (eval (.Name x pos) env) Q E s := wpAny_Name (wpAny_loadName_local hk hx (hC ▸ hn) hv h) hb
end
end Mine
namespace Mine
open PySem PySem.W PyProof.Rows PySem.Calls PySem.Spec
section
local macro_rules | `(tactic| k_room) => `(tactic| ((try simp only [depth_under_make, depth_under_kw, depth_in1, depth_deeper, depth_caller, recursionLimit] at *); (try dsimp only [ktrTop] at *); omega))
local macro_rules | `(tactic| k_units) => `(tactic| (have hcL9 := cLine_is; (try simp only [units_in1, units_deeper, Around.mark_units, units_caller] at *); (try dsimp only [ktrTop] at *); omega))
local macro_rules | `(tactic| walk_at "LeaveK") => `(tactic| (k_dflt (refine' leaveT ?k1 ?k2 ?k3 ?_; (case k1 => k_asm); (case k2 => k_asm); (case k3 => k_asm); k_whole); intro kF kN kK kS; (try dsimp only)))
local macro_rules | `(tactic| walk_at "call builtin:list.pop") => `(tactic| (k_here; k_dflt (refine' pop0 ?F ?N ?U ?z ?_; (case F => k_asm); (case N => k_asm); (case U => k_upd); (case z => first | assumption | (simp only [List.length_cons] at *; omega))); (intro h' F' N'; (try dsimp only [List.nil_append, List.cons_append] at N'))))
-- entry of a plain def
local macro_rules | `(tactic| ktr_enter) => `(tactic| (refine' code_defG ?k1 ?k2 ?k3 ?k4 ?k5 ?kA ?kF ?kK ?k6 ?k7 ?k8 ?k9 ?kB ?_ ?c2 ?c3 ?c4 ?c5; (case kA => exact rfl); (case kF => exact rfl); (case kK => assumption); (case k1 => k_asm); (case k2 => k_asm); (case k3 => k_asm); (case k4 => k_asm); (case k5 => k_asm); (case k6 => k_is); (case k7 => k_is); (case k8 => k_room); (case k9 => first | exact BindsTo.of_eq rfl | exact binds_K (by k_in) rfl (by k_is) rfl rfl rfl); (case c5 => decide); (case kB => exact locs rfl); (case c2 => exact rfl); (case c3 => exact rfl); (case c4 => exact rfl); k_whole; intro g' L' h' FG' F' N' B' X' T' kG'; (try dsimp only); (try k_lift B'); (try k_fold)))

set_option maxHeartbeats 4000000 in
theorem take_t (w : World) (d : Addr) (ds : List Value) (n : Nat) (sz : Int) (tk : Tok) (hds : Dig ds) (hsz : 1 ≤ sz) :
   Tell w 329 [.ref d, .int sz tk] 5 [(d, listOf ds.toArray n)] (fun r news' => ∃ z tk' ds' n', r = .int z tk' ∧ 0 ≤ z ∧ z < sz ∧ Dig ds' ∧ news' = [(d, listOf ds'.toArray n')]) := by
  have hds' := hds
  obtain ⟨⟨ns, hi⟩, hl⟩ := hds
  have hnz : sz ≠ 0 := by omega
  unfold Tell
  k_fill
  intro p loose mean mg mb dp un gd cn cs a ccd cl outer A₀ base h₀ L m s Q E B F X N T hk hd hu hret
  cases hi with
  | nil =>
    refine wpAny_call ?_
    k_dflt ktr_enter
    k_steps
    exact hret _ _ _ _ (by assumption) (by assumption) (by assumption) (by assumption) ⟨0, _, [], n, rfl, by omega, by omega, Dig.nil, rfl⟩
  | cons z t hr =>
    refine wpAny_call ?_
    k_dflt ktr_enter
    k_steps
    exact hret _ _ _ _ (by assumption) (by assumption) (by assumption) (by assumption) ⟨_, _, _, _, rfl, fmod_lo _ (by omega), fmod_hi _ (by omega), hds'.tail, rfl⟩
end

section
variable {w : World} {news : List (Addr × Obj)} {p : Program} {loose : List Str} {mean : ExcName → Option Value} {mg mb : Str → Option Value} {dp un : Nat} {gd : Option (List Code)} {cn : Str} {cs : Scope} {a : Addr} {ccd : Value} {cl : List (Str × Addr)} {outer : List Env} {A₀ : Around} {base h₀ : Heap} {L : Addr} {m : Str → Option Value} {s : Shared} {Q E : Value → Shared → Prop}
theorem take_use {d : Addr} {ds : List Value} {n : Nat} {sz : Int} {tk : Tok} {g : Obj → List (Addr × Obj)} (U : UpdF d (listOf ds.toArray n) news g) (hds : Dig ds) (hsz : 1 ≤ sz) (B : Below A₀ base outer h₀) (F : Fr h₀ L s.heap m) (X : (hd.heap_39 w.params).In h₀) (N : News h₀ L s.heap news)
    (T : Top p loose mean mg mb h₀) (hk : cs.kind = .function) (hd : dp + 5 ≤ 400) (hu : un + 30 * 5 ≤ 4000)
    (ret : ∀ z tk₁ ds' n' h' tk', Fr h₀ L h' m → News h₀ L h' (g (listOf ds'.toArray n')) → (∀ b o, b ≠ d → s.heap.get? b = some o → h'.get? b = some o) → 0 ≤ z → z < sz → Dig ds' → Q (.int z tk₁) { s with heap := h', toks := tk' }) :
    wpAny (model PySem.Challenge.rw_bp5029_01.row.prog w) (ktrTop dp un gd cn cs L a ccd cl outer) (call (.ref 329) [.ref d, .int sz tk]) Q E s := by
  obtain ⟨own, rest, rfl, hg, h1, h2⟩ := U.split
  refine tell_use (own ++ rest) (take_t w d ds n sz tk hds hsz) B F X N T hk ?_ ?_ ?_ hd hu ?_
  · intro q hq; rw [List.mem_singleton.mp hq]; simp
  · intro q hq
    rcases List.mem_append.mp hq with hq | hq
    · exact List.mem_append_left _ hq
    · exact List.mem_append_right _ (.tail _ hq)
  · intro q hq e
    have e' : q.1 = d := by simpa using e
    rcases List.mem_append.mp hq with hq | hq
    · exact h1 q hq e'
    · exact h2 q hq e'
  · rintro r news' h' tk' F' N' hk' _ _ ⟨z, tk₁, ds', n', rfl, z0, z1, hds', rfl⟩
    refine ret z tk₁ ds' n' h' tk' F' (fun q hq => ?_) (fun b o hb e => hk' b o (by simpa using hb) e) z0 z1 hds'
    rw [hg] at hq
    rcases List.mem_append.mp hq with hq | hq
    · exact N' q (List.mem_append_right _ (List.mem_append_left _ hq))
    · rcases List.mem_cons.mp hq with rfl | hq
      · exact N' _ (List.mem_append_left _ (.head _))
      · exact N' q (List.mem_append_right _ (List.mem_append_right _ hq))
end
end Mine
namespace Mine
open PySem PySem.W PyProof.Rows PySem.Calls PySem.Spec
/-- the texts that a prefix is made of -/
def pieces : List Str := ["\\\n", " ", "", "  ", "\n", "# c\n", "\\", "\t"].map Str.ofString
theorem pieces_look : ∀ w : World, (hd.heap_39 w.params).lookup 315 = some ⟨.type "list", none, .seq #[.str (Str.ofString "\\\n") 555, .str (Str.ofString " ") 556, .str (Str.ofString "") 557, .str (Str.ofString "  ") 558, .str (Str.ofString "\n") 559, .str (Str.ofString "# c\n") 560, .str (Str.ofString "\\") 561, .str (Str.ofString "\t") 562] 0, #[]⟩ := by
  intro w
  with_unfolding_all rfl
theorem pieces_sub {w : World} {A : Around} {E : Value → Shared → Prop} {s : Shared} {h₀ : Heap} {L : Addr} {m : Str → Option Value} {value slice : PySem.Expr} {z : Int} {u : Tok} {Q : Value → Shared → Prop} (F : Fr h₀ L s.heap m) (X : (hd.heap_39 w.params).In h₀) (h0 : 0 ≤ z) (h8 : z < 8)
    (h : ∀ x t, x ∈ pieces → Q (.str x t) s) (hs : subscripted slice false (.ref 315) (.int z u) = operate [.ref 315, .int z u] (getItem (.ref 315) (.int z u)) := by with_unfolding_all rfl) :
    wpAny (model PySem.Challenge.rw_bp5029_01.row.prog w) A (subscriptTail value slice (.ref 315) (.int z u)) Q E s := by
  have q : ∀ k : Nat, k < 8 → ∀ v : Value, ([Value.str (Str.ofString "\\\n") 555, .str (Str.ofString " ") 556, .str (Str.ofString "") 557, .str (Str.ofString "  ") 558, .str (Str.ofString "\n") 559, .str (Str.ofString "# c\n") 560, .str (Str.ofString "\\") 561, .str (Str.ofString "\t") 562] : List Value)[k]? = some v → ∃ x t, v = .str x t ∧ x ∈ pieces := by
    intro k hk v e
    match k, hk, e with
    | 0, _, e => cases e; exact ⟨_, _, rfl, by decide⟩
    | 1, _, e => cases e; exact ⟨_, _, rfl, by decide⟩
    | 2, _, e => cases e; exact ⟨_, _, rfl, by decide⟩
    | 3, _, e => cases e; exact ⟨_, _, rfl, by decide⟩
    | 4, _, e => cases e; exact ⟨_, _, rfl, by decide⟩
    | 5, _, e => cases e; exact ⟨_, _, rfl, by decide⟩
    | 6, _, e => cases e; exact ⟨_, _, rfl, by decide⟩
    | 7, _, e => cases e; exact ⟨_, _, rfl, by decide⟩
    | k + 8, hk, _ => omega
  cases e : ([Value.str (Str.ofString "\\\n") 555, .str (Str.ofString " ") 556, .str (Str.ofString "") 557, .str (Str.ofString "  ") 558, .str (Str.ofString "\n") 559, .str (Str.ofString "# c\n") 560, .str (Str.ofString "\\") 561, .str (Str.ofString "\t") 562] : List Value)[z.toNat]? with
  | none => 
    have := List.getElem?_eq_none_iff.mp e
    simp only [List.length_cons, List.length_nil] at this
    omega
  | some v =>
    obtain ⟨x, t, rfl, hx⟩ := q z.toNat (by omega) v e
    exact topList_K F X (pieces_look w) h0 (by omega) e (h x t hx) hs

/-- a prefix is at most twelve signs, each of six -/
def PreOk (x : Str) : Prop := x.cps.size ≤ 12 ∧ ∀ c ∈ x.cps.toList, c ∈ [9, 10, 32, 35, 92, 99]
theorem strs_of : ∀ {ys : List Value}, (∀ y ∈ ys, ∃ x t, y = .str x t ∧ x ∈ pieces) → ∃ xs, StrsAre ys xs ∧ ∀ x ∈ xs, x ∈ pieces
  | [], _ => ⟨[], .nil, fun _ h => nomatch h⟩
  | y :: ys, h => by
    obtain ⟨x, t, rfl, hx⟩ := h y (.head _)
    obtain ⟨xs, a, b⟩ := strs_of fun z hz => h z (.tail _ hz)
    refine ⟨x :: xs, .cons _ _ a, fun z hz => ?_⟩
    rcases List.mem_cons.mp hz with rfl | hz
    · exact hx
    · exact b z hz
theorem piece_ok {x : Str} (h : x ∈ pieces) : x.cps.size ≤ 4 ∧ ∀ c ∈ x.cps.toList, c ∈ [9, 10, 32, 35, 92, 99] := by
  have : ∀ y ∈ pieces, y.cps.size ≤ 4 ∧ ∀ c ∈ y.cps.toList, c ∈ [9, 10, 32, 35, 92, 99] := by decide
  exact this x h
theorem fold_ok : ∀ (xs : List Str) (acc : Array Nat), (∀ x ∈ xs, x ∈ pieces) → (∀ c ∈ acc.toList, c ∈ [9, 10, 32, 35, 92, 99]) →
    (xs.foldl (fun acc p => acc ++ (Str.ofString "").cps ++ p.cps) acc).size ≤ acc.size + 4 * xs.length ∧ ∀ c ∈ (xs.foldl (fun acc p => acc ++ (Str.ofString "").cps ++ p.cps) acc).toList, c ∈ [9, 10, 32, 35, 92, 99]
  | [], acc, _, h => ⟨by simp, h⟩
  | x :: xs, acc, hx, h => by
    have hp := piece_ok (hx x (.head _))
    have he : (Str.ofString "").cps = #[] := rfl
    have hs : (acc ++ (Str.ofString "").cps ++ x.cps).size = acc.size + x.cps.size := by rw [he]; simp
    obtain ⟨a, b⟩ := fold_ok xs (acc ++ (Str.ofString "").cps ++ x.cps) (fun y hy => hx y (.tail _ hy)) (fun c hc => by
      rw [he] at hc
      have hc' : c ∈ acc ∨ c ∈ x.cps := by simpa using hc
      rcases hc' with hc | hc
      · exact h c (by simpa using hc)
      · exact hp.2 c (by simpa using hc))
    refine ⟨?_, b⟩
    rw [List.foldl_cons, List.length_cons]
    refine Nat.le_trans a ?_
    rw [hs]
    have := hp.1
    omega
theorem sum_le : ∀ xs : List Str, (∀ x ∈ xs, x ∈ pieces) → (xs.map (·.length)).sum ≤ 4 * xs.length
  | [], _ => by simp
  | x :: xs, h => by
    have a := sum_le xs fun y hy => h y (.tail _ hy)
    have b : x.length ≤ 4 := (piece_ok (h x (.head _))).1
    rw [List.map_cons, List.sum_cons, List.length_cons]
    omega
theorem strsAre_length {vs : List Value} {xs : List Str} (h : StrsAre vs xs) : vs.length = xs.length := by
  induction h with
  | nil => rfl
  | cons _ _ _ ih => rw [List.length_cons, List.length_cons, ih]
theorem join_ok {ys : List Value} {xs : List Str} (h : StrsAre ys xs) (hx : ∀ x ∈ xs, x ∈ pieces) (hl : ys.length ≤ 3) : PreOk (Txt.join (Str.ofString "") xs) ∧ (xs.map (·.length)).sum + xs.length * (Str.ofString "").length ≤ 16777216 := by
  have hl' : xs.length ≤ 3 := strsAre_length h ▸ hl
  have hs := sum_le xs hx
  have he : (Str.ofString "").length = 0 := rfl
  refine ⟨?_, by rw [he]; omega⟩
  cases xs with
  | nil => exact ⟨by decide, by decide⟩
  | cons x r =>
    have hp := piece_ok (hx x (.head _))
    obtain ⟨a, b⟩ := fold_ok r x.cps (fun y hy => hx y (.tail _ hy)) hp.2
    simp only [List.length_cons] at hl'
    have hp1 := hp.1
    exact ⟨Nat.le_trans a (by omega), b⟩
end Mine
namespace Mine
open PySem PySem.W PyProof.Rows PySem.Calls PySem.Spec

/-- a leaf as the heap holds it -/
structure Lf where
  a : Addr
  da : Addr
  es : List DictEntry
  n : Nat
  ty : Int
  tt : Tok
  vl : Str
  tv : Tok
  pre : Str
  tp : Tok
  line : Int
  tl : Tok
  col : Int
  tc : Tok
/-- a node as the heap holds it -/
structure Nd where
  a : Addr
  da : Addr
  es : List DictEntry
  n : Nat
  ca : Addr
  cn : Nat
inductive Tr where
  | leaf (l : Lf)
  | node (d : Nd) (ks : List Tr)

structure Lf.Ok (l : Lf) : Prop where
  type : getL (Str.ofString "type") l.es = some (some (.int l.ty l.tt))
  value : getL (Str.ofString "value") l.es = some (some (.str l.vl l.tv))
  pre : getL (Str.ofString "_prefix") l.es = some (some (.str l.pre l.tp))
  line : getL (Str.ofString "lineno") l.es = some (some (.int l.line l.tl))
  col : getL (Str.ofString "column") l.es = some (some (.int l.col l.tc))
  small : l.es.length ≤ 20
  txt : PyData.strOk l.vl = true
structure Nd.Ok (d : Nd) : Prop where
  kids : getL (Str.ofString "children") d.es = some (some (.ref d.ca))
  small : d.es.length ≤ 20

def Lf.objs (l : Lf) : List (Addr × Obj) := [(l.a, instObj 305 l.da), (l.da, dictOf l.es l.n)]
def Tr.addr : Tr → Addr
  | .leaf l => l.a
  | .node d _ => d.a
def Tr.es : Tr → List DictEntry
  | .leaf l => l.es
  | .node d _ => d.es
def refs (ks : List Tr) : List Value := ks.map fun t => .ref t.addr
mutual
def Tr.objs : Tr → List (Addr × Obj)
  | .leaf l => l.objs
  | .node d ks => (d.a, instObj 225 d.da) :: (d.da, dictOf d.es d.n) :: (d.ca, listOf (refs ks).toArray d.cn) :: objsL ks
def objsL : List Tr → List (Addr × Obj)
  | [] => []
  | t :: ts => t.objs ++ objsL ts
end
mutual
/-- sound, at most so deep; the prefixes of the leaves made of the pieces -/
def Tr.Ok : Tr → Nat → Prop
  | .leaf l, _ => l.Ok ∧ PreOk l.pre
  | .node _ _, 0 => False
  | .node d ks, k + 1 => d.Ok ∧ ks.length ≤ 4 ∧ OkL ks k
def OkL : List Tr → Nat → Prop
  | [], _ => True
  | t :: ts, k => t.Ok k ∧ OkL ts k
end
def Tr.Free (t : Tr) : Prop := getL (Str.ofString "parent") t.es = some none ∧ t.es.length ≤ 19

theorem objsL_append : ∀ (a b : List Tr), objsL (a ++ b) = objsL a ++ objsL b
  | [], _ => rfl
  | t :: a, b => by rw [List.cons_append, objsL, objsL, objsL_append a b, List.append_assoc]
theorem okL_append : ∀ {a b : List Tr} {k : Nat}, OkL a k → OkL b k → OkL (a ++ b) k
  | [], _, _, _, h => h
  | _ :: _, _, _, h, h' => ⟨h.1, okL_append h.2 h'⟩
theorem okL_mem : ∀ {ks : List Tr} {k : Nat}, OkL ks k → ∀ t ∈ ks, t.Ok k
  | _ :: _, _, h, t, hm => by
    rcases List.mem_cons.mp hm with rfl | hm
    · exact h.1
    · exact okL_mem h.2 t hm
theorem okL_of : ∀ {ks : List Tr} {k : Nat}, (∀ t ∈ ks, t.Ok k) → OkL ks k
  | [], _, _ => trivial
  | t :: _, _, h => ⟨h t (.head _), okL_of fun u hu => h u (.tail _ hu)⟩
mutual
theorem ok_mono : ∀ {t : Tr} {k : Nat}, t.Ok k → ∀ {j : Nat}, k ≤ j → t.Ok j
  | .leaf _, _, h, _, _ => h
  | .node _ _, 0, h, _, _ => h.elim
  | .node _ _, _ + 1, h, 0, hj => absurd hj (Nat.not_succ_le_zero _)
  | .node _ _, _ + 1, h, _ + 1, hj => ⟨h.1, h.2.1, okL_mono h.2.2 (Nat.le_of_succ_le_succ hj)⟩
theorem okL_mono : ∀ {ks : List Tr} {k : Nat}, OkL ks k → ∀ {j : Nat}, k ≤ j → OkL ks j
  | [], _, _, _, _ => trivial
  | _ :: _, _, h, _, hj => ⟨ok_mono h.1 hj, okL_mono h.2 hj⟩
end

theorem isStr_ne {x y : Str} {t : Tok} (h : x ≠ y) : (Value.str x t).isStr y = false := by
  show (x == y) = false
  simpa using h
theorem isStr_self {x : Str} {t : Tok} : (Value.str x t).isStr x = true := by
  show (x == x) = true
  simp
theorem getL_put_ne {x y : Str} {hs : Int} {t : Tok} {v : Value} (h : x ≠ y) : ∀ es : List DictEntry, getL y (putL x hs (.str x t) v es) = getL y es
  | [] => by
    unfold putL getL
    simp [isStr_ne h, DictEntry.refKey]
  | e :: r => by
    have ih := getL_put_ne (hs := hs) (t := t) (v := v) h r
    unfold putL
    cases hx : e.key.isStr x with
    | true =>
      rw [if_pos rfl]
      unfold getL
      have : e.key.isStr y = false := by
        cases hk : e.key <;> rw [hk] at hx <;> first | cases hx | skip
        rename_i z u
        have e1 : z = x := by simpa using (show (z == x) = true from hx)
        subst e1
        exact isStr_ne h
      simp only [List.find?_cons, this, List.any_cons, DictEntry.refKey]
      rfl
    | false =>
      rw [if_neg (by simp)]
      unfold getL at ih ⊢
      cases hy : e.key.isStr y with
      | true => simp [hy]
      | false =>
        simp only [List.find?_cons, hy, List.any_cons]
        revert ih
        cases (putL x hs (.str x t) v r).find? fun d => d.key.isStr y <;> cases r.find? fun d => d.key.isStr y <;> simp
        · intro ih
          cases e.refKey <;> simp [ih]
theorem getL_put_self {x : Str} {hs : Int} {t : Tok} {v : Value} : ∀ es : List DictEntry, getL x (putL x hs (.str x t) v es) = some (some v)
  | [] => by
    unfold putL getL
    simp [isStr_self]
  | e :: r => by
    have ih := getL_put_self (x := x) (hs := hs) (t := t) (v := v) r
    unfold putL
    cases hx : e.key.isStr x with
    | true =>
      rw [if_pos rfl]
      unfold getL
      simp [hx]
    | false =>
      rw [if_neg (by simp)]
      unfold getL at ih ⊢
      simp only [List.find?_cons, hx, List.any_cons]
      revert ih
      cases (putL x hs (.str x t) v r).find? fun d => d.key.isStr x with
      | none => 
        dsimp only
        split <;> simp
      | some d => simp
theorem putL_length {x : Str} {hs : Int} {k v : Value} : ∀ es : List DictEntry, (putL x hs k v es).length ≤ es.length + 1
  | [] => by simp [putL]
  | e :: r => by
    have ih := putL_length (x := x) (hs := hs) (k := k) (v := v) r
    unfold putL
    split
    · simp
    · simp only [List.length_cons]; omega

def Tr.cls : Tr → Addr
  | .leaf _ => 305
  | .node _ _ => 225
def Tr.da : Tr → Addr
  | .leaf l => l.da
  | .node d _ => d.da
def Tr.n : Tr → Nat
  | .leaf l => l.n
  | .node d _ => d.n
def Tr.rest : Tr → List (Addr × Obj)
  | .leaf _ => []
  | .node d ks => (d.ca, listOf (refs ks).toArray d.cn) :: objsL ks
def Tr.put : Tr → List DictEntry → Nat → Tr
  | .leaf l, es, n => .leaf { l with es := es, n := n }
  | .node d ks, es, n => .node { d with es := es, n := n } ks
theorem objs_eq (t : Tr) : t.objs = (t.addr, instObj t.cls t.da) :: (t.da, dictOf t.es t.n) :: t.rest := by cases t <;> rfl
theorem objs_put (t : Tr) (es : List DictEntry) (n : Nat) : (t.put es n).objs = (t.addr, instObj t.cls t.da) :: (t.da, dictOf es n) :: t.rest := by cases t <;> rfl
theorem addr_put (t : Tr) (es : List DictEntry) (n : Nat) : (t.put es n).addr = t.addr := by cases t <;> rfl
theorem cls_is (t : Tr) : t.cls = 305 ∨ t.cls = 225 := by
  cases t
  · exact .inl rfl
  · exact .inr rfl
theorem ok_put {t : Tr} {k : Nat} {es : List DictEntry} {n : Nat} (h : t.Ok k) (he : ∀ y, y ≠ Str.ofString "parent" → getL y es = getL y t.es) (hz : es.length ≤ 20) : (t.put es n).Ok k := by
  match t, k, h with
  | .leaf l, _, h =>
    obtain ⟨⟨a, b, c, d, e, _, u⟩, p⟩ := h
    exact ⟨⟨(he _ (by decide)).trans a, (he _ (by decide)).trans b, (he _ (by decide)).trans c, (he _ (by decide)).trans d, (he _ (by decide)).trans e, hz, u⟩, p⟩
  | .node d ks, k + 1, h =>
    obtain ⟨⟨a, _⟩, b, c⟩ := h
    exact ⟨⟨(he _ (by decide)).trans a, hz⟩, b, c⟩
theorem refs_length (ks : List Tr) : (refs ks).length = ks.length := by simp [refs]
theorem refs_get {ks : List Tr} {i : Nat} {v : Value} (h : (refs ks)[i]? = some v) : ∃ t, ks[i]? = some t ∧ v = .ref t.addr := by
  unfold refs at h
  rw [List.getElem?_map] at h
  cases e : ks[i]? with
  | none => rw [e] at h; cases h
  | some t => rw [e] at h; exact ⟨t, rfl, (Option.some.inj h).symm⟩
theorem drop_cons {α : Type} {l : List α} {i : Nat} {x : α} (h : l[i]? = some x) : l.drop i = x :: l.drop (i + 1) := by
  obtain ⟨hi, rfl⟩ := List.getElem?_eq_some_iff.mp h
  exact List.drop_eq_getElem_cons hi
theorem take_snoc {α : Type} {l : List α} {i : Nat} {x : α} (h : l[i]? = some x) : l.take (i + 1) = l.take i ++ [x] := by
  rw [List.take_add_one, h]; rfl

def Apart (news : List (Addr × Obj)) : Prop := (news.map (·.1)).Nodup
theorem Apart.left {a b : List (Addr × Obj)} (h : Apart (a ++ b)) : Apart a := by
  unfold Apart at h ⊢
  rw [List.map_append] at h
  exact (List.nodup_append.mp h).1
theorem Apart.right {a b : List (Addr × Obj)} (h : Apart (a ++ b)) : Apart b := by
  unfold Apart at h ⊢
  rw [List.map_append] at h
  exact (List.nodup_append.mp h).2.1
theorem Apart.ne {a b : List (Addr × Obj)} (h : Apart (a ++ b)) : ∀ p ∈ a, ∀ q ∈ b, p.1 ≠ q.1 := fun p hp q hq => by
  unfold Apart at h
  rw [List.map_append] at h
  exact (List.nodup_append.mp h).2.2 _ (List.mem_map_of_mem hp) _ (List.mem_map_of_mem hq)
theorem Apart.of {a b : List (Addr × Obj)} (ha : Apart a) (hb : Apart b) (h : ∀ p ∈ a, ∀ q ∈ b, p.1 ≠ q.1) : Apart (a ++ b) := by
  unfold Apart at ha hb ⊢
  rw [List.map_append]
  refine List.nodup_append.mpr ⟨ha, hb, fun x hx y hy => ?_⟩
  obtain ⟨p, hp, rfl⟩ := List.mem_map.mp hx
  obtain ⟨q, hq, rfl⟩ := List.mem_map.mp hy
  exact h p hp q hq
theorem Apart.cons {p : Addr × Obj} {a : List (Addr × Obj)} (ha : Apart a) (h : ∀ q ∈ a, q.1 ≠ p.1) : Apart (p :: a) := by
  unfold Apart at ha ⊢
  rw [List.map_cons]
  refine List.nodup_cons.mpr ⟨fun hm => ?_, ha⟩
  obtain ⟨q, hq, e⟩ := List.mem_map.mp hm
  exact h q hq e
theorem Apart.tail {p : Addr × Obj} {a : List (Addr × Obj)} (h : Apart (p :: a)) : Apart a := by
  unfold Apart at h ⊢
  rw [List.map_cons] at h
  exact (List.nodup_cons.mp h).2
theorem Apart.head {p : Addr × Obj} {a : List (Addr × Obj)} (h : Apart (p :: a)) : ∀ q ∈ a, q.1 ≠ p.1 := fun q hq e => by
  unfold Apart at h
  rw [List.map_cons] at h
  exact (List.nodup_cons.mp h).1 (e ▸ List.mem_map_of_mem hq)
theorem Apart.nil : Apart [] := List.nodup_nil
theorem Apart.map {a b : List (Addr × Obj)} (h : Apart a) (e : a.map (·.1) = b.map (·.1)) : Apart b := by
  unfold Apart at h ⊢
  rw [← e]; exact h
theorem allLt_mem {d : Addr} : ∀ {l : List (Addr × Obj)}, AllLt d l → ∀ p ∈ l, p.1 < d
  | [], _, _, hp => nomatch hp
  | _ :: _, h, p, hp => by
    rcases List.mem_cons.mp hp with rfl | hp
    · exact h.1
    · exact allLt_mem h.2 p hp
/-- no iterator is among them -/
theorem objs_kind_aux : ∀ n : Nat, (∀ t : Tr, sizeOf t < n → ∀ q ∈ t.objs, q.2.cls ≠ .type "list_iterator" ∧ q.2.cls ≠ .type "enumerate") ∧ (∀ ks : List Tr, sizeOf ks < n → ∀ q ∈ objsL ks, q.2.cls ≠ .type "list_iterator" ∧ q.2.cls ≠ .type "enumerate")
  | 0 => ⟨fun _ h => absurd h (Nat.not_lt_zero _), fun _ h => absurd h (Nat.not_lt_zero _)⟩
  | n + 1 => by
    have ih := objs_kind_aux n
    constructor
    · intro t ht q hq
      rw [objs_eq] at hq
      rcases List.mem_cons.mp hq with rfl | hq
      · exact ⟨(fun e => nomatch e), (fun e => nomatch e)⟩
      · rcases List.mem_cons.mp hq with rfl | hq
        · exact ⟨fun e => by simp at e, fun e => by simp at e⟩
        · cases t with
          | leaf l => nomatch hq
          | node d ks =>
            rcases List.mem_cons.mp hq with rfl | hq
            · exact ⟨fun e => by simp at e, fun e => by simp at e⟩
            · exact ih.2 ks (by simp only [Tr.node.sizeOf_spec] at ht; omega) q hq
    · intro ks hks q hq
      cases ks with
      | nil => nomatch hq
      | cons t r =>
        rcases List.mem_append.mp (show q ∈ t.objs ++ objsL r from hq) with hq | hq
        · exact ih.1 t (by simp only [List.cons.sizeOf_spec] at hks; omega) q hq
        · exact ih.2 r (by simp only [List.cons.sizeOf_spec] at hks; omega) q hq
theorem objsL_kind (ks : List Tr) : ∀ q ∈ objsL ks, q.2.cls ≠ .type "list_iterator" ∧ q.2.cls ≠ .type "enumerate" := (objs_kind_aux _).2 ks (Nat.lt_succ_self _)
theorem objs_kind (t : Tr) : ∀ q ∈ t.objs, q.2.cls ≠ .type "list_iterator" ∧ q.2.cls ≠ .type "enumerate" := (objs_kind_aux _).1 t (Nat.lt_succ_self _)
end Mine
namespace Mine
open PySem PySem.W PyProof.Rows PySem.Calls PySem.Spec

def ForEnd (h₀ : Heap) (L : Addr) (J : (Str → Option Value) → List (Addr × Obj) → Prop) (own : List (Addr × Obj)) (s₁ s₂ : Shared) : Prop :=
  ∃ h' tk m' news' nx, s₂ = { s₁ with heap := h', toks := tk } ∧ Fr h₀ L h' m' ∧ News h₀ L h' news' ∧ (∀ p ∈ nx, p ∈ news') ∧ (∀ p ∈ own, p ∈ news') ∧ J m' nx
def ForPost (h₀ : Heap) (L : Addr) (J : (Str → Option Value) → List (Addr × Obj) → Prop) (own : List (Addr × Obj)) (s₁ : Shared) (Q : Flow → Shared → Prop) (f : Flow) (s₂ : Shared) : Prop :=
  match f with
  | .ret v => Q (.ret v) s₂
  | .brk => Q .next s₂
  | _ => ForEnd h₀ L J own s₁ s₂
theorem ForEnd.mk {h₀ : Heap} {L : Addr} {J : (Str → Option Value) → List (Addr × Obj) → Prop} {own news' : List (Addr × Obj)} {s₁ : Shared} {h' : Heap} {tk : Nat} {m' : Str → Option Value} (nx : List (Addr × Obj)) (F : Fr h₀ L h' m') (N : News h₀ L h' news') (a : ∀ p ∈ nx, p ∈ news') (b : ∀ p ∈ own, p ∈ news') (j : J m' nx) :
    ForEnd h₀ L J own s₁ { s₁ with heap := h', toks := tk } := ⟨h', tk, m', news', nx, rfl, F, N, a, b, j⟩

/-- two entries of one ledger at one address are one -/
theorem news_one {h₀ h : Heap} {L : Addr} {news : List (Addr × Obj)} (N : News h₀ L h news) {p q : Addr × Obj} (hp : p ∈ news) (hq : q ∈ news) (e : p.1 = q.1) : p = q := by
  have a := (N p hp).1
  rw [e, (N q hq).1] at a
  exact Prod.ext e (Option.some.inj a).symm

section
variable {prog : Program} {w : World} {A : Around} {E : Value → Shared → Prop} {s : Shared} {env : Env} {h₀ : Heap} {x : Str} {body : List Stmt} {Q : Flow → Shared → Prop}
/-- a loop over a list of the ledger that its turns leave alone -/
theorem for_list {l : Addr} {vs : List Value} {nn : Nat} {m₀ : Str → Option Value} {news : List (Addr × Obj)} (J : Nat → (Str → Option Value) → List (Addr × Obj) → Prop)
    (hh : A.handled = none) (F : Fr h₀ env.locals s.heap m₀) (N : News h₀ env.locals s.heap news) (stay : ∀ i m nx, J i m nx → (l, listOf vs.toArray nn) ∈ nx) (kind : ∀ i m nx, J i m nx → ∀ q ∈ nx, q.2.cls ≠ .type "list_iterator") (hj : J 0 m₀ news)
    (turn : ∀ i v m₁ nx h tk own, vs[i]? = some v → (∀ p ∈ own, ∀ q ∈ nx, p.1 ≠ q.1) → J i m₁ nx → Fr h₀ env.locals h (fun y => if y = x then some v else m₁ y) → News h₀ env.locals h (nx ++ own) →
      wpAny (model prog w) A (execs body env) (ForPost h₀ env.locals (J (i + 1)) own { s with heap := h, toks := tk } Q) E { s with heap := h, toks := tk })
    (done : ∀ m₁ nx h tk, J vs.length m₁ nx → Fr h₀ env.locals h m₁ → News h₀ env.locals h nx → Q .next { s with heap := h, toks := tk }) :
    wpAny (model prog w) A (pyIter (.ref l)) (fun it s₂ => LoopAtV prog w A h₀ env x body Q E it s₂) E s := by
  have hl := stay _ _ _ hj
  have hol := (N _ hl).1
  have hls : s.heap.IsList l vs.toArray := ⟨_, hol, rfl, nn, rfl⟩
  have lt : ∀ b o, s.heap.get? b = some o → b ≠ s.heap.objs.size := fun b o e => Nat.ne_of_lt (Heap.lt_size e)
  have hlne := lt _ _ hol
  refine wpAny_pyIter_list hls ?_
  have W := Walks.list (prog := prog) (w := w) hh s.heap.objs.size l hlne vs.toArray
  refine ⟨s.heap.objs.size, _, _, vs.toArray.size, _, _, m₀, news, fun i m nx => J i m nx, rfl, W, ?_, ?_, ?_, ⟨⟨_, Heap.get?_push_size _ rfl, rfl, rfl⟩, hls.at fun o e => Heap.get?_push_of_some _ e⟩, F.push _,
    fun q hq => ⟨Heap.get?_push_of_some _ (N q hq).1, (N q hq).2⟩, hj, ?_, ?_⟩
  · intro hm
    rcases List.mem_cons.mp hm with e | hm
    · exact absurd F.ns.lt (e ▸ Nat.lt_irrefl _)
    · exact (N _ hl).2.1 (List.mem_singleton.mp hm).symm
  · intro b hb
    rw [List.mem_singleton.mp hb]
    exact next_is_new F
  · intro q hq hw
    exact lt _ _ (N q hq).1 (List.mem_singleton.mp hw)
  · rintro i v m₁ nx s₁ own ⟨h, tk, rfl⟩ _ hv hJ hoff hown hget hfp hst F₁ N₁
    replace hv : vs[i]? = some v := by simpa using hv
    have hl₁ := stay _ _ _ hJ
    -- what the loop holds itself: its iterator
    have hI : ∃ oI, h.get? s.heap.objs.size = some oI ∧ oI.cls = .type "list_iterator" := by
      obtain ⟨⟨o, e, c, _⟩, _⟩ := hst
      exact ⟨o, e, c⟩
    obtain ⟨oI, eI, cI⟩ := hI
    have fnone : h₀.get? s.heap.objs.size = none := next_is_new F
    have mI : (s.heap.objs.size, oI) ∈ own := hfp _ (.head _) fnone _ eI
    have sep : ∀ p ∈ [(s.heap.objs.size, oI)], ∀ q ∈ nx, p.1 ≠ q.1 := fun p hp q hq e => by
      rw [List.mem_singleton.mp hp] at e
      exact hoff q hq (List.mem_singleton.mpr e.symm)
    have N₂ : News h₀ env.locals h (nx ++ [(s.heap.objs.size, oI)]) := fun q hq => N₁ q ((List.mem_append.mp hq).elim (fun z => List.mem_append_right _ z) fun z => by rw [List.mem_singleton.mp z]; exact List.mem_append_left _ mI)
    refine wpAny_mono (turn i v m₁ nx h tk [(s.heap.objs.size, oI)] hv sep hJ F₁ N₂) (fun f s₂ p => ?_) fun _ _ e => e
    have fin : ForEnd h₀ env.locals (J (i + 1)) [(s.heap.objs.size, oI)] { s with heap := h, toks := tk } s₂ → LoopStepU h₀ env.locals [s.heap.objs.size] own (fun m nx => J (i + 1) m nx) { s with heap := h, toks := tk } .next s₂ := by
      rintro ⟨h', tk', m', news', nx', e, F', N', hn, ho, hJ'⟩
      refine ⟨rfl, h', tk', m', nx', e, F', fun q hq => ?_, fun q hq hw => ?_, hJ'⟩
      · rcases List.mem_append.mp hq with z | z
        · rcases List.mem_cons.mp (hown q z) with e1 | e1
          · have : q = (s.heap.objs.size, oI) := by
              have a := hget q z
              rw [e1] at a
              exact Prod.ext e1 (Option.some.inj (a.symm.trans eI))
            rw [this]
            exact N' _ (ho _ (.head _))
          · have e1 := List.mem_singleton.mp e1
            have : q = (l, listOf vs.toArray nn) := by
              have a := hget q z
              rw [e1] at a
              have b := (N₁ _ (List.mem_append_right _ hl₁)).1
              exact Prod.ext e1 (Option.some.inj (a.symm.trans b))
            rw [this]
            exact N' _ (hn _ (stay _ _ _ hJ'))
        · exact N' q (hn q z)
      · have : q = (s.heap.objs.size, oI) := news_one N' (hn q hq) (ho _ (.head _)) (List.mem_singleton.mp hw)
        exact kind _ _ _ hJ' q hq (this ▸ cI)
    cases f with
    | ret v => exact .ret p
    | brk => exact .brk p
    | next => exact .next (fin p)
    | cont => exact .cont (fin p)
  · rintro h tk m₁ nx F' N' _ hJ
    exact done m₁ nx h tk (by simpa using hJ) F' N'
end

section
variable {prog : Program} {w : World} {A A₀ : Around} {E : Value → Shared → Prop} {s : Shared} {K : Frag} {C L : Addr} {h₀ base : Heap} {m mg mb : Str → Option Value} {news news' : List (Addr × Obj)} {Q : Value → Shared → Prop}
/-- an own class is called: what stood stands -/
theorem call_clsG {pos : List Value} {kw : List (Str × Value)} {fI : Addr} (F : Fr h₀ L s.heap m) (X₀ : K.In h₀) (N : News h₀ L s.heap news) (hm : makesIn K C = true) (hi : findIn K (.ref C) "__init__" = some (some (.ref fI))) (hf : isFn K (.ref fI) = true)
    (h : ∀ x dx h', Fr h₀ L h' m → News h₀ L h' ((x, instObj C dx) :: (dx, dictOf [] 0) :: news) → (∀ p ∈ news, p.1 < dx) → dx < x → (∀ b o, s.heap.get? b = some o → h'.get? b = some o) → s.heap.get? x = none → s.heap.get? dx = none →
      codeAny (model prog w) (A.under (.builtin "type.__call__" ⟨.ref C :: pos, kw⟩)) (.call (.ref fI) ⟨.ref x :: pos, kw⟩) (InitBack x fun r s' => match r with | .ok (.ret v) => Q v s' | .ok _ => False | .error e => E e s') { s with heap := h' }) :
    wpAny (model prog w) A (call (.ref C) pos kw) Q E s := by
  have X := X₀.keeps F.keep
  have none_of : ∀ a, s.heap.objs.size ≤ a → s.heap.get? a = none := fun a ha => Heap.get?_none_of_le ha
  obtain ⟨hh, g, d, t, os⟩ := s
  refine wpAny_call (make_core (makes_of X hm) (looks_findIn X hi) (fun self => bind_fn X self (beq_iff_eq.mp hf)) (.inl rfl) (h _ hh.objs.size _ ((F.push _).push _) ?_ (fun p hp => Heap.lt_size (N p hp).1) (Nat.lt_succ_self _)
    (fun b o e => Heap.get?_push_of_some _ (Heap.get?_push_of_some _ e)) (none_of _ (Nat.le_succ _)) (none_of _ (Nat.le_refl _))))
  have := (N.push F emptyDict).push (F.push _) (instObj C hh.objs.size)
  rwa [Heap.size_push] at this

theorem set_sym {x dx : Addr} {ox : Obj} {es : List DictEntry} {n : Nat} {name : Str} {v : Value} {r : Option Value} {Q : Unit → Shared → Prop} (F : Fr h₀ L s.heap m) (X₀ : K.In h₀) (N : News h₀ L s.heap news) (I : InstAt s.heap x ox C (some (dictOf es n))) (hd : ox.dict = some dx)
    (hs : findIn K (.ref C) "__setattr__" = some (some (.builtin "object.__setattr__"))) (hp : plainOver K C = true) (ht : takerIn K C name = some none) (hh : hasDictIn K C = true) (hl : getL name es = some r)
    (U : Upd dx (dictOf es n) (dictOf (putL name (PyData.keyHash w.params name) (.str name (s.toks + 1)) v es) (putN name es n)) news news') (hz : es.length ≤ 20)
    (h : ∀ h', Fr h₀ L h' m → News h₀ L h' news' → Q () { s with heap := h', toks := s.toks + 2 }) :
    wpAny (model prog w) A (setAttr (.ref x) name v) Q E s :=
  set_dict F X₀ N I hd hs hp ht hh (by rw [hl]; rfl) rfl U (Nat.le_trans (Mine.putL_length es) (by omega)) h
end

section
variable {prog : Program} {w : World} {A : Around} {E : Value → Shared → Prop} {s : Shared} {h₀ : Heap} {L D : Addr} {m : Str → Option Value} {news news' : List (Addr × Obj)} {n : Nat} {vs : List Value} {x : Value}
theorem append_l {Q : Value → Shared → Prop} (F : Fr h₀ L s.heap m) (N : News h₀ L s.heap news) (U : Upd D (listOf vs.toArray n) (listOf (vs ++ [x]).toArray (n + 1)) news news') (hz : vs.length ≤ 1000)
    (h : ∀ h', Fr h₀ L h' m → News h₀ L h' news' → Q .none { s with heap := h' }) : wpAny (model prog w) A (call (.builtin "list.append") [.ref D, x]) Q E s :=
  append_K F N (by rw [List.push_toArray]; exact U) h (by rw [sizeLine_eq, List.size_toArray]; omega)
theorem len_l {Q : Value → Shared → Prop} (N : News h₀ L s.heap news) (hm : (D, listOf vs.toArray n) ∈ news) (hz : vs.length ≤ 1000) (h : Q (.int vs.length (s.toks + 1)) { s with toks := s.toks + 2 }) : wpAny (model prog w) A (call (.builtin "len") [.ref D]) Q E s := by
  refine call_len_list (N.isList hm) (by rw [List.size_toArray]; omega) ?_
  rw [List.size_toArray]
  exact h
theorem last_l {Q : Value → Shared → Prop} {value slice : PySem.Expr} {u : Tok} (N : News h₀ L s.heap news) (hm : (D, listOf (vs ++ [x]).toArray n) ∈ news) (h : Q x s)
    (hs : subscripted slice false (.ref D) (.int (-1) u) = operate [.ref D, .int (-1) u] (getItem (.ref D) (.int (-1) u))) : wpAny (model prog w) A (subscriptTail value slice (.ref D) (.int (-1) u)) Q E s :=
  kde_neg (j := vs.length) (v := x) (N.isList hm) (by decide) (by decide) (by rw [seqIndex?_neg_one (by simp)]; simp) (by simp) h hs
end

def AllNe (d : Addr) : List (Addr × Obj) → Prop
  | [] => True
  | p :: r => @Ne Nat p.1 d ∧ AllNe d r
theorem allNe_of {d : Addr} : ∀ {l : List (Addr × Obj)}, (∀ p ∈ l, p.1 ≠ d) → AllNe d l
  | [], _ => trivial
  | p :: _, h => ⟨h p (.head _), allNe_of fun q hq => h q (.tail _ hq)⟩
theorem AllNe.mem {d : Addr} : ∀ {l : List (Addr × Obj)}, AllNe d l → ∀ p ∈ l, p.1 ≠ d
  | [], _, _, hp => nomatch hp
  | _ :: _, h, p, hp => by
    rcases List.mem_cons.mp hp with rfl | hp
    · exact h.1
    · exact AllNe.mem h.2 p hp

/-- a goal that the walk leaves alone -/
def Hold (P : Prop) : Prop := P
theorem hold {P : Prop} (h : Hold P) : P := h

theorem with_map2 {P : Prop} {g h : Heap} {L : Addr} {x : Str} {v : Value} {m : Str → Option Value} (F : Fr g L h fun y => if y = x then some v else m y) (k : ∀ m₀, m₀ = m → Fr g L h (fun y => if y = x then some v else m₀ y) → P) : P := k m rfl F

section
variable {prog : Program} {w : World} {A : Around} {E : Value → Shared → Prop} {s : Shared} {h₀ : Heap} {L D : Addr} {m : Str → Option Value} {news news' : List (Addr × Obj)} {n : Nat} {vs : List Value} {v : Value} {k : Int}
theorem item_l {Q : Value → Shared → Prop} {value slice : PySem.Expr} {u : Tok} (N : News h₀ L s.heap news) (hm : (D, listOf vs.toArray n) ∈ news) (h0 : 0 ≤ k) (hk : k < 2 ^ 63) (hx : vs[k.toNat]? = some v) (h : Q v s)
    (hs : subscripted slice false (.ref D) (.int k u) = operate [.ref D, .int k u] (getItem (.ref D) (.int k u))) : wpAny (model prog w) A (subscriptTail value slice (.ref D) (.int k u)) Q E s :=
  have hl := N.isList hm
  tail_any hl.typeIs slot_list_getitem.lookup (wpAny_getItem_list hl h0 hk (by simpa using hx) h) hs
end

theorem strOk_empty : PyData.strOk (Str.ofString "") = true := by decide +kernel
theorem preOk_str {x : Str} (h : PreOk x) : PyData.strOk x = true := by
  unfold PyData.strOk
  rw [Array.all_eq_true_iff_forall_mem]
  intro c hc
  have h1 := h.2 c (by simpa using hc)
  have h2 : ∀ c ∈ [9, 10, 32, 35, 92, 99], decide (c < 0x110000) = true := by decide
  exact h2 c h1
section
variable {prog : Program} {w : World} {A : Around} {E : Value → Shared → Prop} {s : Shared} {a b : Value} {da : PyData} {as bs : List Addr} {Q : Value → Shared → Prop}
theorem eq_same (ra : Reads s.heap a da as) (rb : Reads s.heap b da bs) (ha : SeqAt.shaped da = true) (hu : A.units + 64 < cLine) (he : PyData.eqv da da = true) (h : Q (.bool true) s) : wpAny (model prog w) A (compareOp .Eq a b) Q E s :=
  eq_dataH ra rb ha ha hu (by rw [he]; exact h)
theorem ne_same (ra : Reads s.heap a da as) (rb : Reads s.heap b da bs) (ha : SeqAt.shaped da = true) (hu : A.units + 64 < cLine) (he : PyData.eqv da da = true) (h : Q (.bool false) s) : wpAny (model prog w) A (compareOp .NotEq a b) Q E s :=
  ne_dataH ra rb ha ha hu (by rw [he]; exact h)
end
end Mine
namespace Mine
open PySem PySem.W PyProof.Rows PySem.Calls PySem.Spec
theorem three_sub {α : Type} {a b c : α} {l : List α} (m1 : a ∈ l) (m2 : b ∈ l) (m3 : c ∈ l) : ∀ q ∈ [a, b, c], q ∈ l := fun q hq => by
  rcases List.mem_cons.mp hq with rfl | hq
  · exact m1
  · rcases List.mem_cons.mp hq with rfl | hq
    · exact m2
    · rw [List.mem_singleton.mp hq]; exact m3
theorem abc_ok {z : Int} (h0 : 0 ≤ z) (h3 : z < 3) : PyData.strOk (Txt.item (Str.ofString "abc") z) = true := by
  have : z = 0 ∨ z = 1 ∨ z = 2 := by omega
  rcases this with rfl | rfl | rfl <;> decide +kernel
def LeafPost (d : Addr) (line : Int) (r : Value) (news' : List (Addr × Obj)) : Prop :=
  ∃ (l : Lf) (ds' : List Value) (n' : Nat), r = .ref l.a ∧ l.Ok ∧ PreOk l.pre ∧ l.line = line ∧ getL (Str.ofString "parent") l.es = some none ∧ Dig ds' ∧ l.a ≠ l.da ∧ l.es.length ≤ 19 ∧ news' = l.objs ++ [(d, listOf ds'.toArray n')]
theorem leaf_end {h₀ H h' : Heap} {L d x dx : Addr} {m : Str → Option Value} {s : Shared} {adr : List Addr} {Q : Value → Shared → Prop} {tk' n n' : Nat} {line ty col : Int} {tt tp tv tl tc : Tok} {vl pre : Str} {es : List DictEntry} {led : List (Addr × Obj)} {ds' : List Value}
    (hret : ∀ (r : Value) (news' : List (Addr × Obj)) (h' : Heap) (tk' : Nat), Fr h₀ L h' m → News h₀ L h' news' → (∀ b o, b ∉ adr → H.get? b = some o → h'.get? b = some o) → (∀ q ∈ news', q.1 ∈ adr ∨ H.get? q.1 = none) → LeafPost d line r news' → Q r { s with heap := h', toks := tk' })
    (F : Fr h₀ L h' m) (N : News h₀ L h' led) (K : ∀ b o, b ∉ adr → H.get? b = some o → h'.get? b = some o) (S : ∀ q ∈ led, q.1 ∈ adr ∨ H.get? q.1 = none)
    (m1 : (x, instObj 305 dx) ∈ led) (m2 : (dx, dictOf es n) ∈ led) (m3 : (d, listOf ds'.toArray n') ∈ led)
    (p1 : getL (Str.ofString "type") es = some (some (.int ty tt))) (p2 : getL (Str.ofString "value") es = some (some (.str vl tv))) (p3 : getL (Str.ofString "_prefix") es = some (some (.str pre tp))) (p4 : getL (Str.ofString "lineno") es = some (some (.int line tl)))
    (p5 : getL (Str.ofString "column") es = some (some (.int col tc))) (p6 : es.length ≤ 19) (pk : PreOk pre) (fr : getL (Str.ofString "parent") es = some none) (dg : Dig ds') (pt : PyData.strOk vl = true) : Q (.ref x) { s with heap := h', toks := tk' } := by
  have sub := three_sub m1 m2 m3
  refine hret _ [(x, instObj 305 dx), (dx, dictOf es n), (d, listOf ds'.toArray n')] h' tk' F (fun q hq => N q (sub q hq)) K (fun q hq => S q (sub q hq)) ⟨⟨x, dx, es, n, ty, tt, vl, tv, pre, tp, line, tl, col, tc⟩, ds', n', rfl, ⟨p1, p2, p3, p4, p5, Nat.le_succ_of_le p6, pt⟩, pk, rfl, fr, dg, fun e => ?_, p6, rfl⟩
  have a := (N _ m1).1
  have b := (N _ m2).1
  dsimp only at e a b
  rw [e, b] at a
  cases a
section
local macro_rules | `(tactic| k_room) => `(tactic| ((try simp only [depth_under_make, depth_under_kw, depth_in1, depth_deeper, depth_caller, recursionLimit] at *); (try dsimp only [ktrTop] at *); omega))
local macro_rules | `(tactic| k_units) => `(tactic| (have hcL9 := cLine_is; (try simp only [units_in1, units_deeper, Around.mark_units, units_caller] at *); (try dsimp only [ktrTop] at *); omega))
local macro_rules | `(tactic| walk_at "LeaveK") => `(tactic| (k_dflt (refine' leaveT ?k1 ?k2 ?k3 ?_; (case k1 => k_asm); (case k2 => k_asm); (case k3 => k_asm); k_whole); intro kF kN kK kS; (try dsimp only)))
-- entry of a def with cells
local macro_rules | `(tactic| ktr_enter) => `(tactic| (refine' code_defCG ?k1 ?k2 ?k3 ?k4 ?k5 ?kA ?kF ?kK ?k6 ?k7 ?k8 ?k9 ?kB ?kD ?_ ?c2 ?c3 ?c4; (case kA => exact rfl); (case kF => exact rfl); (case kK => assumption); (case k1 => k_asm); (case k2 => k_asm); (case k3 => k_asm); (case k4 => k_asm); (case k5 => k_asm); (case k6 => k_is); (case k7 => k_is); (case k8 => k_room); (case k9 => first | exact BindsTo.of_eq rfl | exact binds_K (by k_in) rfl (by k_is) rfl rfl rfl); (case kB => exact rfl); (case kD => decide +kernel); (case c2 => exact rfl); (case c3 => exact rfl); (case c4 => exact rfl); k_whole))
local macro_rules | `(tactic| walk_at "call ref") => `(tactic| (k_here; ((with_reducible show wpAny _ _ (call (Value.ref 329) _) _ _ _)); (k_dflt (refine' take_use ?kU ?kD ?kZ ?k1 ?k2 ?k3 ?k4 ?k5 ?k6 ?k7 ?k8 ?_; (case k1 => (k_asm)); (case k2 => (k_asm)); (case k3 => (k_asm)); (case k4 => (k_asm)); (case kU => (k_updF)); (case k5 => (k_asm)); (case k6 => (first | exact rfl | assumption)); (case kD => (assumption)); (case kZ => (decide)); (case k7 => (k_room)); (case k8 => (k_units)); k_whole)); (intro z9 tk9 ds9 n9 h9 tk9' F9 N9 kp9 z0 z1 hds9; (try dsimp only at N9))))
local macro_rules | `(tactic| walk_at "eval ListComp") => `(tactic| (k_here; (with_unfolding_all refine' comp_led ?c0 ?c1 ?c2 ?c3 ?c4 ?c5 ?_ ?c6; (case c0 => k_asm); (case c1 => decide); (case c2 => rfl); (case c3 => rfl); (case c4 => decide); (case c5 => rfl); (case c6 => intro _; rfl); k_whole)))
local macro_rules | `(tactic| walk_at "eval Name") => `(tactic| (k_here; k_inBlock; k_dflt (refine' name_cell ?N ?m ?d ?c ?k ?x ?b ?_; (case c => rfl); (case k => rfl); (case x => rfl); (case b => decide); (case N => k_asm); (case m => k_mem); (case d => assumption); k_whole)))
local macro_rules | `(tactic| walk_at "subscriptTail") => `(tactic| (k_here; (k_dflt (refine' pieces_sub ?F ?X ?z ?y ?_ ?hs; (case F => k_asm); (case X => k_asm); (case z => omega); (case y => omega); (case hs => with_unfolding_all rfl))); intro x9 t9 hx9))
local macro_rules | `(tactic| walk_at "call builtin:str.join") => `(tactic| (refine join_list (News.isList (by k_asm) (by k_mem)) (by assumption) (by assumption) ?_; intro tj kj))
local macro_rules | `(tactic| walk_at "subscriptTail Name Slice ref ref") => `(tactic| (k_here; k_dflt (refine' kmk_slice_lit (zs := []) ?F ?N ?l ?p ?q ?e ?_ ?s ?t ?z; (case F => k_asm); (case N => k_asm); (case l => exact lstK (l := []) (Frag.In.keeps (by k_asm) (Fr.keep (by k_asm))) (by k_is)); (case p => kmk_part); (case q => kmk_part); (case e => rfl); (case s => with_unfolding_all rfl); (case t => kmk_pure); (case z => exact Nat.zero_le _)); intro D' h' F' N' l1; (try k_lt l1); (try k_sweep)))
set_option maxHeartbeats 4000000 in
theorem leaf_t (w : World) (d : Addr) (ds : List Value) (n : Nat) (line : Int) (tl : Tok) (hds : Dig ds) :
   Tell w 334 [.ref d, .int line tl] 20 [(d, listOf ds.toArray n)] (LeafPost d line) := by
  unfold Tell
  k_fill
  intro p loose mean mg mb dp un gd cn cs a ccd cl outer A₀ base h₀ L m s Q E B F X N T hk hd hu hret
  refine wpAny_call ?_
  k_dflt ktr_enter
  intro g' L' h' tk' cells' FG' F' N' Y' B' X' T' l1 kG'; (try k_lt l1)
  have hY := CellsAre.one Y'; obtain ⟨o', hE', d1'⟩ := hY; subst hE'; clear Y'
  (try simp only [List.cons_append, List.nil_append] at N'); (try dsimp only); (try k_lift B'); (try k_fold)
  have d1 : o'.data = .cell (some (.ref d)) := d1'
  k_steps
  refine comp_range (fun _ ys nx => (∃ ds' n', Dig ds' ∧ nx = [(L' + 1, o'), (d, listOf ds'.toArray n')]) ∧ ∀ y ∈ ys, ∃ x t, y = .str x t ∧ x ∈ pieces) rfl (by assumption) (by assumption) (by assumption) (by omega) (by omega) ⟨⟨_, _, by assumption, rfl⟩, fun _ h => nomatch h⟩ ?_ ?_
  · rintro i v ys nx h tk C mC E' hi ⟨⟨ds', n', hds', rfl⟩, hys⟩ hlen F₁ N₁ hC hx hq
    k_steps
    refine ⟨_, _, _, rfl, by assumption, by assumption, fun b o hb e => ?_, fun q hq => .inl ?_, ⟨_, _, by assumption, rfl⟩, fun y hy => ?_⟩
    · rename_i kp9 z0 z1 hds9 x9 t9 hx9
      exact kp9 b o (fun z => hb (by simp [z])) e
    · rcases List.mem_cons.mp hq with rfl | hq
      · simp
      · rw [List.mem_singleton.mp hq]; simp
    · rcases List.mem_append.mp hy with hy | hy
      · exact hys y hy
      · rw [List.mem_singleton.mp hy]; exact ⟨_, _, rfl, by assumption⟩
  · rintro D ys nx h tk k ⟨⟨ds', n', hds', rfl⟩, hys⟩ hlen F₁ N₁ hq
    have hD1 : @Ne Nat (L' + 1) D := hq (L' + 1, o') (.head _)
    have hD2 : @Ne Nat d D := hq (d, listOf ds'.toArray n') (.tail _ (.head _))
    obtain ⟨xs, hxs, hxp⟩ := strs_of hys
    obtain ⟨hpx, hpb⟩ := join_ok hxs hxp (by omega)
    k_steps
    refine' leaf_end hret ?F ?N ?K ?S ?m1 ?m2 ?m3 ?p1 ?p2 ?p3 ?p4 ?p5 ?p6 hpx ?fr ?dg ?pt
    case F => assumption
    case N => assumption
    case K => assumption
    case S => assumption
    case m1 => k_mem
    case m2 => k_mem
    case m3 => k_mem
    case p1 => k_get
    case p2 => k_get
    case p3 => k_get
    case p4 => k_get
    case p5 => k_get
    case p6 => exact Nat.le_of_ble_eq_true rfl
    case fr => k_get
    case dg => assumption
    case pt => exact abc_ok (by assumption) (by assumption)
end

section
variable {w : World} {news : List (Addr × Obj)} {p : Program} {loose : List Str} {mean : ExcName → Option Value} {mg mb : Str → Option Value} {dp un : Nat} {gd : Option (List Code)} {cn : Str} {cs : Scope} {a : Addr} {ccd : Value} {cl : List (Str × Addr)} {outer : List Env} {A₀ : Around} {base h₀ : Heap} {L : Addr} {m : Str → Option Value} {s : Shared} {Q E : Value → Shared → Prop}
theorem leaf_use {d : Addr} {ds : List Value} {n : Nat} {line : Int} {tk : Tok} {g : Obj → List (Addr × Obj)} (U : UpdF d (listOf ds.toArray n) news g) (hds : Dig ds) (B : Below A₀ base outer h₀) (F : Fr h₀ L s.heap m) (X : (hd.heap_39 w.params).In h₀) (N : News h₀ L s.heap news)
    (T : Top p loose mean mg mb h₀) (hk : cs.kind = .function) (hd : dp + 20 ≤ 400) (hu : un + 30 * 20 ≤ 4000)
    (ret : ∀ (l : Lf) ds' n' h' tk', Fr h₀ L h' m → News h₀ L h' ((l.a, instObj 305 l.da) :: (l.da, dictOf l.es l.n) :: g (listOf ds'.toArray n')) → (∀ b o, b ≠ d → s.heap.get? b = some o → h'.get? b = some o) → (∀ q ∈ news, q.1 ≠ l.a) → (∀ q ∈ news, q.1 ≠ l.da) → (@Ne Nat l.a l.da) →
      s.heap.get? l.a = none → s.heap.get? l.da = none → l.Ok → PreOk l.pre → l.line = line → getL (Str.ofString "parent") l.es = some none → l.es.length ≤ 19 → Dig ds' → Q (.ref l.a) { s with heap := h', toks := tk' }) :
    wpAny (model PySem.Challenge.rw_bp5029_01.row.prog w) (ktrTop dp un gd cn cs L a ccd cl outer) (call (.ref 334) [.ref d, .int line tk]) Q E s := by
  obtain ⟨own, rest, rfl, hg, h1, h2⟩ := U.split
  have hdm : s.heap.get? d = some (listOf ds.toArray n) := (N (d, listOf ds.toArray n) (by simp)).1
  refine tell_use (own ++ rest) (leaf_t w d ds n line tk hds) B F X N T hk ?_ ?_ ?_ hd hu ?_
  · intro q hq; rw [List.mem_singleton.mp hq]; simp
  · intro q hq
    rcases List.mem_append.mp hq with hq | hq
    · exact List.mem_append_left _ hq
    · exact List.mem_append_right _ (.tail _ hq)
  · intro q hq e
    have e' : q.1 = d := by simpa using e
    rcases List.mem_append.mp hq with hq | hq
    · exact h1 q hq e'
    · exact h2 q hq e'
  · rintro r news' h' tk' F' N' hk' hf' hx ⟨l, ds', n', rfl, ok, po, hl, fr, dg, hne, hsm, rfl⟩
    have one : ∀ x, x = l.a ∨ x = l.da → x ≠ d ∧ s.heap.get? x = none := fun x hx' => by
      have m1 : (l.a, instObj 305 l.da) ∈ l.objs ++ [(d, listOf ds'.toArray n')] := by simp [Lf.objs]
      have m2 : (l.da, dictOf l.es l.n) ∈ l.objs ++ [(d, listOf ds'.toArray n')] := by simp [Lf.objs]
      have m3 : (d, listOf ds'.toArray n') ∈ l.objs ++ [(d, listOf ds'.toArray n')] := by simp
      have hne : x ≠ d := fun e => by
        rcases hx' with rfl | rfl
        · have := news_one (fun q hq => N' q (List.mem_append_left _ hq)) m1 m3 e; simp at this
        · have := news_one (fun q hq => N' q (List.mem_append_left _ hq)) m2 m3 e; simp at this
      refine ⟨hne, ?_⟩
      rcases hx' with rfl | rfl
      · exact (hf' _ m1).elim (fun z => absurd (by simpa using z) hne) id
      · exact (hf' _ m2).elim (fun z => absurd (by simpa using z) hne) id
    have off : ∀ x, x = l.a ∨ x = l.da → ∀ q ∈ own ++ (d, listOf ds.toArray n) :: rest, q.1 ≠ x := fun x hx' q hq e => by
      have := (N q hq).1
      rw [e, (one x hx').2] at this
      cases this
    refine ret l ds' n' h' tk' F' (fun q hq => ?_) (fun b o hb e => hk' b o (by simpa using hb) e) (off _ (.inl rfl)) (off _ (.inr rfl)) hne (one _ (.inl rfl)).2 (one _ (.inr rfl)).2 ok po hl fr hsm dg
    rw [hg] at hq
    refine N' q ?_
    simp only [Lf.objs, List.mem_cons, List.mem_append, List.not_mem_nil, or_false] at hq ⊢
    rcases hq with a | a | a | a | a <;> simp [a]
end
end Mine
namespace Mine
open PySem PySem.W PyProof.Rows PySem.Calls PySem.Spec
theorem with_map {P : Prop} {g h : Heap} {L : Addr} {m : Str → Option Value} (F : Fr g L h m) (k : ∀ m₀, m₀ = m → Fr g L h m₀ → P) : P := k m rfl F
theorem with_es {P : Prop} {g h : Heap} {L dx : Addr} {e0 e1 e2 : Addr × Obj} {es : List DictEntry} {n : Nat} {tail : List (Addr × Obj)} (N : News g L h (e0 :: e1 :: e2 :: (dx, dictOf es n) :: tail)) (k : ∀ es' n', es' = es → n' = n → News g L h (e0 :: e2 :: (dx, dictOf es' n') :: tail) → P) : P :=
  k es n rfl rfl fun q hq => N q (by
    rcases List.mem_cons.mp hq with rfl | hq
    · exact .head _
    · exact .tail _ (.tail _ hq))
theorem get_self (m : Str → Option Value) (x : Str) (v : Value) : (fun y => if y = x then some v else m y) x = some v := by simp
theorem map_here {m m₁ : Str → Option Value} {x : Str} {v : Value} (h : ∀ z, z ≠ x → m₁ z = m z) : (fun y => if y = x then some v else m₁ y) = fun y => if y = x then some v else m y := by
  funext y
  by_cases e : y = x
  · simp [e]
  · simp [e, h y e]
theorem node_end {h₀ H h' : Heap} {L x dx ca : Addr} {m : Str → Option Value} {s : Shared} {adr : List Addr} {Q : Value → Shared → Prop} {tk' n cn j : Nat} {es : List DictEntry} {ka : List Tr}
    (hret : ∀ (r : Value) (news' : List (Addr × Obj)) (h' : Heap) (tk' : Nat), Fr h₀ L h' m → News h₀ L h' news' → (∀ b o, b ∉ adr → H.get? b = some o → h'.get? b = some o) → (∀ q ∈ news', q.1 ∈ adr ∨ H.get? q.1 = none) →
      (∃ d ks', r = .ref d.a ∧ (Tr.node d ks').Ok (j + 1) ∧ (Tr.node d ks').Free ∧ news' = (Tr.node d ks').objs ∧ Apart news') → Q r { s with heap := h', toks := tk' })
    (F : Fr h₀ L h' m) (N : News h₀ L h' ((ca, listOf (refs ka).toArray cn) :: (x, instObj 225 dx) :: (dx, dictOf es n) :: objsL ka)) (K : ∀ b o, b ∉ adr → H.get? b = some o → h'.get? b = some o)
    (S : ∀ q ∈ ((ca, listOf (refs ka).toArray cn) :: (x, instObj 225 dx) :: (dx, dictOf es n) :: objsL ka), q.1 ∈ adr ∨ H.get? q.1 = none)
    (p1 : getL (Str.ofString "children") es = some (some (.ref ca))) (p2 : getL (Str.ofString "parent") es = some none) (p3 : es.length ≤ 19) (ok : OkL ka j) (hl : ka.length ≤ 4) (l1 : dx < x) (l2 : x < ca) (l3 : ∀ p ∈ objsL ka, p.1 < dx) (ap : Apart (objsL ka)) :
    Q (.ref x) { s with heap := h', toks := tk' } := by
  have sub : ∀ q ∈ (Tr.node ⟨x, dx, es, n, ca, cn⟩ ka).objs, q ∈ ((ca, listOf (refs ka).toArray cn) :: (x, instObj 225 dx) :: (dx, dictOf es n) :: objsL ka) := fun q hq => by
    simp only [Tr.objs, List.mem_cons] at hq ⊢
    rcases hq with a | a | a | a <;> simp [a]
  refine hret _ (Tr.node ⟨x, dx, es, n, ca, cn⟩ ka).objs h' tk' F (fun q hq => N q (sub q hq)) K (fun q hq => S q (sub q hq)) ⟨⟨x, dx, es, n, ca, cn⟩, ka, rfl, ⟨⟨p1, Nat.le_succ_of_le p3⟩, hl, ok⟩, ⟨p2, p3⟩, rfl, ?_⟩
  have l4 : ∀ p ∈ objsL ka, p.1 < x := fun p hp => Nat.lt_trans (l3 p hp) l1
  refine Apart.cons (Apart.cons (Apart.cons ap fun q hq => Nat.ne_of_lt (Nat.lt_trans (l4 q hq) l2)) fun q hq => ?_) fun q hq => ?_
  · rcases List.mem_cons.mp hq with rfl | hq
    · exact Nat.ne_of_gt (Nat.lt_trans l1 l2)
    · exact Nat.ne_of_lt (l3 q hq)
  · rcases List.mem_cons.mp hq with rfl | hq
    · exact Nat.ne_of_lt l1
    · rcases List.mem_cons.mp hq with rfl | hq
      · exact Nat.ne_of_gt l2
      · exact Nat.ne_of_lt (l4 q hq)
section
local macro_rules | `(tactic| k_room) => `(tactic| ((try simp only [depth_under_make, depth_under_kw, depth_in1, depth_deeper, depth_caller, recursionLimit] at *); (try dsimp only [ktrTop] at *); omega))
local macro_rules | `(tactic| k_units) => `(tactic| (have hcL9 := cLine_is; (try simp only [units_in1, units_deeper, Around.mark_units, units_caller] at *); (try dsimp only [ktrTop] at *); omega))
local macro_rules | `(tactic| walk_at "LeaveK") => `(tactic| (k_dflt (refine' leaveT ?k1 ?k2 ?k3 ?_; (case k1 => k_asm); (case k2 => k_asm); (case k3 => k_asm); k_whole); intro kF kN kK kS; (try dsimp only)))
local macro_rules | `(tactic| ktr_enter) => `(tactic| (refine' code_defG ?k1 ?k2 ?k3 ?k4 ?k5 ?kA ?kF ?kK ?k6 ?k7 ?k8 ?k9 ?kB ?_ ?c2 ?c3 ?c4 ?c5; (case kA => exact rfl); (case kF => exact rfl); (case kK => assumption); (case k1 => k_asm); (case k2 => k_asm); (case k3 => k_asm); (case k4 => k_asm); (case k5 => k_asm); (case k6 => k_is); (case k7 => k_is); (case k8 => k_room); (case k9 => first | exact BindsTo.of_eq rfl | exact binds_K (by k_in) rfl (by k_is) rfl rfl rfl); (case c5 => decide); (case kB => exact locs rfl); (case c2 => exact rfl); (case c3 => exact rfl); (case c4 => exact rfl); k_whole))
local macro_rules | `(tactic| walk_at "call type:list") => `(tactic| (k_here; k_dflt (refine' list_copyK ?k1 ?k2 ?k3 ?_ ?z; (case k1 => k_asm); (case k2 => k_asm); (case k3 => exact News.isList (by k_asm) (by k_mem)); (case z => assumption); k_whole); intro D' c' h' F' N' l1; (try k_lt l1); (try k_sweep)))
local macro_rules | `(tactic| k_get) => `(tactic| assumption)
local macro_rules | `(tactic| k_all) => `(tactic| assumption)
local macro_rules | `(tactic| walk_at "setAttr ref") => `(tactic| (k_here; k_dflt (refine' set_sym ?k1 ?k2 ?k3 ?k4 ?k5 ?k6 ?k7 ?k8 ?k9 ?k10 ?k12 ?k13 ?_; (case k1 => k_asm); (case k2 => k_asm); (case k3 => k_asm); (case k4 => k_inst); (case k5 => exact rfl); (case k6 => k_is); (case k7 => k_is); (case k8 => k_is); (case k9 => k_is); (case k10 => assumption); (case k12 => k_upd); (case k13 => assumption); k_whole; intro h' F' N'; (try k_sweep))))
set_option maxHeartbeats 4000000 in
theorem node_t (w : World) (D : Addr) (k j : Nat) (ks : List Tr) (tk : Tok) (hok : OkL ks j) (hfree : ∀ t ∈ ks, t.Free) (hlen : ks.length ≤ 4) (hap : Apart ((D, listOf (refs ks).toArray k) :: objsL ks)) :
   Tell w 225 [.int 300 tk, .ref D] 20 ((D, listOf (refs ks).toArray k) :: objsL ks) (fun r news' => ∃ d ks', r = .ref d.a ∧ (Tr.node d ks').Ok (j + 1) ∧ (Tr.node d ks').Free ∧ news' = (Tr.node d ks').objs ∧ Apart news') := by
  unfold Tell
  k_fill
  intro p loose mean mg mb dp un gd cn cs a ccd cl outer A₀ base h₀ L m s Q E B F X N T hk hd hu hret
  k_dflt (refine' call_clsG ?k1 ?k2 ?k3 ?k4 ?k5 ?k6 ?_; (case k1 => k_asm); (case k2 => k_asm); (case k3 => k_asm); (case k4 => k_is); (case k5 => k_is); (case k6 => k_is); k_whole)
  intro x dx h1 F1 N1 l1 l2 up nx ndx
  k_lt l1
  k_lt2 l2
  k_dflt ktr_enter
  intro g' L' h' FG' F' N' B' X' T' kG'; (try dsimp only); (try k_lift B'); (try k_fold)
  have hz9 : (refs ks).toArray.size ≤ sizeLine := by rw [sizeLine_eq, List.size_toArray, refs, List.length_map]; omega
  k_steps
  rename_i d9 h91 o9 lo9 hs9 fs9 hi9 fi9 l19 h92 h93 D9 c9 h94 l29 h95 lF9 N9
  refine with_map lF9 fun m₀ hm₀ F₀ => ?_
  refine with_es N9 fun es3 n3 hes hn3 N3 => ?_
  have hkids : getL (Str.ofString "children") es3 = some (some (.ref D9)) := by rw [hes]; k_get
  have hpar : getL (Str.ofString "parent") es3 = some none := by rw [hes]; k_get
  have hsm : es3.length ≤ 10 := by rw [hes]; exact Nat.le_of_ble_eq_true rfl
  have hap' : Apart (objsL ks) := hap.tail
  refine for_list (l := D9) (vs := refs ks) (nn := c9) (fun i m nx => (∀ z, z ≠ Str.ofString "ch" → m z = m₀ z) ∧ ∃ ka, nx = (D9, listOf (refs ks).toArray c9) :: (x, instObj 225 dx) :: (dx, dictOf es3 n3) :: (objsL ka ++ objsL (ks.drop i)) ∧ refs ka = refs (ks.take i) ∧ OkL ka j ∧ (objsL ka).map (·.1) = (objsL (ks.take i)).map (·.1))
    rfl F₀ (news := (D9, listOf (refs ks).toArray c9) :: (x, instObj 225 dx) :: (dx, dictOf es3 n3) :: objsL ks) (fun q hq => N3 q ?_) ?_ ?_ ?_ ?_ ?_
  · rcases List.mem_cons.mp hq with rfl | hq
    · exact .head _
    · rcases List.mem_cons.mp hq with rfl | hq
      · exact .tail _ (.head _)
      · rcases List.mem_cons.mp hq with rfl | hq
        · exact .tail _ (.tail _ (.head _))
        · exact .tail _ (.tail _ (.tail _ (.tail _ hq)))
  · rintro i m nx ⟨_, ka, rfl, _⟩
    exact .head _
  · rintro i m nx ⟨_, ka, rfl, _⟩ q hq
    rcases List.mem_cons.mp hq with rfl | hq
    · exact fun e => by simp at e
    · rcases List.mem_cons.mp hq with rfl | hq
      · exact fun e => nomatch e
      · rcases List.mem_cons.mp hq with rfl | hq
        · exact fun e => by simp at e
        · rcases List.mem_append.mp hq with hq | hq
          · exact (objsL_kind _ q hq).1
          · exact (objsL_kind _ q hq).1
  · exact ⟨fun _ _ => rfl, [], rfl, rfl, trivial, rfl⟩
  · rintro i v m₁ nx h tk own hv hoff ⟨hm₁, ka, rfl, hra, hoka, had⟩ F₁ N₁
    obtain ⟨t, ht, rfl⟩ := refs_get hv
    rw [map_here hm₁] at F₁
    have htk : t.Ok j := okL_mem hok t (List.mem_of_getElem? ht)
    have htf : t.Free := hfree t (List.mem_of_getElem? ht)
    obtain ⟨hgp, hz19⟩ := htf
    have hz20 : t.es.length ≤ 20 := by omega
    rw [drop_cons ht, objsL, objs_eq] at N₁
    obtain ⟨Z, hZ⟩ : ∃ Z, Z = t.rest ++ (objsL ka ++ (objsL (ks.drop (i + 1)) ++ own)) := ⟨_, rfl⟩
    have N₂ : News g' L' h ((t.da, dictOf t.es t.n) :: (t.addr, instObj t.cls t.da) :: (D9, listOf (refs ks).toArray c9) :: (x, instObj 225 dx) :: (dx, dictOf es3 n3) :: Z) := fun q hq => N₁ q (by
      rw [hZ] at hq
      simp only [List.mem_cons, List.mem_append] at hq ⊢
      rcases hq with a | a | a | a | a | a | a | a | a <;> simp [a])
    have hsplit : objsL ks = objsL (ks.take i) ++ ((t.addr, instObj t.cls t.da) :: (t.da, dictOf t.es t.n) :: t.rest ++ objsL (ks.drop (i + 1))) := by
      rw [← objs_eq]
      conv => lhs; rw [← List.take_append_drop i ks, objsL_append, drop_cons ht, objsL]
    have hap2 := hap'
    rw [hsplit] at hap2
    have hin : (t.da, dictOf t.es t.n) ∈ objsL ks := by rw [hsplit]; simp
    have hx1 : @Ne Nat t.addr t.da := fun e => hap2.right.left.head (t.da, dictOf t.es t.n) (.head _) e.symm
    have hx2 : @Ne Nat D9 t.da := Nat.ne_of_gt (allLt_mem l29.2.2.2.2 _ hin)
    have hx4 : @Ne Nat dx t.da := Nat.ne_of_gt (allLt_mem l1.2 _ hin)
    have hx3 : @Ne Nat x t.da := Nat.ne_of_gt (Nat.lt_trans (allLt_mem l1.2 _ hin) l2)
    have hx5 : ∀ p ∈ Z, p.1 ≠ t.da := fun p hp => by
      rw [hZ] at hp
      rcases List.mem_append.mp hp with hp | hp
      · exact hap2.right.left.tail.head p hp
      · rcases List.mem_append.mp hp with hp | hp
        · have : p.1 ∈ (objsL (ks.take i)).map (·.1) := had ▸ List.mem_map_of_mem hp
          obtain ⟨q, hq, e⟩ := List.mem_map.mp this
          rw [← e]
          exact hap2.ne q hq (t.da, dictOf t.es t.n) (by simp)
        · rcases List.mem_append.mp hp with hp | hp
          · exact fun e => hap2.right.ne (t.da, dictOf t.es t.n) (by simp) p hp e.symm
          · exact hoff p hp (t.da, dictOf t.es t.n) (by rw [drop_cons ht, objsL, objs_eq]; simp)
    have fin : ∀ (C : Addr) (hs : Int) (tok : Tok) (n' : Nat) (h' : Heap) (tk' : Nat) (m' : Str → Option Value), t.cls = C → (∀ z, z ≠ Str.ofString "ch" → m' z = m₀ z) → Fr g' L' h' m' →
        News g' L' h' ((t.da, dictOf (putL (Str.ofString "parent") hs (.str (Str.ofString "parent") tok) (.ref x) t.es) n') :: (t.addr, instObj C t.da) :: (D9, listOf (refs ks).toArray c9) :: (x, instObj 225 dx) :: (dx, dictOf es3 n3) :: Z) →
        ForEnd g' L' (fun m nx => (∀ z, z ≠ Str.ofString "ch" → m z = m₀ z) ∧ ∃ ka, nx = (D9, listOf (refs ks).toArray c9) :: (x, instObj 225 dx) :: (dx, dictOf es3 n3) :: (objsL ka ++ objsL (ks.drop (i + 1))) ∧ refs ka = refs (ks.take (i + 1)) ∧ OkL ka j ∧ (objsL ka).map (·.1) = (objsL (ks.take (i + 1))).map (·.1)) own
          { s with heap := h, toks := tk } { s with heap := h', toks := tk' } := by
      intro C hs tok n' h' tk' m' hC hm' F' N'
      subst hC
      refine ForEnd.mk _ F' N' (fun q hq => ?_) (fun q hq => ?_) ⟨hm', ka ++ [t.put (putL (Str.ofString "parent") hs (.str (Str.ofString "parent") tok) (.ref x) t.es) n'], rfl, ?_, ?_, ?_⟩
      · rw [hZ]
        rw [objsL_append, objsL, objs_put, objsL] at hq
        simp only [List.mem_cons, List.mem_append, List.not_mem_nil, or_false] at hq ⊢
        rcases hq with a | a | a | (a | a | a | a) | a <;> simp [a]
      · rw [hZ]
        simp only [List.mem_cons, List.mem_append]
        simp [hq]
      · rw [take_snoc ht]
        unfold refs at hra ⊢
        rw [List.map_append, List.map_append, hra, List.map_singleton, List.map_singleton, addr_put]
      · exact okL_append hoka ⟨ok_put htk (fun y hy => getL_put_ne hy.symm _) (Nat.le_trans (putL_length _) (by omega)), trivial⟩
      · rw [take_snoc ht, objsL_append, objsL_append, List.map_append, List.map_append, had]
        refine congrArg _ ?_
        show List.map _ (Tr.objs _ ++ []) = List.map _ (t.objs ++ [])
        rw [objs_put, objs_eq]
        rfl
    clear N₁ N3 N9 lF9 hv hsplit hap2
    subst hm₀
    rcases cls_is t with hC | hC
    · rw [hC] at N₂
      k_steps
      exact fin 305 _ _ _ _ _ _ hC (fun z hz => if_neg hz) (by assumption) (by assumption)
    · rw [hC] at N₂
      k_steps
      exact fin 225 _ _ _ _ _ _ hC (fun z hz => if_neg hz) (by assumption) (by assumption)
  · rintro m₁ nx h tk ⟨hm₁, ka, rfl, hra, hoka, had⟩ F₁ N₁
    rw [refs_length, List.drop_length, objsL, List.append_nil] at N₁
    rw [refs_length, List.take_length] at hra had
    have em : m₁ = fun z => if z = Str.ofString "ch" then m₁ z else m₀ z := by
      funext z
      by_cases e : z = Str.ofString "ch"
      · simp [e]
      · simp [e, hm₁ z e]
    rw [em] at F₁
    subst hm₀
    have hfx : getL (Str.ofString "fixers_applied") es3 = some none := by rw [hes]; k_get
    have hs20 : es3.length ≤ 20 := by omega
    have hx6 : ∀ p ∈ objsL ka, p.1 ≠ dx := fun p hp => by
      have : p.1 ∈ (objsL ks).map (·.1) := had ▸ List.mem_map_of_mem hp
      obtain ⟨q, hq, e⟩ := List.mem_map.mp this
      rw [← e]
      exact Nat.ne_of_lt (allLt_mem l1.2 q hq)
    have l3 : @LT.lt Nat _ dx D9 := l29.2.2.1
    clear N3 N9 lF9
    k_steps
    rename_i h99 F99 N99 kF kN kK kS
    rw [← hra] at kN kS
    exact ⟨rfl, node_end hret kF kN (fun b o hb e => kK b o (fun z => by
        rcases List.mem_cons.mp z with z | z
        · rw [z, nx] at e; cases e
        · rcases List.mem_cons.mp z with z | z
          · rw [z, ndx] at e; cases e
          · exact hb z) (up b o e)) (fun q hq => (kS q hq).elim (fun z => by
        rcases List.mem_cons.mp z with z | z
        · exact .inr (by rw [z]; exact nx)
        · rcases List.mem_cons.mp z with z | z
          · exact .inr (by rw [z]; exact ndx)
          · exact .inl z) fun z => .inr (by
        cases e : s.heap.get? q.1 with
        | none => rfl
        | some o => exact absurd (up _ _ e) (by rw [show h1.get? q.1 = none from z]; exact fun z => nomatch z)))
      ((getL_put_ne (by decide) _).trans hkids) ((getL_put_ne (by decide) _).trans hpar) (Nat.le_trans (putL_length _) (by omega)) hoka (by rw [← refs_length, hra, refs_length]; exact hlen) l2 l29.2.1 (fun p hp => by
        have : p.1 ∈ (objsL ks).map (·.1) := had ▸ List.mem_map_of_mem hp
        obtain ⟨q, hq, e⟩ := List.mem_map.mp this
        rw [← e]
        exact allLt_mem l1.2 q hq) (hap'.map had.symm)⟩
end
end Mine
namespace Mine
open PySem PySem.W PyProof.Rows PySem.Calls PySem.Spec
def GrowPost (d lv : Addr) (deep most : Nat) (r : Value) (news' : List (Addr × Obj)) : Prop :=
  ∃ (t : Tr) (ds' vs' : List Value) (n' n2' : Nat), r = .ref t.addr ∧ t.Ok deep ∧ t.Free ∧ Dig ds' ∧ vs'.length ≤ most ∧ news' = (d, listOf ds'.toArray n') :: (lv, listOf vs'.toArray n2') :: t.objs ∧ Apart news'
theorem grow_leaf_end {h₀ H h' : Heap} {L d lv : Addr} {m : Str → Option Value} {s : Shared} {adr : List Addr} {Q : Value → Shared → Prop} {tk' n' n2' deep most : Nat} {led : List (Addr × Obj)} {ds' vs' : List Value} {l : Lf}
    (hret : ∀ (r : Value) (news' : List (Addr × Obj)) (h' : Heap) (tk' : Nat), Fr h₀ L h' m → News h₀ L h' news' → (∀ b o, b ∉ adr → H.get? b = some o → h'.get? b = some o) → (∀ q ∈ news', q.1 ∈ adr ∨ H.get? q.1 = none) → GrowPost d lv deep most r news' → Q r { s with heap := h', toks := tk' })
    (F : Fr h₀ L h' m) (N : News h₀ L h' led) (K : ∀ b o, b ∉ adr → H.get? b = some o → h'.get? b = some o) (S : ∀ q ∈ led, q.1 ∈ adr ∨ H.get? q.1 = none)
    (m1 : (l.a, instObj 305 l.da) ∈ led) (m2 : (l.da, dictOf l.es l.n) ∈ led) (m3 : (d, listOf ds'.toArray n') ∈ led) (m4 : (lv, listOf vs'.toArray n2') ∈ led)
    (ok : l.Ok) (pk : PreOk l.pre) (fr : getL (Str.ofString "parent") l.es = some none) (sm : l.es.length ≤ 19) (dg : Dig ds') (hv : vs'.length ≤ most) (e1 : d ≠ lv) (e2 : d ≠ l.a) (e3 : d ≠ l.da) (e4 : lv ≠ l.a) (e5 : lv ≠ l.da) (e6 : l.a ≠ l.da) :
    Q (.ref l.a) { s with heap := h', toks := tk' } := by
  have sub : ∀ q ∈ (d, listOf ds'.toArray n') :: (lv, listOf vs'.toArray n2') :: (Tr.leaf l).objs, q ∈ led := fun q hq => by
    simp only [Tr.objs, Lf.objs, List.mem_cons, List.not_mem_nil, or_false] at hq
    rcases hq with rfl | rfl | rfl | rfl
    · exact m3
    · exact m4
    · exact m1
    · exact m2
  refine hret _ _ h' tk' F (fun q hq => N q (sub q hq)) K (fun q hq => S q (sub q hq)) ⟨.leaf l, ds', vs', n', n2', rfl, ⟨ok, pk⟩, ⟨fr, sm⟩, dg, hv, rfl, ?_⟩
  refine Apart.cons (Apart.cons (Apart.cons (Apart.cons Apart.nil (fun q hq => nomatch hq)) fun q hq => ?_) fun q hq => ?_) fun q hq => ?_
  · rw [List.mem_singleton.mp hq]; exact e6.symm
  · rcases List.mem_cons.mp hq with rfl | hq
    · exact e4.symm
    · rw [List.mem_singleton.mp hq]; exact e5.symm
  · simp only [Tr.objs, Lf.objs, List.mem_cons, List.not_mem_nil, or_false] at hq
    rcases hq with rfl | rfl | rfl
    · exact e1.symm
    · exact e2.symm
    · exact e3.symm
section
variable {w : World} {news : List (Addr × Obj)} {p : Program} {loose : List Str} {mean : ExcName → Option Value} {mg mb : Str → Option Value} {dp un : Nat} {gd : Option (List Code)} {cn : Str} {cs : Scope} {a : Addr} {ccd : Value} {cl : List (Str × Addr)} {outer : List Env} {A₀ : Around} {base h₀ : Heap} {L : Addr} {m : Str → Option Value} {s : Shared} {Q E : Value → Shared → Prop}
theorem grow_use (C : List (Addr × Obj)) {d lv : Addr} {ds vs : List Value} {n n2 deep most room : Nat} {z : Int} {tk : Tok} {ks : List Tr} (TT : Tell w 339 [.ref d, .int z tk, .ref lv] room [(d, listOf ds.toArray n), (lv, listOf vs.toArray n2)] (GrowPost d lv deep most))
    (hap : Apart (C ++ (d, listOf ds.toArray n) :: (lv, listOf vs.toArray n2) :: objsL ks)) (B : Below A₀ base outer h₀) (F : Fr h₀ L s.heap m) (X : (hd.heap_39 w.params).In h₀) (N : News h₀ L s.heap (C ++ (d, listOf ds.toArray n) :: (lv, listOf vs.toArray n2) :: objsL ks))
    (T : Top p loose mean mg mb h₀) (hk : cs.kind = .function) (hd : dp + room ≤ 400) (hu : un + 30 * room ≤ 4000)
    (ret : ∀ (t : Tr) (ds' vs' : List Value) (n' n2' : Nat) h' tk', Fr h₀ L h' m → News h₀ L h' (C ++ (d, listOf ds'.toArray n') :: (lv, listOf vs'.toArray n2') :: objsL (ks ++ [t])) → Apart (C ++ (d, listOf ds'.toArray n') :: (lv, listOf vs'.toArray n2') :: objsL (ks ++ [t])) →
      (∀ b o, b ≠ d → b ≠ lv → s.heap.get? b = some o → h'.get? b = some o) → (∀ q ∈ t.objs, s.heap.get? q.1 = none) → t.Ok deep → t.Free → Dig ds' → vs'.length ≤ most → Q (.ref t.addr) { s with heap := h', toks := tk' }) :
    wpAny (model PySem.Challenge.rw_bp5029_01.row.prog w) (ktrTop dp un gd cn cs L a ccd cl outer) (call (.ref 339) [.ref d, .int z tk, .ref lv]) Q E s := by
  have hR : ∀ q ∈ C ++ objsL ks, q ∈ C ++ (d, listOf ds.toArray n) :: (lv, listOf vs.toArray n2) :: objsL ks := fun q hq => (List.mem_append.mp hq).elim (fun h => List.mem_append_left _ h) fun h => List.mem_append_right _ (.tail _ (.tail _ h))
  have off : ∀ q ∈ C ++ objsL ks, q.1 ≠ d ∧ q.1 ≠ lv := fun q hq => by
    rcases List.mem_append.mp hq with hq | hq
    · exact ⟨hap.ne q hq (d, _) (.head _), hap.ne q hq (lv, _) (.tail _ (.head _))⟩
    · exact ⟨hap.right.head q (.tail _ hq), hap.right.tail.head q hq⟩
  refine tell_use (C ++ objsL ks) TT B F X N T hk ?_ hR ?_ hd hu ?_
  · intro q hq
    simp only [List.mem_cons, List.not_mem_nil, or_false] at hq
    rcases hq with rfl | rfl <;> simp
  · intro q hq e
    simp only [List.map_cons, List.map_nil, List.mem_cons, List.not_mem_nil, or_false] at e
    exact e.elim (off q hq).1 (off q hq).2
  · rintro r news' h' tk' F' N' hk' hf' hx ⟨t, ds', vs', n', n2', rfl, ok, fr, dg, hl, rfl, ap⟩
    have tf : ∀ q ∈ t.objs, s.heap.get? q.1 = none := fun q hq => (hf' q (.tail _ (.tail _ hq))).elim (fun z => by
      simp only [List.map_cons, List.map_nil, List.mem_cons, List.not_mem_nil, or_false] at z
      exact z.elim (fun z => absurd z (ap.head q (.tail _ hq))) fun z => absurd z (ap.tail.head q hq)) id
    have apC : Apart (C ++ objsL ks) := Apart.of hap.left hap.right.tail.tail fun p hp q hq => hap.ne p hp q (.tail _ (.tail _ hq))
    refine ret t ds' vs' n' n2' h' tk' F' (fun q hq => N' q ?_) ?_ (fun b o h1 h2 e => hk' b o (by simp [h1, h2]) e) tf ok fr dg hl
    · simp only [objsL_append, objsL, List.append_nil, List.mem_append, List.mem_cons] at hq ⊢
      rcases hq with a | a | a | a | a <;> simp [a]
    · have ap2 : Apart (((d, listOf ds'.toArray n') :: (lv, listOf vs'.toArray n2') :: t.objs) ++ (C ++ objsL ks)) := Apart.of ap apC hx
      have h1 : ∀ (x : Addr × Obj), x ∈ (d, listOf ds'.toArray n') :: (lv, listOf vs'.toArray n2') :: t.objs → ∀ y ∈ C ++ objsL ks, x.1 ≠ y.1 := hx
      refine Apart.of apC.left (Apart.cons (Apart.cons ?_ fun q hq => ?_) fun q hq => ?_) fun p hp q hq => ?_
      · rw [objsL_append]
        refine Apart.of apC.right (by simpa [objsL] using ap.tail.tail) fun p hp q hq => ?_
        exact fun e => h1 q (by simp only [objsL, List.append_nil] at hq; exact .tail _ (.tail _ hq)) p (List.mem_append_right _ hp) e.symm
      · rw [objsL_append] at hq
        rcases List.mem_append.mp hq with hq | hq
        · exact fun e => h1 (lv, _) (.tail _ (.head _)) q (List.mem_append_right _ hq) e.symm
        · exact ap.tail.head q (by simpa [objsL] using hq)
      · rcases List.mem_cons.mp hq with rfl | hq
        · exact ap.head _ (.head _)
        · rw [objsL_append] at hq
          rcases List.mem_append.mp hq with hq | hq
          · exact fun e => h1 (d, _) (.head _) q (List.mem_append_right _ hq) e.symm
          · exact ap.head q (.tail _ (show q ∈ t.objs by simpa [objsL] using hq))
      · refine fun e => ?_
        rcases List.mem_cons.mp hq with rfl | hq
        · exact h1 _ (.head _) p (List.mem_append_left _ hp) e.symm
        · rcases List.mem_cons.mp hq with rfl | hq
          · exact h1 _ (.tail _ (.head _)) p (List.mem_append_left _ hp) e.symm
          · rw [objsL_append] at hq
            rcases List.mem_append.mp hq with hq | hq
            · exact apC.ne p hp q hq e
            · exact h1 q (.tail _ (.tail _ (show q ∈ t.objs by simpa [objsL] using hq))) p (List.mem_append_left _ hp) e.symm
end
section
local macro_rules | `(tactic| k_room) => `(tactic| ((try simp only [depth_under_make, depth_under_kw, depth_in1, depth_deeper, depth_caller, recursionLimit] at *); (try dsimp only [ktrTop] at *); omega))
local macro_rules | `(tactic| k_units) => `(tactic| (have hcL9 := cLine_is; (try simp only [units_in1, units_deeper, Around.mark_units, units_caller] at *); (try dsimp only [ktrTop] at *); omega))
local macro_rules | `(tactic| walk_at "LeaveK") => `(tactic| (k_dflt (refine' leaveT ?k1 ?k2 ?k3 ?_; (case k1 => k_asm); (case k2 => k_asm); (case k3 => k_asm); k_whole); intro kF kN kK kS; (try dsimp only)))
local macro_rules | `(tactic| ktr_enter) => `(tactic| (refine' code_defCG ?k1 ?k2 ?k3 ?k4 ?k5 ?kA ?kF ?kK ?k6 ?k7 ?k8 ?k9 ?kB ?kD ?_ ?c2 ?c3 ?c4; (case kA => exact rfl); (case kF => exact rfl); (case kK => assumption); (case k1 => k_asm); (case k2 => k_asm); (case k3 => k_asm); (case k4 => k_asm); (case k5 => k_asm); (case k6 => k_is); (case k7 => k_is); (case k8 => k_room); (case k9 => first | exact BindsTo.of_eq rfl | exact binds_K (by k_in) rfl (by k_is) rfl rfl rfl); (case kB => exact rfl); (case kD => decide +kernel); (case c2 => exact rfl); (case c3 => exact rfl); (case c4 => exact rfl); k_whole))
local macro_rules | `(tactic| walk_at "call ref") => `(tactic| (k_here; (with_reducible show wpAny _ _ (call (Value.ref 329) _) _ _ _); k_dflt (refine' take_use ?kU ?kD ?kZ ?k1 ?k2 ?k3 ?k4 ?k5 ?k6 ?k7 ?k8 ?_; (case k1 => k_asm); (case k2 => k_asm); (case k3 => k_asm); (case k4 => k_asm); (case kU => k_updF); (case k5 => k_asm); (case k6 => first | exact rfl | assumption); (case kD => assumption); (case kZ => decide); (case k7 => k_room); (case k8 => k_units); k_whole); intro z9 tk9 ds9 n9 h9 tk9' F9 N9 kp9 z0 z1 hds9; (try dsimp only at N9)))
local macro_rules | `(tactic| walk_at "call ref") => `(tactic| (k_here; (with_reducible show wpAny _ _ (call (Value.ref 334) _) _ _ _); k_dflt (refine' leaf_use ?kU ?kD ?k1 ?k2 ?k3 ?k4 ?k5 ?k6 ?k7 ?k8 ?_; (case k1 => k_asm); (case k2 => k_asm); (case k3 => k_asm); (case k4 => k_asm); (case kU => k_updF); (case k5 => k_asm); (case k6 => first | exact rfl | assumption); (case kD => assumption); (case k7 => k_room); (case k8 => k_units); k_whole); intro l9 ds9 n9 h9 tk9' F9 N9 kp9 la9 lb9 lc9 ld9 le9 ok9 po9 ln9 fr9 sm9 hds9; (try dsimp only at N9); (replace la9 := allNe_of la9); (replace lb9 := allNe_of lb9); simp only [AllNe, and_true] at la9 lb9))
local macro_rules | `(tactic| walk_at "call builtin:len") => `(tactic| (k_here; (with_reducible show wpAny _ _ (call (Value.builtin "len") [Value.ref _]) _ _ _); (k_dflt (refine' len_l ?N ?m ?z ?_; (case N => k_asm); (case m => k_mem); (case z => assumption); k_whole))))
local macro_rules | `(tactic| walk_at "call builtin:list.append") => `(tactic| (k_here; (with_reducible show wpAny _ _ (call (Value.builtin _) [Value.ref _, _]) _ _ _); k_dflt (refine' append_l ?k1 ?k2 ?k3 ?z ?_; (case k1 => k_asm); (case k2 => k_asm); (case k3 => k_upd); (case z => assumption); k_whole); intro h' F' N'; (try k_sweep)))
local macro_rules | `(tactic| walk_at "subscriptTail") => `(tactic| (k_here; k_dflt (refine' last_l ?N ?m ?_ ?hs; (case N => k_asm); (case m => k_mem); (case hs => with_unfolding_all rfl); k_whole)))
set_option maxHeartbeats 4000000 in
theorem grow0_t (w : World) (d lv : Addr) (ds vs : List Value) (n n2 : Nat) (tk : Tok) (hds : Dig ds) (hvs : vs.length + 1 ≤ 900) (hne : @Ne Nat d lv) :
   Tell w 339 [.ref d, .int 0 tk, .ref lv] 30 [(d, listOf ds.toArray n), (lv, listOf vs.toArray n2)] (GrowPost d lv 0 (vs.length + 1)) := by
  unfold Tell
  k_fill
  intro p loose mean mg mb dp un gd cn cs a ccd cl outer A₀ base h₀ L m s Q E B F X N T hk hd hu hret
  refine wpAny_call ?_
  k_dflt ktr_enter
  intro g' L' h' tk' cells' FG' F' N' Y' B' X' T' l1 kG'; (try k_lt l1)
  have hY := CellsAre.three Y'; obtain ⟨o1, o2, o3, hE', d1', d2', d3'⟩ := hY; subst hE'; clear Y'
  (try simp only [List.cons_append, List.nil_append] at N'); (try dsimp only); (try k_lift B'); (try k_fold)
  have hz9 : vs.length ≤ 1000 := by omega
  k_steps
  refine' grow_leaf_end hret ?F ?N ?K ?S ?m1 ?m2 ?m3 ?m4 ?ok ?pk ?fr ?sm ?dg ?hv ?e1 ?e2 ?e3 ?e4 ?e5 ?e6
  case F => assumption
  case N => assumption
  case K => assumption
  case S => assumption
  case m1 => k_mem
  case m2 => k_mem
  case m3 => k_mem
  case m4 => k_mem
  case hv => simp
  all_goals first | assumption | (refine neN ?_; omega)

local macro_rules | `(tactic| walk_at "eval ListComp") => `(tactic| (k_here; (with_unfolding_all refine' comp_led ?c0 ?c1 ?c2 ?c3 ?c4 ?c5 ?_ ?c6; (case c0 => k_asm); (case c1 => decide); (case c2 => rfl); (case c3 => rfl); (case c4 => decide); (case c5 => rfl); (case c6 => intro _; rfl); k_whole)))
local macro_rules | `(tactic| walk_at "eval Name") => `(tactic| (k_here; k_inBlock; k_dflt (refine' name_cell ?N ?m ?d ?c ?k ?x ?b ?_; (case c => rfl); (case k => rfl); (case x => rfl); (case b => decide); (case N => k_asm); (case m => k_mem); (case d => assumption); k_whole)))
local macro_rules | `(tactic| walk_at "call ref") => `(tactic| (k_here; (with_reducible show wpAny _ _ (call (Value.ref 339) _) _ _ _); refine hold ?_))
local macro_rules | `(tactic| walk_at "call ref") => `(tactic| (k_here; (with_reducible show wpAny _ _ (call (Value.ref 225) _) _ _ _); refine hold ?_))
local macro_rules | `(tactic| tb_start) => `(tactic| (refine' grow_leaf_end ?R ?F ?N ?K ?S ?m1 ?m2 ?m3 ?m4 ?ok ?pk ?fr ?sm ?dg ?hv ?e1 ?e2 ?e3 ?e4 ?e5 ?e6; (case R => assumption); (case F => assumption); (case N => assumption); (case K => assumption); (case S => assumption); (case m1 => k_mem); (case m2 => k_mem); (case m3 => k_mem); (case m4 => k_mem); (case hv => (simp; omega)); all_goals first | assumption | (refine neN ?_; omega)))
set_option maxHeartbeats 8000000 in
theorem growS_t (w : World) (d lv : Addr) (j q : Nat) (ds vs : List Value) (n n2 : Nat) (z : Int) (tk : Tok) (hz : z = (j : Int) + 1) (hds : Dig ds) (hq1 : 1 ≤ q) (hvs : vs.length + q * 4 ≤ 900) (hne : @Ne Nat d lv)
   (IH : ∀ (ds vs : List Value) (n n2 : Nat) (z : Int) (tk : Tok), z = (j : Int) → Dig ds → vs.length + q ≤ 900 → Tell w 339 [.ref d, .int z tk, .ref lv] (30 + 5 * j) [(d, listOf ds.toArray n), (lv, listOf vs.toArray n2)] (GrowPost d lv j (vs.length + q))) :
   Tell w 339 [.ref d, .int z tk, .ref lv] (30 + 5 * (j + 1)) [(d, listOf ds.toArray n), (lv, listOf vs.toArray n2)] (GrowPost d lv (j + 1) (vs.length + q * 4)) := by
  have hz0 : z ≠ 0 := by omega
  unfold Tell
  k_fill
  intro p loose mean mg mb dp un gd cn cs a ccd cl outer A₀ base h₀ L m s Q E B F X N T hk hd hu hret
  refine wpAny_call ?_
  k_dflt ktr_enter
  intro g' L' h' tk' cells' FG' F' N' Y' B' X' T' l1 kG'; (try k_lt l1)
  have hY := CellsAre.three Y'; obtain ⟨o1, o2, o3, hE', d1', d2', d3'⟩ := hY; subst hE'; clear Y'
  (try simp only [List.cons_append, List.nil_append] at N'); (try dsimp only); (try k_lift B'); (try k_fold)
  have hz9 : vs.length ≤ 1000 := by omega
  have e1 : o1.data = .cell (some (.ref d)) ∨ o1.data = .cell (some (.int z tk)) ∨ o1.data = .cell (some (.ref lv)) := by first | exact .inl d1' | exact .inr (.inl d1') | exact .inr (.inr d1')
  k_steps
  · tb_start
  · tb_start
  · refine comp_range (fun i ys nx => ∃ (ds' vs' : List Value) (n' n2' : Nat) (ks : List Tr), nx = [(L' + 1 + 1 + 1, o1), (L' + 1 + 1, o2), (L' + 1, o3)] ++ (d, listOf ds'.toArray n') :: (lv, listOf vs'.toArray n2') :: objsL ks ∧ ys = refs ks ∧ ks.length = i ∧ OkL ks j ∧ (∀ t ∈ ks, t.Free) ∧ Dig ds' ∧ vs'.length ≤ vs.length + i * q ∧ Apart nx)
      rfl (by assumption) (by assumption) (by assumption) (by omega) (by omega) ⟨_, vs, _, n2, [], rfl, rfl, rfl, trivial, (fun _ h => nomatch h), by assumption, by omega, ?_⟩ ?_ ?_
    · simp only [Apart, objsL, List.cons_append, List.nil_append, List.map_cons, List.map_nil, List.nodup_cons, List.mem_cons, List.not_mem_nil, or_false, not_false_iff, List.nodup_nil, and_true, not_or]
      refine ⟨⟨neN ?_, neN ?_, neN ?_, neN ?_⟩, ⟨neN ?_, neN ?_, neN ?_⟩, ⟨neN ?_, neN ?_⟩, neN ?_⟩ <;> omega
    · rintro i v ys nx h tk C mC E' hi ⟨ds', vs', n', n2', ks, rfl, rfl, hlen, hok, hfree, hdg, hvl, hap⟩ hyl F₁ N₁ hC hx hq
      simp only [List.cons_append, List.nil_append] at N₁
      have hi2 : i ≤ 2 := by omega
      have hiq : i * q ≤ 2 * q := Nat.mul_le_mul_right q hi2
      have hiq' : (i + 1) * q = i * q + q := Nat.succ_mul i q
      k_steps
      unfold Hold
      refine grow_use [(L' + 1 + 1 + 1, o1), (L' + 1 + 1, o2), (L' + 1, o3)] (IH ds' vs' n' n2' (z - 1) _ (by omega) hdg (by omega)) hap (by assumption) (by assumption) (by assumption) (by assumption) (by assumption) rfl (by k_room) (by k_units) ?_
      intro t ds2 vs2 n2' n22 h2 tk2 F2 N2 ap2 kp2 fr2 ok2 free2 dg2 hl2
      k_unfold
      refine ⟨h2, tk2, _, rfl, F2, N2, fun b o hb e => kp2 b o (fun y => hb (by rw [y]; simp)) (fun y => hb (by rw [y]; simp)) e, fun q hq => ?_, ⟨ds2, vs2, n2', n22, ks ++ [t], rfl, ?_, ?_, okL_append hok ⟨ok2, trivial⟩, ?_, dg2, by omega, ap2⟩⟩
      · simp only [objsL_append, objsL, List.append_nil, List.mem_append, List.mem_cons] at hq
        rcases hq with (rfl | rfl | rfl | hq) | rfl | rfl | hq | hq
        · simp
        · simp
        · simp
        · nomatch hq
        · simp
        · simp
        · exact .inl (List.mem_map_of_mem (List.mem_append_right _ (.tail _ (.tail _ hq))))
        · exact .inr (fr2 q hq)
      · simp [refs]
      · simp [hlen]
      · intro u hu
        rcases List.mem_append.mp hu with hu | hu
        · exact hfree u hu
        · rw [List.mem_singleton.mp hu]; exact free2
    · rintro D ys nx h tk k ⟨ds', vs', n', n2', ks, rfl, rfl, hlen, hok, hfree, hdg, hvl, hap⟩ hyl F₁ N₁ hq
      simp only [List.cons_append, List.nil_append] at N₁
      k_steps
      unfold Hold
      have hks4 : ks.length ≤ 4 := by omega
      refine tell_use ([(L' + 1 + 1 + 1, o1), (L' + 1 + 1, o2), (L' + 1, o3)] ++ [(d, listOf ds'.toArray n'), (lv, listOf vs'.toArray n2')]) (node_t w D k j ks _ hok hfree hks4 (Apart.cons hap.right.tail.tail fun p hp => hq p (List.mem_append_right _ (.tail _ (.tail _ hp))))) (by assumption) (by assumption) (by assumption) (by assumption) (by assumption) rfl
        (fun p hp => ?_) (fun p hp => ?_) (fun p hp => ?_) (by k_room) (by k_units) ?_
      · rcases List.mem_cons.mp hp with rfl | hp
        · exact .head _
        · simp [hp]
      · simp only [List.cons_append, List.nil_append, List.mem_cons, List.not_mem_nil, or_false] at hp
        rcases hp with rfl | rfl | rfl | rfl | rfl <;> simp
      · intro e
        rcases List.mem_cons.mp e with e | e
        · refine hq p ?_ e
          simp only [List.cons_append, List.nil_append, List.mem_cons, List.not_mem_nil, or_false] at hp ⊢
          rcases hp with rfl | rfl | rfl | rfl | rfl <;> simp
        · obtain ⟨y, hy, e⟩ := List.mem_map.mp e
          rcases List.mem_append.mp hp with hp | hp
          · exact hap.ne p hp y (.tail _ (.tail _ hy)) e.symm
          · rcases List.mem_cons.mp hp with rfl | hp
            · exact hap.right.head y (.tail _ hy) e
            · rw [List.mem_singleton.mp hp] at e
              exact hap.right.tail.head y hy e
      · rintro r news' h2 tk2 F2 N2 kp2 fr2 dj2 ⟨dn, ks', rfl, ok2, free2, rfl, ap2⟩
        k_steps
        rename_i kF kN kK kS
        have sub : ∀ q ∈ (d, listOf ds'.toArray n') :: (lv, listOf vs'.toArray n2') :: (Tr.node dn ks').objs, q ∈ (Tr.node dn ks').objs ++ ([(L' + 1 + 1 + 1, o1), (L' + 1 + 1, o2), (L' + 1, o3)] ++ [(d, listOf ds'.toArray n'), (lv, listOf vs'.toArray n2')]) := fun q hq => by
          rcases List.mem_cons.mp hq with rfl | hq
          · simp
          · rcases List.mem_cons.mp hq with rfl | hq
            · simp
            · exact List.mem_append_left _ hq
        refine hret _ _ _ _ kF (fun q hq => kN q (sub q hq)) kK (fun q hq => kS q (sub q hq)) ⟨.node dn ks', ds', vs', n', n2', rfl, ok2, free2, hdg, ?_, rfl, ?_⟩
        · rw [← hlen] at hvl
          have := Nat.mul_le_mul_right q hks4
          omega
        · refine Apart.cons (Apart.cons ap2 fun q hq => dj2 q hq (lv, _) (by simp)) fun q hq => ?_
          rcases List.mem_cons.mp hq with rfl | hq
          · exact hne.symm
          · exact dj2 q hq (d, _) (by simp)
end

/-- `_law_grow`: a sound free tree at most so deep -/
theorem grow_t (w : World) (d lv : Addr) (hne : @Ne Nat d lv) : ∀ (j : Nat) (ds vs : List Value) (n n2 : Nat) (z : Int) (tk : Tok), z = (j : Int) → Dig ds → vs.length + 4 ^ j ≤ 900 →
    Tell w 339 [.ref d, .int z tk, .ref lv] (30 + 5 * j) [(d, listOf ds.toArray n), (lv, listOf vs.toArray n2)] (GrowPost d lv j (vs.length + 4 ^ j))
  | 0, ds, vs, n, n2, z, tk, hz, hds, hv => by
    subst hz
    exact grow0_t w d lv ds vs n n2 tk hds (by simpa using hv) hne
  | j + 1, ds, vs, n, n2, z, tk, hz, hds, hv => by
    have h4 : (4 : Nat) ^ (j + 1) = 4 ^ j * 4 := Nat.pow_succ 4 j
    rw [h4] at hv ⊢
    exact growS_t w d lv j (4 ^ j) ds vs n n2 z tk (by omega) hds (Nat.one_le_pow _ _ (by decide)) hv hne (grow_t w d lv hne j)
end Mine
namespace Mine
open PySem PySem.W PyProof.Rows PySem.Calls PySem.Spec
mutual
/-- what `_law_was` makes of a tree, as the ledger bears it -/
def WasIn (news : List (Addr × Obj)) : Tr → Value → Prop
  | .leaf l, v => ∃ wa n, v = .ref wa ∧ (wa, listOf ([.ref l.a, .int l.ty l.tt, .str l.vl l.tv, .str l.pre l.tp, .int l.line l.tl, .int l.col l.tc] : List Value).toArray n) ∈ news
  | .node d ks, v => ∃ wa n ka kn vs, v = .ref wa ∧ (wa, listOf ([.ref d.a, .ref ka] : List Value).toArray n) ∈ news ∧ (ka, listOf vs.toArray kn) ∈ news ∧ WasL news ks vs
def WasL (news : List (Addr × Obj)) : List Tr → List Value → Prop
  | [], vs => vs = []
  | t :: ts, vs => ∃ v r, vs = v :: r ∧ WasIn news t v ∧ WasL news ts r
end
mutual
theorem WasIn.mono {news news' : List (Addr × Obj)} (hs : ∀ q ∈ news, q ∈ news') : ∀ (t : Tr) {v : Value}, WasIn news t v → WasIn news' t v
  | .leaf _, _, ⟨wa, n, e, h⟩ => ⟨wa, n, e, hs _ h⟩
  | .node _ ks, _, ⟨wa, n, ka, kn, vs, e, h1, h2, h3⟩ => ⟨wa, n, ka, kn, vs, e, hs _ h1, hs _ h2, WasL.mono hs ks h3⟩
theorem WasL.mono {news news' : List (Addr × Obj)} (hs : ∀ q ∈ news, q ∈ news') : ∀ (ts : List Tr) {vs : List Value}, WasL news ts vs → WasL news' ts vs
  | [], _, h => h
  | t :: ts, _, ⟨v, r, e, h1, h2⟩ => ⟨v, r, e, WasIn.mono hs t h1, WasL.mono hs ts h2⟩
end
theorem WasL.snoc {news : List (Addr × Obj)} {t : Tr} {v : Value} : ∀ {ts : List Tr} {vs : List Value}, WasL news ts vs → WasIn news t v → WasL news (ts ++ [t]) (vs ++ [v])
  | [], _, h, hv => by
    subst h
    exact ⟨v, [], rfl, hv, rfl⟩
  | _ :: ts, _, ⟨u, r, e, h1, h2⟩, hv => by
    subst e
    exact ⟨u, r ++ [v], rfl, h1, WasL.snoc h2 hv⟩
theorem WasL.length {news : List (Addr × Obj)} : ∀ {ts : List Tr} {vs : List Value}, WasL news ts vs → vs.length = ts.length
  | [], _, h => by subst h; rfl
  | _ :: _, _, ⟨_, _, e, _, h2⟩ => by subst e; rw [List.length_cons, List.length_cons, WasL.length h2]

def WasPost (led : List (Addr × Obj)) (t : Tr) (r : Value) (news' : List (Addr × Obj)) : Prop := ∃ X, news' = X ++ led ∧ WasIn X t r ∧ (∀ q ∈ X, ∀ p ∈ led, q.1 ≠ p.1) ∧ ∀ q ∈ X, ∃ vs n, q.2 = listOf vs n
section
local macro_rules | `(tactic| k_room) => `(tactic| ((try simp only [depth_under_make, depth_under_kw, depth_in1, depth_deeper, depth_caller, recursionLimit] at *); (try dsimp only [ktrTop] at *); omega))
local macro_rules | `(tactic| k_units) => `(tactic| (have hcL9 := cLine_is; (try simp only [units_in1, units_deeper, Around.mark_units, units_caller] at *); (try dsimp only [ktrTop] at *); omega))
local macro_rules | `(tactic| walk_at "LeaveK") => `(tactic| (k_dflt (refine' leaveT ?k1 ?k2 ?k3 ?_; (case k1 => k_asm); (case k2 => k_asm); (case k3 => k_asm); k_whole); intro kF kN kK kS; (try dsimp only)))
local macro_rules | `(tactic| ktr_enter) => `(tactic| (refine' code_defG ?k1 ?k2 ?k3 ?k4 ?k5 ?kA ?kF ?kK ?k6 ?k7 ?k8 ?k9 ?kB ?_ ?c2 ?c3 ?c4 ?c5; (case kA => exact rfl); (case kF => exact rfl); (case kK => assumption); (case k1 => k_asm); (case k2 => k_asm); (case k3 => k_asm); (case k4 => k_asm); (case k5 => k_asm); (case k6 => k_is); (case k7 => k_is); (case k8 => k_room); (case k9 => first | exact BindsTo.of_eq rfl | exact binds_K (by k_in) rfl (by k_is) rfl rfl rfl); (case c5 => decide); (case kB => exact locs rfl); (case c2 => exact rfl); (case c3 => exact rfl); (case c4 => exact rfl); k_whole))
local macro_rules | `(tactic| k_get) => `(tactic| assumption)
local macro_rules | `(tactic| walk_at "call ref") => `(tactic| (k_here; (with_reducible show wpAny _ _ (call (Value.ref 358) _) _ _ _); refine hold ?_))
set_option maxHeartbeats 4000000 in
theorem wasLeaf_t (w : World) (l : Lf) (led : List (Addr × Obj)) (ok : l.Ok) (m1 : (l.a, instObj 305 l.da) ∈ led) (m2 : (l.da, dictOf l.es l.n) ∈ led) :
   Tell w 358 [.ref l.a] 10 led (WasPost led (.leaf l)) := by
  obtain ⟨g1, g2, g3, g4, g5, _⟩ := ok
  unfold Tell
  k_fill
  intro p loose mean mg mb dp un gd cn cs a ccd cl outer A₀ base h₀ L m s Q E B F X N T hk hd hu hret
  refine wpAny_call ?_
  k_dflt ktr_enter
  intro g' L' h' FG' F' N' B' X' T' kG'; (try dsimp only); (try k_lift B'); (try k_fold)
  k_steps
  exact hret _ _ _ _ (by assumption) (by assumption) (by assumption) (by assumption) ⟨[_], rfl, ⟨_, _, rfl, List.Mem.head _⟩, fun q hq p hp => by rw [List.mem_singleton.mp hq]; exact Nat.ne_of_gt ((by assumption : ∀ p ∈ led, p.1 < _) p hp), fun q hq => by rw [List.mem_singleton.mp hq]; exact ⟨_, _, rfl⟩⟩
local macro_rules | `(tactic| walk_at "eval ListComp") => `(tactic| (k_here; (with_unfolding_all refine' comp_led ?c0 ?c1 ?c2 ?c3 ?c4 ?c5 ?_ ?c6; (case c0 => k_asm); (case c1 => decide); (case c2 => rfl); (case c3 => rfl); (case c4 => decide); (case c5 => rfl); (case c6 => intro _; rfl); k_whole)))
local macro_rules | `(tactic| walk_at "eval Name") => `(tactic| (k_here; k_inBlock; k_dflt (refine' name_own ?n ?v ?c ?k ?x ?b ?_; (case c => rfl); (case k => rfl); (case x => rfl); (case b => decide); (case n => assumption); (case v => assumption); k_whole)))
set_option maxHeartbeats 4000000 in
theorem wasNode_t (w : World) (d : Nd) (ks : List Tr) (k : Nat) (led : List (Addr × Obj)) (ok : d.Ok) (hks : ks.length ≤ 4) (m1 : (d.a, instObj 225 d.da) ∈ led) (m2 : (d.da, dictOf d.es d.n) ∈ led) (m3 : (d.ca, listOf (refs ks).toArray d.cn) ∈ led)
   (IH : ∀ t ∈ ks, ∀ led' : List (Addr × Obj), (∀ q ∈ led, q ∈ led') → Tell w 358 [.ref t.addr] (10 + 5 * k) led' (WasPost led' t)) :
   Tell w 358 [.ref d.a] (10 + 5 * (k + 1)) led (WasPost led (.node d ks)) := by
  obtain ⟨g1, _⟩ := ok
  unfold Tell
  k_fill
  intro p loose mean mg mb dp un gd cn cs a ccd cl outer A₀ base h₀ L m s Q E B F X N T hk hd hu hret
  refine wpAny_call ?_
  k_dflt ktr_enter
  intro g' L' h' FG' F' N' B' X' T' kG'; (try dsimp only); (try k_lift B'); (try k_fold)
  k_steps
  refine comp_list (l := d.ca) (vs := refs ks) (nn := d.cn) (fun i ys nx => ∃ X, nx = X ++ led ∧ WasL X (ks.take i) ys ∧ (∀ q ∈ X, ∀ p ∈ led, q.1 ≠ p.1) ∧ ∀ q ∈ X, ∃ vs n, q.2 = listOf vs n) rfl (by assumption) (by assumption) m3 (by rw [refs_length]; omega) ⟨[], rfl, rfl, (fun q hq => nomatch hq), fun q hq => nomatch hq⟩ ?_ ?_
  · rintro i v ys nx h tk C mC E' hv ⟨X, rfl, hw, hxl, hxc⟩ hyl F₁ N₁ hC hx hq
    obtain ⟨t, ht, rfl⟩ := refs_get hv
    k_steps
    unfold Hold
    refine tell_use [] (IH t (List.mem_of_getElem? ht) (X ++ led) fun q hq => List.mem_append_right _ hq) (by assumption) (by assumption) (by assumption) (by assumption) (by assumption) rfl (fun q hq => hq) (fun q hq => nomatch hq) (fun q hq => nomatch hq) (by k_room) (by k_units) ?_
    rintro r news' h2 tk2 F2 N2 kp2 fr2 _ ⟨X2, rfl, hw2, hxl2, hxc2⟩
    rw [List.append_nil] at N2
    k_unfold
    refine ⟨h2, tk2, _, rfl, F2, N2, kp2, fr2, ⟨X2 ++ X, (List.append_assoc ..).symm, ?_, ?_, ?_⟩, List.mem_append_right _ (List.mem_append_right _ m3)⟩
    · rw [take_snoc ht]
      exact WasL.snoc (WasL.mono (fun q hq => List.mem_append_right _ hq) _ hw) (WasIn.mono (fun q hq => List.mem_append_left _ hq) _ hw2)
    · intro q hq p hp
      rcases List.mem_append.mp hq with hq | hq
      · exact hxl2 q hq p (List.mem_append_right _ hp)
      · exact hxl q hq p hp
    · intro q hq
      rcases List.mem_append.mp hq with hq | hq
      · exact hxc2 q hq
      · exact hxc q hq
  · rintro D ys nx h tk k' ⟨X, rfl, hw, hxl, hxc⟩ hyl F₁ N₁ hq
    rw [refs_length, List.take_length] at hw
    k_steps
    rename_i x9 l9 kF kN kK kS
    exact hret _ _ _ _ (by assumption) (by assumption) (by assumption) (by assumption) ⟨_ :: _ :: X, rfl, ⟨_, _, D, k', ys, rfl, List.Mem.head _, .tail _ (List.Mem.head _), WasL.mono (fun q hq => .tail _ (.tail _ hq)) _ hw⟩, (fun q hq p hp => by
      rcases List.mem_cons.mp hq with rfl | hq
      · exact Nat.ne_of_gt (allLt_mem l9.2 p (List.mem_append_right _ hp))
      · rcases List.mem_cons.mp hq with rfl | hq'
        · exact (‹∀ q ∈ X ++ led, q.1 ≠ D› p (List.mem_append_right _ hp)).symm
        · exact hxl q hq' p hp), fun q hq => by
      rcases List.mem_cons.mp hq with rfl | hq
      · exact ⟨_, _, rfl⟩
      · rcases List.mem_cons.mp hq with rfl | hq
        · exact ⟨_, _, rfl⟩
        · exact hxc q hq⟩
end
theorem objs_in {t : Tr} {ks : List Tr} (h : t ∈ ks) : ∀ q ∈ t.objs, q ∈ objsL ks := fun q hq => by
  induction ks with
  | nil => nomatch h
  | cons u r ih =>
    rcases List.mem_cons.mp h with rfl | h
    · exact List.mem_append_left _ hq
    · exact List.mem_append_right _ (ih h)
/-- `_law_was` -/
theorem was_t (w : World) : ∀ (k : Nat) (t : Tr) (led : List (Addr × Obj)), t.Ok k → (∀ q ∈ t.objs, q ∈ led) → Tell w 358 [.ref t.addr] (10 + 5 * k) led (WasPost led t)
  | k, .leaf l, led, ok, hm => by
    have := wasLeaf_t w l led ok.1 (hm _ (.head _)) (hm _ (.tail _ (.head _)))
    intro p loose mean mg mb dp un gd cn cs a ccd cl outer A₀ base h₀ L m s Q E B F X N T hk hd hu hret
    exact this p loose mean mg mb dp un gd cn cs a ccd cl outer A₀ base h₀ L m s Q E B F X N T hk (by omega) (by omega) hret
  | 0, .node _ _, _, ok, _ => ok.elim
  | k + 1, .node d ks, led, ok, hm => wasNode_t w d ks k led ok.1 ok.2.1 (hm _ (.head _)) (hm _ (.tail _ (.head _))) (hm _ (.tail _ (.tail _ (.head _)))) fun t ht led' hl =>
    was_t w k t led' (okL_mem ok.2.2 t ht) fun q hq => hl q (hm q (.tail _ (.tail _ (.tail _ (objs_in ht q hq)))))
end Mine
namespace Mine
open PySem PySem.W PyProof.Rows PySem.Calls PySem.Spec PySem.Builtin PySem.Builtin.Str
def blank (c : Nat) : Bool := c == 32 || c == 9 || c == 10
def skip (l : List Nat) : List Nat := l.dropWhile blank
/-- behind its blanks the text begins with a backslash and a line's end -/
def goesOn (x : Str) : Bool := (skip x.cps.toList).take 2 == [92, 10]
def endsOf (x : Str) : Int := PyProof.Rows.cnt 10 x.cps.toList

theorem item_is {x : Str} {i : Nat} (h : i < x.length) : Txt.item x (i : Int) = ⟨#[x.cps.getD i 0]⟩ := by
  have := beq_iff_eq.mp (item_closes (x := x) (i := (i : Int)) ⟨by omega, by omega⟩)
  simpa using this
theorem in_blank (c : Nat) : (occurrences (Str.ofString " \t\n") ⟨#[c]⟩ 0 (Str.ofString " \t\n").length 1).isEmpty = !blank c := by
  rw [empty_one]
  have e : (Str.ofString " \t\n").cps.toList = [32, 9, 10] := by decide
  rw [e]
  unfold blank
  by_cases h1 : c = 32
  · subst h1; rfl
  · by_cases h2 : c = 9
    · subst h2; rfl
    · by_cases h3 : c = 10
      · subst h3; rfl
      · simp [h1, h2, h3]
theorem clamp (a b : Int) (n : Nat) (hb : (n : Int) ≤ b) : strSliceIndices (some a) (some b) 1 n = strSliceIndices (some a) (some (n : Int)) 1 n := by
  unfold strSliceIndices
  dsimp only
  have e : max 0 (min (if b < 0 then b + (n : Int) else b) (n : Int)) = max 0 (min (if (n : Int) < 0 then (n : Int) + (n : Int) else (n : Int)) (n : Int)) := by
    rw [if_neg (by omega), if_neg (by omega)]
    omega
  simp only [show (1 : Int) > 0 by decide, if_true]
  rw [e]
theorem slice_clamp (x : Str) (a b : Int) (hb : (x.length : Int) ≤ b) : Txt.slice x (some a) (some b) = Txt.slice x (some a) (some (x.length : Int)) := by
  unfold Txt.slice
  rw [clamp a b x.length hb]
theorem slice2 (x : Str) (i : Nat) (hi : i ≤ x.length) : (Txt.slice x (some (i : Int)) (some ((i : Int) + 2))).cps.toList = (x.cps.toList.drop i).take 2 := by
  have hlen : x.cps.toList.length = x.length := by simp [Str.length]
  by_cases h : i + 2 ≤ x.length
  · have := beq_iff_eq.mp (slice_closesL (x := x) (i := (i : Int)) (j := (i : Int) + 2) (by omega) (by omega) (by omega))
    rw [this]
    have e : ((i : Int) + 2 - i).toNat = 2 := by omega
    rw [e, Int.toNat_natCast]
  · rw [slice_clamp x i _ (by omega)]
    have := beq_iff_eq.mp (slice_closesL (x := x) (i := (i : Int)) (j := (x.length : Int)) (by omega) (by omega) (by omega))
    rw [this]
    have e : ((x.length : Int) - i).toNat = x.length - i := by omega
    rw [e, Int.toNat_natCast]
    show (x.cps.toList.drop i).take (x.length - i) = _
    rw [List.take_of_length_le (by rw [List.length_drop, hlen]; omega), List.take_of_length_le (by rw [List.length_drop, hlen]; omega)]
theorem skip_at : ∀ (l : List Nat) (i : Nat), i ≤ l.length → (∀ k, k < i → blank (l.getD k 0) = true) → (i = l.length ∨ blank (l.getD i 0) = false) → skip l = l.drop i
  | [], i, _, _, _ => by simp [skip]
  | a :: r, 0, _, _, hs => by
    have hb : blank a = false := by
      rcases hs with h | h
      · simp at h
      · simpa using h
    simp [skip, hb]
  | a :: r, i + 1, hi, hb, hs => by
    have h0 : blank a = true := by simpa using hb 0 (by omega)
    have ih := skip_at r i (by simpa using hi) (fun k hk => by simpa using hb (k + 1) (by omega)) (by simpa using hs)
    unfold skip at ih ⊢
    rw [List.dropWhile_cons_of_pos h0, ih, List.drop_succ_cons]
theorem getD_cps (x : Str) (k : Nat) : x.cps.getD k 0 = x.cps.toList.getD k 0 := by
  simp [Array.getD_eq_getD_getElem?, List.getD_eq_getElem?_getD]
theorem str_beq (x y : Str) : (x == y) = (x.cps.toList == y.cps.toList) := by
  rw [Bool.eq_iff_iff, beq_iff_eq, beq_iff_eq]
  constructor
  · intro h; rw [h]
  · intro h
    cases x; cases y
    congr 1
    exact Array.toList_inj.mp h
theorem goes_at (x : Str) (i : Nat) (hi : i ≤ x.length) (hb : ∀ k, k < i → blank (x.cps.getD k 0) = true) (hs : i = x.length ∨ blank (x.cps.getD i 0) = false) :
    (Txt.slice x (some (i : Int)) (some ((i : Int) + 2)) == Str.ofString "\\\n") = goesOn x := by
  have hlen : x.cps.toList.length = x.length := by simp [Str.length]
  rw [str_beq, slice2 x i hi]
  unfold goesOn
  rw [skip_at x.cps.toList i (by rw [hlen]; exact hi) (fun k hk => by rw [← getD_cps]; exact hb k hk) (by rw [← getD_cps, hlen]; exact hs)]
  rfl
theorem space_blank : ∀ c ∈ [9, 10, 32, 35, 92, 99], Unicode.isSpace c = blank c := by decide +kernel
theorem drop_takeWhile (p : Nat → Bool) : ∀ l : List Nat, l.drop (l.takeWhile p).length = l.dropWhile p
  | [] => rfl
  | a :: r => by
    cases h : p a with
    | true => rw [List.takeWhile_cons_of_pos h, List.dropWhile_cons_of_pos h, List.length_cons, List.drop_succ_cons, drop_takeWhile p r]
    | false => rw [List.takeWhile_cons_of_neg (by simp [h]), List.dropWhile_cons_of_neg (by simp [h])]; rfl
theorem dropWhile_eq {p q : Nat → Bool} : ∀ {l : List Nat}, (∀ c ∈ l, p c = q c) → l.dropWhile p = l.dropWhile q
  | [], _ => rfl
  | a :: r, h => by
    have h1 := h a (.head _)
    have ih := dropWhile_eq (p := p) (q := q) (l := r) fun c hc => h c (.tail _ hc)
    cases hp : p a with
    | true => rw [List.dropWhile_cons_of_pos hp, List.dropWhile_cons_of_pos (h1 ▸ hp), ih]
    | false => rw [List.dropWhile_cons_of_neg (by simp [hp]), List.dropWhile_cons_of_neg (by rw [← h1]; simp [hp])]
theorem lstrip_list {x : Str} (h : PreOk x) : (Txt.lstrip x).cps.toList = skip x.cps.toList := by
  unfold Txt.lstrip
  rw [PyProof.Rows.stripBy_eq, StrLaws.strSub_toList]
  have e1 : stripHi Unicode.isSpace false x (stripLo Unicode.isSpace true x) = x.length := rfl
  have e2 : stripLo Unicode.isSpace true x = (x.cps.toList.takeWhile Unicode.isSpace).length := rfl
  have hlen : x.cps.toList.length = x.length := by simp [Str.length]
  rw [e1, e2, List.take_of_length_le (by rw [List.length_drop, hlen]; omega), drop_takeWhile]
  exact dropWhile_eq fun c hc => space_blank c (h.2 c hc)
theorem goes_starts {x : Str} (h : PreOk x) : Txt.startswith (Txt.lstrip x) (Str.ofString "\\\n") = goesOn x := by
  unfold Txt.startswith goesOn
  rw [StrLaws.subAt_eq, List.drop_zero, lstrip_list h]
  have e1 : (Str.ofString "\\\n").length = 2 := rfl
  have e2 : (Str.ofString "\\\n").cps.toList = [92, 10] := rfl
  have e3 : (Txt.lstrip x).length = (skip x.cps.toList).length := by rw [← lstrip_list h]; simp [Str.length]
  rw [e1, e2, e3]
  cases hq : ((skip x.cps.toList).take 2 == [92, 10]) with
  | false => simp
  | true =>
    have := congrArg List.length (beq_iff_eq.mp hq)
    rw [List.length_take] at this
    simp only [List.length_cons, List.length_nil] at this
    simp; omega
theorem ends_count (x : Str) : Txt.count x (Str.ofString "\n") = endsOf x := count_cnt x 10
theorem ends_fold (x : Str) : List.foldl (fun T a => if (a == Str.ofString "\n") = true then T + 1 else T) 0 (signs x) = endsOf x := by
  have gen : ∀ (l : List Nat) (k : Int), List.foldl (fun T (a : Str) => if (a == Str.ofString "\n") = true then T + 1 else T) k (l.map fun n => (⟨#[n]⟩ : Str)) = k + PyProof.Rows.cnt 10 l := by
    intro l
    induction l with
    | nil => intro k; rw [PyProof.Rows.cnt_nil]; simp
    | cons c r ih =>
      intro k
      rw [List.map_cons, List.foldl_cons, ih, PyProof.Rows.cnt_cons]
      have e : ((⟨#[c]⟩ : Str) == Str.ofString "\n") = decide (c = 10) := by
        rw [str_beq]
        show ([c] == [10]) = _
        by_cases h : c = 10
        · subst h; rfl
        · simp [h]
      rw [e]
      by_cases h : c = 10
      · simp [h]; omega
      · simp [h]
  have := gen x.cps.toList 0
  unfold endsOf
  rw [← Int.zero_add (PyProof.Rows.cnt 10 x.cps.toList)]
  exact this
end Mine
namespace Mine
open PySem PySem.W PyProof.Rows PySem.Calls PySem.Spec
theorem step_tok {g h : Heap} {L : Addr} {x : Str} {z : Int} {t : Tok} {u : Value} {m₀ : Str → Option Value} {i : Nat} (F : Fr g L h fun y => if y = x then some (.int z t) else (if y = x then some u else m₀ y)) (e : z = (i : Int)) :
    ∃ t', Fr g L h (fun y => if y = x then some (.int (i : Int) t') else m₀ y) := by
  refine ⟨t, ?_⟩
  have : (fun y => if y = x then some (Value.int z t) else (if y = x then some u else m₀ y)) = fun y => if y = x then some (.int (i : Int) t) else m₀ y := by
    funext y
    by_cases q : y = x
    · simp [q, e]
    · simp [q]
  rw [← this]
  exact F
section
local macro_rules | `(tactic| k_room) => `(tactic| ((try simp only [depth_under_make, depth_under_kw, depth_in1, depth_deeper, depth_caller, recursionLimit] at *); (try dsimp only [ktrTop] at *); omega))
local macro_rules | `(tactic| k_units) => `(tactic| (have hcL9 := cLine_is; (try simp only [units_in1, units_deeper, Around.mark_units, units_caller] at *); (try dsimp only [ktrTop] at *); omega))
local macro_rules | `(tactic| walk_at "LeaveK") => `(tactic| (k_dflt (refine' leaveT ?k1 ?k2 ?k3 ?_; (case k1 => k_asm); (case k2 => k_asm); (case k3 => k_asm); k_whole); intro kF kN kK kS; (try dsimp only)))
local macro_rules | `(tactic| ktr_enter) => `(tactic| (refine' code_defG ?k1 ?k2 ?k3 ?k4 ?k5 ?kA ?kF ?kK ?k6 ?k7 ?k8 ?k9 ?kB ?_ ?c2 ?c3 ?c4 ?c5; (case kA => exact rfl); (case kF => exact rfl); (case kK => assumption); (case k1 => k_asm); (case k2 => k_asm); (case k3 => k_asm); (case k4 => k_asm); (case k5 => k_asm); (case k6 => k_is); (case k7 => k_is); (case k8 => k_room); (case k9 => first | exact BindsTo.of_eq rfl | exact binds_K (by k_in) rfl (by k_is) rfl rfl rfl); (case c5 => decide); (case kB => exact locs rfl); (case c2 => exact rfl); (case c3 => exact rfl); (case c4 => exact rfl); k_whole))
local macro_rules | `(tactic| walk_at "exec While") => `(tactic| (k_here; (with_reducible show wpAny _ _ (exec (Stmt.While _ _ _ _) _) _ _ _); refine hold ?_))
set_option maxHeartbeats 4000000 in
theorem goes_t (w : World) (x : Str) (tx : Tok) (hx : PreOk x) :
   Tell w 346 [.str x tx] 5 [] (fun r news' => r = .bool (goesOn x) ∧ news' = []) := by
  have hlen : x.length ≤ 12 := hx.1
  unfold Tell
  k_fill
  intro p loose mean mg mb dp un gd cn cs a ccd cl outer A₀ base h₀ L m s Q E B F X N T hk hd hu hret
  refine wpAny_call ?_
  k_dflt ktr_enter
  intro g' L' h' FG' F' N' B' X' T' kG'; (try dsimp only); (try k_lift B'); (try k_fold)
  k_steps
  unfold Hold
  rename_i h9 F9 N9
  refine with_map2 F9 fun m₀ hm₀ F₀ => ?_
  refine While_inv (fun n m nx => ∃ (i : Nat) (t : Tok), n = x.length - i ∧ i ≤ x.length ∧ (∀ k, k < i → blank (x.cps.getD k 0) = true) ∧ nx = [] ∧ m = fun y => if y = Str.ofString "at" then some (.int (i : Int) t) else m₀ y) F₀ N9 ⟨0, _, rfl, Nat.zero_le _, (fun k h => absurd h (Nat.not_lt_zero _)), rfl, rfl⟩ ?_
  rintro n m₁ nx h tk F₁ N₁ ⟨i, t, rfl, hi, hb, rfl, rfl⟩
  subst hm₀
  clear F₀ F9 N9
  k_steps
  · rename_i c1 c2 c3 h3 t3 k3 F3 N3 c4 kF kN kK kS
    have hlt : i < x.length := by omega
    rw [item_is hlt, in_blank] at c3
    rw [goes_at x i hi hb (.inr (by simpa using c3))]
    exact hret _ _ _ _ kF kN kK kS ⟨rfl, rfl⟩
  · rename_i c1 c2 c3 h3 F3 N3
    have hlt : i < x.length := by omega
    rw [item_is hlt, in_blank] at c3
    obtain ⟨t4, F4⟩ := step_tok (i := i + 1) F3 (by omega)
    refine WhileStep.intro F4 N3 (n' := x.length - (i + 1)) (by omega) ⟨i + 1, t4, rfl, hlt, fun k hk => ?_, rfl, rfl⟩
    by_cases e : k = i
    · subst e; simpa using c3
    · exact hb k (by omega)
  · rename_i c1 h3 t3 k3 F3 N3 c4 kF kN kK kS
    rw [goes_at x i hi hb (.inl (by omega))]
    exact hret _ _ _ _ kF kN kK kS ⟨rfl, rfl⟩
set_option maxHeartbeats 4000000 in
theorem ends_t (w : World) (x : Str) (tx : Tok) (hx : PreOk x) :
   Tell w 353 [.str x tx] 5 [] (fun r news' => ∃ t', r = .int (endsOf x) t' ∧ news' = []) := by
  have hlen : x.length ≤ 12 := hx.1
  unfold Tell
  k_fill
  intro p loose mean mg mb dp un gd cn cs a ccd cl outer A₀ base h₀ L m s Q E B F X N T hk hd hu hret
  refine wpAny_call ?_
  k_dflt ktr_enter
  intro g' L' h' FG' F' N' B' X' T' kG'; (try dsimp only); (try k_lift B'); (try k_fold)
  k_steps
  rw [ends_fold]
  exact hret _ _ _ _ (by assumption) (by assumption) (by assumption) (by assumption) ⟨_, rfl, rfl⟩
end
end Mine
namespace Mine
open PySem PySem.W PyProof.Rows PySem.Calls PySem.Spec
section
local macro_rules | `(tactic| k_room) => `(tactic| ((try simp only [depth_under_make, depth_under_kw, depth_in1, depth_deeper, depth_caller, recursionLimit] at *); (try dsimp only [ktrTop] at *); omega))
local macro_rules | `(tactic| k_units) => `(tactic| (have hcL9 := cLine_is; (try simp only [units_in1, units_deeper, Around.mark_units, units_caller] at *); (try dsimp only [ktrTop] at *); omega))
local macro_rules | `(tactic| walk_at "LeaveK") => `(tactic| (k_dflt (refine' leaveT ?k1 ?k2 ?k3 ?_; (case k1 => k_asm); (case k2 => k_asm); (case k3 => k_asm); k_whole); intro kF kN kK kS; (try dsimp only)))
local macro_rules | `(tactic| ktr_enter) => `(tactic| (refine' code_defG ?k1 ?k2 ?k3 ?k4 ?k5 ?kA ?kF ?kK ?k6 ?k7 ?k8 ?k9 ?kB ?_ ?c2 ?c3 ?c4 ?c5; (case kA => exact rfl); (case kF => exact rfl); (case kK => assumption); (case k1 => k_asm); (case k2 => k_asm); (case k3 => k_asm); (case k4 => k_asm); (case k5 => k_asm); (case k6 => k_is); (case k7 => k_is); (case k8 => k_room); (case k9 => first | exact BindsTo.of_eq rfl | exact binds_K (by k_in) rfl (by k_is) rfl rfl rfl); (case c5 => decide); (case kB => exact locs rfl); (case c2 => exact rfl); (case c3 => exact rfl); (case c4 => exact rfl); k_whole))
local macro_rules | `(tactic| ke_room) => `(tactic| (have hcL9 := cLine_is; (try simp only [units_in1, units_deeper, Around.mark_units, units_caller] at *); (try dsimp only [ktrTop] at *); omega))
local macro_rules | `(tactic| k_get) => `(tactic| assumption)
local macro_rules | `(tactic| walk_at "call ref") => `(tactic| (k_here; (with_reducible show wpAny _ _ (call (Value.ref 353) _) _ _ _); refine hold ?_))
local macro_rules | `(tactic| walk_at "subscriptTail") => `(tactic| (k_here; (k_dflt (refine' item_l ?N ?m ?a ?b ?x ?_ ?hs; (case N => k_asm); (case m => k_mem); (case a => decide); (case b => decide); (case x => exact rfl); (case hs => with_unfolding_all rfl); k_whole))))
local macro_rules | `(tactic| k_mem) => `(tactic| first | ktr_member | exact List.mem_cons_self .. | (refine' List.mem_cons_of_mem _ ?_; k_mem))
local macro_rules | `(tactic| ke_shaped) => `(tactic| (simp [SeqAt.shaped, PyData.canLay0, PyData.canLayAll0, PyData.depth, PyData.depthAll, strOk_empty]; first | done | assumption | (constructor <;> assumption)))
local macro_rules | `(tactic| walk_at "compareOp NotEq ref ref") => `(tactic| (k_here; (k_dflt (refine' ne_same ?ra ?rb ?sh ?hu ?he ?_; (case ra => ked_read); (case rb => ked_read); (case sh => ke_shaped); (case hu => ke_room); (case he => (simp [PyData.eqv, PyData.eqvAll])); k_whole))))
local macro_rules | `(tactic| walk_at "compareOp Eq ref ref") => `(tactic| (k_here; (k_dflt (refine' eq_same ?ra ?rb ?sh ?hu ?he ?_; (case ra => ked_read); (case rb => ked_read); (case sh => ke_shaped); (case hu => ke_room); (case he => (simp [PyData.eqv, PyData.eqvAll])); k_whole))))
set_option maxHeartbeats 4000000 in
theorem isNew_t (w : World) (led : List (Addr × Obj)) (a da wa oa : Addr) (es : List DictEntry) (n wn : Nat) (tt tv tp tl tc wt wv wp wl wc : Tok) (ty line col : Int) (vl pre : Str) (hpre : PreOk pre)
   (g1 : getL (Str.ofString "type") es = some (some (.int 60 tt))) (g2 : getL (Str.ofString "value") es = some (some (.str pre tv))) (g3 : getL (Str.ofString "_prefix") es = some (some (.str (Str.ofString "") tp)))
   (g4 : getL (Str.ofString "lineno") es = some (some (.int (line - endsOf pre) tl))) (g5 : getL (Str.ofString "column") es = some (some (.int 0 tc)))
   (m1 : (a, instObj 305 da) ∈ led) (m2 : (da, dictOf es n) ∈ led) (m3 : (wa, listOf ([.ref oa, .int ty wt, .str vl wv, .str pre wp, .int line wl, .int col wc] : List Value).toArray wn) ∈ led) :
   Tell w 365 [.ref a, .ref wa] 15 led (fun r news' => r = .bool true ∧ ∃ X, news' = X ++ led) := by
  have hsp := preOk_str hpre
  unfold Tell
  k_fill
  intro p loose mean mg mb dp un gd cn cs a ccd cl outer A₀ base h₀ L m s Q E B F X N T hk hd hu hret
  refine wpAny_call ?_
  k_dflt ktr_enter
  intro g' L' h' FG' F' N' B' X' T' kG'; (try dsimp only); (try k_lift B'); (try k_fold)
  k_steps
  unfold Hold
  refine tell_use _ (ends_t w pre _ hpre) (by assumption) (by assumption) (by assumption) (by assumption) (by assumption) rfl (fun q hq => nomatch hq) (fun q hq => hq) (fun q hq => List.not_mem_nil) (by k_room) (by k_units) ?_
  rintro r news' h2 tk2 F2 N2 _ _ _ ⟨t', rfl, rfl⟩
  rw [List.nil_append] at N2
  k_steps
  exact hret _ _ _ _ (by assumption) (by assumption) (by assumption) (by assumption) ⟨rfl, [_, _, _, _], rfl⟩
end
end Mine
namespace Mine
open PySem PySem.W PyProof.Rows PySem.Calls PySem.Spec
/-- the new leaf ahead of a leaf whose prefix goes on -/
structure NewOf (l nl : Lf) : Prop where
  ok : nl.Ok
  ty : nl.ty = 60
  vl : nl.vl = l.pre
  pre : nl.pre = Str.ofString ""
  line : nl.line = l.line - endsOf l.pre
  col : nl.col = 0
def NewFor : Tr → List Tr → Prop
  | .leaf l, pre => (goesOn l.pre = true ∧ ∃ nl, NewOf l nl ∧ pre = [.leaf nl]) ∨ (goesOn l.pre = false ∧ pre = [])
  | .node _ _, pre => pre = []
mutual
/-- what the splicer makes of a tree -/
def Spl : Tr → Tr → Prop
  | .leaf l, t' => t' = .leaf l
  | .node d ks, t' => ∃ cn ks', t' = .node { d with cn := cn } ks' ∧ SplL ks ks'
def SplL : List Tr → List Tr → Prop
  | [], ks' => ks' = []
  | t :: ts, ks' => ∃ pre t' r, ks' = pre ++ t' :: r ∧ NewFor t pre ∧ Spl t t' ∧ SplL ts r
end
theorem Spl.addr : ∀ {t t' : Tr}, Spl t t' → t'.addr = t.addr
  | .leaf _, _, h => by rw [show _ = Tr.leaf _ from h]
  | .node d ks, _, h => by obtain ⟨cn, ks', rfl, _⟩ := h; rfl
theorem newFor_length {t : Tr} {pre : List Tr} (h : NewFor t pre) : pre.length ≤ 1 := by
  cases t with
  | leaf l =>
    rcases h with ⟨_, nl, _, rfl⟩ | ⟨_, rfl⟩
    · exact Nat.le_refl 1
    · exact Nat.zero_le 1
  | node d ks => rw [show pre = [] from h]; exact Nat.zero_le 1
theorem splL_length : ∀ {ks ks' : List Tr}, SplL ks ks' → ks'.length ≤ 2 * ks.length
  | [], _, h => by rw [show _ = [] from h]; exact Nat.le_refl 0
  | t :: ts, _, h => by
    obtain ⟨pre, t', r, rfl, hn, _, hr⟩ := h
    have a := newFor_length hn
    have b := splL_length hr
    simp only [List.length_append, List.length_cons]
    omega
theorem refs_cons (t : Tr) (r : List Tr) : refs (t :: r) = .ref t.addr :: refs r := rfl
theorem wasL_get {news : List (Addr × Obj)} : ∀ {ks : List Tr} {vs : List Value}, WasL news ks vs → ∀ {i : Nat} {v : Value}, vs[i]? = some v → ∃ t, ks[i]? = some t ∧ WasIn news t v
  | [], vs, h, i, v, hv => by
    have : vs = [] := h
    subst this
    simp at hv
  | t :: ts, vs, h, i, v, hv => by
    obtain ⟨u, r, rfl, hu, hr⟩ := h
    cases i with
    | zero => exact ⟨t, rfl, (by simpa using hv : u = v) ▸ hu⟩
    | succ i => exact wasL_get hr (by simpa using hv)
end Mine
namespace Mine
open PySem PySem.W PyProof.Rows PySem.Calls PySem.Spec
section
variable {prog : Program} {w : World} {A : Around} {E : Value → Shared → Prop} {s : Shared} {h₀ : Heap} {L D : Addr} {m : Str → Option Value} {news : List (Addr × Obj)} {n : Nat} {vs : List Value} {v : Value}
theorem truthy_l {Q : Bool → Shared → Prop} (N : News h₀ L s.heap news) (hm : (D, listOf (v :: vs).toArray n) ∈ news) (hz : vs.length ≤ 1000) (h : Q true { s with toks := s.toks + 1 + 1 }) : wpAny (model prog w) A (truthy (.ref D)) Q E s := by
  refine wpAny_truthy_list (N.isList hm) (by simp only [List.size_toArray, List.length_cons]; omega) ?_
  have : (!(v :: vs).toArray.isEmpty) = true := by simp
  rw [this]; exact h
end
section
local macro_rules | `(tactic| k_room) => `(tactic| ((try simp only [depth_under_make, depth_under_kw, depth_in1, depth_deeper, depth_caller, recursionLimit] at *); (try dsimp only [ktrTop] at *); omega))
local macro_rules | `(tactic| k_units) => `(tactic| (have hcL9 := cLine_is; (try simp only [units_in1, units_deeper, Around.mark_units, units_caller] at *); (try dsimp only [ktrTop] at *); omega))
local macro_rules | `(tactic| walk_at "LeaveK") => `(tactic| (k_dflt (refine' leaveT ?k1 ?k2 ?k3 ?_; (case k1 => k_asm); (case k2 => k_asm); (case k3 => k_asm); k_whole); intro kF kN kK kS; (try dsimp only)))
local macro_rules | `(tactic| ktr_enter) => `(tactic| (refine' code_defG ?k1 ?k2 ?k3 ?k4 ?k5 ?kA ?kF ?kK ?k6 ?k7 ?k8 ?k9 ?kB ?_ ?c2 ?c3 ?c4 ?c5; (case kA => exact rfl); (case kF => exact rfl); (case kK => assumption); (case k1 => k_asm); (case k2 => k_asm); (case k3 => k_asm); (case k4 => k_asm); (case k5 => k_asm); (case k6 => k_is); (case k7 => k_is); (case k8 => k_room); (case k9 => first | exact BindsTo.of_eq rfl | exact binds_K (by k_in) rfl (by k_is) rfl rfl rfl); (case c5 => decide); (case kB => exact locs rfl); (case c2 => exact rfl); (case c3 => exact rfl); (case c4 => exact rfl); k_whole))
local macro_rules | `(tactic| ke_room) => `(tactic| (have hcL9 := cLine_is; (try simp only [units_in1, units_deeper, Around.mark_units, units_caller] at *); (try dsimp only [ktrTop] at *); omega))
local macro_rules | `(tactic| k_get) => `(tactic| assumption)
local macro_rules | `(tactic| k_all) => `(tactic| assumption)
local macro_rules | `(tactic| walk_at "call ref") => `(tactic| (k_here; refine hold ?_))
local macro_rules | `(tactic| walk_at "subscriptTail") => `(tactic| (k_here; (k_dflt (refine' item_l ?N ?m ?a ?b ?x ?_ ?hs; (case N => k_asm); (case m => k_mem); (case a => decide); (case b => decide); (case x => exact rfl); (case hs => with_unfolding_all rfl); k_whole))))
local macro_rules | `(tactic| k_mem) => `(tactic| first | ktr_member | exact List.mem_cons_self .. | (refine' List.mem_cons_of_mem _ ?_; k_mem))
local macro_rules | `(tactic| ke_shaped) => `(tactic| (simp [SeqAt.shaped, PyData.canLay0, PyData.canLayAll0, PyData.depth, PyData.depthAll, strOk_empty]; first | done | assumption | (constructor <;> assumption)))
local macro_rules | `(tactic| walk_at "compareOp NotEq ref ref") => `(tactic| (k_here; (k_dflt (refine' ne_same ?ra ?rb ?sh ?hu ?he ?_; (case ra => ked_read); (case rb => ked_read); (case sh => ke_shaped); (case hu => ke_room); (case he => (simp [PyData.eqv, PyData.eqvAll])); k_whole))))
local macro_rules | `(tactic| walk_at "compareOp Eq ref ref") => `(tactic| (k_here; (k_dflt (refine' eq_same ?ra ?rb ?sh ?hu ?he ?_; (case ra => ked_read); (case rb => ked_read); (case sh => ke_shaped); (case hu => ke_room); (case he => (simp [PyData.eqv, PyData.eqvAll])); k_whole))))
set_option maxHeartbeats 4000000 in
theorem rightLeaf_t (w : World) (l : Lf) (led : List (Addr × Obj)) (wa wn : Nat) (ok : l.Ok) (hpre : PreOk l.pre) (m1 : (l.a, instObj 305 l.da) ∈ led) (m2 : (l.da, dictOf l.es l.n) ∈ led)
   (m3 : (wa, listOf ([.ref l.a, .int l.ty l.tt, .str l.vl l.tv, .str l.pre l.tp, .int l.line l.tl, .int l.col l.tc] : List Value).toArray wn) ∈ led) :
   Tell w 372 [.ref l.a, .ref wa] 10 led (fun r news' => r = .bool true ∧ news' = led) := by
  obtain ⟨g1, g2, g3, g4, g5, _, hsv⟩ := ok
  have hsp := preOk_str hpre
  unfold Tell
  k_fill
  intro p loose mean mg mb dp un gd cn cs a ccd cl outer A₀ base h₀ L m s Q E B F X N T hk hd hu hret
  refine wpAny_call ?_
  k_dflt ktr_enter
  intro g' L' h' FG' F' N' B' X' T' kG'; (try dsimp only); (try k_lift B'); (try k_fold)
  k_steps
  rename_i kF kN kK kS
  exact hret _ led _ _ kF (fun q hq => kN q (by simp [hq])) kK (fun q hq => kS q (by simp [hq])) ⟨rfl, rfl⟩
local macro_rules | `(tactic| walk_at "call type:list") => `(tactic| (k_here; k_dflt (refine' list_copyK ?k1 ?k2 ?k3 ?_ ?z; (case k1 => k_asm); (case k2 => k_asm); (case k3 => exact News.isList (by k_asm) (by k_mem)); (case z => assumption); k_whole); intro D' c' h' F' N' l1; (try k_lt l1); (try k_sweep)))
local macro_rules | `(tactic| walk_at "exec For") => `(tactic| (k_here; (rename Fr _ _ _ _ => lF'); (with_unfolding_all refine' For_invVF lF' ?k1 ?k2 ?_; (case k1 => exact rfl); (case k2 => exact rfl); k_whole)))
local macro_rules | `(tactic| walk_at "truthy ref") => `(tactic| (k_here; k_dflt (refine' truthy_l ?N ?m ?z ?_; (case N => k_asm); (case m => k_mem); (case z => simp only [List.length_cons]; omega); k_whole)))
local macro_rules | `(tactic| walk_at "call builtin:list.pop") => `(tactic| (k_here; k_dflt (refine' pop0 ?F ?N ?U ?z ?_; (case F => k_asm); (case N => k_asm); (case U => k_upd); (case z => simp only [List.length_cons]; omega)); (intro h' F' N'; (try dsimp only [List.nil_append, List.cons_append] at N'))))
set_option maxHeartbeats 8000000 in
theorem rightNode_t (w : World) (d : Nd) (ks ks' : List Tr) (k room : Nat) (led : List (Addr × Obj)) (wa wn ka kn : Nat) (vs : List Value) (ok : d.Ok) (oks : OkL ks k) (hks : ks.length ≤ 4) (hno : ∀ q ∈ led, q.2.cls ≠ .type "list_iterator") (hsp : SplL ks ks') (hw : WasL led ks vs)
   (m1 : (d.a, instObj 225 d.da) ∈ led) (m2 : (d.da, dictOf d.es d.n) ∈ led) (m3 : (d.ca, listOf (refs ks').toArray d.cn) ∈ led) (ms : ∀ q ∈ objsL ks', q ∈ led)
   (m4 : (wa, listOf ([.ref d.a, .ref ka] : List Value).toArray wn) ∈ led) (m5 : (ka, listOf vs.toArray kn) ∈ led)
   (IH : ∀ t t' v, t ∈ ks → Spl t t' → (∀ q ∈ t'.objs, q ∈ led) → WasIn led t v → Tell w 372 [.ref t'.addr, v] (20 + room) led (fun r news' => r = .bool true ∧ news' = led)) :
   Tell w 372 [.ref d.a, .ref wa] (25 + room) led (fun r news' => r = .bool true ∧ news' = led) := by
  obtain ⟨g1, _⟩ := ok
  have hlen' := splL_length hsp
  unfold Tell
  k_fill
  intro p loose mean mg mb dp un gd cn cs a ccd cl outer A₀ base h₀ L m s Q E B F X N T hk hd hu hret
  refine wpAny_call ?_
  k_dflt ktr_enter
  intro g' L' h' FG' F' N' B' X' T' kG'; (try dsimp only); (try k_lift B'); (try k_fold)
  have hz9 : (refs ks').toArray.size ≤ sizeLine := by rw [sizeLine_eq, List.size_toArray, refs, List.length_map]; omega
  k_steps
  rename_i D9 c9 h91 l9 h92 lF9 N9
  refine with_map2 lF9 fun m₀ hm₀ F₀ => ?_
  refine for_list (l := ka) (vs := vs) (nn := kn) (fun i m nx => (∀ z, z ≠ Str.ofString "kid" → m z = (fun y => if y = Str.ofString "left" then some (.ref D9) else m₀ y) z) ∧ ∃ rem ln, nx = (D9, listOf (refs rem).toArray ln) :: led ∧ SplL (ks.drop i) rem ∧ (∀ t ∈ rem, t ∈ ks'))
    rfl F₀ N9 ?_ ?_ ⟨fun _ _ => rfl, ks', c9, rfl, hsp, fun _ h => h⟩ ?_ ?_
  · rintro i m nx ⟨_, rem, ln, rfl, _⟩
    exact .tail _ m5
  · rintro i m nx ⟨_, rem, ln, rfl, _⟩ q hq
    rcases List.mem_cons.mp hq with rfl | hq
    · exact fun e => by simp at e
    · exact hno q hq
  · rintro i v m₁ nx h tk own hv hoff ⟨hm₁, rem, ln, rfl, hrem, hsub⟩ F₁ N₁
    obtain ⟨t, ht, hwas⟩ := wasL_get hw hv
    have htm : t ∈ ks := List.mem_of_getElem? ht
    have hlen9 := splL_length hrem
    rw [List.length_drop] at hlen9
    rw [drop_cons ht] at hrem
    obtain ⟨pre, t', r, rfl, hnew, hspt, hrest⟩ := hrem
    rw [map_here hm₁] at F₁
    obtain ⟨Z, hZ⟩ : ∃ Z, Z = led ++ own := ⟨_, rfl⟩
    have N₂ : News g' L' h ((D9, listOf (refs (pre ++ t' :: r)).toArray ln) :: Z) := hZ ▸ N₁
    have sZ : ∀ q ∈ led, q ∈ Z := fun q hq => hZ ▸ List.mem_append_left _ hq
    have hx : ∀ p ∈ Z, p.1 ≠ D9 := fun p hp => by
      rw [hZ] at hp
      rcases List.mem_append.mp hp with hp | hp
      · exact Nat.ne_of_lt (l9 p hp)
      · exact hoff p hp _ (.head _)
    simp only [List.length_append, List.length_cons] at hlen9
    have hzr : (refs r).length ≤ 100 := by rw [refs_length]; omega
    clear N₁ N9 lF9 F₀ hv
    have hin : ∀ q ∈ t'.objs, q ∈ led := fun q hq => ms q (objs_in (hsub t' (by simp)) q hq)
    have hoR : ∀ (n : Nat) (q : Addr × Obj), q ∈ (D9, listOf (refs r).toArray n) :: own → q.1 ∉ led.map (·.1) := fun n q hq hm => by
      obtain ⟨p, hp, e⟩ := List.mem_map.mp hm
      rcases List.mem_cons.mp hq with rfl | hq
      · exact hx p (sZ p hp) e
      · exact hoff q hq p (.tail _ hp) e.symm
    have turnN : ∀ (h : Heap) (n : Nat), News g' L' h (led ++ ((D9, listOf (refs r).toArray n) :: own)) → News g' L' h ((D9, listOf (refs r).toArray n) :: Z) := fun h n N q hq => N q (by
      rw [hZ] at hq
      simp only [List.mem_cons, List.mem_append] at hq ⊢
      rcases hq with e | e | e <;> simp [e])
    have fin : ∀ (h3 : Heap) (tk3 n : Nat), Fr g' L' h3 (fun y => if y = Str.ofString "kid" then some v else if y = Str.ofString "left" then some (.ref D9) else m₀ y) → News g' L' h3 ((D9, listOf (refs r).toArray n) :: Z) →
        ForEnd g' L' (fun m nx => (∀ z, z ≠ Str.ofString "kid" → m z = (fun y => if y = Str.ofString "left" then some (.ref D9) else m₀ y) z) ∧ ∃ rem ln, nx = (D9, listOf (refs rem).toArray ln) :: led ∧ SplL (ks.drop (i + 1)) rem ∧ (∀ t ∈ rem, t ∈ ks')) own
          { s with heap := h, toks := tk } { s with heap := h3, toks := tk3 } := fun h3 tk3 n F3 N3 =>
      ForEnd.mk _ F3 N3 (fun q hq => (List.mem_cons.mp hq).elim (fun e => e ▸ .head _) fun e => .tail _ (sZ q e)) (fun q hq => .tail _ (hZ ▸ List.mem_append_right _ hq))
        ⟨fun z hz => if_neg hz, r, n, rfl, hrest, fun u hu => hsub u (by simp [hu])⟩
    subst hm₀
    cases t with
    | leaf l =>
      have hwas' := hwas
      obtain ⟨wa', n', rfl, hwm⟩ := hwas'
      have hspt' := hspt
      obtain rfl : t' = .leaf l := hspt'
      have hwz := sZ _ hwm
      have hl : l.Ok ∧ PreOk l.pre := okL_mem oks _ htm
      rcases hnew with ⟨hg, nl, hnl, rfl⟩ | ⟨hg, rfl⟩
      · simp only [List.cons_append, List.nil_append, refs_cons, Tr.addr] at N₂
        have z1 : (nl.a, instObj 305 nl.da) ∈ Z := sZ _ (ms _ (objs_in (hsub (.leaf nl) (by simp)) _ (.head _)))
        have z2 : (nl.da, dictOf nl.es nl.n) ∈ Z := sZ _ (ms _ (objs_in (hsub (.leaf nl) (by simp)) _ (.tail _ (.head _))))
        obtain ⟨w1, w2, w3, w4, w5, w6⟩ := hnl
        obtain ⟨n1, n2, n3, n4, n5, _, _⟩ := w1
        rw [w2] at n1; rw [w3] at n2; rw [w4] at n3; rw [w5] at n4; rw [w6] at n5
        k_steps
        unfold Hold
        refine tell_use _ (goes_t w l.pre _ hl.2) (by assumption) (by assumption) (by assumption) (by assumption) (by assumption) rfl (fun q hq => nomatch hq) (fun q hq => hq) (fun q hq => List.not_mem_nil) (by k_room) (by k_units) ?_
        rintro r1 news1 h1 tk1 F1 N1 _ _ _ ⟨rfl, rfl⟩
        rw [List.nil_append] at N1
        rw [hg]
        clear N₂ F₁
        k_steps
        unfold Hold
        refine tell_use [(D9, listOf (Value.ref l.a :: refs r).toArray (ln + 1))] (isNew_t w Z _ _ _ _ _ _ _ _ _ _ _ _ _ _ _ _ _ _ _ _ _ _ hl.2 n1 n2 n3 n4 n5 z1 z2 hwz) (by assumption) (by assumption) (by assumption) (by assumption) (by assumption) rfl (fun q hq => .tail _ hq) (fun q hq => by rw [List.mem_singleton.mp hq]; exact .head _) (fun q hq => ?_) (by k_room) (by k_units) ?_
        · rw [List.mem_singleton.mp hq]
          intro e
          obtain ⟨p, hp, e⟩ := List.mem_map.mp e
          exact hx p hp e
        rintro r2 news2 h2 tk2 F2 N2 _ _ _ ⟨rfl, X2, rfl⟩
        have N2' : News g' L' h2 ((D9, listOf (Value.ref l.a :: refs r).toArray (ln + 1)) :: Z) := fun q hq => N2 q (by
          rcases List.mem_cons.mp hq with rfl | hq
          · simp
          · simp [hq])
        clear N2 N1 F1
        k_steps
        unfold Hold
        refine tell_use ((D9, listOf (refs r).toArray (ln + 1 + 1)) :: own) (IH (.leaf l) (.leaf l) _ htm hspt hin hwas) (by assumption) (by assumption) (by assumption) (by assumption) (by assumption) rfl (fun q hq => .tail _ (sZ q hq)) (fun q hq => ?_) (fun q hq => ?_) (by k_room) (by k_units) ?_
        · rcases List.mem_cons.mp hq with rfl | hq
          · exact .head _
          · exact .tail _ (hZ ▸ List.mem_append_right _ hq)
        · exact hoR _ q hq
        rintro r3 news3 h3 tk3 F3 N3 _ _ _ ⟨rfl, rfl⟩
        clear F2 N2'
        have N4 := turnN _ _ N3
        clear N3
        k_steps
        exact fin _ _ _ (by assumption) (by assumption)
      · simp only [List.nil_append, refs_cons, Tr.addr] at N₂
        k_steps
        unfold Hold
        refine tell_use _ (goes_t w l.pre _ hl.2) (by assumption) (by assumption) (by assumption) (by assumption) (by assumption) rfl (fun q hq => nomatch hq) (fun q hq => hq) (fun q hq => List.not_mem_nil) (by k_room) (by k_units) ?_
        rintro r1 news1 h1 tk1 F1 N1 _ _ _ ⟨rfl, rfl⟩
        rw [List.nil_append] at N1
        rw [hg]
        clear N₂ F₁
        k_steps
        unfold Hold
        refine tell_use ((D9, listOf (refs r).toArray (ln + 1)) :: own) (IH (.leaf l) (.leaf l) _ htm hspt hin hwas) (by assumption) (by assumption) (by assumption) (by assumption) (by assumption) rfl (fun q hq => .tail _ (sZ q hq)) (fun q hq => ?_) (fun q hq => ?_) (by k_room) (by k_units) ?_
        · rcases List.mem_cons.mp hq with rfl | hq
          · exact .head _
          · exact .tail _ (hZ ▸ List.mem_append_right _ hq)
        · exact hoR _ q hq
        rintro r3 news3 h3 tk3 F3 N3 _ _ _ ⟨rfl, rfl⟩
        clear F1 N1
        have N4 := turnN _ _ N3
        clear N3
        k_steps
        exact fin _ _ _ (by assumption) (by assumption)
    | node e us =>
      obtain rfl : pre = [] := hnew
      have hwas' := hwas
      obtain ⟨wa', n', ka', kn', vs', rfl, hwm, _⟩ := hwas'
      have hwz := sZ _ hwm
      simp only [List.nil_append, refs_cons] at N₂
      k_steps
      unfold Hold
      · refine tell_use ((D9, listOf (refs r).toArray (ln + 1)) :: own) (IH (.node e us) t' _ htm hspt hin hwas) (by assumption) (by assumption) (by assumption) (by assumption) (by assumption) rfl (fun q hq => .tail _ (sZ q hq)) (fun q hq => ?_) (fun q hq => ?_) (by k_room) (by k_units) ?_
        · rcases List.mem_cons.mp hq with rfl | hq
          · exact .head _
          · exact .tail _ (hZ ▸ List.mem_append_right _ hq)
        · exact hoR _ q hq
        rintro r3 news3 h3 tk3 F3 N3 _ _ _ ⟨rfl, rfl⟩
        clear F₁ N₂
        have N4 := turnN _ _ N3
        clear N3
        k_steps
        exact fin _ _ _ (by assumption) (by assumption)
  · rintro m₁ nx h tk ⟨hm₁, rem, ln, rfl, hrem, _⟩ F₁ N₁
    rw [show vs.length = ks.length from WasL.length hw, List.drop_length] at hrem
    obtain rfl : rem = [] := hrem
    replace N₁ : News g' L' h ((D9, listOf ([] : List Value).toArray ln) :: led) := N₁
    have em : m₁ = fun z => if z = Str.ofString "kid" then m₁ z else (fun y => if y = Str.ofString "left" then some (.ref D9) else m₀ y) z := by
      funext z
      by_cases e : z = Str.ofString "kid"
      · simp [e]
      · simp [e, hm₁ z e]
    rw [em] at F₁
    clear N9 lF9 F₀
    subst hm₀
    k_steps
    rename_i kF kN kK kS
    exact hret _ led _ _ kF (fun q hq => kN q (by simp [hq])) kK (fun q hq => kS q (by simp [hq])) ⟨rfl, rfl⟩
end
/-- `_law_right` -/
theorem right_t (w : World) : ∀ (k : Nat) (t t' : Tr) (v : Value) (led : List (Addr × Obj)), t.Ok k → Spl t t' → (∀ q ∈ t'.objs, q ∈ led) → (∀ q ∈ led, q.2.cls ≠ .type "list_iterator") → WasIn led t v → Tell w 372 [.ref t'.addr, v] (20 + 5 * k) led (fun r news' => r = .bool true ∧ news' = led)
  | k, .leaf l, t', v, led, ok, hs, hm, _, hw => by
    obtain rfl : t' = .leaf l := hs
    obtain ⟨wa, wn, rfl, m3⟩ := hw
    have := rightLeaf_t w l led wa wn ok.1 ok.2 (hm _ (.head _)) (hm _ (.tail _ (.head _))) m3
    intro p loose mean mg mb dp un gd cn cs a ccd cl outer A₀ base h₀ L m s Q E B F X N T hk hd hu hret
    exact this p loose mean mg mb dp un gd cn cs a ccd cl outer A₀ base h₀ L m s Q E B F X N T hk (by omega) (by omega) hret
  | 0, .node _ _, _, _, _, ok, _, _, _, _ => ok.elim
  | k + 1, .node d ks, t', v, led, ok, hs, hm, hno, hw => by
    obtain ⟨cn, ks', rfl, hsl⟩ := hs
    obtain ⟨wa, wn, ka, kn, vs, rfl, m4, m5, hwl⟩ := hw
    have := rightNode_t w { d with cn := cn } ks ks' k (5 * k) led wa wn ka kn vs ⟨ok.1.kids, ok.1.small⟩ ok.2.2 ok.2.1 hno hsl hwl (hm _ (.head _)) (hm _ (.tail _ (.head _))) (hm _ (.tail _ (.tail _ (.head _)))) (fun q hq => hm q (.tail _ (.tail _ (.tail _ hq)))) m4 m5
      fun t t' v ht hst hmt hwt => right_t w k t t' v led (okL_mem ok.2.2 t ht) hst hmt hno hwt
    intro p loose mean mg mb dp un gd cn' cs a ccd cl outer A₀ base h₀ L m s Q E B F X N T hk hd hu hret
    exact this p loose mean mg mb dp un gd cn' cs a ccd cl outer A₀ base h₀ L m s Q E B F X N T hk (by omega) (by omega) hret
end Mine
namespace Mine
open PySem PySem.W PyProof.Rows PySem.Calls PySem.Spec
/-- no iterator of a list or of an enumeration -/
def NotIter (o : Obj) : Prop := (o.cls ≠ .type "list_iterator" ∧ o.cls ≠ .type "enumerate") ∨ (∃ v, o.data = .cell v) ∨ ∃ vs x t, o.data = .fields vs ∧ vs[1]? = some (.str x t)
/-- `for index, one in enumerate(list)` over a list of the ledger, the ledger turning -/
def EnumAt (prog : Program) (w : World) (A : Around) (h₀ : Heap) (env : Env) (xi xc : Str) (body : List Stmt) (Q : Flow → Shared → Prop) (E : Value → Shared → Prop) (xv : Value) (s₁ : Shared) : Prop :=
  ∃ (e it l : Addr) (vs : List Value) (nn : Nat) (m : Str → Option Value) (news : List (Addr × Obj)) (J : Nat → (Str → Option Value) → List (Addr × Obj) → Prop),
    xv = .ref e ∧ IsEnum s₁.heap e it 0 .none ∧ s₁.heap.IsListIter it l 0 ∧ e ≠ it ∧ e ≠ l ∧ it ≠ l ∧ e ≠ env.locals ∧ it ≠ env.locals ∧ h₀.get? e = none ∧ h₀.get? it = none ∧ (∀ q ∈ news, q.1 ≠ e ∧ q.1 ≠ it) ∧
    Fr h₀ env.locals s₁.heap m ∧ News h₀ env.locals s₁.heap news ∧ J 0 m news ∧ (∀ i m nx, J i m nx → (l, listOf vs.toArray nn) ∈ nx) ∧ (∀ i m nx, J i m nx → ∀ q ∈ nx, NotIter q.2) ∧
    (∀ i v t m₁ nx h tk own, vs[i]? = some v → (∀ p ∈ own, ∀ q ∈ nx, p.1 ≠ q.1) → J i m₁ nx → Fr h₀ env.locals h (fun y => if y = xc then some v else if y = xi then some (.int (i : Int) t) else m₁ y) → News h₀ env.locals h (nx ++ own) →
      wpAny (model prog w) A (execs body env) (ForPost h₀ env.locals (J (i + 1)) own { s₁ with heap := h, toks := tk } Q) E { s₁ with heap := h, toks := tk }) ∧
    (∀ m₁ nx h tk, J vs.length m₁ nx → Fr h₀ env.locals h m₁ → News h₀ env.locals h nx → Q .next { s₁ with heap := h, toks := tk })
section
variable {prog : Program} {w : World} {A : Around} {E : Value → Shared → Prop} {s : Shared} {env : Env} {h₀ : Heap} {xi xc : Str} {body : List Stmt} {Q : Flow → Shared → Prop}
theorem enum_l {M : Str → Option Value} {L l : Addr} {vs : List Value} {nn : Nat} {news : List (Addr × Obj)} {Q : Value → Shared → Prop} (F : Fr h₀ L s.heap M) (N : News h₀ L s.heap news) (hl : (l, listOf vs.toArray nn) ∈ news)
    (h : ∀ e it h', IsEnum h' e it 0 .none → h'.IsListIter it l 0 → e ≠ it → e ≠ l → it ≠ l → e ≠ L → it ≠ L → h₀.get? e = none → h₀.get? it = none → (∀ q ∈ news, q.1 ≠ e ∧ q.1 ≠ it) → Fr h₀ L h' M → News h₀ L h' news → Q (.ref e) { s with heap := h' }) :
    wpAny (model prog w) A (call (.type "enumerate") [.ref l]) Q E s := by
  have hol := (N _ hl).1
  have hls : s.heap.IsList l vs.toArray := ⟨_, hol, rfl, nn, rfl⟩
  refine call_enumerate_list hls fun h' he hit hsz hk => ?_
  have lt : ∀ b o, s.heap.get? b = some o → b < s.heap.objs.size := fun b o e => Heap.lt_size e
  have ne1 : ∀ b o, s.heap.get? b = some o → b ≠ s.heap.objs.size + 1 := fun b o e => Nat.ne_of_lt (Nat.lt_succ_of_lt (lt b o e))
  have ne2 : ∀ b o, s.heap.get? b = some o → b ≠ s.heap.objs.size := fun b o e => Nat.ne_of_lt (lt b o e)
  have old : ∀ b, s.heap.objs.size ≤ b → h₀.get? b = none := fun b hb => by
    cases e : h₀.get? b with
    | none => rfl
    | some o => exact absurd (lt _ _ (F.keep _ _ e)) (Nat.not_lt.mpr hb)
  obtain ⟨oL, _, _, eL, _⟩ := id F.ns
  exact h _ _ h' he hit (Nat.succ_ne_self _) (ne1 _ _ hol).symm (ne2 _ _ hol).symm (ne1 _ _ eL).symm (ne2 _ _ eL).symm (old _ (Nat.le_succ _)) (old _ (Nat.le_refl _)) (fun q hq => ⟨ne1 _ _ (N q hq).1, ne2 _ _ (N q hq).1⟩) (F.keeps hk)
    (fun q hq => ⟨hk _ _ (N q hq).1, (N q hq).2⟩)

theorem For_enum {pk pv pt pos : Pos} {x1 : Nat} {iter : Expr} (h₀ : Heap) (hh : A.handled = none) (hxi : env.kindOf xi = some .local) (hxc : env.kindOf xc = some .local)
    (hp : (env.scope.kind == .class || (env.scope.kind == .module && env.locals != env.globals)) = false)
    (h : wpAny (model prog w) A (eval iter env) (fun xv s₁ => EnumAt prog w A h₀ env xi xc body Q E xv s₁) E s)
    (hs : ∀ x, foldedSetIterable iter env x = pure x)
    (hE : PassesOwn (model prog w) A env E := by passes_own) :
    wpAny (model prog w) A (exec (.For (.Tuple [.Name xi pk, .Name xc pv] x1 pt) iter body [] pos) env) Q E s := by
  refine wpAny_For (wpAny_mono h (fun xv s₁ h₁ => ?_) fun _ _ e => e) hs
  obtain ⟨e, it, l, vs, nn, m, news, J, rfl, he, hit, hei, hel, hil, heL, hiL, hne, hni, hno, F, N, hJ, stay, kind, turn, done⟩ := h₁
  refine wpAny_pyIter_enum he ?_
  have hol := (N _ (stay _ _ _ hJ)).1
  have hls : s₁.heap.IsList l vs.toArray := ⟨_, hol, rfl, nn, rfl⟩
  have hlL : env.locals ≠ l := fun q => (N _ (stay _ _ _ hJ)).2.1 q.symm
  have W := WalksT.enumerateD (prog := prog) (w := w) (Draws.list (A := A.in1) hh it l hil.symm vs.toArray) e hei (by simp [hei, hel]) (by simp)
  have hLf : env.locals ∉ [e, it, l] := by
    simp only [List.mem_cons, List.not_mem_nil, or_false, not_or]
    exact ⟨heL.symm, hiL.symm, hlL⟩
  have hLw : env.locals ∉ [e, it] := fun q => hLf (W.sub _ q)
  have old : ∀ b o, h₀.get? b = some o → b ∉ [e, it] := fun b o q hb => by
    rcases List.mem_cons.mp hb with rfl | hb
    · rw [hne] at q; cases q
    · rw [List.mem_singleton.mp hb, hni] at q; cases q
  refine codeAny_forLoop_any (R := fun r s' => match r with | .ok f => Q f s' | .error e => cameBackBy (model prog w) A env E e s')
    (fun k s' => ∃ h' tk m' nx i, s' = { s₁ with heap := h', toks := tk } ∧ ((∃ old, IsEnum h' e it (i : Nat) old) ∧ h'.IsListIter it l i ∧ h'.IsList l vs.toArray) ∧ Fr h₀ env.locals h' m' ∧ News h₀ env.locals h' nx ∧ (∀ q ∈ nx, q.1 ≠ e ∧ q.1 ≠ it) ∧ J i m' nx ∧ i ≤ vs.length ∧ k = vs.length + 1 - i) ?_ (vs.length + 1)
    ⟨s₁.heap, s₁.toks, m, news, 0, rfl, ⟨⟨_, he⟩, hit, hls⟩, F, N, hno, hJ, Nat.zero_le _, rfl⟩
  rintro k s' ⟨H, tk, m', nx, i, rfl, hst', F', N', hno', hJ', hi, rfl⟩
  have hnw' : ∀ q ∈ nx, q.1 ∉ [e, it] := fun q hq hb => by
    rcases List.mem_cons.mp hb with z | hb
    · exact (hno' q hq).1 z
    · exact (hno' q hq).2 (List.mem_singleton.mp hb)
  have next : ∀ h₁ : Heap, (∀ b o, b ∉ [e, it] → H.get? b = some o → h₁.get? b = some o) → Fr h₀ env.locals h₁ m' ∧ News h₀ env.locals h₁ nx := fun h₁ hk₁ =>
    ⟨⟨F'.ns.at' fun o e => hk₁ _ o hLw e, fun b o e => hk₁ b o (old b o e) (F'.keep b o e), F'.above⟩, fun p hp => ⟨hk₁ _ _ (hnw' p hp) (N' p hp).1, (N' p hp).2⟩⟩
  by_cases hlt : i < vs.length
  · refine W.item i _ _ _ (by simpa using hlt) hst' fun T vals h₁ tk₁ hPt _ hT hMid hk₁ => ?_
    obtain ⟨t, x, hPx, rfl⟩ := hPt
    replace hPx : vs[i]? = some x := by simpa using hPx
    refine W.go _ x1 pt i T _ _ _ hMid fun h₂ hst₂ hk₂ => ?_
    have ht₂ : h₂.IsTuple T #[.int i t, x] := hT.at fun o e => hk₂ T o (W.apart i T h₁ hMid) e
    refine wpAny_assign_Tuple hh ht₂ rfl rfl fun h₃ hx₃ => ?_
    replace hx₃ : Heap.ExtBut h₂.objs.size h₂ h₃ := hx₃
    have up₃ : ∀ b o, h₂.get? b = some o → h₃.get? b = some o := fun b o x => hx₃ b o (Nat.ne_of_lt (Heap.lt_size x)) x
    obtain ⟨F₃, N₃⟩ := next h₃ fun b o hb x => up₃ b o (hk₂ b o hb (hk₁ b o hb x))
    show wpAny _ A (do holding [x] (assign (.Name xi pk) env (.int i t)); do holding [] (assign (.Name xc pv) env x); pure ()) _ _ _
    refine wpAny_bind (wpAny_holding (wpAny_assign_Name (wpAny_storeName_local hxi F₃.ns (fun h₄ hn₄ hs₄ => ?_) hp)))
    replace hs₄ : Heap.SameBut env.locals h₃ h₄ := hs₄
    have F₄ := F₃.set hn₄ hs₄
    refine wpAny_bind (wpAny_holding (wpAny_assign_Name (wpAny_storeName_local hxc F₄.ns (fun h₅ hn₅ hs₅ => wpAny_pure ?_) hp)))
    replace hs₅ : Heap.SameBut env.locals h₄ h₅ := hs₅
    have F₅ := F₄.set hn₅ hs₅
    have N₅ : News h₀ env.locals h₅ nx := (N₃.set hs₄).set hs₅
    have hst₅ := W.frame (i + 1) h₃ h₅ (W.frame _ _ _ hst₂ fun b hb o e => up₃ b o e) fun b hb o e => hs₅.extBut b o (fun q => hLf (q ▸ hb)) (hs₄.extBut b o (fun q => hLf (q ▸ hb)) e)
    obtain ⟨⟨od, eE⟩, ⟨oI, eI, cI, dI⟩, _⟩ := id hst₅
    -- what the loop holds itself
    obtain ⟨oE, hoE, cE, dE⟩ : ∃ oE, h₅.get? e = some oE ∧ oE.cls = .type "enumerate" ∧ ∃ z, oE.data = .fields #[.none, .bool false, .ref it, z, .none, od] := ⟨_, eE, rfl, _, rfl⟩
    have sep : ∀ p ∈ [(e, oE), (it, oI)], ∀ q ∈ nx, p.1 ≠ q.1 := fun p hp q hq z => by
      rcases List.mem_cons.mp hp with rfl | hp
      · exact (hno' q hq).1 z.symm
      · rw [List.mem_singleton.mp hp] at z; exact (hno' q hq).2 z.symm
    have NO : News h₀ env.locals h₅ (nx ++ [(e, oE), (it, oI)]) := fun q hq => by
      rcases List.mem_append.mp hq with hq | hq
      · exact N₅ q hq
      · rcases List.mem_cons.mp hq with rfl | hq
        · exact ⟨hoE, heL, hne⟩
        · rw [List.mem_singleton.mp hq]; exact ⟨eI, hiL, hni⟩
    refine wpAny_mono (wpAny_passesOwn hE (turn i x t m' nx h₅ _ [(e, oE), (it, oI)] hPx sep hJ' F₅ NO)) (fun f s₃ h₆ => ?_) fun _ _ e => e
    have fin : ForEnd h₀ env.locals (J (i + 1)) [(e, oE), (it, oI)] { s₁ with heap := h₅, toks := tk₁ } s₃ → ∃ m, m < vs.length + 1 - i ∧ ∃ h' tk m' nx i, s₃ = { s₁ with heap := h', toks := tk } ∧ ((∃ old, IsEnum h' e it (i : Nat) old) ∧ h'.IsListIter it l i ∧ h'.IsList l vs.toArray) ∧ Fr h₀ env.locals h' m' ∧ News h₀ env.locals h' nx ∧ (∀ q ∈ nx, q.1 ≠ e ∧ q.1 ≠ it) ∧ J i m' nx ∧ i ≤ vs.length ∧ m = vs.length + 1 - i := by
      rintro ⟨h', tk', m₂, news', nx', rfl, F₆, N₆, hn, ho, hJ₆⟩
      have N₇ : News h₀ env.locals h' nx' := fun q hq => N₆ q (hn q hq)
      refine ⟨vs.length + 1 - (i + 1), by omega, h', tk', m₂, nx', i + 1, rfl, ?_, F₆, N₇, fun q hq => ⟨fun z => ?_, fun z => ?_⟩, hJ₆, hlt, rfl⟩
      · refine W.frame (i + 1) h₅ h' hst₅ fun b hb o q => ?_
        simp only [List.mem_cons, List.not_mem_nil, or_false] at hb
        rcases hb with rfl | rfl | rfl
        · rw [hoE] at q; cases q; exact (N₆ _ (ho _ (.head _))).1
        · rw [eI] at q; cases q; exact (N₆ _ (ho _ (.tail _ (.head _)))).1
        · rw [(N₅ _ (stay _ _ _ hJ')).1] at q; cases q; exact (N₇ _ (stay _ _ _ hJ₆)).1
      · have := news_one N₆ (hn q hq) (ho _ (.head _)) z
        rcases kind _ _ _ hJ₆ q hq with h | ⟨v, h⟩ | ⟨vs, x, t, h, h'⟩
        · exact h.2 (this ▸ cE)
        · obtain ⟨z, dE⟩ := dE; rw [this, dE] at h; cases h
        · obtain ⟨z, dE⟩ := dE; rw [this, dE] at h; cases h; cases h'
      · have := news_one N₆ (hn q hq) (ho _ (.tail _ (.head _))) z
        rcases kind _ _ _ hJ₆ q hq with h | ⟨v, h⟩ | ⟨vs, x, t, h, h'⟩
        · exact h.1 (this ▸ cI)
        · rw [this, dI] at h; cases h
        · rw [this, dI] at h; cases h; cases h'
    cases f with
    | ret v => exact h₆
    | brk => exact h₆
    | cont => exact fin h₆
    | next => exact fin h₆
  · have hin : i = vs.length := by omega
    subst hin
    refine W.done _ _ _ (by simpa using hst') fun h₁ tk₁ hk₁ => wpAny_execs_nil ?_
    obtain ⟨F₁, N₁⟩ := next h₁ hk₁
    exact done m' nx h₁ tk₁ hJ' F₁ N₁
end
end Mine
namespace Mine
open PySem PySem.W PyProof.Rows PySem.Calls PySem.Spec
section
variable {prog : Program} {w : World} {A A₀ : Around} {s : Shared} {K : Frag} {L : Addr} {h₀ base : Heap} {m mg mb : Str → Option Value} {news : List (Addr × Obj)} {p : Program} {loose : List Str} {mean : ExcName → Option Value}
/-- a call of a def that a def has made, and what it leaves alone -/
theorem code_nestG {env : Env} {outer : List Env} {R : Result → Shared → Prop} {name qual : Str} {params : Arguments} {body : List Stmt} {scope : Scope} {cl : List (Str × Addr)} {doc pm ctv : Value} {c' : Addr} {f : Addr} {args : Args} {binds : List (Str × Value)}
    (B : Below A₀ base outer h₀) (F : Fr h₀ L s.heap m) (X₀ : K.In h₀) (N : News h₀ L s.heap news) (T : Top p loose mean mg mb h₀) (hA : A.frames = some (env :: outer)) (hf : env.frame = some L) (hke : env.scope.kind = .function)
    (ho : (f, fnMade name qual params body scope cl doc pm c' ctv) ∈ news) (hcd : s.heap.CodeRec (.ref c') qual) (hroom : A.depth < recursionLimit)
    (hbind : BindsTo s (fnX name qual params body scope cl .none .none doc pm none (.ref c') ctv) args binds) (hloc : ∀ y ∈ binds, scope.names.lookup y.1 = some .local)
    (h : ∀ g L' h₁, Fr h₀ L g m → Fr g L' h₁ (fun y => binds.reverse.lookup y) → News g L' h₁ news → Below A base (env :: outer) g → K.In g → Top p loose mean mg mb g → GSub s.heap g (news.map (·.1)) →
      wpAny (model prog w) (A.deeper (envX qual scope L' f (.ref c') cl)) (execs body (envX qual scope L' f (.ref c') cl))
        (fun fl s' => LeaveK h₀ L m g R (match fl with | .ret v => v | _ => .none) s')
        (fun e s' => wpAny (model prog w) (A.deeper (envX qual scope L' f (.ref c') cl)) (leaving (envX qual scope L' f (.ref c') cl) e) (fun _ s'' => R (.error e) s'') (fun e' s'' => R (.error e') s'') s')
        { s with heap := h₁, toks := s.toks + binds.length })
    (hco : scope.isCoroutine = false) (hgen : scope.isGenerator = false) (hk : scope.kind = .function)
    (hcell : ∀ x ∈ scope.names, x.2 ≠ .cell) : codeAny (model prog w) A (.call (.ref f) args) R s := by
  obtain ⟨FG, BG, st, lv⟩ := groundX (R := R) B F N hA hf hke
  refine codeAny_call_def (fd := fnX name qual params body scope cl .none .none doc pm none (.ref c') ctv) (body := body) (binds := binds) hroom (N _ ho).1 rfl (T.nolimit.keeps F.keep) hcd rfl hbind hcell hloc (fun h₁ hns hk₁ => ?_) hco hgen hk
  exact wpAny_mono (h _ s.heap.objs.size h₁ FG ⟨hns, fun b o e => hk₁ b o (of_hideAll _ e), Nat.le_of_eq (hideAll_size _ _)⟩
    (fun p hp => ⟨hk₁ _ _ (N p hp).1, Nat.ne_of_lt (Heap.lt_size (N p hp).1), hideAll_none _ (List.mem_map_of_mem hp)⟩) BG (X₀.keeps st) (T.keeps st) (fun b o e n => hideAll_get _ e n)) (fun fl s' hl => lv _ _ hl) fun _ _ y => y
end
theorem mem_of_eq {f : Addr} {of o : Obj} {l : List (Addr × Obj)} (h : of = o) : (f, o) ∈ (f, of) :: l := h ▸ .head _
theorem with_look {K : Frag} {a : Addr} {x : Obj} {P : Prop} (h : K.lookup a = some x) (k : K.lookup a = some x → P) : P := k h
/-- the def that SpliceContinuations makes, as the ledger bears it -/
structure RecFn (w : World) (f c cell : Addr) (F0 : List (Addr × Obj)) (sc2 : Scope) (b2 : List Stmt) (p2 : Arguments) (n2 q2 : Str) : Prop where
  text : ∃ (nm ql : Str) (ps : Arguments) (bd : Str) (pos : Pos) (rest : List Stmt) (sc : Scope) (dV kV doc pm : Value) (an : Option Addr) (cdv ct oc : Value) (od : Option Addr) (osl : Array (Option Value)),
    (hd.heap_39 w.params).lookup 314 = some ⟨oc, od, .func (fnOf nm ql ps (.FunctionDef n2 p2 b2 [] none [] sc2 none bd pos :: rest) sc dV kV doc pm an cdv ct), osl⟩
  led : ∃ (doc pm ctv : Value) (of occ oce : Obj) (vs : Array Value) (tq : Tok), F0 = [(f, of), (c, occ), (cell, oce)] ∧ of = fnMade n2 q2 p2 b2 sc2 [(Str.ofString "RecSplicer", cell)] doc pm c ctv ∧ occ.data = .fields vs ∧ vs[1]? = some (.str q2 tq) ∧ oce.data = .cell (some (.ref f))
def retOf : List Tr → Value
  | [] => .none
  | t :: _ => .ref t.addr
def RecPost (F0 : List (Addr × Obj)) (t : Tr) (r : Value) (news' : List (Addr × Obj)) : Prop :=
  ∃ t' pre, Spl t t' ∧ NewFor t pre ∧ news' = F0 ++ (t'.objs ++ objsL pre) ∧ Apart news' ∧ r = retOf pre
theorem rec_leaf_end {h₀ H h' : Heap} {L x dx f c cell : Addr} {of oc oe : Obj} {l : Lf} {m : Str → Option Value} {s : Shared} {adr : List Addr} {Q : Value → Shared → Prop} {tk' n : Nat} {line : Int} {tt tp tv tl tc : Tok} {es : List DictEntry} {led : List (Addr × Obj)}
    (hret : ∀ (r : Value) (news' : List (Addr × Obj)) (h' : Heap) (tk' : Nat), Fr h₀ L h' m → News h₀ L h' news' → (∀ b o, b ∉ adr → H.get? b = some o → h'.get? b = some o) → (∀ q ∈ news', q.1 ∈ adr ∨ H.get? q.1 = none) → RecPost [(f, of), (c, oc), (cell, oe)] (.leaf l) r news' → Q r { s with heap := h', toks := tk' })
    (F : Fr h₀ L h' m) (N : News h₀ L h' led) (K : ∀ b o, b ∉ adr → H.get? b = some o → h'.get? b = some o) (S : ∀ q ∈ led, q.1 ∈ adr ∨ H.get? q.1 = none) (hg : goesOn l.pre = true) (hap : Apart ([(f, of), (c, oc), (cell, oe)] ++ l.objs))
    (m1 : (x, instObj 305 dx) ∈ led) (m2 : (dx, dictOf es n) ∈ led) (m3 : (f, of) ∈ led) (m4 : (c, oc) ∈ led) (m5 : (cell, oe) ∈ led) (m6 : (l.a, instObj 305 l.da) ∈ led) (m7 : (l.da, dictOf l.es l.n) ∈ led)
    (p1 : getL (Str.ofString "type") es = some (some (.int 60 tt))) (p2 : getL (Str.ofString "value") es = some (some (.str l.pre tv))) (p3 : getL (Str.ofString "_prefix") es = some (some (.str (Str.ofString "") tp))) (p4 : getL (Str.ofString "lineno") es = some (some (.int line tl)))
    (hline : line = l.line - endsOf l.pre) (p5 : getL (Str.ofString "column") es = some (some (.int 0 tc))) (p6 : es.length ≤ 20) (pt : PyData.strOk l.pre = true)
    (e0 : @LT.lt Nat _ dx x) (e1 : @LT.lt Nat _ f dx) (e2 : @LT.lt Nat _ c dx) (e3 : @LT.lt Nat _ cell dx) (e4 : @LT.lt Nat _ l.a dx) (e5 : @LT.lt Nat _ l.da dx) : Q (.ref x) { s with heap := h', toks := tk' } := by
  have sub : ∀ q ∈ [(f, of), (c, oc), (cell, oe)] ++ ((Tr.leaf l).objs ++ objsL [.leaf ⟨x, dx, es, n, 60, tt, l.pre, tv, Str.ofString "", tp, line, tl, 0, tc⟩]), q ∈ led := fun q hq => by
    simp only [Tr.objs, Lf.objs, objsL, List.cons_append, List.nil_append, List.append_nil, List.mem_cons, List.not_mem_nil, or_false] at hq
    rcases hq with rfl | rfl | rfl | rfl | rfl | rfl | rfl
    · exact m3
    · exact m4
    · exact m5
    · exact m6
    · exact m7
    · exact m1
    · exact m2
  refine hret _ _ h' tk' F (fun q hq => N q (sub q hq)) K (fun q hq => S q (sub q hq)) ⟨.leaf l, [.leaf ⟨x, dx, es, n, 60, tt, l.pre, tv, Str.ofString "", tp, line, tl, 0, tc⟩], rfl, .inl ⟨hg, _, ⟨⟨p1, p2, p3, p4, p5, p6, pt⟩, rfl, rfl, rfl, hline, rfl⟩, rfl⟩, rfl, ?_, rfl⟩
  rw [← List.append_assoc]
  have e6 := Nat.lt_trans e1 e0
  have e7 := Nat.lt_trans e2 e0
  have e8 := Nat.lt_trans e3 e0
  have e9 := Nat.lt_trans e4 e0
  have e10 := Nat.lt_trans e5 e0
  refine Apart.of hap (Apart.cons (Apart.cons Apart.nil fun q hq => nomatch hq) fun q hq => ?_) fun p hp q hq => ?_
  · rw [List.mem_singleton.mp hq]; exact Nat.ne_of_lt e0
  · simp only [Tr.objs, Lf.objs, objsL, List.cons_append, List.nil_append, List.append_nil, List.mem_cons, List.not_mem_nil, or_false] at hp hq
    rcases hq with rfl | rfl <;> rcases hp with rfl | rfl | rfl | rfl | rfl <;> exact Nat.ne_of_lt (by assumption)
section
local macro_rules | `(tactic| k_room) => `(tactic| ((try simp only [depth_under_make, depth_under_kw, depth_in1, depth_deeper, depth_caller, recursionLimit] at *); (try dsimp only [ktrTop] at *); omega))
local macro_rules | `(tactic| k_units) => `(tactic| (have hcL9 := cLine_is; (try simp only [units_in1, units_deeper, Around.mark_units, units_caller] at *); (try dsimp only [ktrTop] at *); omega))
local macro_rules | `(tactic| walk_at "LeaveK") => `(tactic| (k_dflt (refine' leaveT ?k1 ?k2 ?k3 ?_; (case k1 => k_asm); (case k2 => k_asm); (case k3 => k_asm); k_whole); intro kF kN kK kS; (try dsimp only)))
local macro_rules | `(tactic| ktr_enter) => `(tactic| (refine' code_nestG ?k1 ?k2 ?k3 ?k4 ?k5 ?kA ?kF ?kK ?k6 ?k7 ?k8 ?k9 ?kB ?_ ?c2 ?c3 ?c4 ?c5; (case kA => exact rfl); (case kF => exact rfl); (case kK => assumption); (case k1 => k_asm); (case k2 => k_asm); (case k3 => k_asm); (case k4 => k_asm); (case k5 => k_asm); (case k6 => k_mem); (case k7 => exact codeRec_news (by k_asm) (by k_mem) (by assumption) (by assumption)); (case k8 => k_room); (case k9 => exact BindsTo.of_eq rfl); (case c5 => decide); (case kB => exact locs rfl); (case c2 => exact rfl); (case c3 => exact rfl); (case c4 => exact rfl); k_whole))
local macro_rules | `(tactic| k_get) => `(tactic| assumption)
local macro_rules | `(tactic| k_all) => `(tactic| assumption)
local macro_rules | `(tactic| k_mem) => `(tactic| first | ktr_member | exact List.mem_cons_self .. | (refine' List.mem_cons_of_mem _ ?_; k_mem))
local macro_rules | `(tactic| walk_at "subscriptTail Name Slice ref ref") => `(tactic| (k_here; k_dflt (refine' kmk_slice_lit (zs := []) ?F ?N ?l ?p ?q ?e ?_ ?s ?t ?z; (case F => k_asm); (case N => k_asm); (case l => exact lstK (l := []) (Frag.In.keeps (by k_asm) (Fr.keep (by k_asm))) (by k_is)); (case p => kmk_part); (case q => kmk_part); (case e => rfl); (case s => with_unfolding_all rfl); (case t => kmk_pure); (case z => exact Nat.zero_le _)); intro D' h' F' N' l1; (try k_lt l1); (try k_sweep)))
local macro_rules | `(tactic| walk_at "call builtin:str.lstrip") => `(tactic| ((show wpAny _ _ (call (Value.builtin "str.lstrip") [Value.str _ _]) _ _ _); refine SC.lstrip ?_ (by assumption); intro tj kj))
set_option maxHeartbeats 4000000 in
theorem recLeaf_t (w : World) (f c cell : Addr) (F0 : List (Addr × Obj)) (sc2 : Scope) (b2 : List Stmt) (p2 : Arguments) (n2 q2 : Str) (hR : RecFn w f c cell F0 sc2 b2 p2 n2 q2) (l : Lf) (ok : l.Ok) (hpre : PreOk l.pre) (hap : Apart (F0 ++ l.objs)) :
   Tell w f [.ref l.a] 30 (F0 ++ l.objs) (RecPost F0 (.leaf l)) := by
  obtain ⟨g1, g2, g3, g4, g5, _, hsv⟩ := ok
  have hsp := preOk_str hpre
  obtain ⟨⟨nm, ql, ps, bd, pos, rest, sc, dV, kV, doc, pm, an, cdv, ct, oc, od, osl, ht⟩, ⟨doc2, pm2, ctv, of, occ, oce, vs, tq, rfl, rfl, d1, d2, d3⟩⟩ := hR
  unfold Tell
  k_fill
  refine' with_look (K := hd.heap_39 w.params) (a := 314) ?h ?_
  case h => k_is
  intro hx
  rw [hx] at ht
  cases ht
  clear hx
  intro p loose mean mg mb dp un gd cn cs a ccd cl outer A₀ base h₀ L m s Q E B F X N T hk hd hu hret
  simp only [Lf.objs, List.cons_append, List.nil_append] at N
  refine wpAny_call ?_
  k_dflt ktr_enter
  intro g' L' h' FG' F' N' B' X' T' kG'; (try dsimp only); (try k_lift B'); (try k_fold)
  have hst := goes_starts hpre
  have hln : l.pre.length ≤ sizeLine := by exact Nat.le_trans hpre.1 (by rw [sizeLine_eq]; decide)
  k_steps
  · rename_i kF kN kK kS
    refine' rec_leaf_end hret kF kN kK kS ?hg hap ?m1 ?m2 ?m3 ?m4 ?m5 ?m6 ?m7 ?p1 ?p2 ?p3 ?p4 ?hl ?p5 ?p6 hsp ?e0 ?e1 ?e2 ?e3 ?e4 ?e5
    case hg => exact hst.symm.trans (by assumption)
    case m1 => k_mem
    case m2 => k_mem
    case m3 => k_mem
    case m4 => k_mem
    case m5 => k_mem
    case m6 => k_mem
    case m7 => k_mem
    case p1 => k_get
    case p2 => k_get
    case p3 => k_get
    case p4 => k_get
    case p5 => k_get
    case hl => rw [ends_count]
    case p6 => exact Nat.le_of_ble_eq_true rfl
    all_goals omega
  · rename_i kF kN kK kS
    refine hret _ ([_, _, _] ++ (l.objs ++ objsL [])) _ _ kF (fun q hq => kN q ?_) kK (fun q hq => kS q ?_) ⟨.leaf l, [], rfl, .inr ⟨hst.symm.trans (by assumption), rfl⟩, rfl, ?_, rfl⟩
    · simpa [Lf.objs, objsL] using hq
    · simpa [Lf.objs, objsL] using hq
    · rw [show objsL [] = [] from rfl, List.append_nil]
      exact hap
end
end Mine
namespace Mine
open PySem PySem.W PyProof.Rows PySem.Calls PySem.Spec
theorem Apart.perm {a b : List (Addr × Obj)} (h : Apart a) (p : (a.map (·.1)).Perm (b.map (·.1))) : Apart b := p.nodup_iff.mp h
def NodeLed (F0 : List (Addr × Obj)) (d : Nd) (D9 : Addr) (n : Nat) (ks done rest : List Tr) : List (Addr × Obj) :=
  F0 ++ (d.a, instObj 225 d.da) :: (d.da, dictOf d.es d.n) :: (d.ca, listOf (refs done ++ refs rest).toArray n) :: (D9, listOf (refs ks).toArray 0) :: (objsL done ++ objsL rest)
section
variable {A B C D : Str} {v i cn cc ci n z r : Option Value} {m₀ : Str → Option Value}
theorem vars_start (hA : A ≠ D) (hB : B ≠ D) (hC : C ≠ D) (hAB : A ≠ B) (hAC : A ≠ C) (hBC : B ≠ C) : (fun y => if y = D then v else m₀ y) = fun y => if y = A then m₀ A else if y = B then m₀ B else if y = C then m₀ C else if y = D then v else m₀ y := by
  funext y
  by_cases a : y = A
  · subst a; simp [hA]
  · by_cases b : y = B
    · subst b; simp [a, hB]
    · by_cases c : y = C
      · subst c; simp [a, b, hC]
      · simp [a, b, c]
theorem vars_turn (hAB : A ≠ B) (hAC : A ≠ C) (hBC : B ≠ C) : (fun y => if y = B then v else if y = C then i else if y = A then cn else if y = B then cc else if y = C then ci else if y = D then n else m₀ y) = fun y => if y = A then cn else if y = B then v else if y = C then i else if y = D then n else m₀ y := by
  funext y
  by_cases a : y = A
  · subst a; simp [hAB, hAC]
  · by_cases b : y = B
    · subst b; simp [a]
    · by_cases c : y = C
      · subst c; simp [a, b]
      · simp [a, b, c]
theorem vars_end : (fun y => if y = A then r else if y = A then cn else if y = B then v else if y = C then i else if y = D then n else m₀ y) = fun y => if y = A then r else if y = B then v else if y = C then i else if y = D then n else m₀ y := by
  funext y
  by_cases a : y = A
  · simp [a]
  · simp [a]
theorem vars_end2 (hA : A ≠ D) (hB : B ≠ D) (hC : C ≠ D) : (fun y => if y = D then z else if y = A then r else if y = A then cn else if y = B then v else if y = C then i else if y = D then n else m₀ y) = fun y => if y = A then r else if y = B then v else if y = C then i else if y = D then z else m₀ y := by
  funext y
  by_cases a : y = D
  · subst a; simp [hA.symm, hB.symm, hC.symm]
  · by_cases b : y = A
    · subst b; simp [a]
    · simp [a, b]
end
theorem perm_count {a b : List Addr} (h : ∀ x, a.count x = b.count x) : a.Perm b := List.perm_iff_count.mpr h
theorem splL_snoc : ∀ {a b : List Tr} {t t' : Tr} {pre : List Tr}, SplL a b → NewFor t pre → Spl t t' → SplL (a ++ [t]) (b ++ (pre ++ [t']))
  | [], _, t, t', pre, h, hn, hs => by
    rw [show _ = [] from h]
    exact ⟨pre, t', [], rfl, hn, hs, rfl⟩
  | u :: a, _, t, t', pre, h, hn, hs => by
    obtain ⟨p, u', r, rfl, h1, h2, h3⟩ := h
    exact ⟨p, u', r ++ (pre ++ [t']), by simp, h1, h2, splL_snoc h3 hn hs⟩
theorem newFor_cases {t : Tr} {pre : List Tr} (h : NewFor t pre) : pre = [] ∨ ∃ nl, pre = [.leaf nl] := by
  cases t with
  | leaf l =>
    rcases h with ⟨_, nl, _, rfl⟩ | ⟨_, rfl⟩
    · exact .inr ⟨nl, rfl⟩
    · exact .inl rfl
  | node d ks => exact .inl h
theorem fnAt_of {h₀ h : Heap} {L q : Addr} {o : Obj} {c : Value} {od : Option Addr} {fd : FuncData} {sl : Array (Option Value)} {news : List (Addr × Obj)} (N : News h₀ L h news) (hm : (q, o) ∈ news) (e : o = ⟨c, od, .func fd, sl⟩) : FnAt q h := ⟨c, od, fd, sl, e ▸ (N _ hm).1⟩
section
variable {prog : Program} {w : World} {A : Around} {E : Value → Shared → Prop} {s : Shared} {h₀ : Heap} {L D l : Addr} {m : Str → Option Value} {news news' : List (Addr × Obj)} {n : Nat} {vs p q : List Value} {y : Value} {x : Int} {u : Tok}
theorem insert_l {Q : Value → Shared → Prop} (F : Fr h₀ L s.heap m) (N : News h₀ L s.heap news) (hx : x = (p.length : Int)) (hz : (p ++ q).length ≤ 1000) (U : Upd D (listOf (p ++ q).toArray n) (listOf (p ++ y :: q).toArray (n + 1)) news news')
    (h : ∀ h', Fr h₀ L h' m → News h₀ L h' news' → Q .none { s with heap := h' }) : wpAny (model prog w) A (call (.builtin "list.insert") [.ref D, .int x u, y]) Q E s := by
  have hp : p.length ≤ 1000 := by simp only [List.length_append] at hz; omega
  refine kl_insert (l := p ++ y :: q) F N ?_ ?_ U (by rw [sizeLine_eq, List.toList_toArray]; omega) h
  · unfold Builtin.List.listFitsIndex
    simp; omega
  · rw [List.toList_toArray]
    unfold kl_ins
    have e : (if x < 0 then (x + ((p ++ q).length : Int)).toNat else min x.toNat (p ++ q).length) = p.length := by
      rw [if_neg (by omega), List.length_append]; omega
    rw [e]
    simp
theorem For_enum_at {env : Env} {xi xc : Str} {body : List Stmt} {pk pv pt pos : Pos} {x1 : Nat} {iter : Expr} {Q : Flow → Shared → Prop} (_F : Fr h₀ env.locals s.heap m) (hh : A.handled = none) (hxi : env.kindOf xi = some .local) (hxc : env.kindOf xc = some .local)
    (hp : (env.scope.kind == .class || (env.scope.kind == .module && env.locals != env.globals)) = false)
    (h : wpAny (model prog w) A (eval iter env) (fun xv s₁ => EnumAt prog w A h₀ env xi xc body Q E xv s₁) E s)
    (hs : ∀ x, foldedSetIterable iter env x = pure x)
    (hE : PassesOwn (model prog w) A env E := by passes_own) :
    wpAny (model prog w) A (exec (.For (.Tuple [.Name xi pk, .Name xc pv] x1 pt) iter body [] pos) env) Q E s := For_enum h₀ hh hxi hxc hp h hs hE
theorem slice_all {value slice : PySem.Expr} {Q : Value → Shared → Prop} (F : Fr h₀ L s.heap m) (N : News h₀ L s.heap news) (hm : (l, listOf vs.toArray n) ∈ news)
    (h : ∀ D h', Fr h₀ L h' m → News h₀ L h' ((D, listOf vs.toArray 0) :: news) → (∀ p ∈ news, p.1 < D) → Q (.ref D) { s with heap := h' })
    (hs : subscripted slice false (.ref l) (.ref s.heap.objs.size) = operate [.ref s.heap.objs.size, .ref l] (getItem (.ref l) (.ref s.heap.objs.size))) (ht : ∀ r, letTemporaryGo value (.ref l) r = pure ()) (hz : vs.length ≤ 1000) :
    wpAny (model prog w) A (subscriptTail value slice (.ref l) (.ref s.heap.objs.size)) Q E { s with heap := s.heap.push { cls := .type "slice", data := .fields #[.none, .none, .none] } } :=
  kmk_slice_lit (lo := none) (hi := none) F N (N.isList hm) .none .none (by rw [slicePick_all]) h hs ht (by rw [sizeLine_eq, List.size_toArray]; omega)
end
section
local macro_rules | `(tactic| k_room) => `(tactic| ((try simp only [depth_under_make, depth_under_kw, depth_in1, depth_deeper, depth_caller, recursionLimit] at *); (try dsimp only [ktrTop] at *); omega))
local macro_rules | `(tactic| k_units) => `(tactic| (have hcL9 := cLine_is; (try simp only [units_in1, units_deeper, Around.mark_units, units_caller] at *); (try dsimp only [ktrTop] at *); omega))
local macro_rules | `(tactic| walk_at "LeaveK") => `(tactic| (k_dflt (refine' leaveT ?k1 ?k2 ?k3 ?_; (case k1 => k_asm); (case k2 => k_asm); (case k3 => k_asm); k_whole); intro kF kN kK kS; (try dsimp only)))
local macro_rules | `(tactic| ktr_enter) => `(tactic| (refine' code_nestG ?k1 ?k2 ?k3 ?k4 ?k5 ?kA ?kF ?kK ?k6 ?k7 ?k8 ?k9 ?kB ?_ ?c2 ?c3 ?c4 ?c5; (case kA => exact rfl); (case kF => exact rfl); (case kK => assumption); (case k1 => k_asm); (case k2 => k_asm); (case k3 => k_asm); (case k4 => k_asm); (case k5 => k_asm); (case k6 => exact mem_of_eq (by assumption)); (case k7 => exact codeRec_news (by k_asm) (by k_mem) (by assumption) (by assumption)); (case k8 => k_room); (case k9 => exact BindsTo.of_eq rfl); (case c5 => decide); (case kB => exact locs rfl); (case c2 => exact rfl); (case c3 => exact rfl); (case c4 => exact rfl); k_whole))
local macro_rules | `(tactic| k_get) => `(tactic| assumption)
local macro_rules | `(tactic| k_all) => `(tactic| assumption)
local macro_rules | `(tactic| k_mem) => `(tactic| first | ktr_member | exact List.mem_cons_self .. | (refine' List.mem_cons_of_mem _ ?_; k_mem))
local macro_rules | `(tactic| walk_at "subscriptTail") => `(tactic| (k_here; (k_dflt (refine' slice_all ?F ?N ?m ?_ ?s ?t ?z; (case F => k_asm); (case N => k_asm); (case m => k_mem); (case s => with_unfolding_all rfl); (case t => kmk_pure); (case z => assumption))); intro D' h' F' N' l1; (try k_lt l1); (try k_sweep)))
local macro_rules | `(tactic| walk_at "exec For Tuple Call cons nil") => `(tactic| (k_here; (rename Fr _ _ _ _ => lF'); (with_unfolding_all refine' For_enum_at lF' ?hh ?k1 ?k2 ?k3 ?_ ?hs; (case hh => exact rfl); (case k1 => exact rfl); (case k2 => exact rfl); (case k3 => exact rfl); (case hs => (intro _; rfl)); k_whole)))
local macro_rules | `(tactic| walk_at "call type:enumerate") => `(tactic| (k_here; refine hold ?_))
local macro_rules | `(tactic| walk_at "eval Name") => `(tactic| (k_here; k_dflt (refine' nameX_F ?N ?c ?m ?d ?_ ?a ?b; (case a => rfl); (case b => rfl); (case N => k_asm); (case c => rfl); (case m => k_mem); (case d => k_asm); k_whole)))
local macro_rules | `(tactic| walk_at "callWith ref") => `(tactic| (k_here; k_dflt (refine' callWith_F ?k1 ?_; (case k1 => exact fnAt_of (by k_asm) (by k_mem) (by assumption)); k_whole)))
local macro_rules | `(tactic| walk_at "FnAt") => `(tactic| (k_dflt (exact fnAt_of (by k_asm) (by k_mem) (by assumption))))
local macro_rules | `(tactic| walk_at "call ref") => `(tactic| (k_here; refine hold ?_))
local macro_rules | `(tactic| walk_at "loadName") => `(tactic| (k_here; k_dflt (refine' wpAny_loadName_local ?hk ?hl ?hn ?hv ?_; (case hk => rfl); (case hl => rfl); (case hn => exact Fr.ns (by k_asm)); (case hv => rfl); k_whole)))
local macro_rules | `(tactic| walk_at "call builtin:list.insert") => `(tactic| (k_here; k_dflt (refine' insert_l ?F ?N ?x ?z ?U ?_; (case F => k_asm); (case N => k_asm); (case U => k_upd); (case x => (rw [refs_length]; omega)); (case z => assumption)); (intro h' F' N'; (try dsimp only [List.nil_append] at N'))))
set_option maxHeartbeats 8000000 in
theorem recNode_t (w : World) (f c cell : Addr) (F0 : List (Addr × Obj)) (sc2 : Scope) (b2 : List Stmt) (p2 : Arguments) (n2 q2 : Str) (hR : RecFn w f c cell F0 sc2 b2 p2 n2 q2) (d : Nd) (ks : List Tr) (room : Nat) (ok : d.Ok) (hks : ks.length ≤ 4) (hap : Apart (F0 ++ (Tr.node d ks).objs))
   (IH : ∀ t ∈ ks, Apart (F0 ++ t.objs) → Tell w f [.ref t.addr] (30 + room) (F0 ++ t.objs) (RecPost F0 t)) :
   Tell w f [.ref d.a] (35 + room) (F0 ++ (Tr.node d ks).objs) (RecPost F0 (.node d ks)) := by
  obtain ⟨g1, _⟩ := ok
  have hz9 : (refs ks).length ≤ 1000 := by rw [refs_length]; omega
  obtain ⟨⟨nm, ql, ps, bd, pos, rest, sc, dV, kV, doc, pm, an, cdv, ct, oc, od, osl, ht⟩, ⟨doc2, pm2, ctv, of, occ, oce, vs, tq, rfl, hof, d1, d2, d3⟩⟩ := hR
  unfold Tell
  k_fill
  refine' with_look (K := hd.heap_39 w.params) (a := 314) ?h ?_
  case h => k_is
  intro hx
  rw [hx] at ht
  cases ht
  clear hx
  intro p loose mean mg mb dp un gd cn cs a ccd cl outer A₀ base h₀ L m s Q E B F X N T hk hd hu hret
  simp only [Tr.objs, List.cons_append, List.nil_append] at N
  refine wpAny_call ?_
  k_dflt ktr_enter
  intro g' L' h' FG' F' N' B' X' T' kG'; (try dsimp only); (try k_lift B'); (try k_fold)
  k_steps
  unfold Hold
  rename_i h91 D9 h92 F9 N9 l9
  refine enum_l F9 N9 (.head _) fun e it h3 he hit hei hel hil heL hiL hne hni hno F3 N3 => ?_
  refine with_map2 F3 fun m₀ hm₀ F₀ => ?_
  rw [vars_start (A := Str.ofString "continuation_node") (B := Str.ofString "child") (C := Str.ofString "index") (by decide) (by decide) (by decide) (by decide) (by decide) (by decide)] at F₀
  have hap0 : Apart (NodeLed [(f, of), (c, occ), (cell, oce)] d D9 d.cn ks [] ks) := by
    have hh : Apart ((D9, listOf (refs ks).toArray 0) :: ([(f, of), (c, occ), (cell, oce)] ++ (Tr.node d ks).objs)) := Apart.cons hap fun q hq => by
      obtain ⟨a1, a2, a3, a4, a5, a6, a7⟩ := l9
      simp only [Tr.objs, List.cons_append, List.nil_append, List.mem_cons] at hq
      rcases hq with rfl | rfl | rfl | rfl | rfl | rfl | hq
      · exact Nat.ne_of_lt a1
      · exact Nat.ne_of_lt a2
      · exact Nat.ne_of_lt a3
      · exact Nat.ne_of_lt a4
      · exact Nat.ne_of_lt a5
      · exact Nat.ne_of_lt a6
      · exact Nat.ne_of_lt (allLt_mem a7 q hq)
    exact hh.perm (perm_count fun x => by
        simp only [NodeLed, Tr.objs, objsL, List.map_append, List.map_cons, List.map_nil, List.count_append, List.count_cons, List.count_nil]
        omega)
  have hsub0 : ∀ q ∈ NodeLed [(f, of), (c, occ), (cell, oce)] d D9 d.cn ks [] ks, q ∈ ((D9, listOf (refs ks).toArray 0) :: (f, of) :: (c, occ) :: (cell, oce) :: (d.a, instObj 225 d.da) :: (d.da, dictOf d.es d.n) :: (d.ca, listOf (refs ks).toArray d.cn) :: objsL ks) := fun q hq => by
    simp only [NodeLed, show refs [] = [] from rfl, show objsL [] = [] from rfl, List.nil_append, List.cons_append, List.mem_cons] at hq ⊢
    rcases hq with e | e | e | e | e | e | e | e <;> simp [e]
  refine ⟨e, it, D9, refs ks, 0, _, NodeLed [(f, of), (c, occ), (cell, oce)] d D9 d.cn ks [] ks, (fun i m nx => ∃ (done : List Tr) (n : Nat) (ci cc cn : Option Value) (t : Tok), m = (fun y => if y = Str.ofString "continuation_node" then cn else if y = Str.ofString "child" then cc else if y = Str.ofString "index" then ci else if y = Str.ofString "num_inserted" then some (.int ((done.length : Int) - i) t) else m₀ y) ∧
      nx = NodeLed [(f, of), (c, occ), (cell, oce)] d D9 n ks done (ks.drop i) ∧ SplL (ks.take i) done ∧ Apart nx), rfl, he, hit, hei, hel, hil, heL, hiL, hne, hni, ?_, F₀, ?_, ⟨[], d.cn, _, _, _, _, rfl, rfl, rfl, hap0⟩, ?_, ?_, ?_, ?_⟩
  · exact fun q hq => hno q (hsub0 q hq)
  · exact fun q hq => N3 q (hsub0 q hq)
  · rintro i m nx ⟨done, n, ci, cc, cn, t, _, rfl, _⟩
    simp [NodeLed]
  · rintro i m nx ⟨done, n, ci, cc, cn, t, _, rfl, _⟩ q hq
    simp only [NodeLed, List.cons_append, List.nil_append, List.mem_cons, List.mem_append] at hq
    rcases hq with rfl | rfl | rfl | rfl | rfl | rfl | rfl | hq | hq
    · rw [hof]; exact .inl ⟨fun e => by simp at e, fun e => by simp at e⟩
    · exact .inr (.inr ⟨_, _, _, d1, d2⟩)
    · exact .inr (.inl ⟨_, d3⟩)
    · exact .inl ⟨(fun e => nomatch e), (fun e => nomatch e)⟩
    · exact .inl ⟨fun e => by simp at e, fun e => by simp at e⟩
    · exact .inl ⟨fun e => by simp at e, fun e => by simp at e⟩
    · exact .inl ⟨fun e => by simp at e, fun e => by simp at e⟩
    · exact .inl (objsL_kind _ q hq)
    · exact .inl (objsL_kind _ q hq)
  · rintro i v t m₁ nx h tk own hv hoff ⟨done, n, ci, cc, cn, t0, rfl, rfl, hsp, hapn⟩ F₁ N₁
    obtain ⟨tr, htr, rfl⟩ := refs_get hv
    rw [vars_turn (A := Str.ofString "continuation_node") (B := Str.ofString "child") (C := Str.ofString "index") (by decide) (by decide) (by decide)] at F₁
    rw [drop_cons htr] at hapn hoff N₁
    have N₂ := N₁
    simp only [NodeLed, List.cons_append, List.nil_append] at N₂
    clear N₁ F₀ F3 N3 F9 N9
    subst hm₀
    have htm : tr ∈ ks := List.mem_of_getElem? htr
    have hapP : Apart (([(f, of), (c, occ), (cell, oce)] ++ tr.objs) ++ ((d.a, instObj 225 d.da) :: (d.da, dictOf d.es d.n) :: (d.ca, listOf (refs done ++ refs (tr :: ks.drop (i + 1))).toArray n) :: (D9, listOf (refs ks).toArray 0) :: (objsL done ++ objsL (ks.drop (i + 1))))) :=
      hapn.perm (perm_count fun x => by
        simp only [NodeLed, objsL, List.map_append, List.map_cons, List.map_nil, List.count_append, List.count_cons, List.count_nil]
        omega)
    have hne9 := hapP.ne
    have hapR := hapP.right
    k_steps
    unfold Hold
    refine tell_use ((d.a, instObj 225 d.da) :: (d.da, dictOf d.es d.n) :: (d.ca, listOf (refs done ++ refs (tr :: ks.drop (i + 1))).toArray n) :: (D9, listOf (refs ks).toArray 0) :: (objsL done ++ objsL (ks.drop (i + 1)) ++ own)) (IH tr htm hapP.left) (by assumption) (by assumption) (by assumption) (by assumption) (by assumption) rfl
      (fun q hq => ?_) (fun q hq => ?_) (fun q hq hm => ?_) (by k_room) (by k_units) ?_
    · simp only [objsL, List.mem_append, List.mem_cons, List.not_mem_nil, or_false] at hq ⊢
      rcases hq with (e | e | e) | e <;> simp [e]
    · simp only [objsL, List.mem_append, List.mem_cons, List.not_mem_nil, or_false] at hq ⊢
      rcases hq with e | e | e | e | (e | e) | e <;> simp [e]
    · obtain ⟨p, hp, e⟩ := List.mem_map.mp hm
      simp only [← List.cons_append] at hq
      rcases List.mem_append.mp hq with hq | hq
      · exact hne9 p hp q hq e
      · refine hoff q hq p ?_ e.symm
        simp only [NodeLed, objsL, List.mem_append, List.mem_cons, List.not_mem_nil, or_false] at hp ⊢
        rcases hp with (e | e | e) | e <;> simp [e]
    rintro r news' h2 tk2 F2 N2 kp2 fr2 dj2 ⟨t', pre, hst, hnf, rfl, hap2, rfl⟩
    have haddr : t'.addr = tr.addr := hst.addr
    have hsp9 : SplL (ks.take (i + 1)) (done ++ (pre ++ [t'])) := by rw [take_snoc htr]; exact splL_snoc hsp hnf hst
    have hapN : ∀ n', Apart (NodeLed [(f, of), (c, occ), (cell, oce)] d D9 n' ks (done ++ (pre ++ [t'])) (ks.drop (i + 1))) := fun n' =>
      (Apart.of hap2 hapR fun q hq r hr => dj2 q hq r (by rw [← List.append_assoc] at *; simp only [← List.cons_append]; exact List.mem_append_left _ hr)).perm (perm_count fun x => by
        simp only [NodeLed, objsL, objsL_append, List.map_append, List.map_cons, List.map_nil, List.count_append, List.count_cons, List.count_nil]
        omega)
    have hdl : done.length ≤ 8 := by
      have := splL_length hsp
      rw [List.length_take] at this
      omega
    have hz8 : (refs done ++ refs (tr :: ks.drop (i + 1))).length ≤ 1000 := by
      rw [List.length_append, refs_length, refs_length, List.length_cons, List.length_drop]
      omega
    clear N₂ F₁
    rcases newFor_cases hnf with rfl | ⟨nl, rfl⟩
    · dsimp only [retOf]
      have hl9 : refs (done ++ ([] ++ [t'])) ++ refs (ks.drop (i + 1)) = refs done ++ refs (tr :: ks.drop (i + 1)) := by simp [refs, haddr]
      have N4 : News g' L' h2 (NodeLed [(f, of), (c, occ), (cell, oce)] d D9 n ks (done ++ ([] ++ [t'])) (ks.drop (i + 1)) ++ own) := fun q hq => N2 q (by
        rw [NodeLed, hl9] at hq
        simp only [objsL, objsL_append, List.mem_append, List.mem_cons, List.not_mem_nil, or_false, false_or] at hq ⊢
        rcases hq with ((e | e | e) | e | e | e | e | (e | e) | e) | e <;> simp [e])
      have N5 := N4
      simp only [NodeLed, List.cons_append, List.nil_append] at N5
      clear N2
      have hz7 : (((done ++ ([] ++ [t'])).length : Nat) : Int) - ((i + 1 : Nat) : Int) = (done.length : Int) - (i : Int) := by simp only [List.nil_append, List.length_append, List.length_cons, List.length_nil]; omega
      k_steps
      refine' ForEnd.mk (NodeLed [(f, of), (c, occ), (cell, oce)] d D9 n ks (done ++ ([] ++ [t'])) (ks.drop (i + 1))) (by assumption) (by assumption) ?ka ?kb ⟨done ++ ([] ++ [t']), n, _, _, _, _, by rw [hz7]; exact vars_end, rfl, hsp9, hapN n⟩
      case ka => intro q hq; simp only [NodeLed, List.mem_append, List.mem_cons, List.not_mem_nil, or_false, List.nil_append] at hq ⊢; rcases hq with (e | e | e) | e | e | e | e | e | e <;> simp [e]
      case kb => intro q hq; simp [hq]
    · dsimp only [retOf, Tr.addr]
      obtain ⟨Z, hZ⟩ : ∃ Z, Z = objsL done ++ (t'.objs ++ (objsL (ks.drop (i + 1)) ++ own)) := ⟨_, rfl⟩
      have N5 : News g' L' h2 ((d.ca, listOf (refs done ++ refs (tr :: ks.drop (i + 1))).toArray n) :: (nl.a, instObj 305 nl.da) :: (nl.da, dictOf nl.es nl.n) :: (f, of) :: (c, occ) :: (cell, oce) :: (d.a, instObj 225 d.da) :: (d.da, dictOf d.es d.n) :: (D9, listOf (refs ks).toArray 0) :: Z) := fun q hq => N2 q (by
        rw [hZ] at hq
        simp only [objsL, Tr.objs, Lf.objs, List.mem_append, List.mem_cons, List.not_mem_nil, or_false, false_or] at hq ⊢
        rcases hq with e | e | e | e | e | e | e | e | e | e | e | e | e <;> simp [e])
      have hall : ∀ p ∈ ((nl.a, instObj 305 nl.da) :: (nl.da, dictOf nl.es nl.n) :: (f, of) :: (c, occ) :: (cell, oce) :: (d.a, instObj 225 d.da) :: (d.da, dictOf d.es d.n) :: (D9, listOf (refs ks).toArray 0) :: Z), p.1 ≠ d.ca := fun p hp => by
        have dj3 : ∀ q ∈ [(f, of), (c, occ), (cell, oce)] ++ (t'.objs ++ objsL [Tr.leaf nl]), q.1 ≠ d.ca := fun q hq => dj2 q hq (d.ca, listOf (refs done ++ refs (tr :: ks.drop (i + 1))).toArray n) (.tail _ (.tail _ (.head _)))
        have hR3 := hapR.tail.tail.head
        rw [hZ] at hp
        simp only [List.mem_cons, List.mem_append] at hp
        rcases hp with rfl | rfl | rfl | rfl | rfl | rfl | rfl | rfl | hp | hp | hp | hp
        · exact dj3 _ (by simp [objsL, Tr.objs, Lf.objs])
        · exact dj3 _ (by simp [objsL, Tr.objs, Lf.objs])
        · exact dj3 _ (by simp)
        · exact dj3 _ (by simp)
        · exact dj3 _ (by simp)
        · exact (hapR.head (d.ca, listOf (refs done ++ refs (tr :: ks.drop (i + 1))).toArray n) (by simp)).symm
        · exact (hapR.tail.head (d.ca, listOf (refs done ++ refs (tr :: ks.drop (i + 1))).toArray n) (by simp)).symm
        · exact hR3 _ (by simp)
        · exact hR3 p (by simp [hp])
        · exact dj3 p (by simp [hp])
        · exact hR3 p (by simp [hp])
        · exact hoff p hp (d.ca, listOf (refs done ++ refs (tr :: ks.drop (i + 1))).toArray n) (by simp [NodeLed])
      have x1 : @Ne Nat nl.a d.ca := hall (nl.a, instObj 305 nl.da) (by simp)
      have x2 : @Ne Nat nl.da d.ca := hall (nl.da, dictOf nl.es nl.n) (by simp)
      have x3 : @Ne Nat f d.ca := hall (f, of) (by simp)
      have x4 : @Ne Nat c d.ca := hall (c, occ) (by simp)
      have x5 : @Ne Nat cell d.ca := hall (cell, oce) (by simp)
      have x6 : @Ne Nat d.a d.ca := hall (d.a, instObj 225 d.da) (by simp)
      have x7 : @Ne Nat d.da d.ca := hall (d.da, dictOf d.es d.n) (by simp)
      have x8 : @Ne Nat D9 d.ca := hall (D9, listOf (refs ks).toArray 0) (by simp)
      have x9 : ∀ p ∈ Z, p.1 ≠ d.ca := fun p hp => hall p (by simp [hp])
      clear N2
      have hz7 : (((done ++ ([Tr.leaf nl] ++ [t'])).length : Nat) : Int) - ((i + 1 : Nat) : Int) = (done.length : Int) - (i : Int) + 1 := by simp only [List.cons_append, List.nil_append, List.length_append, List.length_cons, List.length_nil]; omega
      have hl9 : refs (done ++ ([Tr.leaf nl] ++ [t'])) ++ refs (ks.drop (i + 1)) = refs done ++ (.ref nl.a :: refs (tr :: ks.drop (i + 1))) := by simp [refs, haddr, show (Tr.leaf nl).addr = nl.a from rfl]
      k_steps
      refine' ForEnd.mk (NodeLed [(f, of), (c, occ), (cell, oce)] d D9 (n + 1) ks (done ++ ([Tr.leaf nl] ++ [t'])) (ks.drop (i + 1))) (by assumption) (by assumption) ?kc ?kd ⟨done ++ ([Tr.leaf nl] ++ [t']), n + 1, _, _, _, _, by rw [hz7]; exact vars_end2 (by decide) (by decide) (by decide), rfl, hsp9, hapN (n + 1)⟩
      case kc =>
        intro q hq
        rw [NodeLed, hl9] at hq
        rw [hZ]
        simp only [objsL, objsL_append, Tr.objs, Lf.objs, List.mem_append, List.mem_cons, List.not_mem_nil, or_false, false_or] at hq ⊢
        rcases hq with (e | e | e) | e | e | e | e | (e | (e | e) | e) | e <;> simp [e]
      case kd => intro q hq; rw [hZ]; simp [hq]
  · rintro m₁ nx h tk ⟨done, n, ci, cc, cn, t0, rfl, rfl, hsp, hapn⟩ F₁ N₁
    rw [refs_length, List.take_length] at hsp
    rw [refs_length, List.drop_length] at hapn N₁
    simp only [NodeLed, List.cons_append, List.nil_append, show refs [] = [] from rfl, show objsL [] = [] from rfl, List.append_nil] at N₁
    clear F₀ F3 N3 F9 N9
    subst hm₀
    k_steps
    rename_i kF kN kK kS
    have hsub9 : ∀ q ∈ [(f, of), (c, occ), (cell, oce)] ++ ((Tr.node { d with cn := n } done).objs ++ objsL []), q ∈ ((f, of) :: (c, occ) :: (cell, oce) :: (d.a, instObj 225 d.da) :: (d.da, dictOf d.es d.n) :: (d.ca, listOf (refs done).toArray n) :: (D9, listOf (refs ks).toArray 0) :: objsL done) := fun q hq => by
      simp only [Tr.objs, objsL, List.append_nil, List.nil_append, List.cons_append, List.mem_cons] at hq ⊢
      rcases hq with e | e | e | e | e | e | e <;> simp [e]
    have hap9 : Apart ((D9, listOf (refs ks).toArray 0) :: ([(f, of), (c, occ), (cell, oce)] ++ ((Tr.node { d with cn := n } done).objs ++ objsL []))) := hapn.perm (perm_count fun x => by
      simp only [NodeLed, Tr.objs, objsL, List.map_append, List.map_cons, List.map_nil, List.count_append, List.count_cons, List.count_nil]
      omega)
    exact hret _ _ _ _ kF (fun q hq => kN q (hsub9 q hq)) kK (fun q hq => kS q (hsub9 q hq)) ⟨.node { d with cn := n } done, [], ⟨n, done, rfl, hsp⟩, rfl, rfl, hap9.tail, rfl⟩
end
/-- RecSplicer -/
theorem rec_t (w : World) (f c cell : Addr) (F0 : List (Addr × Obj)) (sc2 : Scope) (b2 : List Stmt) (p2 : Arguments) (n2 q2 : Str) (hR : RecFn w f c cell F0 sc2 b2 p2 n2 q2) : ∀ (k : Nat) (t : Tr), t.Ok k → Apart (F0 ++ t.objs) → Tell w f [.ref t.addr] (30 + 5 * k) (F0 ++ t.objs) (RecPost F0 t)
  | k, .leaf l, ok, hap => by
    have := recLeaf_t w f c cell F0 sc2 b2 p2 n2 q2 hR l ok.1 ok.2 hap
    intro p loose mean mg mb dp un gd cn cs a ccd cl outer A₀ base h₀ L m s Q E B F X N T hk hd hu hret
    exact this p loose mean mg mb dp un gd cn cs a ccd cl outer A₀ base h₀ L m s Q E B F X N T hk (by omega) (by omega) hret
  | 0, .node _ _, ok, _ => ok.elim
  | k + 1, .node d ks, ok, hap => by
    have := recNode_t w f c cell F0 sc2 b2 p2 n2 q2 hR d ks (5 * k) ok.1 ok.2.1 hap fun t ht ha => rec_t w f c cell F0 sc2 b2 p2 n2 q2 hR k t (okL_mem ok.2.2 t ht) ha
    intro p loose mean mg mb dp un gd cn cs a ccd cl outer A₀ base h₀ L m s Q E B F X N T hk hd hu hret
    exact this p loose mean mg mb dp un gd cn cs a ccd cl outer A₀ base h₀ L m s Q E B F X N T hk (by omega) (by omega) hret
end Mine
namespace Mine
open PySem PySem.W PyProof.Rows PySem.Calls PySem.Spec
def SplPost (t : Tr) (r : Value) (news' : List (Addr × Obj)) : Prop :=
  ∃ (t' : Tr) (c : Addr) (occ : Obj) (vs : Array Value) (tq : Tok), r = .none ∧ Spl t t' ∧ news' = (309, tabObj #[rawInt 157, rawInt 4, .ref c]) :: (c, occ) :: t'.objs ∧ occ.data = .fields vs ∧ vs[1]? = some (.str (Str.ofString "SpliceContinuations.<locals>.RecSplicer") tq) ∧ Apart news'
theorem spl_apart {f c e : Addr} {o1 o2 o3 ot : Obj} {t' : Tr} {pre : List Tr} (h : Apart ([(f, o1), (c, o2), (e, o3)] ++ (t'.objs ++ objsL pre))) (hd : ∀ q ∈ [(f, o1), (c, o2), (e, o3)] ++ (t'.objs ++ objsL pre), q.1 ≠ 309) : Apart ((309, ot) :: (c, o2) :: t'.objs) := by
  refine Apart.cons (Apart.cons (show Apart (t'.objs ++ objsL pre) from Apart.tail (Apart.tail (Apart.tail h))).left fun q hq => h.tail.head q (by simp [hq])) fun q hq => ?_
  rcases List.mem_cons.mp hq with rfl | hq
  · exact hd _ (by simp)
  · exact hd q (by simp [hq])
section
local macro_rules | `(tactic| k_room) => `(tactic| ((try simp only [depth_under_make, depth_under_kw, depth_in1, depth_deeper, depth_caller, recursionLimit] at *); (try dsimp only [ktrTop] at *); omega))
local macro_rules | `(tactic| k_units) => `(tactic| (have hcL9 := cLine_is; (try simp only [units_in1, units_deeper, Around.mark_units, units_caller] at *); (try dsimp only [ktrTop] at *); omega))
local macro_rules | `(tactic| walk_at "LeaveK") => `(tactic| (k_dflt (refine' leaveT ?k1 ?k2 ?k3 ?_; (case k1 => k_asm); (case k2 => k_asm); (case k3 => k_asm); k_whole); intro kF kN kK kS; (try dsimp only)))
local macro_rules | `(tactic| ktr_enter) => `(tactic| (refine' code_defCG ?k1 ?k2 ?k3 ?k4 ?k5 ?kA ?kF ?kK ?k6 ?k7 ?k8 ?k9 ?kB ?kD ?_ ?c2 ?c3 ?c4; (case kA => exact rfl); (case kF => exact rfl); (case kK => assumption); (case k1 => k_asm); (case k2 => k_asm); (case k3 => k_asm); (case k4 => k_asm); (case k5 => k_asm); (case k6 => k_is); (case k7 => k_is); (case k8 => k_room); (case k9 => first | exact BindsTo.of_eq rfl | exact binds_K (by k_in) rfl (by k_is) rfl rfl rfl); (case kB => exact rfl); (case kD => decide +kernel); (case c2 => exact rfl); (case c3 => exact rfl); (case c4 => exact rfl); k_whole))
local macro_rules | `(tactic| k_get) => `(tactic| assumption)
local macro_rules | `(tactic| k_all) => `(tactic| first | assumption | (refine List.forall_mem_cons.mpr ⟨neN ?_, ?_⟩; (· omega); (· assumption)))
local macro_rules | `(tactic| k_mem) => `(tactic| first | ktr_member | exact List.mem_cons_self .. | (refine' List.mem_cons_of_mem _ ?_; k_mem))
local macro_rules | `(tactic| walk_at "call ref") => `(tactic| (k_here; refine hold ?_))
set_option maxHeartbeats 4000000 in
theorem spl1_t (w : World) (t : Tr) (k : Nat) (ok : t.Ok k) (hap : Apart ((309, tabObj #[]) :: t.objs)) :
   Tell w 314 [.ref t.addr] (40 + 5 * k) ((309, tabObj #[]) :: t.objs) (SplPost t) := by
  have hne : ∀ p ∈ t.objs, p.1 ≠ 309 := fun p hp => hap.head p hp
  unfold Tell
  k_fill
  intro p loose mean mg mb dp un gd cn cs a ccd cl outer A₀ base h₀ L m s Q E B F X N T hk hd hu hret
  refine wpAny_call ?_
  k_dflt ktr_enter
  intro g' L' h' tk' cells' FG' F' N' Y' B' X' T' l1 kG'; (try k_lt l1)
  have hC : CodeHd g' 313 309 := codeHd_of_K X' (by kernel_rfl)
  have hY := CellsAre.one Y'; obtain ⟨o', hE', d1'⟩ := hY; subst hE'; clear Y'
  (try simp only [List.cons_append, List.nil_append] at N'); (try dsimp only); (try k_lift B'); (try k_fold)
  have hx9 : ∀ p ∈ t.objs, p.1 ≠ L' + 1 := fun p hp => Nat.ne_of_lt (Nat.lt_succ_of_lt (allLt_mem l1.2 p hp))
  k_steps
  rename_i f1 c1 oc1 vs1 tq1 ct1 dc1 h91 tk91 d1 d2 l91 l92 h92 o2 F9 N9 d3
  have hapF : ∀ (x y z : Obj), Apart ([(f1, x), (c1, y), (L' + 1, z)] ++ t.objs) := fun x y z => by
    have a1 : ∀ p ∈ t.objs, p.1 < c1 := fun p hp => allLt_mem l91.2.2 p hp
    refine Apart.of (Apart.cons (Apart.cons (Apart.cons Apart.nil fun q hq => nomatch hq) fun q hq => ?_) fun q hq => ?_) hap.tail fun q hq r hr => ?_
    · rw [List.mem_singleton.mp hq]; exact Nat.ne_of_lt l91.1
    · rcases List.mem_cons.mp hq with rfl | hq
      · exact Nat.ne_of_lt l92
      · rw [List.mem_singleton.mp hq]; exact Nat.ne_of_lt (Nat.lt_trans l91.1 l92)
    · simp only [List.mem_cons, List.not_mem_nil, or_false] at hq
      rcases hq with rfl | rfl | rfl
      · exact Nat.ne_of_gt (Nat.lt_trans (a1 r hr) l92)
      · exact Nat.ne_of_gt (a1 r hr)
      · exact (hx9 r hr).symm
  refine' with_look (K := Mine.hd.heap_39 w.params) (a := 314) ?hh ?_
  case hh => k_is
  intro hx
  refine' tell_use [(309, tabObj #[rawInt 157, rawInt 4, .ref c1])] (rec_t w f1 c1 (L' + 1) [(f1, _), (c1, oc1), (L' + 1, o2)] _ _ _ _ _ ⟨⟨_, _, _, _, _, _, _, _, _, _, _, _, _, _, _, _, _, hx⟩, ⟨_, _, _, _, oc1, o2, vs1, tq1, rfl, rfl, d1, d2, d3⟩⟩ k t ok ?h2) ?h3 F9 ?h5 N9 ?h6 rfl ?h7 ?h8 ?h9 ?h10 ?h11 ?ret
  case h7 =>
    intro q hq
    rcases List.mem_cons.mp hq with rfl | hq
    · exact .head _
    · rcases List.mem_cons.mp hq with rfl | hq
      · exact .tail _ (.head _)
      · rcases List.mem_cons.mp hq with rfl | hq
        · exact .tail _ (.tail _ (.head _))
        · exact .tail _ (.tail _ (.tail _ (.tail _ hq)))
  case h2 => exact hapF _ _ _
  case h3 => assumption
  case h5 => assumption
  case h6 => assumption
  case h10 => k_room
  case h11 => k_units
  case h8 =>
    intro q hq
    rw [List.mem_singleton.mp hq]
    simp
  case h9 =>
    intro q hq hm
    rw [List.mem_singleton.mp hq] at hm
    obtain ⟨p, hp, e⟩ := List.mem_map.mp hm
    replace e : p.1 = 309 := e
    rcases List.mem_append.mp hp with hp | hp
    · have b1 : 309 < c1 := l91.2.1
      have b2 : 309 < L' := l1.1
      simp only [List.mem_cons, List.not_mem_nil, or_false] at hp
      rcases hp with rfl | rfl | rfl
      · exact Nat.ne_of_gt (Nat.lt_trans b1 l92) e
      · exact Nat.ne_of_gt b1 e
      · exact Nat.ne_of_gt (Nat.lt_succ_of_lt b2) e
    · exact hne p hp e
  case ret =>
  rintro r news' h2 tk2 F2 N2 kp2 fr2 dj2 ⟨t', pre, hst, hnf, rfl, hap2, rfl⟩
  k_steps
  rename_i kF kN kK kS
  have hd9 := fun q hq => dj2 q hq (309, tabObj #[rawInt 157, rawInt 4, .ref c1]) (.head _)
  exact hret _ ((309, tabObj #[rawInt 157, rawInt 4, .ref c1]) :: (c1, oc1) :: t'.objs) _ _ kF (fun q hq => kN q (by
    rcases List.mem_cons.mp hq with rfl | hq
    · simp
    · rcases List.mem_cons.mp hq with rfl | hq
      · simp
      · simp [hq])) kK (fun q hq => kS q (by
    rcases List.mem_cons.mp hq with rfl | hq
    · simp
    · rcases List.mem_cons.mp hq with rfl | hq
      · simp
      · simp [hq])) ⟨t', c1, oc1, vs1, tq1, rfl, hst, rfl, d1, d2, spl_apart hap2 hd9⟩
set_option maxHeartbeats 4000000 in
theorem spl2_t (w : World) (t : Tr) (k : Nat) (ok : t.Ok k) (c1 : Addr) (oc1 : Obj) (vs1 : Array Value) (tq1 : Tok) (d1 : oc1.data = .fields vs1) (d2 : vs1[1]? = some (.str (Str.ofString "SpliceContinuations.<locals>.RecSplicer") tq1)) (hap : Apart ((309, tabObj #[rawInt 157, rawInt 4, .ref c1]) :: (c1, oc1) :: t.objs)) :
   Tell w 314 [.ref t.addr] (40 + 5 * k) ((309, tabObj #[rawInt 157, rawInt 4, .ref c1]) :: (c1, oc1) :: t.objs) (SplPost t) := by
  have hne : ∀ p ∈ t.objs, p.1 ≠ 309 := fun p hp => hap.head p (.tail _ hp)
  have hnc : @Ne Nat c1 309 := hap.head (c1, oc1) (.head _)
  have hnd : ∀ p ∈ t.objs, p.1 ≠ c1 := fun p hp => hap.tail.head p hp
  unfold Tell
  k_fill
  intro p loose mean mg mb dp un gd cn cs a ccd cl outer A₀ base h₀ L m s Q E B F X N T hk hd hu hret
  refine wpAny_call ?_
  k_dflt ktr_enter
  intro g' L' h' tk' cells' FG' F' N' Y' B' X' T' l1 kG'; (try k_lt l1)
  have hC : CodeHd g' 313 309 := codeHd_of_K X' (by kernel_rfl)
  have hY := CellsAre.one Y'; obtain ⟨o', hE', d1'⟩ := hY; subst hE'; clear Y'
  (try simp only [List.cons_append, List.nil_append] at N'); (try dsimp only); (try k_lift B'); (try k_fold)
  have hx9 : ∀ p ∈ t.objs, p.1 ≠ L' + 1 := fun p hp => Nat.ne_of_lt (Nat.lt_succ_of_lt (allLt_mem l1.2.2 p hp))
  k_steps
  rename_i f1 ct1 dc1 h91 tk91 l91 h92 o2 F9 N9 d3
  obtain ⟨y1, y2, y3, y4⟩ := l91
  obtain ⟨x1, x2, x3⟩ := l1
  have hapF : ∀ (x y z : Obj), Apart ([(f1, x), (c1, y), (L' + 1, z)] ++ t.objs) := fun x y z => by
    refine Apart.of (Apart.cons (Apart.cons (Apart.cons Apart.nil fun q hq => nomatch hq) fun q hq => ?_) fun q hq => ?_) hap.tail.tail fun q hq r hr => ?_
    · rw [List.mem_singleton.mp hq]; exact Nat.ne_of_gt (Nat.lt_succ_of_lt x2)
    · rcases List.mem_cons.mp hq with rfl | hq
      · exact Nat.ne_of_lt y3
      · rw [List.mem_singleton.mp hq]; exact Nat.ne_of_lt y1
    · simp only [List.mem_cons, List.not_mem_nil, or_false] at hq
      rcases hq with rfl | rfl | rfl
      · exact Nat.ne_of_gt (allLt_mem y4 r hr)
      · exact (hnd r hr).symm
      · exact (hx9 r hr).symm
  refine' with_look (K := Mine.hd.heap_39 w.params) (a := 314) ?hh ?_
  case hh => k_is
  intro hx
  refine' tell_use [(309, tabObj #[rawInt 157, rawInt 4, .ref c1])] (rec_t w f1 c1 (L' + 1) [(f1, _), (c1, oc1), (L' + 1, o2)] _ _ _ _ _ ⟨⟨_, _, _, _, _, _, _, _, _, _, _, _, _, _, _, _, _, hx⟩, ⟨_, _, _, _, oc1, o2, vs1, tq1, rfl, rfl, d1, d2, d3⟩⟩ k t ok ?h2) ?h3 F9 ?h5 N9 ?h6 rfl ?h7 ?h8 ?h9 ?h10 ?h11 ?ret
  case h7 =>
    intro q hq
    rcases List.mem_cons.mp hq with rfl | hq
    · exact .head _
    · rcases List.mem_cons.mp hq with rfl | hq
      · exact .tail _ (.tail _ (.tail _ (.head _)))
      · rcases List.mem_cons.mp hq with rfl | hq
        · exact .tail _ (.head _)
        · exact .tail _ (.tail _ (.tail _ (.tail _ hq)))
  case h2 => exact hapF _ _ _
  case h3 => assumption
  case h5 => assumption
  case h6 => assumption
  case h10 => k_room
  case h11 => k_units
  case h8 =>
    intro q hq
    rw [List.mem_singleton.mp hq]
    simp
  case h9 =>
    intro q hq hm
    rw [List.mem_singleton.mp hq] at hm
    obtain ⟨p, hp, e⟩ := List.mem_map.mp hm
    replace e : p.1 = 309 := e
    rcases List.mem_append.mp hp with hp | hp
    · simp only [List.mem_cons, List.not_mem_nil, or_false] at hp
      rcases hp with rfl | rfl | rfl
      · exact Nat.ne_of_gt y2 e
      · exact hnc e
      · exact Nat.ne_of_gt (Nat.lt_succ_of_lt x1) e
    · exact hne p hp e
  case ret =>
  rintro r news' h2 tk2 F2 N2 kp2 fr2 dj2 ⟨t', pre, hst, hnf, rfl, hap2, rfl⟩
  k_steps
  rename_i kF kN kK kS
  have hd9 := fun q hq => dj2 q hq (309, tabObj #[rawInt 157, rawInt 4, .ref c1]) (.head _)
  exact hret _ ((309, tabObj #[rawInt 157, rawInt 4, .ref c1]) :: (c1, oc1) :: t'.objs) _ _ kF (fun q hq => kN q (by
    rcases List.mem_cons.mp hq with rfl | hq
    · simp
    · rcases List.mem_cons.mp hq with rfl | hq
      · simp
      · simp [hq])) kK (fun q hq => kS q (by
    rcases List.mem_cons.mp hq with rfl | hq
    · simp
    · rcases List.mem_cons.mp hq with rfl | hq
      · simp
      · simp [hq])) ⟨t', c1, oc1, vs1, tq1, rfl, hst, rfl, d1, d2, spl_apart hap2 hd9⟩
end
end Mine
namespace Mine
open PySem PySem.W PyProof.Rows PySem.Calls PySem.Spec
section
variable {prog : Program} {w : World} {A : Around} {E : Value → Shared → Prop} {s : Shared} {env : Env} {h₀ : Heap} {x : Str} {body : List Stmt} {Q : Flow → Shared → Prop}
/-- a loop over a range, the ledger turning -/
theorem for_range {r : Addr} {z : Int} {t u v : Tok} {m₀ : Str → Option Value} {news : List (Addr × Obj)} (J : Nat → (Str → Option Value) → List (Addr × Obj) → Prop)
    (hh : A.handled = none) (F : Fr h₀ env.locals s.heap m₀) (N : News h₀ env.locals s.heap news) (hr : IsRange s.heap r 0 z 1 t u v) (h0 : 0 ≤ z) (hz : z ≤ 1000) (kind : ∀ i m nx, J i m nx → ∀ q ∈ nx, q.2.cls ≠ .type "range_iterator") (hj : J 0 m₀ news)
    (turn : ∀ i v m₁ nx h tk own, i < z.toNat → (∀ p ∈ own, ∀ q ∈ nx, p.1 ≠ q.1) → J i m₁ nx → Fr h₀ env.locals h (fun y => if y = x then some v else m₁ y) → News h₀ env.locals h (nx ++ own) →
      wpAny (model prog w) A (execs body env) (ForPost h₀ env.locals (J (i + 1)) own { s with heap := h, toks := tk } Q) E { s with heap := h, toks := tk })
    (done : ∀ m₁ nx h tk, J z.toNat m₁ nx → Fr h₀ env.locals h m₁ → News h₀ env.locals h nx → Q .next { s with heap := h, toks := tk }) :
    wpAny (model prog w) A (pyIter (.ref r)) (fun it s₂ => LoopAtV prog w A h₀ env x body Q E it s₂) E s := by
  have hsz : Builtin.Range.rangeSize 0 z 1 = z := by rw [rangeSize_one]; split <;> omega
  refine wpAny_pyIter_range hr (small_one (by omega) (by omega) (by omega) (by omega)) ?_
  have lt : ∀ b o, s.heap.get? b = some o → b ≠ s.heap.objs.size := fun b o e => Nat.ne_of_lt (Heap.lt_size e)
  have W := Walks.range (prog := prog) (w := w) hh s.heap.objs.size 0 1 z.toNat
  refine ⟨s.heap.objs.size, _, _, z.toNat, _, _, m₀, news, fun i m nx => J i m nx, rfl, W, ?_, ?_, ?_, ?_, F.push _,
    fun q hq => ⟨Heap.get?_push_of_some _ (N q hq).1, (N q hq).2⟩, hj, ?_, ?_⟩
  · intro hm
    exact absurd F.ns.lt (List.mem_singleton.mp hm ▸ Nat.lt_irrefl _)
  · intro b hb
    rw [List.mem_singleton.mp hb]
    exact next_is_new F
  · intro q hq hw
    exact lt _ _ (N q hq).1 (List.mem_singleton.mp hw)
  · have e : IsRangeIter (s.heap.push { cls := .type "range_iterator", data := .fields #[rawInt 0, rawInt (Builtin.Range.rangeSize 0 z 1), rawInt 1] }) s.heap.objs.size 0 (Builtin.Range.rangeSize 0 z 1) 1 := Heap.get?_push_size _ rfl
    rw [hsz] at e
    simpa [Int.toNat_of_nonneg h0, hsz] using e
  · rintro i v m₁ nx s₁ own ⟨h, tk, rfl⟩ hi hv hJ hoff hown hget hfp hst F₁ N₁
    have hI : ∃ oI, h.get? s.heap.objs.size = some oI ∧ oI.cls = .type "range_iterator" := ⟨_, hst, rfl⟩
    obtain ⟨oI, eI, cI⟩ := hI
    have fnone : h₀.get? s.heap.objs.size = none := next_is_new F
    have mI : (s.heap.objs.size, oI) ∈ own := hfp _ (.head _) fnone _ eI
    have sep : ∀ p ∈ [(s.heap.objs.size, oI)], ∀ q ∈ nx, p.1 ≠ q.1 := fun p hp q hq e => by
      rw [List.mem_singleton.mp hp] at e
      exact hoff q hq (List.mem_singleton.mpr e.symm)
    have N₂ : News h₀ env.locals h (nx ++ [(s.heap.objs.size, oI)]) := fun q hq => N₁ q ((List.mem_append.mp hq).elim (fun z => List.mem_append_right _ z) fun z => by rw [List.mem_singleton.mp z]; exact List.mem_append_left _ mI)
    refine wpAny_mono (turn i v m₁ nx h tk [(s.heap.objs.size, oI)] hi sep hJ F₁ N₂) (fun f s₂ p => ?_) fun _ _ e => e
    have fin : ForEnd h₀ env.locals (J (i + 1)) [(s.heap.objs.size, oI)] { s with heap := h, toks := tk } s₂ → LoopStepU h₀ env.locals [s.heap.objs.size] own (fun m nx => J (i + 1) m nx) { s with heap := h, toks := tk } .next s₂ := by
      rintro ⟨h', tk', m', news', nx', e, F', N', hn, ho, hJ'⟩
      refine ⟨rfl, h', tk', m', nx', e, F', fun q hq => ?_, fun q hq hw => ?_, hJ'⟩
      · rcases List.mem_append.mp hq with z | z
        · have e1 := List.mem_singleton.mp (hown q z)
          have : q = (s.heap.objs.size, oI) := by
            have a := hget q z
            rw [e1] at a
            exact Prod.ext e1 (Option.some.inj (a.symm.trans eI))
          rw [this]
          exact N' _ (ho _ (.head _))
        · exact N' q (hn q z)
      · have : q = (s.heap.objs.size, oI) := news_one N' (hn q hq) (ho _ (.head _)) (List.mem_singleton.mp hw)
        exact kind _ _ _ hJ' q hq (this ▸ cI)
    cases f with
    | ret v => exact .ret p
    | brk => exact .brk p
    | next => exact .next (fin p)
    | cont => exact .cont (fin p)
  · rintro h tk m₁ nx F' N' _ hJ
    exact done m₁ nx h tk hJ F' N'
/-- a loop over a list of the ledger that its turns leave alone; what the loop holds is its iterator -/
theorem for_list2 {l : Addr} {vs : List Value} {nn : Nat} {m₀ : Str → Option Value} {news : List (Addr × Obj)} (J : Nat → (Str → Option Value) → List (Addr × Obj) → Prop)
    (hh : A.handled = none) (F : Fr h₀ env.locals s.heap m₀) (N : News h₀ env.locals s.heap news) (stay : ∀ i m nx, J i m nx → (l, listOf vs.toArray nn) ∈ nx) (kind : ∀ i m nx, J i m nx → ∀ q ∈ nx, q.2.cls ≠ .type "list_iterator") (hj : J 0 m₀ news)
    (turn : ∀ i v m₁ nx h tk own, vs[i]? = some v → (∀ p ∈ own, p.2.cls = .type "list_iterator") → (∀ p ∈ own, ∀ q ∈ nx, p.1 ≠ q.1) → J i m₁ nx → Fr h₀ env.locals h (fun y => if y = x then some v else m₁ y) → News h₀ env.locals h (nx ++ own) →
      wpAny (model prog w) A (execs body env) (ForPost h₀ env.locals (J (i + 1)) own { s with heap := h, toks := tk } Q) E { s with heap := h, toks := tk })
    (done : ∀ m₁ nx h tk, J vs.length m₁ nx → Fr h₀ env.locals h m₁ → News h₀ env.locals h nx → Q .next { s with heap := h, toks := tk }) :
    wpAny (model prog w) A (pyIter (.ref l)) (fun it s₂ => LoopAtV prog w A h₀ env x body Q E it s₂) E s := by
  have hl := stay _ _ _ hj
  have hol := (N _ hl).1
  have hls : s.heap.IsList l vs.toArray := ⟨_, hol, rfl, nn, rfl⟩
  have lt : ∀ b o, s.heap.get? b = some o → b ≠ s.heap.objs.size := fun b o e => Nat.ne_of_lt (Heap.lt_size e)
  have hlne := lt _ _ hol
  refine wpAny_pyIter_list hls ?_
  have W := Walks.list (prog := prog) (w := w) hh s.heap.objs.size l hlne vs.toArray
  refine ⟨s.heap.objs.size, _, _, vs.toArray.size, _, _, m₀, news, fun i m nx => J i m nx, rfl, W, ?_, ?_, ?_, ⟨⟨_, Heap.get?_push_size _ rfl, rfl, rfl⟩, hls.at fun o e => Heap.get?_push_of_some _ e⟩, F.push _,
    fun q hq => ⟨Heap.get?_push_of_some _ (N q hq).1, (N q hq).2⟩, hj, ?_, ?_⟩
  · intro hm
    rcases List.mem_cons.mp hm with e | hm
    · exact absurd F.ns.lt (e ▸ Nat.lt_irrefl _)
    · exact (N _ hl).2.1 (List.mem_singleton.mp hm).symm
  · intro b hb
    rw [List.mem_singleton.mp hb]
    exact next_is_new F
  · intro q hq hw
    exact lt _ _ (N q hq).1 (List.mem_singleton.mp hw)
  · rintro i v m₁ nx s₁ own ⟨h, tk, rfl⟩ _ hv hJ hoff hown hget hfp hst F₁ N₁
    replace hv : vs[i]? = some v := by simpa using hv
    have hl₁ := stay _ _ _ hJ
    -- what the loop holds itself: its iterator
    have hI : ∃ oI, h.get? s.heap.objs.size = some oI ∧ oI.cls = .type "list_iterator" := by
      obtain ⟨⟨o, e, c, _⟩, _⟩ := hst
      exact ⟨o, e, c⟩
    obtain ⟨oI, eI, cI⟩ := hI
    have fnone : h₀.get? s.heap.objs.size = none := next_is_new F
    have mI : (s.heap.objs.size, oI) ∈ own := hfp _ (.head _) fnone _ eI
    have sep : ∀ p ∈ [(s.heap.objs.size, oI)], ∀ q ∈ nx, p.1 ≠ q.1 := fun p hp q hq e => by
      rw [List.mem_singleton.mp hp] at e
      exact hoff q hq (List.mem_singleton.mpr e.symm)
    have N₂ : News h₀ env.locals h (nx ++ [(s.heap.objs.size, oI)]) := fun q hq => N₁ q ((List.mem_append.mp hq).elim (fun z => List.mem_append_right _ z) fun z => by rw [List.mem_singleton.mp z]; exact List.mem_append_left _ mI)
    refine wpAny_mono (turn i v m₁ nx h tk [(s.heap.objs.size, oI)] hv (fun p hp => by rw [List.mem_singleton.mp hp]; exact cI) sep hJ F₁ N₂) (fun f s₂ p => ?_) fun _ _ e => e
    have fin : ForEnd h₀ env.locals (J (i + 1)) [(s.heap.objs.size, oI)] { s with heap := h, toks := tk } s₂ → LoopStepU h₀ env.locals [s.heap.objs.size] own (fun m nx => J (i + 1) m nx) { s with heap := h, toks := tk } .next s₂ := by
      rintro ⟨h', tk', m', news', nx', e, F', N', hn, ho, hJ'⟩
      refine ⟨rfl, h', tk', m', nx', e, F', fun q hq => ?_, fun q hq hw => ?_, hJ'⟩
      · rcases List.mem_append.mp hq with z | z
        · rcases List.mem_cons.mp (hown q z) with e1 | e1
          · have : q = (s.heap.objs.size, oI) := by
              have a := hget q z
              rw [e1] at a
              exact Prod.ext e1 (Option.some.inj (a.symm.trans eI))
            rw [this]
            exact N' _ (ho _ (.head _))
          · have e1 := List.mem_singleton.mp e1
            have : q = (l, listOf vs.toArray nn) := by
              have a := hget q z
              rw [e1] at a
              have b := (N₁ _ (List.mem_append_right _ hl₁)).1
              exact Prod.ext e1 (Option.some.inj (a.symm.trans b))
            rw [this]
            exact N' _ (hn _ (stay _ _ _ hJ'))
        · exact N' q (hn q z)
      · have : q = (s.heap.objs.size, oI) := news_one N' (hn q hq) (ho _ (.head _)) (List.mem_singleton.mp hw)
        exact kind _ _ _ hJ' q hq (this ▸ cI)
    cases f with
    | ret v => exact .ret p
    | brk => exact .brk p
    | next => exact .next (fin p)
    | cont => exact .cont (fin p)
  · rintro h tk m₁ nx F' N' _ hJ
    exact done m₁ nx h tk (by simpa using hJ) F' N'
end
end Mine
namespace Mine
open PySem PySem.W PyProof.Rows PySem.Calls PySem.Spec
section
variable {A B : Str} {v u n : Option Value} {m₀ : Str → Option Value}
theorem two_start (hAB : A ≠ B) : (fun y => m₀ y) = fun y => if y = A then m₀ A else if y = B then m₀ B else m₀ y := by
  funext y
  by_cases a : y = A
  · subst a; simp
  · by_cases b : y = B
    · subst b; simp [a]
    · simp [a, b]
theorem two_turn (hAB : A ≠ B) : (fun y => if y = B then v else if y = A then u else if y = B then n else m₀ y) = fun y => if y = A then u else if y = B then v else m₀ y := by
  funext y
  by_cases a : y = A
  · subst a; simp [hAB]
  · by_cases b : y = B
    · subst b; simp [a]
    · simp [a, b]
theorem two_inner : (fun y => if y = A then v else if y = A then u else if y = B then n else m₀ y) = fun y => if y = A then v else if y = B then n else m₀ y := by
  funext y
  by_cases a : y = A
  · subst a; simp
  · simp [a]
end
theorem ints_snoc {vs : List Value} {ns : List Int} (h : IntsAre vs ns) (z : Int) (t : Tok) : IntsAre (vs ++ [.int z t]) (ns ++ [z]) := by
  induction h with
  | nil => exact .cons _ _ .nil
  | cons a b _ ih => exact .cons a b ih
theorem ints_get {vs : List Value} {ns : List Int} (h : IntsAre vs ns) {i : Nat} {v : Value} (hv : vs[i]? = some v) : ∃ z t, v = .int z t := by
  induction h generalizing i with
  | nil => simp at hv
  | cons a b _ ih =>
    cases i with
    | zero => exact ⟨_, _, (by simpa using hv.symm)⟩
    | succ i => exact ih (by simpa using hv)
section
local macro_rules | `(tactic| k_room) => `(tactic| ((try simp only [depth_under_make, depth_under_kw, depth_in1, depth_deeper, depth_caller, recursionLimit] at *); (try dsimp only [ktrTop] at *); omega))
local macro_rules | `(tactic| k_units) => `(tactic| (have hcL9 := cLine_is; (try simp only [units_in1, units_deeper, Around.mark_units, units_caller] at *); (try dsimp only [ktrTop] at *); omega))
local macro_rules | `(tactic| walk_at "LeaveK") => `(tactic| (k_dflt (refine' leaveT ?k1 ?k2 ?k3 ?_; (case k1 => k_asm); (case k2 => k_asm); (case k3 => k_asm); k_whole); intro kF kN kK kS; (try dsimp only)))
local macro_rules | `(tactic| ktr_enter) => `(tactic| (refine' code_defG ?k1 ?k2 ?k3 ?k4 ?k5 ?kA ?kF ?kK ?k6 ?k7 ?k8 ?k9 ?kB ?_ ?c2 ?c3 ?c4 ?c5; (case kA => exact rfl); (case kF => exact rfl); (case kK => assumption); (case k1 => k_asm); (case k2 => k_asm); (case k3 => k_asm); (case k4 => k_asm); (case k5 => k_asm); (case k6 => k_is); (case k7 => k_is); (case k8 => k_room); (case k9 => first | exact BindsTo.of_eq rfl | exact binds_K (by k_in) rfl (by k_is) rfl rfl rfl); (case c5 => decide); (case kB => exact locs rfl); (case c2 => exact rfl); (case c3 => exact rfl); (case c4 => exact rfl); k_whole))
local macro_rules | `(tactic| k_get) => `(tactic| assumption)
local macro_rules | `(tactic| k_all) => `(tactic| assumption)
local macro_rules | `(tactic| k_mem) => `(tactic| first | ktr_member | exact List.mem_cons_self .. | (refine' List.mem_cons_of_mem _ ?_; k_mem))
local macro_rules | `(tactic| walk_at "subscriptTail Name Slice ref ref") => `(tactic| (k_here; k_dflt (refine' kmk_slice_ints ?F ?N ?l ?p ?q ?i ?m rfl ?_ ?s ?t ?z; (case F => k_asm); (case N => k_asm); (case l => exact Fr.lst (by k_asm) (by k_asm)); (case p => kmk_part); (case q => kmk_part); (case i => assumption); (case m => exact kmk_upto (by assumption) (by decide)); (case s => with_unfolding_all rfl); (case t => kmk_pure); (case z => (rw [sizeLine_eq, List.size_toArray]; omega))); intro D' ws' h' F' N' l1 hI' hC' hL'; (try k_lt l1)))
local macro_rules | `(tactic| walk_at "exec For") => `(tactic| (k_here; (rename Fr _ _ _ _ => lF'); (with_unfolding_all refine' For_invVF lF' ?k1 ?k2 ?_; (case k1 => exact rfl); (case k2 => exact rfl); k_whole)))
local macro_rules | `(tactic| walk_at "exec For Name Call cons nil") => `(tactic| (k_here; (rename Fr _ _ _ _ => lF'); (with_unfolding_all refine' For_invVF lF' ?k1 ?k2 ?_; (case k1 => exact rfl); (case k2 => exact rfl); k_whole)))
local macro_rules | `(tactic| walk_at "call builtin:list.append") => `(tactic| (k_here; k_dflt (refine' append_l ?F ?N ?U ?z ?_; (case F => k_asm); (case N => k_asm); (case U => k_upd); (case z => assumption)); (intro h' F' N'; (try dsimp only at N'))))
local macro_rules | `(tactic| walk_at "pyIter ref") => `(tactic| (k_here; refine hold ?_))
set_option maxHeartbeats 1000000 in
theorem dig_t (w : World) (l : Addr) (vs : List Value) (ns : List Int) (hi : IntsAre vs ns) (hl : vs.length ≤ 63) (p : Program) (loose : List Str) (mean : ExcName → Option Value) (mg mb : Str → Option Value) (dp un : Nat) (gd : Option (List Code)) (cn : Str) (cs : Scope) (a : Addr) (ccd : Value) (cl : List (Str × Addr)) (outer : List Env) (A₀ : Around) (base h₀ : Heap) (L : Addr) (m : Str → Option Value) (s : Shared)
    (Q E : Value → Shared → Prop) (B : Below A₀ base outer h₀) (F : Fr h₀ L s.heap m) (X : (hd.heap_39 w.params).In h₀) (N : News h₀ L s.heap []) (T : Top p loose mean mg mb h₀) (hk : cs.kind = .function) (hd : dp + 10 ≤ 400) (hu : un + 30 * 10 ≤ 4000) (hL : h₀.IsList l vs.toArray)
    (hret : ∀ D ds n h' tk', Fr h₀ L h' m → News h₀ L h' [(D, listOf ds.toArray n)] → (∀ b o, s.heap.get? b = some o → h'.get? b = some o) → s.heap.get? D = none → Dig ds → Q (.ref D) { s with heap := h', toks := tk' }) :
    wpAny (model PySem.Challenge.rw_bp5029_01.row.prog w) (ktrTop dp un gd cn cs L a ccd cl outer) (call (.ref 322) [.ref l]) Q E s := by
  revert p loose mean mg mb dp un gd cn cs a ccd cl outer A₀ base h₀ L m s Q E B F X N T hk hd hu hL hret
  k_fill
  intro p loose mean mg mb dp un gd cn cs a ccd cl outer A₀ base h₀ L m s Q E B F X N T hk hd hu hL hret
  refine wpAny_call ?_
  k_dflt ktr_enter
  intro g' L' h' FG' F' N' B' X' T' kG'; (try dsimp only); (try k_lift B'); (try k_fold)
  have hL9 := hL.at fun o e => FG'.keep l o e
  k_steps
  unfold Hold
  rename_i d9 h91 l91 h92 F91 N91 D9 ws h93 F9 N9 hws _ hwl l9
  have hwl9 : ws.length ≤ 12 := by rw [hws.length, List.length_take]; omega
  refine with_map F9 fun m₀ hm₀ F₀ => ?_
  rw [show m₀ = (fun y => m₀ y) from rfl, two_start (A := Str.ofString "_") (B := Str.ofString "number") (by decide)] at F₀
  refine for_list2 (l := D9) (vs := ws) (nn := 0) (fun i m nx => ∃ (u n : Option Value) (ds : List Value) (ms : List Int) (k : Nat), m = (fun y => if y = Str.ofString "_" then u else if y = Str.ofString "number" then n else m₀ y) ∧ nx = [(d9, listOf ds.toArray k), (D9, listOf ws.toArray 0)] ∧ IntsAre ds ms ∧ ds.length = 4 * i)
    rfl F₀ (news := [(d9, listOf ([] : List Value).toArray 0), (D9, listOf ws.toArray 0)]) (fun q hq => N9 q (by simpa [or_comm] using hq)) ?_ ?_ ⟨_, _, [], [], 0, rfl, rfl, .nil, rfl⟩ ?_ ?_
  · rintro i m nx ⟨u, n, ds, ms, k, _, rfl, _⟩
    simp
  · rintro i m nx ⟨u, n, ds, ms, k, _, rfl, _⟩ q hq
    simp only [List.mem_cons, List.not_mem_nil, or_false] at hq
    rcases hq with rfl | rfl <;> exact fun e => by simp at e
  · rintro i v m₁ nx h tk own hv hcl hoff ⟨u, n, ds, ms, k, rfl, rfl, hds, hlen⟩ F₁ N₁
    obtain ⟨z, tz, rfl⟩ := ints_get hws hv
    have hi12 : i < ws.length := by
      have := List.getElem?_eq_some_iff.mp hv
      exact this.1
    rw [two_turn (A := Str.ofString "_") (B := Str.ofString "number") (by decide)] at F₁
    simp only [List.cons_append, List.nil_append] at N₁
    clear F₀ F9 N9 F91 N91
    have hown : ∀ p ∈ own, p.1 ≠ d9 := fun p hp => hoff p hp _ (.head _)
    k_steps
    unfold Hold
    refine for_range (fun j m nx => ∃ (u : Option Value) (z : Int) (t : Tok) (es : List Value) (qs : List Int) (k' : Nat), m = (fun y => if y = Str.ofString "_" then u else if y = Str.ofString "number" then some (.int z t) else m₀ y) ∧ nx = (d9, listOf es.toArray k') :: (D9, listOf ws.toArray 0) :: own ∧ IntsAre es qs ∧ es.length = 4 * i + j)
      rfl (by assumption) (by assumption) (by assumption) (by decide) (by decide) ?_ ⟨_, _, _, ds, ms, k, rfl, rfl, (by assumption), hlen⟩ ?_ ?_
    · rintro j m nx ⟨u, z, t, es, qs, k', _, rfl, _⟩ q hq
      simp only [List.mem_cons] at hq
      rcases hq with rfl | rfl | hq
      · exact fun e => by simp at e
      · exact fun e => by simp at e
      · rw [hcl q hq]; exact fun e => by simp at e
    · rintro j v m₁ nx h2 tk2 own2 hj hoff2 ⟨u2, z2, t2, es, qs, k', rfl, rfl, hes, hel⟩ F₁ N₁
      rw [two_inner (A := Str.ofString "_") (B := Str.ofString "number")] at F₁
      obtain ⟨Z, hZ⟩ : ∃ Z, Z = own ++ own2 := ⟨_, rfl⟩
      have hj4 : j < 4 := hj
      have hz9 : es.length ≤ 1000 := by omega
      have hxD : @Ne Nat D9 d9 := Nat.ne_of_gt l9
      have hxZ : ∀ p ∈ Z, p.1 ≠ d9 := fun p hp => by
        rw [hZ] at hp
        rcases List.mem_append.mp hp with hp | hp
        · exact hown p hp
        · exact hoff2 p hp _ (.head _)
      simp only [List.cons_append, List.nil_append] at N₁
      rw [← hZ] at N₁
      subst hm₀
      k_steps
      refine' ForEnd.mk ((d9, listOf (es ++ [Value.int (z2.fmod 8) (tk2 + 1)]).toArray (k' + 1)) :: (D9, listOf ws.toArray 0) :: own) (by assumption) (by assumption) ?ka ?kb ⟨_, _, _, _, _, _, two_turn (by decide), rfl, ints_snoc hes _ _, by simp only [List.length_append, List.length_cons, List.length_nil]; omega⟩
      case ka =>
        intro q hq
        rw [hZ]
        simp only [List.mem_cons, List.mem_append] at hq ⊢
        rcases hq with e | e | e <;> simp [e]
      case kb => intro q hq; rw [hZ]; simp [hq]
    · rintro m₁ nx h2 tk2 ⟨u2, z2, t2, es, qs, k', rfl, rfl, hes, hel⟩ F₁ N₁
      have hel4 : es.length = 4 * (i + 1) := by
        have : (4 : Int).toNat = 4 := rfl
        rw [this] at hel
        omega
      k_steps
      refine' ForEnd.mk [(d9, listOf es.toArray k'), (D9, listOf ws.toArray 0)] (by assumption) (by assumption) ?kc ?kd ⟨_, _, es, qs, k', rfl, rfl, hes, hel4⟩
      case kc => intro q hq; simp only [List.mem_cons, List.not_mem_nil, or_false] at hq; rcases hq with e | e <;> simp [e]
      case kd => intro q hq; simp [hq]
  · rintro m₁ nx h tk ⟨u, n, ds, ms, k, rfl, rfl, hds, hlen⟩ F₁ N₁
    clear F₀ F9 N9 F91 N91
    subst hm₀
    k_steps
    rename_i kF kN kK kS
    refine hret d9 ds k _ _ kF (fun q hq => kN q (by rw [List.mem_singleton.mp hq]; simp)) (fun b o e => kK b o (by simp) e) ?_ ⟨⟨ms, hds⟩, by omega⟩
    exact (kS (d9, listOf ds.toArray k) (by simp)).elim (fun z => by simp at z) id
end
end Mine
namespace Mine
open PySem PySem.W PyProof.Rows PySem.Calls PySem.Spec
theorem dig_led {h₀ h h2 : Heap} {L D c1 c2 : Addr} {o1 o2 ot x : Obj} (N : News h₀ L h [(c1, o1), (c2, o2), (309, ot)]) (N2 : News h₀ L h2 [(D, x)]) (kp : ∀ b o, h.get? b = some o → h2.get? b = some o) (fr : h.get? D = none) :
    News h₀ L h2 [(D, x), (c1, o1), (c2, o2), (309, ot)] ∧ (@Ne Nat D c1) ∧ (@Ne Nat D c2) ∧ (@Ne Nat D 309) := by
  have n1 : ∀ q ∈ [(c1, o1), (c2, o2), (309, ot)], D ≠ q.1 := fun q hq e => by
    have := (N q hq).1
    rw [← e, fr] at this; cases this
  refine ⟨fun q hq => ?_, n1 (c1, o1) (by simp), n1 (c2, o2) (by simp), n1 (309, ot) (by simp)⟩
  rcases List.mem_cons.mp hq with rfl | hq
  · exact N2 _ (.head _)
  · exact ⟨kp _ _ (N q hq).1, (N q hq).2⟩
section
local macro_rules | `(tactic| k_room) => `(tactic| ((try simp only [depth_under_make, depth_under_kw, depth_in1, depth_deeper, depth_caller, recursionLimit] at *); (try dsimp only [ktrTop] at *); omega))
local macro_rules | `(tactic| k_units) => `(tactic| (have hcL9 := cLine_is; (try simp only [units_in1, units_deeper, Around.mark_units, units_caller] at *); (try dsimp only [ktrTop] at *); omega))
local macro_rules | `(tactic| walk_at "call ref") => `(tactic| (k_here; refine hold ?_))
local macro_rules | `(tactic| walk_at "call ref") => `(tactic| (k_here; ((with_reducible show wpAny _ _ (call (Value.ref 329) _) _ _ _)); (k_dflt (refine' take_use (dp := 302) (un := 7) (outer := []) ?kU ?kD ?kZ ?k1 ?k2 ?k3 ?k4 ?k5 ?k6 ?k7 ?k8 ?_; (case k1 => (k_asm)); (case k2 => (k_asm)); (case k3 => (k_asm)); (case k4 => (k_asm)); (case kU => (k_updF)); (case k5 => (k_asm)); (case k6 => (first | exact rfl | assumption)); (case kD => (assumption)); (case kZ => (decide)); (case k7 => (decide)); (case k8 => (decide)); k_whole)); (intro z9 tk9 ds9 n9 h9 tk9' F9 N9 kp9 z0 z1 hds9; (try dsimp only at N9))))
local macro_rules | `(tactic| walk_at "eval ListComp") => `(tactic| (k_here; (with_unfolding_all refine' comp_led ?c0 ?c1 ?c2 ?c3 ?c4 ?c5 ?_ ?c6; (case c0 => k_asm); (case c1 => decide); (case c2 => rfl); (case c3 => rfl); (case c4 => decide); (case c5 => rfl); (case c6 => intro _; rfl); k_whole)))
local macro_rules | `(tactic| walk_at "eval Name") => `(tactic| (k_here; k_inBlock; k_dflt (refine' name_cell ?N ?m ?d ?c ?k ?x ?b ?_; (case c => rfl); (case k => rfl); (case x => rfl); (case b => decide); (case N => k_asm); (case m => k_mem); (case d => assumption); k_whole)))
local macro_rules | `(tactic| k_mem) => `(tactic| first | ktr_member | exact List.mem_cons_self .. | (refine' List.mem_cons_of_mem _ ?_; k_mem))
local macro_rules | `(tactic| k_get) => `(tactic| assumption)
local macro_rules | `(tactic| walk_at "pyIter ref") => `(tactic| (k_here; refine hold ?_))
set_option maxHeartbeats 1000000 in
theorem law_t : PySem.Challenge.rw_bp5029_01.Holds := hd (by
  k_go0
  (all_goals try k_fold)
  k_steps
  unfold Hold
  refine dig_t _ _ _ _ (by assumption) ?hl _ _ _ _ _ 302 7 _ _ _ _ _ _ [] _ _ _ _ _ _ _ _ (by assumption) (by assumption) (by assumption) (fun q hq => nomatch hq) (by assumption) rfl (by decide) (by decide) (by assumption) ?_
  case hl => rename IntsAre _ _ => hI; rw [hI.length]; omega
  intro D ds n h2 tk2 F2 N2 kp2 fr2 hds
  rename News _ _ _ [_, _, _] => N0
  obtain ⟨N3, x1, x2, x3⟩ := dig_led N0 N2 kp2 fr2
  clear N0 N2 kp2 fr2
  k_steps
  unfold Hold
  rename_i o2 e2 tk60 lv h62 l1 h63 o1 F63 N63 e1 z9 tk9 ds9 n9 h9 tk9' F64 N64 kp9 z0 z1 hds9 h65 tk65 t1 u1 v1 hR FR NR KR
  rename Shared => s1
  have l0 : 309 < s1.heap.objs.size := by assumption
  have hDl : @Ne Nat D lv := Nat.ne_of_lt l1.1
  refine comp_range (fun i ys nx => ∃ (ds' vs' : List Value) (n' n2' : Nat) (ks : List Tr), nx = [(s1.heap.objs.size + 1 + 1, o1), (s1.heap.objs.size + 1, o2), (309, tabObj #[])] ++ (D, listOf ds'.toArray n') :: (lv, listOf vs'.toArray n2') :: objsL ks ∧ ys = refs ks ∧ ks.length = i ∧ OkL ks 2 ∧ (∀ t ∈ ks, t.Free) ∧ Dig ds' ∧ vs'.length ≤ i * 16 ∧ Apart nx)
    (news := [(s1.heap.objs.size + 1 + 1, o1), (s1.heap.objs.size + 1, o2), (309, tabObj #[])] ++ (D, listOf ds9.toArray n9) :: (lv, listOf ([] : List Value).toArray 0) :: objsL [])
    rfl FR (fun q hq => NR q ?_) hR (by omega) (by omega) ⟨ds9, [], n9, 0, [], rfl, rfl, rfl, trivial, (fun _ h => nomatch h), hds9, by simp, ?_⟩ ?_ ?_
  · simp only [objsL, List.cons_append, List.nil_append, List.mem_cons, List.not_mem_nil, or_false] at hq ⊢
    rcases hq with e | e | e | e | e <;> simp [e]
  · simp only [Apart, objsL, List.cons_append, List.nil_append, List.map_cons, List.map_nil, List.nodup_cons, List.mem_cons, List.not_mem_nil, or_false, not_false_iff, List.nodup_nil, and_true, not_or]
    refine ⟨⟨neN ?_, neN ?_, neN ?_, neN ?_⟩, ⟨neN ?_, neN ?_, neN ?_⟩, ⟨neN ?_, neN ?_⟩, neN ?_⟩ <;> omega
  · rintro i v ys nx h tk C mC E' hi ⟨ds', vs', n', n2', ks, rfl, rfl, hlen, hok, hfree, hdg, hvl, hap⟩ hyl F₁ N₁ hC hx hq
    have N₂ := N₁
    simp only [List.cons_append, List.nil_append] at N₂
    have hi4 : i < 4 := by omega
    have hi16 : i * 16 ≤ 64 := by omega
    k_steps
    unfold Hold
    refine grow_use (dp := 302) (un := 7) (outer := []) [(s1.heap.objs.size + 1 + 1, o1), (s1.heap.objs.size + 1, o2), (309, tabObj #[])] (grow_t _ D lv hDl 2 ds' vs' n' n2' 2 _ rfl hdg (by omega)) hap (by assumption) (by assumption) (by assumption) (by assumption) (by assumption) rfl (by decide) (by decide) ?_
    intro t ds2 vs2 n2' n22 h2 tk2 F2 N2 ap2 kp2 fr2 ok2 free2 dg2 hl2
    k_unfold
    refine ⟨h2, tk2, _, rfl, F2, N2, fun b o hb e => kp2 b o (fun y => hb (by rw [y]; simp)) (fun y => hb (by rw [y]; simp)) e, fun q hq => ?_, ⟨ds2, vs2, n2', n22, ks ++ [t], rfl, ?_, ?_, okL_append hok ⟨ok2, trivial⟩, ?_, dg2, by omega, ap2⟩⟩
    · simp only [objsL_append, objsL, List.append_nil, List.mem_append, List.mem_cons] at hq
      rcases hq with (rfl | rfl | rfl | hq) | rfl | rfl | hq | hq
      · simp
      · simp
      · simp
      · nomatch hq
      · simp
      · simp
      · exact .inl (List.mem_map_of_mem (List.mem_append_right _ (.tail _ (.tail _ hq))))
      · exact .inr (fr2 q hq)
    · simp [refs]
    · simp [hlen]
    · intro u hu
      rcases List.mem_append.mp hu with hu | hu
      · exact hfree u hu
      · rw [List.mem_singleton.mp hu]; exact free2
  · rintro Dl ys nx h tk k ⟨ds', vs', n', n2', ks, rfl, rfl, hlen, hok, hfree, hdg, hvl, hap⟩ hyl F₁ N₁ hq
    have hks4 : ks.length ≤ 4 := by omega
    have e1' := e1
    clear F63 N63 F64 N64 FR NR
    k_steps
    unfold Hold
    refine tell_use (dp := 302) (un := 7) (outer := []) ([(s1.heap.objs.size + 1 + 1, o1), (s1.heap.objs.size + 1, o2), (309, tabObj #[])] ++ [(D, listOf ds'.toArray n'), (lv, listOf vs'.toArray n2')]) (node_t _ Dl k 2 ks _ hok hfree hks4 (Apart.cons hap.right.tail.tail fun p hp => hq p (List.mem_append_right _ (.tail _ (.tail _ hp))))) (by assumption) (by assumption) (by assumption) (by assumption) (by assumption) rfl
      (fun p hp => ?_) (fun p hp => ?_) (fun p hp => ?_) (by decide) (by decide) ?_
    · rcases List.mem_cons.mp hp with rfl | hp
      · exact .head _
      · simp [hp]
    · simp only [List.cons_append, List.nil_append, List.mem_cons, List.not_mem_nil, or_false] at hp
      rcases hp with rfl | rfl | rfl | rfl | rfl <;> simp
    · intro e
      rcases List.mem_cons.mp e with e | e
      · refine hq p ?_ e
        simp only [List.cons_append, List.nil_append, List.mem_cons, List.not_mem_nil, or_false] at hp ⊢
        rcases hp with rfl | rfl | rfl | rfl | rfl <;> simp
      · obtain ⟨y, hy, e⟩ := List.mem_map.mp e
        rcases List.mem_append.mp hp with hp | hp
        · exact hap.ne p hp y (.tail _ (.tail _ hy)) e.symm
        · rcases List.mem_cons.mp hp with rfl | hp
          · exact hap.right.head y (.tail _ hy) e
          · rw [List.mem_singleton.mp hp] at e
            exact hap.right.tail.head y hy e
    · rintro r news' h2 tk2 F2 N2 kp2 fr2 dj2 ⟨dn, ks', rfl, ok2, free2, rfl, ap2⟩
      rw [show Value.ref dn.a = .ref (Tr.node dn ks').addr from rfl]
      generalize Tr.node dn ks' = top at *
      clear F₁ N₁ kp2 fr2 hq hok hfree free2
      k_steps
      unfold Hold
      refine tell_use (dp := 302) (un := 7) (outer := []) ([(s1.heap.objs.size + 1 + 1, o1), (s1.heap.objs.size + 1, o2), (309, tabObj #[])] ++ [(D, listOf ds'.toArray n'), (lv, listOf vs'.toArray n2')]) (was_t _ 3 top top.objs ok2 fun q hq => hq) (by assumption) (by assumption) (by assumption) (by assumption) (by assumption) rfl
        (fun p hp => List.mem_append_left _ hp) (fun p hp => List.mem_append_right _ hp) (fun p hp hm => ?_) (by decide) (by decide) ?_
      · obtain ⟨y, hy, e⟩ := List.mem_map.mp hm
        exact dj2 y hy p hp e
      rintro r news' h3 tk3 F3 N3 _ fr3 dj3 ⟨X, rfl, hwi, hxl, hxc⟩
      k_steps
      unfold Hold
      refine tell_use (dp := 302) (un := 7) (outer := []) (X ++ [(s1.heap.objs.size + 1 + 1, o1), (s1.heap.objs.size + 1, o2), (D, listOf ds'.toArray n'), (lv, listOf vs'.toArray n2')]) (spl1_t _ top 3 ok2 (Apart.cons ap2 fun q hq => dj2 q hq (309, tabObj #[]) (by simp))) (by assumption) (by assumption) (by assumption) (by assumption) (by assumption) rfl
        (fun p hp => ?_) (fun p hp => ?_) (fun p hp hm => ?_) (by decide) (by decide) ?_
      · rcases List.mem_cons.mp hp with rfl | hp
        · simp
        · simp [hp]
      · simp only [List.mem_append, List.mem_cons, List.not_mem_nil, or_false] at hp ⊢
        rcases hp with e | e | e | e | e <;> simp [e]
      · obtain ⟨y, hy, e⟩ := List.mem_map.mp hm
        rcases List.mem_append.mp hp with hp | hp
        · rcases List.mem_cons.mp hy with rfl | hy
          · exact dj3 p (List.mem_append_left _ hp) (309, tabObj #[]) (by simp) e.symm
          · exact hxl p hp y hy e.symm
        · rcases List.mem_cons.mp hy with rfl | hy
          · replace e : 309 = p.1 := e
            simp only [List.mem_cons, List.not_mem_nil, or_false] at hp
            rcases hp with rfl | rfl | rfl | rfl
            · exact absurd e (show (309 : Nat) ≠ s1.heap.objs.size + 1 + 1 by omega)
            · exact absurd e (show (309 : Nat) ≠ s1.heap.objs.size + 1 by omega)
            · exact absurd e (show (309 : Nat) ≠ D from x3.symm)
            · exact absurd e (show (309 : Nat) ≠ lv by omega)
          · exact dj2 y hy p (by simp only [List.mem_append, List.mem_cons, List.not_mem_nil, or_false] at hp ⊢; rcases hp with e | e | e | e <;> simp [e]) e
      rintro r news' h4 tk4 F4 N4 _ fr4 dj4 ⟨top', c, occ, vs4, tq, rfl, hspl, rfl, d1, d2, ap4⟩
      k_steps
      unfold Hold
      rw [← hspl.addr]
      refine tell_use (dp := 302) (un := 7) (outer := []) [(309, tabObj #[rawInt 157, rawInt 4, .ref c]), (c, occ), (s1.heap.objs.size + 1 + 1, o1), (s1.heap.objs.size + 1, o2), (D, listOf ds'.toArray n'), (lv, listOf vs'.toArray n2')] (right_t _ 3 top top' _ (top'.objs ++ X) ok2 hspl (fun q hq => List.mem_append_left _ hq) ?hno (WasIn.mono (fun q hq => List.mem_append_right _ hq) _ hwi)) (by assumption) (by assumption) (by assumption) (by assumption) (by assumption) rfl
        (fun p hp => ?_) (fun p hp => ?_) (fun p hp hm => ?_) (by decide) (by decide) ?_
      case hno =>
        intro q hq
        rcases List.mem_append.mp hq with hq | hq
        · exact (objs_kind top' q hq).1
        · obtain ⟨a1, a2, a3⟩ := hxc q hq
          rw [a3]
          exact fun e => by simp at e
      · simp only [List.mem_append, List.mem_cons, List.not_mem_nil, or_false] at hp ⊢
        rcases hp with e | e <;> simp [e]
      · simp only [List.mem_append, List.mem_cons, List.not_mem_nil, or_false] at hp ⊢
        rcases hp with e | e | e | e | e | e <;> simp [e]
      · obtain ⟨y, hy, e⟩ := List.mem_map.mp hm
        rw [show [(309, tabObj #[rawInt 157, rawInt 4, .ref c]), (c, occ), (s1.heap.objs.size + 1 + 1, o1), (s1.heap.objs.size + 1, o2), (D, listOf ds'.toArray n'), (lv, listOf vs'.toArray n2')] = [(309, tabObj #[rawInt 157, rawInt 4, .ref c]), (c, occ)] ++ [(s1.heap.objs.size + 1 + 1, o1), (s1.heap.objs.size + 1, o2), (D, listOf ds'.toArray n'), (lv, listOf vs'.toArray n2')] from rfl] at hp
        rcases List.mem_append.mp hp with hp | hp
        · rcases List.mem_append.mp hy with hy | hy
          · simp only [List.mem_cons, List.not_mem_nil, or_false] at hp
            rcases hp with rfl | rfl
            · exact ap4.head y (.tail _ hy) e
            · exact ap4.tail.head y hy e
          · refine dj4 p ?_ y (List.mem_append_left _ hy) e.symm
            simp only [List.mem_cons, List.not_mem_nil, or_false] at hp ⊢
            rcases hp with e | e <;> simp [e]
        · rcases List.mem_append.mp hy with hy | hy
          · exact dj4 y (.tail _ (.tail _ hy)) p (List.mem_append_right _ hp) e
          · refine dj3 y (List.mem_append_left _ hy) p ?_ e
            simp only [List.mem_append, List.mem_cons, List.not_mem_nil, or_false] at hp ⊢
            rcases hp with e | e | e | e <;> simp [e]
      rintro r news' h5 tk5 F5 N5 _ fr5 dj5 ⟨rfl, rfl⟩
      have hc9 : (@Ne Nat c 309) := ap4.head (c, occ) (.head _)
      have N6 : News (ghostOf s1.heap [(313, 309)]) s1.heap.objs.size h5 [(309, tabObj #[rawInt 157, rawInt 4, .ref c]), (c, occ), (s1.heap.objs.size + 1 + 1, o1), (s1.heap.objs.size + 1, o2), (D, listOf ds'.toArray n')] := fun q hq => N5 q (by
        simp only [List.mem_append, List.mem_cons, List.not_mem_nil, or_false] at hq ⊢
        rcases hq with e | e | e | e | e <;> simp [e])
      have hcc : (@Ne Nat c D) := dj4 (c, occ) (by simp) (D, listOf ds'.toArray n') (by simp)
      clear N5
      k_steps
      unfold Hold
      refine tell_use (dp := 302) (un := 7) (outer := []) [(309, tabObj #[rawInt 157, rawInt 4, .ref c]), (c, occ)] (leaf_t _ D ds' n' 9 _ hdg) (by assumption) (by assumption) (by assumption) (by assumption) (by assumption) rfl
        (fun p hp => ?_) (fun p hp => ?_) (fun p hp hm => ?_) (by decide) (by decide) ?_
      · rw [List.mem_singleton.mp hp]; simp
      · simp only [List.mem_cons, List.not_mem_nil, or_false] at hp ⊢
        rcases hp with e | e <;> simp [e]
      · have hm' : p.1 = D := by simpa using hm
        simp only [List.mem_cons, List.not_mem_nil, or_false] at hp
        rcases hp with rfl | rfl
        · exact x3 hm'.symm
        · exact hcc hm'
      rintro r news' h6 tk6 F6 N7 _ fr6 dj6 ⟨l, ds2, n2, rfl, lok, lpo, lline, lpar, ldg, lne, lsm, rfl⟩
      have N8 : News (ghostOf s1.heap [(313, 309)]) s1.heap.objs.size h6 ((Tr.leaf l).objs ++ [(309, tabObj #[rawInt 157, rawInt 4, .ref c]), (c, occ)]) := fun q hq => N7 q (by
        simp only [Tr.objs, List.mem_append, List.mem_cons, List.not_mem_nil, or_false] at hq ⊢
        rcases hq with e | e | e <;> simp [e])
      have dj7 : ∀ q ∈ (Tr.leaf l).objs, ∀ r ∈ [(309, tabObj #[rawInt 157, rawInt 4, .ref c]), (c, occ)], q.1 ≠ r.1 := fun q hq => dj6 q (List.mem_append_left _ hq)
      have apl : Apart (Tr.leaf l).objs := Apart.cons (Apart.cons Apart.nil fun q hq => nomatch hq) fun q hq => by rw [List.mem_singleton.mp hq]; exact lne.symm
      have apS : Apart ((309, tabObj #[rawInt 157, rawInt 4, .ref c]) :: (c, occ) :: (Tr.leaf l).objs) := Apart.cons (Apart.cons apl fun q hq => dj7 q hq (c, occ) (by simp)) fun q hq => by
        rcases List.mem_cons.mp hq with rfl | hq
        · exact hc9
        · exact dj7 q hq (309, tabObj #[rawInt 157, rawInt 4, .ref c]) (by simp)
      clear N7
      k_steps
      unfold Hold
      refine tell_use (dp := 302) (un := 7) (outer := []) [(309, tabObj #[rawInt 157, rawInt 4, .ref c]), (c, occ)] (was_t _ 0 (.leaf l) (Tr.leaf l).objs ⟨lok, lpo⟩ fun q hq => hq) (by assumption) (by assumption) (by assumption) (by assumption) (by assumption) rfl
        (fun p hp => List.mem_append_left _ hp) (fun p hp => List.mem_append_right _ hp) (fun p hp hm => ?_) (by decide) (by decide) ?_
      · obtain ⟨y, hy, e⟩ := List.mem_map.mp hm
        exact dj7 y hy p hp e
      rintro r news' h7 tk7 F7 N9 _ fr7 dj8 ⟨X2, rfl, hwi2, hxl2, hxc2⟩
      k_steps
      unfold Hold
      refine tell_use (dp := 302) (un := 7) (outer := []) X2 (spl2_t _ (.leaf l) 0 ⟨lok, lpo⟩ c occ vs4 tq d1 d2 apS) (by assumption) (by assumption) (by assumption) (by assumption) (by assumption) rfl
        (fun p hp => ?_) (fun p hp => ?_) (fun p hp hm => ?_) (by decide) (by decide) ?_
      · simp only [List.mem_append, List.mem_cons, List.not_mem_nil, or_false] at hp ⊢
        rcases hp with e | e | e <;> simp [e]
      · simp [hp]
      · obtain ⟨y, hy, e⟩ := List.mem_map.mp hm
        rcases List.mem_cons.mp hy with rfl | hy
        · exact dj8 p (List.mem_append_left _ hp) (309, tabObj #[rawInt 157, rawInt 4, .ref c]) (by simp) e.symm
        · rcases List.mem_cons.mp hy with rfl | hy
          · exact dj8 p (List.mem_append_left _ hp) (c, occ) (by simp) e.symm
          · exact hxl2 p hp y hy e.symm
      rintro r news' h8 tk8 F8 N10 _ fr8 dj9 ⟨t9, c9, occ9, vs9, tq9, rfl, hspl2, rfl, d19, d29, ap9⟩
      obtain rfl : t9 = .leaf l := hspl2
      k_steps
      unfold Hold
      refine tell_use (dp := 302) (un := 7) (outer := []) [(309, tabObj #[rawInt 157, rawInt 4, .ref c9]), (c9, occ9)] (right_t _ 0 (.leaf l) (.leaf l) _ ((Tr.leaf l).objs ++ X2) ⟨lok, lpo⟩ rfl (fun q hq => List.mem_append_left _ hq) ?hno2 (WasIn.mono (fun q hq => List.mem_append_right _ hq) _ hwi2)) (by assumption) (by assumption) (by assumption) (by assumption) (by assumption) rfl
        (fun p hp => ?_) (fun p hp => ?_) (fun p hp hm => ?_) (by decide) (by decide) ?_
      case hno2 =>
        intro q hq
        rcases List.mem_append.mp hq with hq | hq
        · exact (objs_kind (.leaf l) q hq).1
        · obtain ⟨a1, a2, a3⟩ := hxc2 q hq
          rw [a3]
          exact fun e => by simp at e
      · simp only [List.mem_append, List.mem_cons, List.not_mem_nil, or_false] at hp ⊢
        rcases hp with e | e <;> simp [e]
      · simp only [List.mem_append, List.mem_cons, List.not_mem_nil, or_false] at hp ⊢
        rcases hp with e | e <;> simp [e]
      · obtain ⟨y, hy, e⟩ := List.mem_map.mp hm
        rcases List.mem_append.mp hy with hy | hy
        · simp only [List.mem_cons, List.not_mem_nil, or_false] at hp
          rcases hp with rfl | rfl
          · exact ap9.head y (.tail _ hy) e
          · exact ap9.tail.head y hy e
        · refine dj9 p ?_ y hy e.symm
          simp only [List.mem_cons, List.not_mem_nil, or_false] at hp ⊢
          rcases hp with e | e <;> simp [e]
      rintro r news' h10 tk10 F10 N11 _ fr10 dj10 ⟨rfl, rfl⟩
      have N12 : News (ghostOf s1.heap [(313, 309)]) s1.heap.objs.size h10 [(l.a, instObj 305 l.da), (l.da, dictOf l.es l.n), (309, tabObj #[rawInt 157, rawInt 4, .ref c9])] := fun q hq => N11 q (by
        simp only [Tr.objs, Lf.objs, List.mem_append, List.mem_cons, List.not_mem_nil, or_false] at hq ⊢
        rcases hq with e | e | e <;> simp [e])
      clear N11
      k_steps)
end
end Mine
theorem PySem.Challenge.cw_bp5029_01_holds : PySem.Challenge.rw_bp5029_01.Holds := by
  exact Mine.law_t
