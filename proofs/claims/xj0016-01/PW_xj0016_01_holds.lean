import PyProof.Rows.All
import Wide.All
import OpenK.AllK
import Wide.FinOn
import Lean
import PySem.Challenge.RW_xj0016_01
open PySem PySem.W PySem.Spec PySem.Calls PyProof.Rows
set_option Elab.async false
set_option maxRecDepth 100000
set_option rowWalk.seconds 0
local macro_rules | `(tactic| walk_at "getMethod ref") => `(tactic| k_extra "own getMethod ref")
local macro_rules | `(tactic| walk_at "call builtin:re.Pattern.search") => `(tactic| k_extra "own call builtin:re.Pattern.search")
local macro_rules | `(tactic| walk_at "truthy ref") => `(tactic| k_extra "own truthy ref")
local macro_rules | `(tactic| walk_at "call ref") => `(tactic| k_extra "own call ref")
local macro_rules | `(tactic| walk_at "subscriptTail") => `(tactic| k_extra "own subscriptTail")
local macro_rules | `(tactic| walk_at "binaryOp Add bytes bytes") => `(tactic| k_extra "own binaryOp Add bytes bytes")
local macro_rules | `(tactic| walk_at "call type:str") => `(tactic| k_extra "own call type:str")
local macro_rules | `(tactic| walk_at "call builtin:str.join") => `(tactic| k_extra "own call builtin:str.join")
local macro_rules | `(tactic| walk_at "KCtEl") => `(tactic| k_extra "own KCtEl")
local macro_rules | `(tactic| walk_at "eval ListComp") => `(tactic| k_extra "own eval ListComp")
local macro_rules | `(tactic| walk_at "CompSrc") => `(tactic| k_extra "own CompSrc")
local macro_rules | `(tactic| walk_at "SrcG") => `(tactic| k_extra "own SrcG")
local macro_rules | `(tactic| walk_at "call builtin:str.find") => `(tactic| k_extra "own call builtin:str.find")
local macro_rules | `(tactic| walk_at "truthy str") => `(tactic| k_extra "own truthy str")
local macro_rules | `(tactic| walk_at "call builtin:str.split") => `(tactic| k_extra "own call builtin:str.split")
local macro_rules | `(tactic| walk_at "call builtin:len") => `(tactic| k_extra "own call builtin:len")
local macro_rules | `(tactic| walk_at "delItem ref int") => `(tactic| k_extra "own delItem ref int")
local macro_rules | `(tactic| walk_at "pyIter ref") => `(tactic| k_extra "own pyIter ref")
local macro_rules | `(tactic| walk_at "call type:list") => `(tactic| k_extra "own call type:list")
local macro_rules | `(tactic| walk_at "call builtin:list.pop") => `(tactic| k_extra "own call builtin:list.pop")
local macro_rules | `(tactic| walk_at "call type:int") => `(tactic| k_extra "own call type:int")
local macro_rules | `(tactic| walk_at "m_len") => `(tactic| k_extra "own m_len")
local macro_rules | `(tactic| walk_at "m_form") => `(tactic| k_extra "own m_form")
local macro_rules | `(tactic| walk_at "m_port") => `(tactic| k_extra "own m_port")
local macro_rules | `(tactic| walk_at "m_said") => `(tactic| k_extra "own m_said")
local macro_rules | `(tactic| walk_at "m_ok") => `(tactic| k_extra "own m_ok")
local macro_rules | `(tactic| walk_at "compareOp Eq ref ref") => `(tactic| k_extra "own compareOp Eq ref ref")
local macro_rules | `(tactic| walk_at "compareOp NotEq ref ref") => `(tactic| k_extra "own compareOp NotEq ref ref")
local macro_rules | `(tactic| walk_at "m_b") => `(tactic| k_extra "own m_b")
local macro_rules | `(tactic| walk_at "binaryOp Add str str") => `(tactic| k_extra "own binaryOp Add str str")
local macro_rules | `(tactic| walk_at "last binaryOp Add str str") => `(tactic| k_extra "own last binaryOp Add str str")
local macro_rules | `(tactic| walk_at "binaryOp FloorDiv int int") => `(tactic| k_extra "own binaryOp FloorDiv int int")
local macro_rules | `(tactic| walk_at "call builtin:max") => `(tactic| k_extra "own call builtin:max")
local macro_rules | `(tactic| walk_at "call builtin:sorted") => `(tactic| k_extra "own call builtin:sorted")
local macro_rules | `(tactic| walk_at "CompSrcT") => `(tactic| k_extra "own CompSrcT")
local macro_rules | `(tactic| walk_at "CompEnd") => `(tactic| k_extra "own CompEnd")
local macro_rules | `(tactic| walk_at "InvEndN") => `(tactic| k_extra "own InvEndN")
local macro_rules | `(tactic| walk_at "execs cons") => `(tactic| k_extra "own execs cons")
local macro_rules | `(tactic| walk_at "execs cons Assign cons") => `(tactic| k_extra "own execs cons Assign cons")
local macro_rules | `(tactic| walk_at "m_memq") => `(tactic| k_extra "own m_memq")
local macro_rules | `(tactic| walk_at "exec For Name Call cons nil") => `(tactic| k_extra "own exec For Name Call cons nil")
local macro_rules | `(tactic| walk_at "eval IfExp") => `(tactic| k_extra "own eval IfExp")
local macro_rules | `(tactic| walk_at "binaryOp Pow int int") => `(tactic| k_extra "own binaryOp Pow int int")
local macro_rules | `(tactic| walk_at "subscriptTail Name Name str int") => `(tactic| k_extra "own subscriptTail Name Name str int")
local macro_rules | `(tactic| walk_at "call builtin:str.lower") => `(tactic| k_extra "own call builtin:str.lower")
local macro_rules | `(tactic| walk_at "exec For Tuple Name cons nil") => `(tactic| k_extra "own exec For Tuple Name cons nil")
local macro_rules | `(tactic| walk_at "subscriptTail Name Subscript str int") => `(tactic| k_extra "own subscriptTail Name Subscript str int")
local macro_rules | `(tactic| walk_at "newTuple") => `(tactic| k_extra "own newTuple")
local macro_rules | `(tactic| walk_at "call builtin:bytes.decode") => `(tactic| k_extra "own call builtin:bytes.decode")
local macro_rules | `(tactic| walk_at "call builtin:list.append") => `(tactic| k_extra "own call builtin:list.append")
local macro_rules | `(tactic| walk_at "subscriptTail Name Slice str ref") => `(tactic| k_extra "own subscriptTail Name Slice str ref")
local macro_rules | `(tactic| walk_at "eval BoolOp") => `(tactic| k_extra "own eval BoolOp")
local macro_rules | `(tactic| k_ne) => `(tactic| k_extra "own k_ne")
local macro_rules | `(tactic| k_qdec) => `(tactic| k_extra "own k_qdec")
namespace Mine
set_option maxHeartbeats 0 in
theorem said_row : OpenRow.partSaid PySem.Challenge.rw_xj0016_01.row = true := by
  delta OpenRow.partSaid looksOpen
  repeat' with_reducible refine look_both ?_ ?_
  all_goals decide +kernel
set_option maxHeartbeats 0 in
theorem said : OpenLaw.wellSaid PySem.Challenge.rw_xj0016_01 = true := by
  delta OpenLaw.wellSaid OpenRow.wellSaid
  repeat' with_reducible refine look_both ?_ ?_
  exact said_row
  all_goals decide +kernel
theorem said_line : True := by
  (k_with "own o_law" => refine holds_law Mine.said (fun said => ?_))
  trivial
local macro_rules | `(tactic| o_law) => `(tactic| k_extra "own o_law")
set_option maxRecDepth 100000 in
set_option maxHeartbeats 8000000 in
open_top hd for PySem.Challenge.rw_xj0016_01
end Mine
namespace Mine

/-- what a def's return is handed to -/
noncomputable def Back (R : Result → Shared → Prop) (v : Value) (s' : Shared) : Prop := R (.ok (.ret v)) s'

section
variable {prog : Program} {w : World} {A : Around} {s : Shared} {K : Frag} {L : Addr} {h₀ : Heap} {m mg mb : Str → Option Value} {p : Program} {loose : List Str} {mean : ExcName → Option Value}
theorem enter0 {R : Result → Shared → Prop} {name qual : Str} {params : Arguments} {body : List Stmt} {scope : Scope} {dV kV doc pm cdv ct oc : Value} {an od : Option Addr} {osl : Array (Option Value)} {f : Addr} {args : Args} {binds : List (Str × Value)}
    (F : Fr h₀ L s.heap m) (X₀ : K.In h₀) (T : Top p loose mean mg mb h₀)
    (ho : K.lookup f = some ⟨oc, od, .func (fnOf name qual params body scope dV kV doc pm an cdv ct), osl⟩) (hcd : codeIn K cdv qual = true) (hroom : A.depth < recursionLimit)
    (hbind : BindsTo s (fnOf name qual params body scope dV kV doc pm an cdv ct) args binds) (hloc : ∀ y ∈ binds, scope.names.lookup y.1 = some .local)
    (h : ∀ L' h₁, Fr s.heap L' h₁ (fun y => binds.reverse.lookup y) → News s.heap L' h₁ [] → K.In s.heap → Top p loose mean mg mb s.heap →
      wpAny (model prog w) (A.deeper (envOf qual scope L' f cdv)) (execs body (envOf qual scope L' f cdv))
        (fun fl s' => Back R (match fl with | .ret v => v | _ => .none) s')
        (fun e s' => wpAny (model prog w) (A.deeper (envOf qual scope L' f cdv)) (leaving (envOf qual scope L' f cdv) e) (fun _ s'' => R (.error e) s'') (fun e' s'' => R (.error e') s'') s')
        { s with heap := h₁, toks := s.toks + binds.length })
    (hco : scope.isCoroutine = false) (hgen : scope.isGenerator = false) (hk : scope.kind = .function)
    (hcell : ∀ x ∈ scope.names, x.2 ≠ .cell) : codeAny (model prog w) A (.call (.ref f) args) R s := by
  have X := X₀.keeps F.keep
  refine codeAny_call_def (fd := fnOf name qual params body scope dV kV doc pm an cdv ct) (body := body) (binds := binds) hroom (X _ _ ho) rfl (T.nolimit.keeps F.keep) (codeRec_of X hcd) rfl hbind hcell hloc (fun h₁ hns hk₁ => ?_) hco hgen hk
  exact wpAny_mono (h _ h₁ ⟨hns, hk₁, Nat.le_refl _⟩ News.nil X (T.keeps F.keep)) (fun fl s' hl => hl) fun _ _ y => y
end

/-- a def's contract: it makes objects of its own, leaves all others, gives back -/
noncomputable def Tel (w : World) (dp un : Nat) (f : Addr) (vs : List Value) (pre : Heap → Prop) (post : Heap → Value → Heap → Prop) : Prop :=
  ∀ (mean : ExcName → Option Value) (mg mb : Str → Option Value) (gd : Option (List Code)) (cn : Str) (cs : Scope) (a : Addr) (ccd : Value) (cl : List (Str × Addr)) (outer : List Env) (h₀ : Heap) (L : Addr) (m : Str → Option Value) (s : Shared) (Q E : Value → Shared → Prop),
    Fr h₀ L s.heap m → (hd.heap_1 w.params).In h₀ → Top hd.view_1 (looseW hd.view_1 [Str.ofString "IPV4_RE"]) mean mg mb h₀ → pre s.heap →
    (∀ r h' tk', s.heap.StaysIn h' → post s.heap r h' → Q r { s with heap := h', toks := tk' }) →
    wpAny (model PySem.Challenge.rw_xj0016_01.row.prog w) (ktrTop dp un gd cn cs L a ccd cl outer) (call (.ref f) vs) Q E s

theorem fr_stay {h₀ h h' : Heap} {L : Addr} {m : Str → Option Value} (F : Fr h₀ L h m) (st : h.StaysIn h') : Fr h₀ L h' m := by
  obtain ⟨oL, es, ep, hL, r⟩ := F.ns
  exact ⟨⟨oL, es, ep, st _ _ hL, r⟩, fun b o e => st b o (F.keep b o e), F.above⟩
theorem news_stay {h₀ h h' : Heap} {L : Addr} {news : List (Addr × Obj)} (N : News h₀ L h news) (st : h.StaysIn h') : News h₀ L h' news :=
  fun p hp => ⟨st _ _ (N p hp).1, (N p hp).2⟩
/-- an object that the call made, onto the caller's ledger -/
theorem news_made {h₀ h h' : Heap} {L a : Addr} {o : Obj} {m : Str → Option Value} {news : List (Addr × Obj)} (F : Fr h₀ L h m) (N : News h₀ L h' news) (hn : h.get? a = none) (ho : h'.get? a = some o) : News h₀ L h' ((a, o) :: news) := by
  intro p hp
  rcases List.mem_cons.mp hp with rfl | hp
  · refine ⟨ho, ?_, ?_⟩
    · obtain ⟨oL, es, ep, hL, r⟩ := F.ns
      intro q; subst q; rw [hL] at hn; cases hn
    · cases q : h₀.get? a with
      | none => rfl
      | some o' => rw [F.keep _ _ q] at hn; cases hn
  · exact N p hp

end Mine
namespace Mine
section
variable {prog : Program} {w : World} {A : Around} {E : Value → Shared → Prop} {s : Shared} {env : Env} {h₀ : Heap} {x : Str} {body : List Stmt} {Q : Flow → Shared → Prop}
/-- a for over a list of the ledger that the body leaves as it is -/
theorem iter_V {l : Addr} {vs : List Value} {nn : Nat} {m₀ : Str → Option Value} {news : List (Addr × Obj)} (J : Nat → (Str → Option Value) → Prop)
    (hh : A.handled = none) (hlm : (l, listOf vs.toArray nn) ∈ news) (F : Fr h₀ env.locals s.heap m₀) (N : News h₀ env.locals s.heap news) (hj : J 0 m₀)
    (turn : ∀ i v m₁ h tk own, vs[i]? = some v → J i m₁ → Fr h₀ env.locals h (fun y => if y = x then some v else m₁ y) → News h₀ env.locals h (own ++ news) →
      wpAny (model prog w) A (execs body env) (InvPost h₀ env.locals (J (i + 1)) (own ++ news) { s with heap := h, toks := tk } Q) E { s with heap := h, toks := tk })
    (done : ∀ m₁ h tk, J vs.length m₁ → Fr h₀ env.locals h m₁ → News h₀ env.locals h news → Q .next { s with heap := h, toks := tk }) :
    wpAny (model prog w) A (pyIter (.ref l)) (fun it s₂ => LoopAtV prog w A h₀ env x body Q E it s₂) E s := by
  have hls : s.heap.IsList l vs.toArray := ⟨_, (N _ hlm).1, rfl, nn, rfl⟩
  have hol : s.heap.get? l = some (listOf vs.toArray nn) := (N _ hlm).1
  have hne : l ≠ s.heap.objs.size := Nat.ne_of_lt (Heap.lt_size hol)
  refine wpAny_pyIter_list hls ?_
  have W := Walks.list (prog := prog) (w := w) hh s.heap.objs.size l hne vs.toArray
  rw [List.size_toArray] at W
  let J' : Nat → (Str → Option Value) → List (Addr × Obj) → Prop := fun i m₁ news₁ => news₁ = news ∧ J i m₁
  refine ⟨_, _, _, vs.length, _, _, m₀, news, J', rfl, W, ?_, ?_, ?_, ⟨⟨_, Heap.get?_push_size _ rfl, rfl, rfl⟩, hls.at fun o e => Heap.get?_push_of_some _ e⟩, F.push _, (fun p hp => ⟨Heap.get?_push_of_some _ (N p hp).1, (N p hp).2⟩), ⟨rfl, hj⟩, ?_, ?_⟩
  · intro hm
    rcases List.mem_cons.mp hm with e | hm
    · exact absurd F.ns.lt (e ▸ Nat.lt_irrefl _)
    · exact (N _ hlm).2.1 ((List.mem_singleton.mp hm).symm)
  · intro b hb
    rw [List.mem_singleton.mp hb]
    exact next_is_new F
  · intro p hp hI
    exact absurd (Heap.lt_size (N p hp).1) ((List.mem_singleton.mp hI) ▸ Nat.lt_irrefl _)
  · rintro i v m₁ news₁ s₁ own ⟨hh', tk', rfl⟩ hin hP ⟨rfl, hJ⟩ hoff _ _ _ _ F₁ N₁
    have hlt' : i < vs.length := hin
    have hv : vs[i]? = some v := by simpa using hP
    refine wpAny_mono (turn i v m₁ hh' tk' own hv hJ F₁ N₁) (fun f s₂ p => ?_) fun _ _ e => e
    have fin : InvEnd h₀ env.locals (J (i + 1)) (own ++ news₁) { s with heap := hh', toks := tk' } s₂ → LoopStepU h₀ env.locals [s.heap.objs.size] own (J' (i + 1)) { s with heap := hh', toks := tk' } .next s₂ := by
      rintro ⟨h', tk, m', news', e, F', N', hn, hm⟩
      exact ⟨rfl, h', tk, m', news₁, e, F', fun p hp => N' p (hn p hp), hoff, rfl, hm⟩
    cases f with
    | ret v => exact .ret p
    | brk => exact .brk p
    | next => exact .next (fin p)
    | cont => exact .cont (fin p)
  · rintro h' tk m' news' F' N' _ ⟨rfl, hJ⟩
    exact done m' h' tk hJ F' N'

theorem strs_get {vs : List Value} {ss : List Str} (h : StrsAre vs ss) (i : Nat) (v : Value) (e : vs[i]? = some v) : ∃ y t, v = .str y t ∧ ss[i]? = some y := by
  induction h generalizing i with
  | nil => simp at e
  | cons m t h ih =>
    cases i with
    | zero => simp at e; exact ⟨m, t, e.symm, rfl⟩
    | succ i => simpa using ih i (by simpa using e)

noncomputable def TxEnd (h₀ : Heap) (L : Addr) (need : List (Addr × Obj)) (m₀ : Str → Option Value) (x yn : Str) (P : List Str → Int → Prop) (r : List Str) (s₁ s₂ : Shared) : Prop :=
  ∃ h' tk m' news' p' t', s₂ = { s₁ with heap := h', toks := tk } ∧ Fr h₀ L h' m' ∧ News h₀ L h' news' ∧ (∀ p ∈ need, p ∈ news') ∧ m' yn = some (.int p' t') ∧ P r p' ∧ ∀ z, z ≠ x → z ≠ yn → m' z = m₀ z
noncomputable def TxPost (h₀ : Heap) (L : Addr) (need : List (Addr × Obj)) (m₀ : Str → Option Value) (x yn : Str) (P : List Str → Int → Prop) (r : List Str) (s₁ : Shared) (Q : Flow → Shared → Prop) (f : Flow) (s₂ : Shared) : Prop :=
  match f with
  | .ret v => Q (.ret v) s₂
  | .brk => Q .next s₂
  | _ => TxEnd h₀ L need m₀ x yn P r s₁ s₂
/-- a for over a list of texts that turns one int -/
theorem iter_texts {l : Addr} {vs : List Value} {ss : List Str} {nn : Nat} {m₀ : Str → Option Value} {news : List (Addr × Obj)} {yn : Str} {p₀ : Int} {t₀ : Tok} (P : List Str → Int → Prop)
    (hh : A.handled = none) (hlm : (l, listOf vs.toArray nn) ∈ news) (hi : StrsAre vs ss) (F : Fr h₀ env.locals s.heap m₀) (N : News h₀ env.locals s.heap news) (hy : m₀ yn = some (.int p₀ t₀)) (hyx : yn ≠ x) (hp : P ss p₀)
    (turn : ∀ y r t p tp h tk own, y ∈ ss → P (y :: r) p → Fr h₀ env.locals h (fun z => if z = x then some (.str y t) else if z = yn then some (.int p tp) else m₀ z) → News h₀ env.locals h (own ++ news) →
      wpAny (model prog w) A (execs body env) (TxPost h₀ env.locals (own ++ news) m₀ x yn P r { s with heap := h, toks := tk } Q) E { s with heap := h, toks := tk })
    (done : ∀ (u : Str → Option Value) p t h tk, P [] p → Fr h₀ env.locals h (fun z => if z = x then u z else if z = yn then some (.int p t) else m₀ z) → News h₀ env.locals h news → Q .next { s with heap := h, toks := tk }) :
    wpAny (model prog w) A (pyIter (.ref l)) (fun it s₂ => LoopAtV prog w A h₀ env x body Q E it s₂) E s := by
  refine iter_V (fun i m => (∃ p t, m yn = some (.int p t) ∧ P (ss.drop i) p) ∧ ∀ z, z ≠ x → z ≠ yn → m z = m₀ z) hh hlm F N ⟨⟨p₀, t₀, hy, by simpa using hp⟩, fun _ _ _ => rfl⟩ ?_ ?_
  · rintro i v m₁ h tk own hv ⟨⟨p, tp, ha, hP⟩, hm⟩ F₁ N₁
    obtain ⟨y, t, rfl, hy'⟩ := strs_get hi i v hv
    have hd : ss.drop i = y :: ss.drop (i + 1) := by
      obtain ⟨hlt, rfl⟩ := List.getElem?_eq_some_iff.mp hy'
      exact List.drop_eq_getElem_cons hlt
    rw [hd] at hP
    have e : (fun z => if z = x then some (Value.str y t) else m₁ z) = fun z => if z = x then some (Value.str y t) else if z = yn then some (Value.int p tp) else m₀ z := by
      funext z
      by_cases h1 : z = x
      · simp [h1]
      · simp only [if_neg h1]
        by_cases h2 : z = yn
        · subst h2; simp [ha]
        · simp only [if_neg h2]; exact hm z h1 h2
    rw [e] at F₁
    refine wpAny_mono (turn y _ t p tp h tk own (List.mem_of_getElem? hy') hP F₁ N₁) (fun f s₂ q => ?_) fun _ _ e => e
    have fin : TxEnd h₀ env.locals (own ++ news) m₀ x yn P (ss.drop (i + 1)) { s with heap := h, toks := tk } s₂ → InvEnd h₀ env.locals (fun m => (∃ p t, m yn = some (.int p t) ∧ P (ss.drop (i + 1)) p) ∧ ∀ z, z ≠ x → z ≠ yn → m z = m₀ z) (own ++ news) { s with heap := h, toks := tk } s₂ := by
      rintro ⟨h', tk', m', news', p', t', e, F', N', hn, hm1, hP', hz⟩
      exact ⟨h', tk', m', news', e, F', N', hn, ⟨p', t', hm1, hP'⟩, hz⟩
    cases f with
    | ret v => exact q
    | brk => exact q
    | next => exact fin q
    | cont => exact fin q
  · rintro m₁ h tk ⟨⟨p, t, ha, hP⟩, hm⟩ F₁ N₁
    rw [hi.length, List.drop_length] at hP
    refine done m₁ p t h tk hP ?_ N₁
    have e : (fun z => if z = x then m₁ z else if z = yn then some (Value.int p t) else m₀ z) = m₁ := by
      funext z
      by_cases h1 : z = x
      · simp [h1]
      · simp only [if_neg h1]
        by_cases h2 : z = yn
        · subst h2; simp [ha]
        · simp only [if_neg h2]; exact (hm z h1 h2).symm
    rw [e]; exact F₁
theorem TxEnd.intro {L : Addr} {need news' : List (Addr × Obj)} {m₀ m' : Str → Option Value} {yn : Str} {P : List Str → Int → Prop} {r : List Str} {s₁ : Shared} {h' : Heap} {tk : Nat} {p' : Int} {t' : Tok} (F : Fr h₀ L h' m') (N : News h₀ L h' news') (hn : ∀ p ∈ need, p ∈ news') (hm : m' yn = some (.int p' t')) (hP : P r p') (hz : ∀ z, z ≠ x → z ≠ yn → m' z = m₀ z) :
    TxEnd h₀ L need m₀ x yn P r s₁ { s₁ with heap := h', toks := tk } := ⟨h', tk, m', news', p', t', rfl, F, N, hn, hm, hP, hz⟩
end
/-- a piece of the program's text, by its place -/
noncomputable def bodyOf : Stmt → List Stmt
  | .FunctionDef _ _ b _ _ _ _ _ _ _ => b
  | .For _ _ b _ _ => b
  | _ => []
noncomputable def nth : List Stmt → Nat → List Stmt
  | [], _ => []
  | s :: _, 0 => bodyOf s
  | _ :: r, n + 1 => nth r n
noncomputable def defBody (n : Nat) : List Stmt := nth PySem.Challenge.pw_xj0016_01.main.body n
theorem fr_kst {h₀ h : Heap} {L : Addr} {m : Str → Option Value} (ps : List (Str × Value)) (F : Fr h₀ L h m) (hp : ∀ p ∈ ps, m p.1 = some p.2) : Fr h₀ L h (kstB m ps) := by
  have e : kstB m ps = m := by funext z; exact kstB_eq hp fun _ => rfl
  rw [e]; exact F
noncomputable def scopeOf : Stmt → Scope
  | .FunctionDef _ _ _ _ _ _ s _ _ _ => s
  | _ => ⟨.function, [], false, false, []⟩
noncomputable def nthS : List Stmt → Nat → Scope
  | [], _ => ⟨.function, [], false, false, []⟩
  | s :: _, 0 => scopeOf s
  | _ :: r, n + 1 => nthS r n
noncomputable def defScope (n : Nat) : Scope := nthS PySem.Challenge.pw_xj0016_01.main.body n
end Mine
namespace Mine
open PySem.Sre
noncomputable abbrev RC : Array Nat := #[14, 8, 1, 2, 4294967295, 1, 1, 46, 0, 16, 46, 24, 9, 1, 4294967295, 13, 4, 8, 0, 0, 1, 6, 5, 1]
noncomputable def rm (T : Array Nat) (start handed pc pos : Nat) (o : Bool) (fs : List Sre.Frame) (wt : Nat) (ans : Option Bool) (seen : Sre.Seen) : M :=
  { code := RC, text := T, lim := T.size, start, lastStart := T.size, wholeText := false, mustAdvance := false, pc, pos, handed, outermost := o, marks := #[], lastmark := -1, lastindex := -1, loops := #[], inner := none, frames := fs, weight := wt, answer := ans, seen, outcome := none }
noncomputable def fS (s : Nat) (o : Bool) : Sre.Frame := { wait := .nextStart, pc := 9, pos := s, outermost := o }
noncomputable def fG (p : Nat) (o : Bool) (n : Int) : Sre.Frame := { wait := .giveBack, pc := 11, pos := p, outermost := o, count := n, kept := { lastmark := -1, lastindex := -1, whole := false, marks := #[] } }
theorem op9 : ops[RC.getD 9 0]? = some .LITERAL := rfl
theorem op11 : ops[RC.getD 11 0]? = some .REPEAT_ONE := rfl
theorem op21 : ops[RC.getD 21 0]? = some .AT := rfl
theorem op23 : ops[RC.getD 23 0]? = some .SUCCESS := rfl
theorem op15 : ops[RC.getD 15 0]? = some .IN := rfl

theorem step_exec {T : Array Nat} {a b pc s : Nat} {o : Bool} {fs : List Sre.Frame} {wt : Nat} {seen : Sre.Seen} (h : pc < 24) : (rm T a b pc s o fs wt none seen).step = (rm T a b pc s o fs wt none seen).exec := by
  have e : (rm T a b pc s o fs wt none seen).step = (if pc < RC.size then (rm T a b pc s o fs wt none seen).exec else (rm T a b pc s o fs wt none seen).stick "code:ran-off") := by cases fs <;> rfl
  rw [e, if_pos (show pc < RC.size from h)]
theorem lit_no {T : Array Nat} {a b s : Nat} {o : Bool} {fs : List Sre.Frame} {wt : Nat} {seen : Sre.Seen} (h : ¬ (s < T.size ∧ T.getD s 0 = 46)) :
    (rm T a b 9 s o fs wt none seen).step = rm T a b 9 s o fs wt (some false) (seen.add 16) := by
  rw [step_exec (by decide)]
  unfold M.exec
  simp only [show ops[(rm T a b 9 s o fs wt none seen).word 0]? = some .LITERAL from op9]
  by_cases hs : s < T.size
  · have h46 : ¬ T.getD s 0 = 46 := fun e => h ⟨hs, e⟩
    have ha : accepts RC 9 (T.getD s 0) (seen.add 16) = .ok (false, seen.add 16) := by
      unfold accepts
      rw [op9]
      show Except.ok (T.getD s 0 == 46, _) = _
      rw [show (T.getD s 0 == 46) = false from by simpa using h46]
    refine (if_neg (show ¬ s ≥ T.size by (first | lia | omega))).trans ?_
    show (match accepts RC 9 (T.getD s 0) (seen.add 16) with | .error why => (_ : M) | .ok (false, seen) => (_ : M) | .ok (true, seen) => (_ : M)) = _
    rw [ha]
    rfl
  · exact if_pos (show s ≥ T.size by (first | lia | omega))
theorem lit_yes {T : Array Nat} {a b s : Nat} {o : Bool} {fs : List Sre.Frame} {wt : Nat} {seen : Sre.Seen} (h : s < T.size ∧ T.getD s 0 = 46) :
    (rm T a b 9 s o fs wt none seen).step = rm T a b 11 (s + 1) o fs wt none (seen.add 16) := by
  rw [step_exec (by decide)]
  unfold M.exec
  simp only [show ops[(rm T a b 9 s o fs wt none seen).word 0]? = some .LITERAL from op9]
  have ha : accepts RC 9 (T.getD s 0) (seen.add 16) = .ok (true, seen.add 16) := by
    unfold accepts
    rw [op9]
    show Except.ok (T.getD s 0 == 46, _) = _
    rw [show (T.getD s 0 == 46) = true from by simpa using h.2]
  refine (if_neg (show ¬ s ≥ T.size by (first | lia | omega))).trans ?_
  show (match accepts RC 9 (T.getD s 0) (seen.add 16) with | .error why => (_ : M) | .ok (false, seen) => (_ : M) | .ok (true, seen) => (_ : M)) = _
  rw [ha]
  rfl
theorem start_no {T : Array Nat} {a b pc pos s : Nat} {o o' : Bool} {seen : Sre.Seen} (h : s < T.size) :
    (rm T a b pc pos o [fS s o'] 1 (some false) seen).step = rm T (s + 1) (s + 1) 9 (s + 1) false [fS (s + 1) false] 1 none seen := by
  show (if s < T.size then _ else _) = _
  rw [if_pos h]
  rfl
theorem start_last {T : Array Nat} {a b pc pos s : Nat} {o o' : Bool} {seen : Sre.Seen} (h : ¬ s < T.size) :
    (rm T a b pc pos o [fS s o'] 1 (some false) seen).step = rm T a b 9 s o' [] 0 (some false) seen := by
  show (if s < T.size then _ else _) = _
  rw [if_neg h]
  rfl
theorem start_yes {T : Array Nat} {a b pc pos s : Nat} {o o' : Bool} {seen : Sre.Seen} :
    (rm T a b pc pos o [fS s o'] 1 (some true) seen).step = rm T a b 9 s o' [] 0 (some true) seen := rfl
theorem last_out {T : Array Nat} {a b pc pos : Nat} {o : Bool} {wt : Nat} {y : Bool} {seen : Sre.Seen} :
    ((rm T a b pc pos o [] wt (some y) seen).step).outcome = some (if y then .matched else .failed) := rfl
theorem give_yes {T : Array Nat} {a b pc pos p : Nat} {o o' : Bool} {fs : List Sre.Frame} {n : Int} {wt : Nat} {seen : Sre.Seen} :
    (rm T a b pc pos o (fG p o' n :: fs) (wt + 1) (some true) seen).step = rm T a b 11 p o' fs wt (some true) seen := rfl
theorem give_last {T : Array Nat} {a b pc pos p : Nat} {o o' : Bool} {fs : List Sre.Frame} {n : Int} {wt : Nat} {seen : Sre.Seen} (h : n - 1 < 1) :
    (rm T a b pc pos o (fG p o' n :: fs) (wt + 1) (some false) seen).step = rm T a b 11 p o' fs wt (some false) seen := by
  show (if n - 1 < 1 then _ else _) = _
  rw [if_pos h]
  rfl
theorem give_no {T : Array Nat} {a b pc pos p : Nat} {o o' : Bool} {fs : List Sre.Frame} {n : Int} {seen : Sre.Seen} (h : ¬ n - 1 < 1) :
    (rm T a b pc pos o (fG p o' n :: fs) 2 (some false) seen).step = rm T a (p - 1) 21 (p - 1) o' (fG (p - 1) o' (n - 1) :: fs) 2 none seen := by
  show (if n - 1 < 1 then _ else _) = _
  rw [if_neg h]
  rfl
noncomputable def atEnd (T : Array Nat) (q : Nat) : Bool := q == T.size || (q + 1 == T.size && T.getD q 0 == 10)
theorem at_yes {T : Array Nat} {a b q : Nat} {o : Bool} {fs : List Sre.Frame} {wt : Nat} {seen : Sre.Seen} (h : atEnd T q = true) :
    (rm T a b 21 q o fs wt none seen).step = rm T a b 23 q o fs wt none ((seen.add 6).add 48) := by
  rw [step_exec (by decide)]
  unfold M.exec
  simp only [show ops[(rm T a b 21 q o fs wt none seen).word 0]? = some .AT from op21]
  show (if atEnd T q = true then _ else _) = _
  rw [if_pos h]
  rfl
theorem at_no {T : Array Nat} {a b q : Nat} {o : Bool} {fs : List Sre.Frame} {wt : Nat} {seen : Sre.Seen} (h : atEnd T q = false) :
    (rm T a b 21 q o fs wt none seen).step = rm T a b 21 q o fs wt (some false) ((seen.add 6).add 48) := by
  rw [step_exec (by decide)]
  unfold M.exec
  simp only [show ops[(rm T a b 21 q o fs wt none seen).word 0]? = some .AT from op21]
  show (if atEnd T q = true then _ else _) = _
  rw [if_neg (by rw [h]; decide)]
  rfl
theorem succ_yes {T : Array Nat} {a b q : Nat} {o : Bool} {fs : List Sre.Frame} {wt : Nat} {seen : Sre.Seen} :
    (rm T a b 23 q o fs wt none seen).step = rm T a q 23 q o fs wt (some true) (seen.add 1) := by
  rw [step_exec (by decide)]
  unfold M.exec
  simp only [show ops[(rm T a b 23 q o fs wt none seen).word 0]? = some .SUCCESS from op23]
  cases o <;> rfl
/-- how many digits stand from p on, n at most -/
noncomputable def digs (T : Array Nat) : Nat → Nat → Nat
  | 0, _ => 0
  | n + 1, p => if Sre.isDigit (T.getD p 0) then digs T n (p + 1) + 1 else 0
theorem acc15 (c : Nat) (seen : Sre.Seen) : ∃ seen', accepts RC 15 c seen = .ok (Sre.isDigit c, seen') := by
  cases hd : Sre.isDigit c with
  | true =>
    refine ⟨(seen.add 8).add 55, ?_⟩
    unfold accepts
    rw [op15]
    show (do if ← category 0 c then pure (true, (seen.add 8).add 55) else _ : Except String (Bool × Sre.Seen)) = _
    have : category 0 c = .ok true := by
      show Except.ok (Sre.isDigit c != false) = _
      rw [hd]; rfl
    rw [this]
    rfl
  | false =>
    refine ⟨((seen.add 8).add 55).add 0, ?_⟩
    unfold accepts
    rw [op15]
    have : category 0 c = .ok false := by
      show Except.ok (Sre.isDigit c != false) = _
      rw [hd]; rfl
    show (do if ← category 0 c then pure (true, (seen.add 8).add 55) else Sre.inSet RC c 22 19 true ((seen.add 8).add 55) : Except String (Bool × Sre.Seen)) = _
    rw [this]
    rfl
theorem run15 (T : Array Nat) : ∀ (n p f : Nat) (seen : Sre.Seen), ∃ seen', Sre.run RC T 15 n p f seen = .ok (f + digs T n p, seen')
  | 0, _, f, seen => ⟨seen, rfl⟩
  | n + 1, p, f, seen => by
    obtain ⟨seen', e⟩ := acc15 (T.getD p 0) seen
    rw [Sre.run, e]
    cases hd : Sre.isDigit (T.getD p 0) with
    | true =>
      obtain ⟨s2, e2⟩ := run15 T n (p + 1) (f + 1) seen'
      refine ⟨s2, ?_⟩
      show Sre.run RC T 15 n (p + 1) (f + 1) seen' = _
      rw [e2, digs, hd, if_pos rfl]
      congr 2; (first | lia | omega)
    | false =>
      refine ⟨seen', ?_⟩
      show Except.ok (f, seen') = _
      rw [digs, hd, if_neg Bool.false_ne_true]
      rfl
theorem digs_le (T : Array Nat) : ∀ n p, digs T n p ≤ n
  | 0, _ => Nat.le_refl _
  | n + 1, p => by
    rw [digs]; split
    · have := digs_le T n (p + 1); (first | lia | omega)
    · (first | lia | omega)
theorem digs_are (T : Array Nat) : ∀ n p q, p ≤ q → q < p + digs T n p → Sre.isDigit (T.getD q 0) = true
  | 0, p, q, h1, h2 => by simp [digs] at h2; (first | lia | omega)
  | n + 1, p, q, h1, h2 => by
    rw [digs] at h2
    by_cases hd : Sre.isDigit (T.getD p 0) = true
    · rw [if_pos hd] at h2
      by_cases e : q = p
      · rw [e]; exact hd
      · exact digs_are T n (p + 1) q (by (first | lia | omega)) (by (first | lia | omega))
    · rw [if_neg hd] at h2; (first | lia | omega)
theorem rep_none {T : Array Nat} {a b p : Nat} {o : Bool} {fs : List Sre.Frame} {wt : Nat} {seen : Sre.Seen} (hp : p ≤ T.size) (h : digs T (T.size - p) p = 0) (hz : T.size < 4294967295) :
    ∃ seen', (rm T a b 11 p o fs wt none seen).step = rm T a b 11 p o fs wt (some false) seen' := by
  rw [step_exec (by decide)]
  unfold M.exec
  simp only [show ops[(rm T a b 11 p o fs wt none seen).word 0]? = some .REPEAT_ONE from op11]
  by_cases hr : (1 : Int) > (T.size : Int) - p
  · exact ⟨seen.add 24, if_pos hr⟩
  · obtain ⟨s', e⟩ := run15 T (min 4294967295 ((T.size : Int) - p).toNat) p 0 ((seen.add 24).add 13)
    have hm : min 4294967295 ((T.size : Int) - p).toNat = T.size - p := by (first | lia | omega)
    rw [hm, h] at e
    refine ⟨s', ?_⟩
    refine (if_neg hr).trans ?_
    show (match Sre.run RC T 15 (min 4294967295 ((T.size : Int) - p).toNat) p 0 ((seen.add 24).add 13) with | .error why => (_ : M) | .ok (n, seen) => (_ : M)) = _
    rw [hm, e]
    rfl
theorem rep_some {T : Array Nat} {a b p : Nat} {o : Bool} {fs : List Sre.Frame} {seen : Sre.Seen} (hp : p ≤ T.size) (h : digs T (T.size - p) p ≠ 0) (hz : T.size < 4294967295) :
    ∃ seen', (rm T a b 11 p o fs 1 none seen).step = rm T a (p + digs T (T.size - p) p) 21 (p + digs T (T.size - p) p) o (fG (p + digs T (T.size - p) p) o (digs T (T.size - p) p) :: fs) 2 none seen' := by
  rw [step_exec (by decide)]
  unfold M.exec
  simp only [show ops[(rm T a b 11 p o fs 1 none seen).word 0]? = some .REPEAT_ONE from op11]
  have hr : ¬ (1 : Int) > (T.size : Int) - p := by have := digs_le T (T.size - p) p; (first | lia | omega)
  obtain ⟨s', e⟩ := run15 T (min 4294967295 ((T.size : Int) - p).toNat) p 0 ((seen.add 24).add 13)
  have hm : min 4294967295 ((T.size : Int) - p).toNat = T.size - p := by (first | lia | omega)
  rw [hm] at e
  refine ⟨s', ?_⟩
  refine (if_neg hr).trans ?_
  show (match Sre.run RC T 15 (min 4294967295 ((T.size : Int) - p).toNat) p 0 ((seen.add 24).add 13) with | .error why => (_ : M) | .ok (n, seen) => (_ : M)) = _
  rw [hm, e, Nat.zero_add]
  show (if digs T (T.size - p) p < 1 then _ else _) = _
  rw [if_neg (by (first | lia | omega))]
  rfl
noncomputable def Ends (n : Nat) (m : M) (b : Bool) : Prop := (m.runFor n).outcome = some (if b then .matched else .failed)
theorem runFor_done : ∀ (n : Nat) (m : M), m.outcome.isSome = true → m.runFor n = m
  | 0, _, _ => rfl
  | n + 1, m, h => by rw [M.runFor, if_pos h]
theorem runFor_add : ∀ (n k : Nat) (m : M), m.runFor (n + k) = (m.runFor n).runFor k
  | 0, k, m => by rw [Nat.zero_add]; rfl
  | n + 1, k, m => by
    rw [Nat.add_right_comm, M.runFor, M.runFor]
    by_cases h : m.outcome.isSome = true
    · rw [if_pos h, if_pos h, runFor_done k m h]
    · rw [if_neg h, if_neg h, runFor_add n k]
theorem Ends.more {n k : Nat} {m : M} {b : Bool} (h : Ends n m b) (hk : n ≤ k) : Ends k m b := by
  obtain ⟨d, rfl⟩ := Nat.exists_eq_add_of_le hk
  unfold Ends at h ⊢
  rw [runFor_add, runFor_done d _ (by rw [h]; rfl)]
  exact h
theorem Ends.step {n : Nat} {T : Array Nat} {a c pc pos : Nat} {o : Bool} {fs : List Sre.Frame} {wt : Nat} {ans : Option Bool} {seen : Sre.Seen} {b : Bool} {m' : M} (e : (rm T a c pc pos o fs wt ans seen).step = m') (h : Ends n m' b) : Ends (n + 1) (rm T a c pc pos o fs wt ans seen) b := by
  unfold Ends
  rw [M.runFor, if_neg (show ¬ (rm T a c pc pos o fs wt ans seen).outcome.isSome = true from Bool.false_ne_true), e]
  exact h
theorem Ends.last {T : Array Nat} {a c pc pos : Nat} {o : Bool} {wt : Nat} {y : Bool} {seen : Sre.Seen} : Ends 1 (rm T a c pc pos o [] wt (some y) seen) y := by
  unfold Ends
  rw [M.runFor, if_neg (show ¬ (rm T a c pc pos o [] wt (some y) seen).outcome.isSome = true from Bool.false_ne_true), runFor_done 0 _ (by rw [last_out]; rfl), last_out]
noncomputable def tailAt (T : Array Nat) (s : Nat) : Bool := decide (s < T.size) && T.getD s 0 == 46 && decide (digs T (T.size - (s + 1)) (s + 1) ≠ 0) && atEnd T (s + 1 + digs T (T.size - (s + 1)) (s + 1))
noncomputable def tailFrom (T : Array Nat) : Nat → Nat → Bool
  | 0, _ => false
  | k + 1, s => tailAt T s || tailFrom T k (s + 1)
theorem tailFrom_out (T : Array Nat) : ∀ k s, T.size ≤ s → tailFrom T k s = false
  | 0, _, _ => rfl
  | k + 1, s, h => by
    rw [tailFrom, tailFrom_out T k (s + 1) (by (first | lia | omega)), tailAt, decide_eq_false (by (first | lia | omega))]
    rfl
/-- giving back, digit by digit: never at the end -/
theorem give_ends {T : Array Nat} {s : Nat} {o : Bool} {b : Bool} {B : Nat} (hnext : ∀ a c pc pos o' seen, Ends B (rm T a c pc pos o' [fS s o] 1 (some false) seen) b) :
    ∀ (n p a c pc pos : Nat) (o' : Bool) (seen : Sre.Seen), (∀ q, p - n ≤ q → q < p → Sre.isDigit (T.getD q 0) = true) → n ≤ p → p ≤ T.size → Ends (2 * n + B + 1) (rm T a c pc pos o' (fG p o' n :: [fS s o]) 2 (some false) seen) b
  | 0, p, a, c, pc, pos, o', seen, _, _, _ => (Ends.step (give_last (by decide)) (hnext ..)).more (by (first | lia | omega))
  | 1, p, a, c, pc, pos, o', seen, _, _, _ => (Ends.step (give_last (by decide)) (hnext ..)).more (by (first | lia | omega))
  | n + 2, p, a, c, pc, pos, o', seen, hd, hn, hp => by
    refine (Ends.step (n := 2 * (n + 1) + B + 2) (give_no (by (first | lia | omega))) ?_).more (by (first | lia | omega))
    have h1 := hd (p - 1) (by (first | lia | omega)) (by (first | lia | omega))
    have hat : atEnd T (p - 1) = false := by
      unfold atEnd
      have : ¬ T.getD (p - 1) 0 = 10 := by
        intro e; rw [e] at h1; exact absurd h1 (by decide)
      rw [show (p - 1 == T.size) = false from by simp; (first | lia | omega), show (T.getD (p - 1) 0 == 10) = false from by simpa using this]
      simp
    refine Ends.step (n := 2 * (n + 1) + B + 1) (at_no hat) ?_
    have e : ((n + 2 : Nat) : Int) - 1 = ((n + 1 : Nat) : Int) := by (first | lia | omega)
    rw [e]
    exact give_ends hnext (n + 1) (p - 1) _ _ _ _ _ _ (fun q h1 h2 => hd q (by (first | lia | omega)) (by (first | lia | omega))) (by (first | lia | omega)) (by (first | lia | omega))
theorem start_ends {T : Array Nat} (hz : T.size < 4294967295) : ∀ (k s a c : Nat) (o : Bool) (seen : Sre.Seen), T.size = s + k → Ends ((k + 1) * (3 * T.size + 10)) (rm T a c 9 s o [fS s o] 1 none seen) (tailFrom T (k + 1) s) := by
  intro k
  induction k with
  | zero =>
    intro s a c o seen hk
    rw [tailFrom_out T 1 s (by (first | lia | omega))]
    exact (Ends.step (lit_no (by (first | lia | omega))) (Ends.step (start_last (by (first | lia | omega))) Ends.last)).more (by (first | lia | omega))
  | succ k ih =>
    intro s a c o seen hk
    have next : ∀ (a c pc pos : Nat) (o' o : Bool) seen, Ends ((k + 1) * (3 * T.size + 10) + 1) (rm T a c pc pos o' [fS s o] 1 (some false) seen) (tailFrom T (k + 1) (s + 1)) := fun a c pc pos o' o seen =>
      Ends.step (start_no (by (first | lia | omega))) (ih (s + 1) _ _ _ _ (by (first | lia | omega)))
    have big : (k + 1 + 1) * (3 * T.size + 10) = (k + 1) * (3 * T.size + 10) + (3 * T.size + 10) := by rw [Nat.add_mul, Nat.one_mul]
    rw [tailFrom, big]
    generalize (k + 1) * (3 * T.size + 10) = B at next ⊢
    by_cases h46 : s < T.size ∧ T.getD s 0 = 46
    · by_cases hd : digs T (T.size - (s + 1)) (s + 1) = 0
      · rw [tailAt, hd, show decide ((0 : Nat) ≠ 0) = false from rfl]
        simp only [Bool.and_false, Bool.false_and, Bool.false_or]
        obtain ⟨s', e⟩ := rep_none (T := T) (a := a) (b := c) (p := s + 1) (o := o) (fs := [fS s o]) (wt := 1) (seen := seen.add 16) (by (first | lia | omega)) hd hz
        exact (Ends.step (lit_yes h46) (Ends.step e (next ..))).more (by (first | lia | omega))
      · obtain ⟨s', e⟩ := rep_some (T := T) (a := a) (b := c) (p := s + 1) (o := o) (fs := [fS s o]) (seen := seen.add 16) (by (first | lia | omega)) hd hz
        have hle := digs_le T (T.size - (s + 1)) (s + 1)
        have hda := digs_are T (T.size - (s + 1)) (s + 1)
        rw [tailAt, show decide (digs T (T.size - (s + 1)) (s + 1) ≠ 0) = true from by simpa using hd, decide_eq_true h46.1, h46.2]
        simp only [beq_self_eq_true, Bool.true_and]
        generalize digs T (T.size - (s + 1)) (s + 1) = d at *
        cases hat : atEnd T (s + 1 + d) with
        | true =>
          rw [Bool.true_or]
          exact (Ends.step (lit_yes h46) (Ends.step e (Ends.step (at_yes hat) (Ends.step succ_yes (Ends.step give_yes (Ends.step start_yes Ends.last)))))).more (by (first | lia | omega))
        | false =>
          rw [Bool.false_or]
          refine (Ends.step (lit_yes h46) (Ends.step e (Ends.step (at_no hat) (give_ends (B := B + 1) (fun _ _ _ _ _ _ => next ..) d (s + 1 + d) _ _ _ _ _ _ (fun q h1 h2 => hda q (by (first | lia | omega)) h2) (by (first | lia | omega)) (by (first | lia | omega)))))).more (by (first | lia | omega))
    · have ht : tailAt T s = false := by
        rw [tailAt]
        by_cases hs : s < T.size
        · have : ¬ T.getD s 0 = 46 := fun e => h46 ⟨hs, e⟩
          rw [show (T.getD s 0 == 46) = false from by simpa using this]
          simp
        · rw [decide_eq_false hs]; simp
      rw [ht, Bool.false_or]
      exact (Ends.step (lit_no h46) (next ..)).more (by (first | lia | omega))
/-- what IPV4_RE.search finds -/
noncomputable def ipTail (T : Array Nat) : Bool := decide (2 ≤ T.size) && tailFrom T (T.size + 1) 0
theorem search_ends (T : Array Nat) (hz : T.size ≤ 100000) : Ends (2 ^ 60) (forSearch RC T 0 0 T.size false) (ipTail T) := by
  by_cases h : 2 ≤ T.size
  · have e : forSearch RC T 0 0 T.size false = rm T 0 0 9 0 true [fS 0 true] 1 none (({} : Sre.Seen).add 14) := by
      show (if (decide (0 > T.size) || decide (T.size - 0 < 2)) = true then _ else _) = _
      rw [if_neg (by simp; (first | lia | omega))]
      rfl
    rw [e, ipTail, decide_eq_true h, Bool.true_and]
    refine (start_ends (by (first | lia | omega)) T.size 0 _ _ _ _ (by (first | lia | omega))).more ?_
    calc (T.size + 1) * (3 * T.size + 10) ≤ 200000 * 400000 := Nat.mul_le_mul (by (first | lia | omega)) (by (first | lia | omega))
      _ ≤ 2 ^ 60 := by decide
  · have e : forSearch RC T 0 0 T.size false = { rm T 0 0 9 0 true [] 0 (some false) (({} : Sre.Seen).add 14) with lastStart := 0 } := by
      show (if (decide (0 > T.size) || decide (T.size - 0 < 2)) = true then _ else _) = _
      rw [if_pos (by simp; (first | lia | omega))]
      rfl
    rw [e, ipTail, decide_eq_false h, Bool.false_and]
    refine Ends.more (n := 1) ?_ (by decide)
    rfl
end Mine
namespace Mine
theorem re_attrs : PlainAttrs "re.Pattern" :=
  ⟨⟨"object.__getattribute__", by rw [typeLookup_type, builtinLookup_eq_fast]; kernel_rfl, by decide +kernel⟩, by rw [typeLookup_type, builtinLookup_eq_fast]; kernel_rfl⟩
theorem re_slot : Slot "re.Pattern" "search" "re.Pattern.search" :=
  .of (owner := "re.Pattern") (n := "search") (by rw [typeLookup_type, builtinLookup_eq_fast]; kernel_rfl) (by decide +kernel) (by decide +kernel) (by decide +kernel)
    (by first | exact .inl (by decide +kernel) | exact .inr (by decide +kernel)) (by rw [isSubtype_type]; kernel_rfl)
theorem re_type : typeOf (.builtin "re.Pattern.search") = pure (.type "method_descriptor") := by show builtinType _ = _; rw [builtinType_eq_fast]; kernel_rfl
theorem re_entry : entryFor table "re.Pattern.search" = some Builtin.«re.Pattern.search» := entryFor_of_tree (by kernel_rfl)
theorem re_args (a b : Value) : argsOk "re.Pattern.search" ⟨[a, b], []⟩ := by
  unfold argsOk; kernel_rfl
theorem match_no_bool : typeLookup (.type "re.Match") "__bool__" = pure none := by rw [typeLookup_type, builtinLookup_eq_fast]; kernel_rfl
theorem match_no_len : typeLookup (.type "re.Match") "__len__" = pure none := by rw [typeLookup_type, builtinLookup_eq_fast]; kernel_rfl
section
open PySem.Builtin PySem.Builtin.Re
variable {Mo : Model} {A : Around} {E : Value → Shared → Prop} {s : Shared} {x : Str} {t : Tok}
theorem drive_wp {b : Bool} {Q : Sre.M → Shared → Prop} : ∀ (n k : Nat) (m : Sre.M), k ≤ 4 * n → 0 < n → Ends k m b → (∀ m' : Sre.M, m'.outcome = some (if b then .matched else .failed) → Q m' s) → wpAny Mo A (reDrive n m) Q E s
  | 0, _, _, _, h0, _, _ => absurd h0 (Nat.lt_irrefl 0)
  | n + 1, k, m, hk, _, he, h => by
    unfold reDrive
    show wpAny Mo A (if (m.runFor reTurnSteps).outcome.isSome = true then pure (m.runFor reTurnSteps) else _) Q E s
    by_cases hd : (m.runFor reTurnSteps).outcome.isSome = true
    · rw [if_pos hd]
      refine wpAny_pure (h _ ?_)
      have e := runFor_add reTurnSteps k m
      rw [runFor_done k _ hd] at e
      rw [← e]
      exact (he.more (Nat.le_add_left k reTurnSteps) : Ends (reTurnSteps + k) m b)
    · rw [if_neg hd]
      have hk4 : 4 < k := by
        refine Nat.lt_of_not_le fun hle => hd ?_
        have := he.more hle
        unfold Ends at this
        show (m.runFor 4).outcome.isSome = true
        rw [this]; rfl
      refine wpAny_bind (wpAny_rule (drive_wp n (k - 4) (m.runFor reTurnSteps) (by (first | lia | omega)) (by (first | lia | omega)) ?_ h))
      unfold Ends at he ⊢
      rw [show reTurnSteps = 4 from rfl, ← runFor_add, show 4 + (k - 4) = k by (first | lia | omega)]
      exact he
theorem rules_wp {Q : PUnit → Shared → Prop} (m : Sre.M) (h : Q PUnit.unit s) : ∀ l : List Nat, wpAny Mo A (forIn l PUnit.unit fun i (_ : PUnit) => if m.seen.has i = true then do
      rule (Sre.names.getD i "")
      pure (ForInStep.yield PUnit.unit)
    else (pure (ForInStep.yield PUnit.unit) : Sem (ForInStep PUnit))) Q E s := by
  intro l
  induction l with
  | nil => exact wpAny_pure h
  | cons a r ih =>
    rw [List.forIn_cons]
    by_cases hs : m.seen.has a = true
    · rw [if_pos hs]
      exact wpAny_bind (wpAny_bind (wpAny_rule (wpAny_pure ih)))
    · rw [if_neg hs]
      exact wpAny_bind (wpAny_pure ih)
theorem toEnd_wp {T : Array Nat} {Q : Option Sre.M → Shared → Prop} (hT : T.size ≤ 100000) (h1 : ipTail T = false → Q none s) (h2 : ipTail T = true → ∀ m, Q (some m) s) : wpAny Mo A (reRunToEnd (Sre.forSearch RC T 0 0 T.size false)) Q E s := by
  unfold reRunToEnd
  refine wpAny_bind (drive_wp (2 ^ 64) (2 ^ 60) _ (by decide) (by decide) (search_ends T hT) fun m hm => ?_)
  refine wpAny_bind (rules_wp m ?_ _)
  rw [hm]
  cases hb : ipTail T with
  | true => exact wpAny_pure (h2 hb m)
  | false => exact wpAny_pure (h1 hb)
noncomputable def patO : Obj := { cls := Value.type "re.Pattern", data := Data.fields #[Value.str (Str.ofString "\\.\\d+$") 285, Value.int 256 312, Value.int 0 0, Value.none, Value.none, Value.ref 35, Value.int 0 0] }
noncomputable def codeO : Obj := { cls := Value.type "tuple", data := Data.seq #[Value.int 14 0, Value.int 8 0, Value.int 1 0, Value.int 2 0, Value.int 4294967295 0, Value.int 1 0, Value.int 1 0, Value.int 46 0, Value.int 0 0, Value.int 16 0, Value.int 46 0, Value.int 24 0,
  Value.int 9 0, Value.int 1 0, Value.int 4294967295 0, Value.int 13 0, Value.int 4 0, Value.int 8 0, Value.int 0 0, Value.int 0 0, Value.int 1 0, Value.int 6 0, Value.int 5 0, Value.int 1 0] }
theorem target_wp {Q : ReTarget → Shared → Prop} (ho : s.heap.get? 36 = some patO) (hc : s.heap.get? 35 = some codeO) (hx : x.length ≤ 100000)
    (h : Q { pattern := .ref 36, string := .str x t, code := RC, text := x.cps, kind := 0, groups := 0, pos := 0, lim := x.cps.size } s) :
    wpAny Mo A (reTarget "re.Pattern.search" "search" ⟨[.ref 36, .str x t], []⟩) Q E s := by
  unfold reTarget
  show wpAny Mo A (reNamed "re.Pattern.search" "search" ["string", "pos", "endpos"] 1 [.str x t] [] >>= fun r => _) Q E s
  refine wpAny_bind (wpAny_of_eq (a := [some (.str x t), none, none]) rfl ?_)
  show wpAny Mo A (fieldsOf (.ref 36) >>= fun r => _) Q E s
  refine wpAny_bind (wpAny_fieldsOf ho rfl ?_)
  show wpAny Mo A (reTextOf (.str x t) >>= fun r => _) Q E s
  refine wpAny_bind (wpAny_of_eq (a := (x.cps, 0)) rfl ?_)
  show wpAny Mo A (reNoCollectionInside (.str x t) 0 >>= fun r => _) Q E s
  refine wpAny_bind (wpAny_of_eq (a := ()) rfl ?_)
  show wpAny Mo A ((reRawItems (.ref 35)) >>= fun r => _) Q E s
  refine wpAny_bind ?_
  unfold reRawItems
  refine wpAny_bind (wpAny_seqItems hc rfl (wpAny_pure (wpAny_pure ?_)))
  have e1 : min (0 : Int).toNat x.cps.size = 0 := by simp
  have e2 : min (2 ^ 63 - 1 : Int).toNat x.cps.size = x.cps.size := by
    have : x.cps.size ≤ 100000 := hx
    have e : (2 ^ 63 - 1 : Int).toNat = 9223372036854775807 := by decide
    rw [e]; (first | lia | omega)
  simp only [e1, e2]
  with_unfolding_all exact h
theorem answer_wp {Q : Value → Shared → Prop} (hx : x.length ≤ 100000) (h1 : ipTail x.cps = false → Q .none s)
    (h2 : ipTail x.cps = true → ∀ o1 o2 : Obj, o1.isFreed = false → o2.isFreed = false → o2.cls = .type "re.Match" → o2.dict = none → Q (.ref (s.heap.push o1).objs.size) { s with heap := (s.heap.push o1).push o2 }) :
    wpAny Mo A (reAnswer { pattern := .ref 36, string := .str x t, code := RC, text := x.cps, kind := 0, groups := 0, pos := 0, lim := x.cps.size } (Sre.forSearch RC x.cps 0 0 x.cps.size false)) (fun fin s' => ∃ v, fin = .done (.ret v) ∧ Q v s') E s := by
  unfold reAnswer
  refine wpAny_bind (toEnd_wp hx (fun hb => ?_) fun hb m => ?_)
  · exact wpAny_pure ⟨_, rfl, h1 hb⟩
  · refine wpAny_bind ?_
    unfold reNewMatch
    show wpAny Mo A (newTuple _ >>= fun r => _) _ E s
    refine wpAny_bind (wpAny_newObj_type (hd := by show (2 : Nat) ≤ sizeLine; rw [sizeLine_eq]; decide) ?_)
    refine wpAny_newObj_type ?_
    exact wpAny_pure ⟨_, rfl, h2 hb _ _ rfl rfl rfl rfl⟩
theorem search_wp {Q : Value → Shared → Prop} (ho : s.heap.get? 36 = some patO) (hc : s.heap.get? 35 = some codeO) (hx : x.length ≤ 100000) (h1 : ipTail x.cps = false → Q .none s)
    (h2 : ipTail x.cps = true → ∀ o1 o2 : Obj, o1.isFreed = false → o2.isFreed = false → o2.cls = .type "re.Match" → o2.dict = none → Q (.ref (s.heap.push o1).objs.size) { s with heap := (s.heap.push o1).push o2 }) :
    wpAny Mo A (Builtin.«re.Pattern.search» ⟨[.ref 36, .str x t], []⟩) (fun fin s' => ∃ v, fin = .done (.ret v) ∧ Q v s') E s := by
  unfold Builtin.«re.Pattern.search»
  exact wpAny_bind (target_wp ho hc hx (answer_wp hx h1 h2))
end
end Mine
namespace Mine
/-- is_HDN -/
noncomputable def isHDN (x : Str) : Bool := !(ipTail x.cps) && (!(x == Str.ofString "") && (!(Txt.item x 0 == Str.ofString ".") && !(Txt.item x (-1) == Str.ofString ".")))
noncomputable def MatchAt (h : Heap) (a : Addr) : Prop := ∃ o, h.get? a = some o ∧ o.cls = .type "re.Match"
section
variable {prog : Program} {w : World} {A A₀ : Around} {E : Value → Shared → Prop} {s : Shared} {L : Addr} {h₀ base : Heap} {m mg mb : Str → Option Value} {news : List (Addr × Obj)} {x : Str} {t : Tok}
theorem pat_at {h : Heap} (X : (hd.heap_1 w.params).In h) : h.get? 36 = some patO := X 36 patO (by kernel_rfl)
theorem code_at {h : Heap} (X : (hd.heap_1 w.params).In h) : h.get? 35 = some codeO := X 35 codeO (by kernel_rfl)
theorem getMethod_search {pl : Sem Bool} {Q : Value × List Value → Shared → Prop} (F : Fr h₀ L s.heap m) (X : (hd.heap_1 w.params).In h₀) (h : Q (.builtin "re.Pattern.search", [.ref 36]) s) :
   wpAny (model prog w) A (getMethod (.ref 36) (Str.ofString "search") pl) Q E s :=
  getMethod_builtin (T := "re.Pattern") ⟨patO, pat_at (X.keeps F.keep), rfl⟩ re_attrs re_slot re_type (fun a e => by cases e; exact ⟨patO, pat_at (X.keeps F.keep), rfl⟩) h
theorem call_search {Q : Value → Shared → Prop} (F : Fr h₀ L s.heap m) (X : (hd.heap_1 w.params).In h₀) (N : News h₀ L s.heap news) (hx : x.length ≤ 100000) (h1 : ipTail x.cps = false → Q .none s)
   (h2 : ipTail x.cps = true → ∀ a h', Fr h₀ L h' m → News h₀ L h' news → MatchAt h' a → Q (.ref a) { s with heap := h' }) :
   wpAny (model prog w) A (call (.builtin "re.Pattern.search") [.ref 36, .str x t]) Q E s := by
  have X' := X.keeps F.keep
  refine wpAny_call (codeAny_call_builtin re_slot.plain re_entry (re_slot.check _ _ _ _ _ _ _ _ ⟨patO, pat_at X', rfl⟩ (re_args _ _) ?_))
  refine wpAny_mono (search_wp (Q := Q) (pat_at X') (code_at X') hx h1 fun hb o1 o2 f1 f2 c d => ?_) (fun fin s' hq => ?_) (fun _ _ e => e)
  · have F1 := F.push o1
    have N1 := N.push F o1 f1
    have F2 := F1.push o2
    have N2 := N1.push F1 o2 f2
    exact h2 hb _ _ F2 (fun p hp => N2 p (.tail _ (.tail _ hp))) ⟨o2, (N2 _ (.head _)).1, c⟩
  · obtain ⟨v, rfl, hv⟩ := hq
    exact hv
theorem truthy_match {a : Addr} {Q : Bool → Shared → Prop} (H : MatchAt s.heap a) (h : Q true s) : wpAny (model prog w) A (truthy (.ref a)) Q E s := by
  obtain ⟨o, ho, hc⟩ := H
  have hT : s.TypeIs (.ref a) "re.Match" := ⟨o, ho, hc⟩
  unfold truthy
  refine wpAny_bind (wpAny_callSpecial?_none (name := Str.ofString "__bool__") hT match_no_bool ?_)
  refine wpAny_bind (wpAny_specialOf (name := Str.ofString "__len__") hT match_no_len ?_)
  exact wpAny_pure h
end
set_option maxHeartbeats 8000000 in
theorem t_isHDN (w : World) (x : Str) (t : Tok) : Tel w 304 13 43 [.str x t] (fun _ => x.length ≤ 1000) (fun _ r _ => r = .bool (isHDN x)) := by
  w_top off
  k_with_none
  k_with "own getMethod ref" => ((k_here; (with_reducible show wpAny _ _ (getMethod (Value.ref 36) _ _) _ _ _); k_dflt (refine' getMethod_search (by k_asm) (by k_asm) ?_; k_whole)))
  k_with "own call builtin:re.Pattern.search" => ((k_here; k_dflt (refine' call_search (by k_asm) (by k_asm) (by k_asm) (by omega) (fun hip => ?_) (fun hip a9 h9 F9 N9 M9 => ?_))))
  k_with "own truthy ref" => ((k_here; (refine truthy_match (by assumption) ?_)))
  k_with "own k_ne" => (refine neN ?_; (try dsimp only); first | exact Nat.ne_of_gt (by with_reducible assumption) | exact Nat.ne_of_lt (by with_reducible assumption) | exact Nat.ne_of_gt (And.left (by with_reducible assumption)) | exact Nat.ne_of_lt (And.left (by with_reducible assumption)) | exact Nat.ne_of_gt (And.right (by with_reducible assumption)) | exact Nat.ne_of_lt (And.right (by with_reducible assumption)) | exact Nat.ne_of_gt (And.left (And.right (by with_reducible assumption))) | exact Nat.ne_of_lt (And.left (And.right (by with_reducible assumption))) | exact Nat.ne_of_gt (And.right (And.right (by with_reducible assumption))) | exact Nat.ne_of_lt (And.right (And.right (by with_reducible assumption))) | exact Nat.ne_of_gt (And.left (And.right (And.right (by with_reducible assumption)))) | exact Nat.ne_of_lt (And.left (And.right (And.right (by with_reducible assumption)))) | exact Nat.ne_of_gt (And.right (And.right (And.right (by with_reducible assumption)))) | exact Nat.ne_of_lt (And.right (And.right (And.right (by with_reducible assumption)))) | exact Nat.ne_of_gt (And.left (And.right (And.right (And.right (by with_reducible assumption))))) | exact Nat.ne_of_lt (And.left (And.right (And.right (And.right (by with_reducible assumption))))) | exact Nat.ne_of_gt (And.right (And.right (And.right (And.right (by with_reducible assumption))))) | exact Nat.ne_of_lt (And.right (And.right (And.right (And.right (by with_reducible assumption))))) | exact Nat.ne_of_gt (And.left (And.right (And.right (And.right (And.right (by with_reducible assumption)))))) | exact Nat.ne_of_lt (And.left (And.right (And.right (And.right (And.right (by with_reducible assumption)))))) | exact Nat.ne_of_gt (And.right (And.right (And.right (And.right (And.right (by with_reducible assumption)))))) | exact Nat.ne_of_lt (And.right (And.right (And.right (And.right (And.right (by with_reducible assumption)))))) | exact Nat.ne_of_gt (And.left (And.right (And.right (And.right (And.right (And.right (by with_reducible assumption))))))) | exact Nat.ne_of_lt (And.left (And.right (And.right (And.right (And.right (And.right (by with_reducible assumption))))))) | exact Nat.ne_of_gt (And.right (And.right (And.right (And.right (And.right (And.right (by with_reducible assumption))))))) | exact Nat.ne_of_lt (And.right (And.right (And.right (And.right (And.right (And.right (by with_reducible assumption))))))) | exact Nat.ne_of_gt (And.left (And.right (And.right (And.right (And.right (And.right (And.right (by with_reducible assumption)))))))) | exact Nat.ne_of_lt (And.left (And.right (And.right (And.right (And.right (And.right (And.right (by with_reducible assumption)))))))) | exact Nat.ne_of_gt (And.right (And.right (And.right (And.right (And.right (And.right (And.right (by with_reducible assumption)))))))) | exact Nat.ne_of_lt (And.right (And.right (And.right (And.right (And.right (And.right (And.right (by with_reducible assumption)))))))) | exact Nat.ne_of_gt (And.left (And.right (And.right (And.right (And.right (And.right (And.right (And.right (by with_reducible assumption))))))))) | exact Nat.ne_of_lt (And.left (And.right (And.right (And.right (And.right (And.right (And.right (And.right (by with_reducible assumption))))))))) | exact Nat.ne_of_gt (And.right (And.right (And.right (And.right (And.right (And.right (And.right (And.right (by with_reducible assumption))))))))) | exact Nat.ne_of_lt (And.right (And.right (And.right (And.right (And.right (And.right (And.right (And.right (by with_reducible assumption))))))))) | exact Nat.ne_of_gt (And.left (And.right (And.right (And.right (And.right (And.right (And.right (And.right (And.right (by with_reducible assumption)))))))))) | exact Nat.ne_of_lt (And.left (And.right (And.right (And.right (And.right (And.right (And.right (And.right (And.right (by with_reducible assumption)))))))))) | exact Nat.ne_of_gt (And.right (And.right (And.right (And.right (And.right (And.right (And.right (And.right (And.right (by with_reducible assumption)))))))))) | exact Nat.ne_of_lt (And.right (And.right (And.right (And.right (And.right (And.right (And.right (And.right (And.right (by with_reducible assumption)))))))))) | exact Nat.ne_of_gt (And.left (And.right (And.right (And.right (And.right (And.right (And.right (And.right (And.right (And.right (by with_reducible assumption))))))))))) | exact Nat.ne_of_lt (And.left (And.right (And.right (And.right (And.right (And.right (And.right (And.right (And.right (And.right (by with_reducible assumption))))))))))) | exact Nat.ne_of_gt (And.right (And.right (And.right (And.right (And.right (And.right (And.right (And.right (And.right (And.right (by with_reducible assumption))))))))))) | exact Nat.ne_of_lt (And.right (And.right (And.right (And.right (And.right (And.right (And.right (And.right (And.right (And.right (by with_reducible assumption))))))))))) | exact Nat.ne_of_gt (And.left (And.right (And.right (And.right (And.right (And.right (And.right (And.right (And.right (And.right (And.right (by with_reducible assumption)))))))))))) | exact Nat.ne_of_lt (And.left (And.right (And.right (And.right (And.right (And.right (And.right (And.right (And.right (And.right (And.right (by with_reducible assumption)))))))))))) | exact Nat.ne_of_gt (And.right (And.right (And.right (And.right (And.right (And.right (And.right (And.right (And.right (And.right (And.right (by with_reducible assumption)))))))))))) | exact Nat.ne_of_lt (And.right (And.right (And.right (And.right (And.right (And.right (And.right (And.right (And.right (And.right (And.right (by with_reducible assumption)))))))))))) | exact Nat.ne_of_gt (And.left (And.right (And.right (And.right (And.right (And.right (And.right (And.right (And.right (And.right (And.right (And.right (by with_reducible assumption))))))))))))) | exact Nat.ne_of_lt (And.left (And.right (And.right (And.right (And.right (And.right (And.right (And.right (And.right (And.right (And.right (And.right (by with_reducible assumption))))))))))))) | exact Nat.ne_of_gt (And.right (And.right (And.right (And.right (And.right (And.right (And.right (And.right (And.right (And.right (And.right (And.right (by with_reducible assumption))))))))))))) | exact Nat.ne_of_lt (And.right (And.right (And.right (And.right (And.right (And.right (And.right (And.right (And.right (And.right (And.right (And.right (by with_reducible assumption))))))))))))) | exact Nat.ne_of_gt (And.left (And.right (And.right (And.right (And.right (And.right (And.right (And.right (And.right (And.right (And.right (And.right (And.right (by with_reducible assumption)))))))))))))) | exact Nat.ne_of_lt (And.left (And.right (And.right (And.right (And.right (And.right (And.right (And.right (And.right (And.right (And.right (And.right (And.right (by with_reducible assumption)))))))))))))) | exact Nat.ne_of_gt (And.right (And.right (And.right (And.right (And.right (And.right (And.right (And.right (And.right (And.right (And.right (And.right (And.right (by with_reducible assumption)))))))))))))) | exact Nat.ne_of_lt (And.right (And.right (And.right (And.right (And.right (And.right (And.right (And.right (And.right (And.right (And.right (And.right (And.right (by with_reducible assumption)))))))))))))) | exact Nat.ne_of_gt (And.left (And.right (And.right (And.right (And.right (And.right (And.right (And.right (And.right (And.right (And.right (And.right (And.right (And.right (by with_reducible assumption))))))))))))))) | exact Nat.ne_of_lt (And.left (And.right (And.right (And.right (And.right (And.right (And.right (And.right (And.right (And.right (And.right (And.right (And.right (And.right (by with_reducible assumption))))))))))))))) | omega)
  unfold Tel; k_fill
  intro meanZ9 mgZ9 mbZ9 gdZ9 cnZ9 csZ9 aZ9 ccdZ9 clZ9 outerZ9 h₀Z9 LZ9 mZ9 sZ9 QZ9 EZ9 FZ9 XZ9 TZ9 hpre hret
  refine wpAny_call ?_
  k_dflt (refine' enter0 ?k2 ?k3 ?k5 ?k6 ?k7 ?k8 ?k9 ?kB ?_ ?c2 ?c3 ?c4 ?c5; (case k2 => k_asm); (case k3 => k_asm); (case k5 => k_asm); (case k6 => k_is); (case k7 => k_is); (case k8 => ktr_room); (case k9 => exact BindsTo.of_eq rfl); (case c5 => decide); (case kB => exact locs rfl); (case c2 => exact rfl); (case c3 => exact rfl); (case c4 => exact rfl); k_whole)
  clear XZ9 TZ9
  intro LZ9' hZ9' FZ9' NZ9' XZ9' TZ9'
  (try dsimp only)
  (try k_fold)
  k_steps
  all_goals ((show Back _ _ _; unfold Back; dsimp only; refine hret _ _ _ ?_ ?_; (· exact Fr.keep (by k_asm))); simp only [isHDN]; simp [*])
end Mine
namespace Mine
/-- domain_match -/
noncomputable def dmatch (x y : Str) : Bool :=
  if (Txt.lower x == Txt.lower y) = true then true else
  if isHDN (Txt.lower x) = false then false else
  if Txt.rfind (Txt.lower x) (Txt.lower y) = -1 then false else
  if Txt.rfind (Txt.lower x) (Txt.lower y) = 0 then false else
  if Txt.startswith (Txt.lower y) (Str.ofString ".") = false then false else
  isHDN (Txt.slice (Txt.lower y) (some 1) none)
section
variable {w : World} {A A₀ : Around} {E : Value → Shared → Prop} {s : Shared} {L : Addr} {h₀ base : Heap} {m mg mb : Str → Option Value} {news : List (Addr × Obj)} {x y : Str} {t u : Tok}
theorem isHDN_call {mean : ExcName → Option Value} {gd : Option (List Code)} {cn : Str} {cs : Scope} {a : Addr} {ccd : Value} {cl : List (Str × Addr)} {outer : List Env} {Q : Value → Shared → Prop}
    (F : Fr h₀ L s.heap m) (N : News h₀ L s.heap news) (X : (hd.heap_1 w.params).In h₀) (T : Top hd.view_1 (looseW hd.view_1 [Str.ofString "IPV4_RE"]) mean mg mb h₀)
    (hx : x.length ≤ 1000) (h : ∀ h' tk', Fr h₀ L h' m → News h₀ L h' news → Q (.bool (isHDN x)) { s with heap := h', toks := tk' }) :
    wpAny (model PySem.Challenge.rw_xj0016_01.row.prog w) (ktrTop 304 13 gd cn cs L a ccd cl outer) (call (.ref 43) [.str x t]) Q E s :=
  t_isHDN w x t mean mg mb gd cn cs a ccd cl outer h₀ L m s Q E F X T hx fun r h' tk' st e => by
    subst e; exact h h' tk' (fr_stay F st) (news_stay N st)
end
set_option maxHeartbeats 8000000 in
theorem t_dmatch (w : World) (x y : Str) (t u : Tok) : Tel w 303 10 50 [.str x t, .str y u] (fun _ => x.length ≤ 300 ∧ y.length ≤ 300) (fun _ r _ => r = .bool (dmatch x y)) := by
  w_top off
  k_with_none
  k_with "own call ref" => ((k_here; (with_reducible show wpAny _ _ (call (Value.ref 43) _) _ _ _); k_dflt (refine' isHDN_call (by k_asm) (by k_asm) (by k_asm) (by k_asm) (by omega) ?_; k_whole); intro h9 tk9 F9 N9; (try k_sweep); (try dsimp only); (try k_fold)))
  k_with "own k_ne" => (refine neN ?_; (try dsimp only); first | exact Nat.ne_of_gt (by with_reducible assumption) | exact Nat.ne_of_lt (by with_reducible assumption) | exact Nat.ne_of_gt (And.left (by with_reducible assumption)) | exact Nat.ne_of_lt (And.left (by with_reducible assumption)) | exact Nat.ne_of_gt (And.right (by with_reducible assumption)) | exact Nat.ne_of_lt (And.right (by with_reducible assumption)) | exact Nat.ne_of_gt (And.left (And.right (by with_reducible assumption))) | exact Nat.ne_of_lt (And.left (And.right (by with_reducible assumption))) | exact Nat.ne_of_gt (And.right (And.right (by with_reducible assumption))) | exact Nat.ne_of_lt (And.right (And.right (by with_reducible assumption))) | exact Nat.ne_of_gt (And.left (And.right (And.right (by with_reducible assumption)))) | exact Nat.ne_of_lt (And.left (And.right (And.right (by with_reducible assumption)))) | exact Nat.ne_of_gt (And.right (And.right (And.right (by with_reducible assumption)))) | exact Nat.ne_of_lt (And.right (And.right (And.right (by with_reducible assumption)))) | exact Nat.ne_of_gt (And.left (And.right (And.right (And.right (by with_reducible assumption))))) | exact Nat.ne_of_lt (And.left (And.right (And.right (And.right (by with_reducible assumption))))) | exact Nat.ne_of_gt (And.right (And.right (And.right (And.right (by with_reducible assumption))))) | exact Nat.ne_of_lt (And.right (And.right (And.right (And.right (by with_reducible assumption))))) | exact Nat.ne_of_gt (And.left (And.right (And.right (And.right (And.right (by with_reducible assumption)))))) | exact Nat.ne_of_lt (And.left (And.right (And.right (And.right (And.right (by with_reducible assumption)))))) | exact Nat.ne_of_gt (And.right (And.right (And.right (And.right (And.right (by with_reducible assumption)))))) | exact Nat.ne_of_lt (And.right (And.right (And.right (And.right (And.right (by with_reducible assumption)))))) | exact Nat.ne_of_gt (And.left (And.right (And.right (And.right (And.right (And.right (by with_reducible assumption))))))) | exact Nat.ne_of_lt (And.left (And.right (And.right (And.right (And.right (And.right (by with_reducible assumption))))))) | exact Nat.ne_of_gt (And.right (And.right (And.right (And.right (And.right (And.right (by with_reducible assumption))))))) | exact Nat.ne_of_lt (And.right (And.right (And.right (And.right (And.right (And.right (by with_reducible assumption))))))) | exact Nat.ne_of_gt (And.left (And.right (And.right (And.right (And.right (And.right (And.right (by with_reducible assumption)))))))) | exact Nat.ne_of_lt (And.left (And.right (And.right (And.right (And.right (And.right (And.right (by with_reducible assumption)))))))) | exact Nat.ne_of_gt (And.right (And.right (And.right (And.right (And.right (And.right (And.right (by with_reducible assumption)))))))) | exact Nat.ne_of_lt (And.right (And.right (And.right (And.right (And.right (And.right (And.right (by with_reducible assumption)))))))) | exact Nat.ne_of_gt (And.left (And.right (And.right (And.right (And.right (And.right (And.right (And.right (by with_reducible assumption))))))))) | exact Nat.ne_of_lt (And.left (And.right (And.right (And.right (And.right (And.right (And.right (And.right (by with_reducible assumption))))))))) | exact Nat.ne_of_gt (And.right (And.right (And.right (And.right (And.right (And.right (And.right (And.right (by with_reducible assumption))))))))) | exact Nat.ne_of_lt (And.right (And.right (And.right (And.right (And.right (And.right (And.right (And.right (by with_reducible assumption))))))))) | exact Nat.ne_of_gt (And.left (And.right (And.right (And.right (And.right (And.right (And.right (And.right (And.right (by with_reducible assumption)))))))))) | exact Nat.ne_of_lt (And.left (And.right (And.right (And.right (And.right (And.right (And.right (And.right (And.right (by with_reducible assumption)))))))))) | exact Nat.ne_of_gt (And.right (And.right (And.right (And.right (And.right (And.right (And.right (And.right (And.right (by with_reducible assumption)))))))))) | exact Nat.ne_of_lt (And.right (And.right (And.right (And.right (And.right (And.right (And.right (And.right (And.right (by with_reducible assumption)))))))))) | exact Nat.ne_of_gt (And.left (And.right (And.right (And.right (And.right (And.right (And.right (And.right (And.right (And.right (by with_reducible assumption))))))))))) | exact Nat.ne_of_lt (And.left (And.right (And.right (And.right (And.right (And.right (And.right (And.right (And.right (And.right (by with_reducible assumption))))))))))) | exact Nat.ne_of_gt (And.right (And.right (And.right (And.right (And.right (And.right (And.right (And.right (And.right (And.right (by with_reducible assumption))))))))))) | exact Nat.ne_of_lt (And.right (And.right (And.right (And.right (And.right (And.right (And.right (And.right (And.right (And.right (by with_reducible assumption))))))))))) | exact Nat.ne_of_gt (And.left (And.right (And.right (And.right (And.right (And.right (And.right (And.right (And.right (And.right (And.right (by with_reducible assumption)))))))))))) | exact Nat.ne_of_lt (And.left (And.right (And.right (And.right (And.right (And.right (And.right (And.right (And.right (And.right (And.right (by with_reducible assumption)))))))))))) | exact Nat.ne_of_gt (And.right (And.right (And.right (And.right (And.right (And.right (And.right (And.right (And.right (And.right (And.right (by with_reducible assumption)))))))))))) | exact Nat.ne_of_lt (And.right (And.right (And.right (And.right (And.right (And.right (And.right (And.right (And.right (And.right (And.right (by with_reducible assumption)))))))))))) | exact Nat.ne_of_gt (And.left (And.right (And.right (And.right (And.right (And.right (And.right (And.right (And.right (And.right (And.right (And.right (by with_reducible assumption))))))))))))) | exact Nat.ne_of_lt (And.left (And.right (And.right (And.right (And.right (And.right (And.right (And.right (And.right (And.right (And.right (And.right (by with_reducible assumption))))))))))))) | exact Nat.ne_of_gt (And.right (And.right (And.right (And.right (And.right (And.right (And.right (And.right (And.right (And.right (And.right (And.right (by with_reducible assumption))))))))))))) | exact Nat.ne_of_lt (And.right (And.right (And.right (And.right (And.right (And.right (And.right (And.right (And.right (And.right (And.right (And.right (by with_reducible assumption))))))))))))) | exact Nat.ne_of_gt (And.left (And.right (And.right (And.right (And.right (And.right (And.right (And.right (And.right (And.right (And.right (And.right (And.right (by with_reducible assumption)))))))))))))) | exact Nat.ne_of_lt (And.left (And.right (And.right (And.right (And.right (And.right (And.right (And.right (And.right (And.right (And.right (And.right (And.right (by with_reducible assumption)))))))))))))) | exact Nat.ne_of_gt (And.right (And.right (And.right (And.right (And.right (And.right (And.right (And.right (And.right (And.right (And.right (And.right (And.right (by with_reducible assumption)))))))))))))) | exact Nat.ne_of_lt (And.right (And.right (And.right (And.right (And.right (And.right (And.right (And.right (And.right (And.right (And.right (And.right (And.right (by with_reducible assumption)))))))))))))) | exact Nat.ne_of_gt (And.left (And.right (And.right (And.right (And.right (And.right (And.right (And.right (And.right (And.right (And.right (And.right (And.right (And.right (by with_reducible assumption))))))))))))))) | exact Nat.ne_of_lt (And.left (And.right (And.right (And.right (And.right (And.right (And.right (And.right (And.right (And.right (And.right (And.right (And.right (And.right (by with_reducible assumption))))))))))))))) | omega)
  unfold Tel; k_fill
  intro meanZ9 mgZ9 mbZ9 gdZ9 cnZ9 csZ9 aZ9 ccdZ9 clZ9 outerZ9 h₀Z9 LZ9 mZ9 sZ9 QZ9 EZ9 FZ9 XZ9 TZ9 hpre hret
  refine wpAny_call ?_
  k_dflt (refine' enter0 ?k2 ?k3 ?k5 ?k6 ?k7 ?k8 ?k9 ?kB ?_ ?c2 ?c3 ?c4 ?c5; (case k2 => k_asm); (case k3 => k_asm); (case k5 => k_asm); (case k6 => k_is); (case k7 => k_is); (case k8 => ktr_room); (case k9 => exact BindsTo.of_eq rfl); (case c5 => decide); (case kB => exact locs rfl); (case c2 => exact rfl); (case c3 => exact rfl); (case c4 => exact rfl); k_whole)
  clear XZ9 TZ9
  intro LZ9' hZ9' FZ9' NZ9' XZ9' TZ9'
  (try dsimp only)
  (try k_fold)
  obtain ⟨hx, hy⟩ := hpre
  k_steps
  all_goals ((show Back _ _ _; unfold Back; dsimp only; refine hret _ _ _ ?_ ?_; (· exact Fr.keep (by k_asm))); simp only [dmatch]; simp [*])
end Mine
namespace Mine
/-- Int2AP's loop -/
noncomputable def apGo : Nat → Nat → List UInt8 → List UInt8
  | 0, _, acc => acc
  | f + 1, n, acc => if n = 0 then acc else apGo f (n / 16) (UInt8.ofNat (65 + n % 16) :: acc)
theorem apGo_more : ∀ (f g n : Nat) (acc : List UInt8), n < 16 ^ f → f ≤ g → apGo g n acc = apGo f n acc
  | 0, g, n, acc, h, _ => by
    have : n = 0 := by simp at h; (first | lia | omega)
    subst this
    cases g <;> rfl
  | f + 1, 0, n, acc, _, hl => by (first | lia | omega)
  | f + 1, g + 1, n, acc, h, hl => by
    rw [apGo, apGo]
    by_cases hn : n = 0
    · simp [hn]
    · simp only [hn, if_false]
      refine apGo_more f g _ _ ?_ (by (first | lia | omega))
      rw [Nat.pow_succ] at h
      (first | lia | omega)
noncomputable def ap (n : Nat) : List UInt8 := apGo 16 n []
noncomputable def ApW (N : Nat) (num : Int) (val : Array UInt8) : Prop := 0 ≤ num ∧ val.size ≤ 16 ∧ ∃ k, k ≤ 16 ∧ num.toNat < 16 ^ k ∧ val.size + k ≤ 16 ∧ apGo k num.toNat val.toList = ap N
theorem ApW.start {N : Nat} {num : Int} (h0 : N < 2 ^ 64) (h1 : num = (N : Int)) : ApW N num #[] := by
  subst h1
  refine ⟨by (first | lia | omega), by simp, 16, Nat.le_refl _, by simpa using h0, by simp, ?_⟩
  simp [ap]
noncomputable def pick1 (k : Int) : Array UInt8 := #[UInt8.ofNat (65 + k.toNat)]
theorem ApW.turn {N : Nat} {num : Int} {val : Array UInt8} (h : ApW N num val) (hn : num ≠ 0) : ApW N (num.fdiv 16) (pick1 (num.fmod 16) ++ val) := by
  obtain ⟨h0, hs, k, hk, hlt, hsz, e⟩ := h
  obtain ⟨n, rfl⟩ := Int.eq_ofNat_of_zero_le h0
  have e1 : (n : Int).fdiv 16 = ((n / 16 : Nat) : Int) := by rw [Int.fdiv_eq_ediv_of_nonneg _ (by decide)]; (first | lia | omega)
  have e2 : (n : Int).fmod 16 = ((n % 16 : Nat) : Int) := by rw [Int.fmod_eq_emod_of_nonneg _ (by decide)]; (first | lia | omega)
  have hn' : n ≠ 0 := by (first | lia | omega)
  simp only [Int.toNat_natCast] at hlt e
  cases k with
  | zero => simp at hlt; (first | lia | omega)
  | succ k =>
    rw [apGo, if_neg hn'] at e
    rw [e1, e2]
    refine ⟨by (first | lia | omega), by simp [pick1]; (first | lia | omega), k, by (first | lia | omega), ?_, by simp [pick1]; (first | lia | omega), ?_⟩
    · rw [Nat.pow_succ] at hlt; simp only [Int.toNat_natCast]; (first | lia | omega)
    · simpa only [pick1, Int.toNat_natCast, Array.toList_append, List.cons_append, List.nil_append] using e
theorem ApW.less {N : Nat} {num : Int} {val : Array UInt8} (h : ApW N num val) (hn : num ≠ 0) : (num.fdiv 16).toNat < num.toNat := by
  have := h.1
  have e1 : num.fdiv 16 = num / 16 := Int.fdiv_eq_ediv_of_nonneg _ (by decide)
  (first | lia | omega)
theorem ApW.done {N : Nat} {num : Int} {val : Array UInt8} (h : ApW N num val) (hn : num = 0) : val = (ap N).toArray := by
  obtain ⟨h0, hs, k, hk, hlt, hsz, e⟩ := h
  subst hn
  have : apGo k 0 val.toList = val.toList := by cases k <;> rfl
  simp only [Int.toNat_zero] at e
  rw [this] at e
  rw [← e]
noncomputable abbrev APs : Array UInt8 := #[65, 66, 67, 68, 69, 70, 71, 72, 73, 74, 75, 76, 77, 78, 79, 80]
theorem ap_slice (num : Int) : KBy.whole APs (some (num.fmod 16)) (some (num.fmod 16 + 1)) = false ∧ KBy.picked APs (some (num.fmod 16)) (some (num.fmod 16 + 1)) = pick1 (num.fmod 16) := by
  have h0 : 0 ≤ num.fmod 16 := Int.fmod_nonneg_of_pos _ (by decide)
  have h1 : num.fmod 16 < 16 := Int.fmod_lt_of_pos _ (by decide)
  generalize num.fmod 16 = k at *
  obtain ⟨n, rfl⟩ := Int.eq_ofNat_of_zero_le h0
  have hn : n < 16 := by (first | lia | omega)
  have all : ∀ n : Fin 16, KBy.whole APs (some ((n.1 : Nat) : Int)) (some ((n.1 : Nat) + 1 : Int)) = false ∧ KBy.picked APs (some ((n.1 : Nat) : Int)) (some ((n.1 : Nat) + 1 : Int)) = pick1 ((n.1 : Nat) : Int) := by decide +kernel
  exact all ⟨n, hn⟩
section
variable {prog : Program} {w : World} {A : Around} {E : Value → Shared → Prop} {s : Shared} {value slice : PySem.Expr} {t : Tok} {h₀ : Heap} {L : Addr} {m : PySem.Str → Option Value} {news : List (Addr × Obj)} {t1 t2 : Tok} {num : Int} {Q : Value → Shared → Prop}
theorem ap_cut (hF : Fr h₀ L s.heap m) (hN : News h₀ L s.heap news)
    (h : ∀ h' t' k, Fr h₀ L h' m → News h₀ L h' news → Q (.bytes (pick1 (num.fmod 16)) t') { s with heap := h', toks := k })
    (hs : subscripted slice false (.bytes APs t) (.ref s.heap.objs.size) = operate [.ref s.heap.objs.size, .bytes APs t] (getItem (.bytes APs t) (.ref s.heap.objs.size)) := by with_unfolding_all rfl)
    (ht : ∀ r, letTemporaryGo value (.bytes APs t) r = pure () := by intro _; with_unfolding_all rfl) :
    wpAny (model prog w) A (subscriptTail value slice (.bytes APs t) (.ref s.heap.objs.size)) Q E { s with heap := s.heap.push { cls := .type "slice", data := .fields #[.int (num.fmod 16) t1, .int (num.fmod 16 + 1) t2, .none] } } :=
  KBy.slice_N hF hN (.int _ _) (.int _ _) (ap_slice num).1 (by rw [(ap_slice num).2]; simp [pick1]) (fun h' t' k F N => by rw [(ap_slice num).2]; exact h h' t' k F N) hs ht
theorem ap_add {b c : Array UInt8} {t u : Tok} {N : Nat} (hb : b.size = 1) (hc : ApW N num c) (h : ∀ t' k, Q (.bytes (b ++ c) t') { s with toks := k }) : wpAny (model prog w) A (binaryOp .Add (.bytes b t) (.bytes c u)) Q E s :=
  KBy.add_bytes (by have := hc.2.1; (first | lia | omega)) h
end
set_option maxHeartbeats 8000000 in
theorem t_Int2AP (w : World) (i : Int) (t : Tok) : Tel w 303 10 108 [.int i t] (fun h => i.natAbs < 2 ^ 64) (fun _ r _ => ∃ t', r = .bytes (ap i.natAbs).toArray t') := by
  w_top off
  k_with_none
  k_with "own subscriptTail" => ((k_here; (with_reducible show wpAny _ _ (subscriptTail _ (Expr.Slice _ _ none _) (Value.bytes _ _) (Value.ref _)) _ _ _); (with_reducible rename Fr _ _ _ _ => F'); (with_reducible rename News _ _ _ _ => N'); (refine ap_cut (s := ⟨_, _, _, _, _⟩) F' N' ?_); intro _ _ _ _ _))
  k_with "own binaryOp Add bytes bytes" => ((k_here; (with_reducible show wpAny _ _ (binaryOp Operator.Add (Value.bytes _ _) (Value.bytes _ _)) _ _ _); (refine ap_add rfl (by assumption) ?_); intro _ _))
  k_with "own k_ne" => (refine neN ?_; (try dsimp only); first | exact Nat.ne_of_gt (by with_reducible assumption) | exact Nat.ne_of_lt (by with_reducible assumption) | exact Nat.ne_of_gt (And.left (by with_reducible assumption)) | exact Nat.ne_of_lt (And.left (by with_reducible assumption)) | exact Nat.ne_of_gt (And.right (by with_reducible assumption)) | exact Nat.ne_of_lt (And.right (by with_reducible assumption)) | exact Nat.ne_of_gt (And.left (And.right (by with_reducible assumption))) | exact Nat.ne_of_lt (And.left (And.right (by with_reducible assumption))) | exact Nat.ne_of_gt (And.right (And.right (by with_reducible assumption))) | exact Nat.ne_of_lt (And.right (And.right (by with_reducible assumption))) | exact Nat.ne_of_gt (And.left (And.right (And.right (by with_reducible assumption)))) | exact Nat.ne_of_lt (And.left (And.right (And.right (by with_reducible assumption)))) | exact Nat.ne_of_gt (And.right (And.right (And.right (by with_reducible assumption)))) | exact Nat.ne_of_lt (And.right (And.right (And.right (by with_reducible assumption)))) | exact Nat.ne_of_gt (And.left (And.right (And.right (And.right (by with_reducible assumption))))) | exact Nat.ne_of_lt (And.left (And.right (And.right (And.right (by with_reducible assumption))))) | exact Nat.ne_of_gt (And.right (And.right (And.right (And.right (by with_reducible assumption))))) | exact Nat.ne_of_lt (And.right (And.right (And.right (And.right (by with_reducible assumption))))) | exact Nat.ne_of_gt (And.left (And.right (And.right (And.right (And.right (by with_reducible assumption)))))) | exact Nat.ne_of_lt (And.left (And.right (And.right (And.right (And.right (by with_reducible assumption)))))) | exact Nat.ne_of_gt (And.right (And.right (And.right (And.right (And.right (by with_reducible assumption)))))) | exact Nat.ne_of_lt (And.right (And.right (And.right (And.right (And.right (by with_reducible assumption)))))) | exact Nat.ne_of_gt (And.left (And.right (And.right (And.right (And.right (And.right (by with_reducible assumption))))))) | exact Nat.ne_of_lt (And.left (And.right (And.right (And.right (And.right (And.right (by with_reducible assumption))))))) | exact Nat.ne_of_gt (And.right (And.right (And.right (And.right (And.right (And.right (by with_reducible assumption))))))) | exact Nat.ne_of_lt (And.right (And.right (And.right (And.right (And.right (And.right (by with_reducible assumption))))))) | exact Nat.ne_of_gt (And.left (And.right (And.right (And.right (And.right (And.right (And.right (by with_reducible assumption)))))))) | exact Nat.ne_of_lt (And.left (And.right (And.right (And.right (And.right (And.right (And.right (by with_reducible assumption)))))))) | exact Nat.ne_of_gt (And.right (And.right (And.right (And.right (And.right (And.right (And.right (by with_reducible assumption)))))))) | exact Nat.ne_of_lt (And.right (And.right (And.right (And.right (And.right (And.right (And.right (by with_reducible assumption)))))))) | exact Nat.ne_of_gt (And.left (And.right (And.right (And.right (And.right (And.right (And.right (And.right (by with_reducible assumption))))))))) | exact Nat.ne_of_lt (And.left (And.right (And.right (And.right (And.right (And.right (And.right (And.right (by with_reducible assumption))))))))) | exact Nat.ne_of_gt (And.right (And.right (And.right (And.right (And.right (And.right (And.right (And.right (by with_reducible assumption))))))))) | exact Nat.ne_of_lt (And.right (And.right (And.right (And.right (And.right (And.right (And.right (And.right (by with_reducible assumption))))))))) | exact Nat.ne_of_gt (And.left (And.right (And.right (And.right (And.right (And.right (And.right (And.right (And.right (by with_reducible assumption)))))))))) | exact Nat.ne_of_lt (And.left (And.right (And.right (And.right (And.right (And.right (And.right (And.right (And.right (by with_reducible assumption)))))))))) | exact Nat.ne_of_gt (And.right (And.right (And.right (And.right (And.right (And.right (And.right (And.right (And.right (by with_reducible assumption)))))))))) | exact Nat.ne_of_lt (And.right (And.right (And.right (And.right (And.right (And.right (And.right (And.right (And.right (by with_reducible assumption)))))))))) | exact Nat.ne_of_gt (And.left (And.right (And.right (And.right (And.right (And.right (And.right (And.right (And.right (And.right (by with_reducible assumption))))))))))) | exact Nat.ne_of_lt (And.left (And.right (And.right (And.right (And.right (And.right (And.right (And.right (And.right (And.right (by with_reducible assumption))))))))))) | exact Nat.ne_of_gt (And.right (And.right (And.right (And.right (And.right (And.right (And.right (And.right (And.right (And.right (by with_reducible assumption))))))))))) | exact Nat.ne_of_lt (And.right (And.right (And.right (And.right (And.right (And.right (And.right (And.right (And.right (And.right (by with_reducible assumption))))))))))) | exact Nat.ne_of_gt (And.left (And.right (And.right (And.right (And.right (And.right (And.right (And.right (And.right (And.right (And.right (by with_reducible assumption)))))))))))) | exact Nat.ne_of_lt (And.left (And.right (And.right (And.right (And.right (And.right (And.right (And.right (And.right (And.right (And.right (by with_reducible assumption)))))))))))) | exact Nat.ne_of_gt (And.right (And.right (And.right (And.right (And.right (And.right (And.right (And.right (And.right (And.right (And.right (by with_reducible assumption)))))))))))) | exact Nat.ne_of_lt (And.right (And.right (And.right (And.right (And.right (And.right (And.right (And.right (And.right (And.right (And.right (by with_reducible assumption)))))))))))) | exact Nat.ne_of_gt (And.left (And.right (And.right (And.right (And.right (And.right (And.right (And.right (And.right (And.right (And.right (And.right (by with_reducible assumption))))))))))))) | exact Nat.ne_of_lt (And.left (And.right (And.right (And.right (And.right (And.right (And.right (And.right (And.right (And.right (And.right (And.right (by with_reducible assumption))))))))))))) | exact Nat.ne_of_gt (And.right (And.right (And.right (And.right (And.right (And.right (And.right (And.right (And.right (And.right (And.right (And.right (by with_reducible assumption))))))))))))) | exact Nat.ne_of_lt (And.right (And.right (And.right (And.right (And.right (And.right (And.right (And.right (And.right (And.right (And.right (And.right (by with_reducible assumption))))))))))))) | exact Nat.ne_of_gt (And.left (And.right (And.right (And.right (And.right (And.right (And.right (And.right (And.right (And.right (And.right (And.right (And.right (by with_reducible assumption)))))))))))))) | exact Nat.ne_of_lt (And.left (And.right (And.right (And.right (And.right (And.right (And.right (And.right (And.right (And.right (And.right (And.right (And.right (by with_reducible assumption)))))))))))))) | exact Nat.ne_of_gt (And.right (And.right (And.right (And.right (And.right (And.right (And.right (And.right (And.right (And.right (And.right (And.right (And.right (by with_reducible assumption)))))))))))))) | exact Nat.ne_of_lt (And.right (And.right (And.right (And.right (And.right (And.right (And.right (And.right (And.right (And.right (And.right (And.right (And.right (by with_reducible assumption)))))))))))))) | exact Nat.ne_of_gt (And.left (And.right (And.right (And.right (And.right (And.right (And.right (And.right (And.right (And.right (And.right (And.right (And.right (And.right (by with_reducible assumption))))))))))))))) | exact Nat.ne_of_lt (And.left (And.right (And.right (And.right (And.right (And.right (And.right (And.right (And.right (And.right (And.right (And.right (And.right (And.right (by with_reducible assumption))))))))))))))) | omega)
  unfold Tel; k_fill
  intro meanZ9 mgZ9 mbZ9 gdZ9 cnZ9 csZ9 aZ9 ccdZ9 clZ9 outerZ9 h₀Z9 LZ9 mZ9 sZ9 QZ9 EZ9 FZ9 XZ9 TZ9 hpre hret
  refine wpAny_call ?_
  k_dflt (refine' enter0 ?k2 ?k3 ?k5 ?k6 ?k7 ?k8 ?k9 ?kB ?_ ?c2 ?c3 ?c4 ?c5; (case k2 => k_asm); (case k3 => k_asm); (case k5 => k_asm); (case k6 => k_is); (case k7 => k_is); (case k8 => ktr_room); (case k9 => exact BindsTo.of_eq rfl); (case c5 => decide); (case kB => exact locs rfl); (case c2 => exact rfl); (case c3 => exact rfl); (case c4 => exact rfl); k_whole)
  clear XZ9 TZ9
  intro LZ9' hZ9' FZ9' NZ9' XZ9' TZ9'
  (try dsimp only)
  (try k_fold)
  (k_with "exec While Name cons nil" => k_while (fun script num val => ApW i.natAbs num val) (fun script num val => num.toNat) "num" "val")
  (k_with "state" => first | exact ApW.turn (by assumption) (by assumption) | exact ApW.start hpre (by omega))
  (k_with "measure" => exact ApW.less (by assumption) (by assumption))
  k_steps
  (show Back _ _ _; unfold Back; dsimp only; refine hret _ _ _ ?_ ?_; (· exact Fr.keep (by k_asm)))
  exact ⟨_, congrArg (fun b => Value.bytes b _) (ApW.done (by assumption) (by assumption))⟩
end Mine
namespace Mine
noncomputable def dg (k : Int) : Str := Str.ofString (toString k)
theorem dg_log {ns : List Int} {k : Int} (h : ∀ k ∈ ns, 0 ≤ k ∧ k ≤ 9) (hk : k ∈ ns) : k.natAbs.log2 < 1920 := by
  have := h k hk
  have h2 : k.natAbs.log2 ≤ k.natAbs := Nat.log2_le_self _
  (first | lia | omega)
theorem dg_len1 : ∀ k : Int, 0 ≤ k ∧ k ≤ 9 → (dg k).length = 1 := by
  intro k ⟨h0, h9⟩
  obtain ⟨n, rfl⟩ := Int.eq_ofNat_of_zero_le h0
  have hn : n < 10 := by (first | lia | omega)
  have all : ∀ n : Fin 10, (dg ((n.1 : Nat) : Int)).length = 1 := by decide +kernel
  exact all ⟨n, hn⟩
/-- the text of a hand of cards -/
noncomputable def txt (ns : List Int) : Str := Txt.join (Str.ofString "") (ns.map dg)
section
variable {prog : Program} {w : World} {A A₀ : Around} {E : Value → Shared → Prop} {s : Shared} {L D : Addr} {h₀ base : Heap} {m mg mb : Str → Option Value} {news news' : List (Addr × Obj)} {x y : Str} {t u v v' : Tok} {i j : Int}
theorem txt_join {ns : List Int} {ys : List Value} {Q : Value → Shared → Prop} (N : News h₀ L s.heap news) (hm : (D, LCg.lst ys) ∈ news) (hc : CarriedAll ys (ns.map fun k => PyData.str (dg k))) (hn : ns.length ≤ 1000) (hd : ∀ k ∈ ns, 0 ≤ k ∧ k ≤ 9)
    (h : ∀ t' k, Q (.str (txt ns) t') { s with toks := k }) : wpAny (model prog w) A (call (.builtin "str.join") [.str (Str.ofString "") t, .ref D]) Q E s :=
  KT.join_1 (g := dg) (News.isList N hm) hc (fun a ha => dg_len1 a (hd a ha)) (by (first | lia | omega)) (fun t' k _ => h t' k)
end
set_option maxHeartbeats 8000000 in
theorem t_text (w : World) (l : Addr) (ns : List Int) (vs : List Value) : Tel w 303 10 134 [.ref l] (fun h => h.IsList l vs.toArray ∧ IntsAre vs ns ∧ ns.length ≤ 10 ∧ vs.length ≤ 10 ∧ ∀ k ∈ ns, 0 ≤ k ∧ k ≤ 9) (fun _ r _ => ∃ t', r = .str (txt ns) t') := by
  w_top off
  k_with_none
  k_with "own call type:str" => ((k_here; (with_reducible show wpAny _ _ (call (Value.type "str") [Value.int _ _]) _ _ _); (refine P.str_of_int (dg_log (by assumption) (by assumption)) ?_)))
  k_with "own call builtin:str.join" => ((k_here; (with_reducible show wpAny _ _ (call (Value.builtin "str.join") [Value.str _ _, Value.ref _]) _ _ _); k_dflt (refine' txt_join (by k_asm) (by k_mem) (by assumption) (by omega) (by assumption) ?_); intro t9 k9))
  k_with "own KCtEl" => (exact kct_el rfl rfl rfl)
  k_with "own eval ListComp" => ((k_here; k_dflt (refine LCg.ListComp_U (F₀ := by k_asm) (by with_unfolding_all rfl) (by decide) (by rfl) (by decide) (by rfl) ?_)))
  k_with "own CompSrc" => ((k_here; k_dflt (refine LCg.CompSrc.base (by rfl) (by k_asm) (by k_asm) (by assumption) (by ((rw [PySem.sizeLine_eq]; simp only [List.size_toArray]; omega))) ?_; intro g'; (refine' kct_list dg (by assumption) (fun k' t' I' oI' C' oC' D' m' ys' h' tk' E' hk' hC' hx' F' N' off' ne' hMark' => ?_) ?_); (all_goals (try (simp only [LCg.Off3, and_true] at off'))); (all_goals (try k_fold)))))
  k_with "own k_ne" => (refine neN ?_; (try dsimp only); first | exact Nat.ne_of_gt (by with_reducible assumption) | exact Nat.ne_of_lt (by with_reducible assumption) | exact Nat.ne_of_gt (And.left (by with_reducible assumption)) | exact Nat.ne_of_lt (And.left (by with_reducible assumption)) | exact Nat.ne_of_gt (And.right (by with_reducible assumption)) | exact Nat.ne_of_lt (And.right (by with_reducible assumption)) | exact Nat.ne_of_gt (And.left (And.right (by with_reducible assumption))) | exact Nat.ne_of_lt (And.left (And.right (by with_reducible assumption))) | exact Nat.ne_of_gt (And.right (And.right (by with_reducible assumption))) | exact Nat.ne_of_lt (And.right (And.right (by with_reducible assumption))) | exact Nat.ne_of_gt (And.left (And.right (And.right (by with_reducible assumption)))) | exact Nat.ne_of_lt (And.left (And.right (And.right (by with_reducible assumption)))) | exact Nat.ne_of_gt (And.right (And.right (And.right (by with_reducible assumption)))) | exact Nat.ne_of_lt (And.right (And.right (And.right (by with_reducible assumption)))) | exact Nat.ne_of_gt (And.left (And.right (And.right (And.right (by with_reducible assumption))))) | exact Nat.ne_of_lt (And.left (And.right (And.right (And.right (by with_reducible assumption))))) | exact Nat.ne_of_gt (And.right (And.right (And.right (And.right (by with_reducible assumption))))) | exact Nat.ne_of_lt (And.right (And.right (And.right (And.right (by with_reducible assumption))))) | exact Nat.ne_of_gt (And.left (And.right (And.right (And.right (And.right (by with_reducible assumption)))))) | exact Nat.ne_of_lt (And.left (And.right (And.right (And.right (And.right (by with_reducible assumption)))))) | exact Nat.ne_of_gt (And.right (And.right (And.right (And.right (And.right (by with_reducible assumption)))))) | exact Nat.ne_of_lt (And.right (And.right (And.right (And.right (And.right (by with_reducible assumption)))))) | exact Nat.ne_of_gt (And.left (And.right (And.right (And.right (And.right (And.right (by with_reducible assumption))))))) | exact Nat.ne_of_lt (And.left (And.right (And.right (And.right (And.right (And.right (by with_reducible assumption))))))) | exact Nat.ne_of_gt (And.right (And.right (And.right (And.right (And.right (And.right (by with_reducible assumption))))))) | exact Nat.ne_of_lt (And.right (And.right (And.right (And.right (And.right (And.right (by with_reducible assumption))))))) | exact Nat.ne_of_gt (And.left (And.right (And.right (And.right (And.right (And.right (And.right (by with_reducible assumption)))))))) | exact Nat.ne_of_lt (And.left (And.right (And.right (And.right (And.right (And.right (And.right (by with_reducible assumption)))))))) | exact Nat.ne_of_gt (And.right (And.right (And.right (And.right (And.right (And.right (And.right (by with_reducible assumption)))))))) | exact Nat.ne_of_lt (And.right (And.right (And.right (And.right (And.right (And.right (And.right (by with_reducible assumption)))))))) | exact Nat.ne_of_gt (And.left (And.right (And.right (And.right (And.right (And.right (And.right (And.right (by with_reducible assumption))))))))) | exact Nat.ne_of_lt (And.left (And.right (And.right (And.right (And.right (And.right (And.right (And.right (by with_reducible assumption))))))))) | exact Nat.ne_of_gt (And.right (And.right (And.right (And.right (And.right (And.right (And.right (And.right (by with_reducible assumption))))))))) | exact Nat.ne_of_lt (And.right (And.right (And.right (And.right (And.right (And.right (And.right (And.right (by with_reducible assumption))))))))) | exact Nat.ne_of_gt (And.left (And.right (And.right (And.right (And.right (And.right (And.right (And.right (And.right (by with_reducible assumption)))))))))) | exact Nat.ne_of_lt (And.left (And.right (And.right (And.right (And.right (And.right (And.right (And.right (And.right (by with_reducible assumption)))))))))) | exact Nat.ne_of_gt (And.right (And.right (And.right (And.right (And.right (And.right (And.right (And.right (And.right (by with_reducible assumption)))))))))) | exact Nat.ne_of_lt (And.right (And.right (And.right (And.right (And.right (And.right (And.right (And.right (And.right (by with_reducible assumption)))))))))) | exact Nat.ne_of_gt (And.left (And.right (And.right (And.right (And.right (And.right (And.right (And.right (And.right (And.right (by with_reducible assumption))))))))))) | exact Nat.ne_of_lt (And.left (And.right (And.right (And.right (And.right (And.right (And.right (And.right (And.right (And.right (by with_reducible assumption))))))))))) | exact Nat.ne_of_gt (And.right (And.right (And.right (And.right (And.right (And.right (And.right (And.right (And.right (And.right (by with_reducible assumption))))))))))) | exact Nat.ne_of_lt (And.right (And.right (And.right (And.right (And.right (And.right (And.right (And.right (And.right (And.right (by with_reducible assumption))))))))))) | exact Nat.ne_of_gt (And.left (And.right (And.right (And.right (And.right (And.right (And.right (And.right (And.right (And.right (And.right (by with_reducible assumption)))))))))))) | exact Nat.ne_of_lt (And.left (And.right (And.right (And.right (And.right (And.right (And.right (And.right (And.right (And.right (And.right (by with_reducible assumption)))))))))))) | exact Nat.ne_of_gt (And.right (And.right (And.right (And.right (And.right (And.right (And.right (And.right (And.right (And.right (And.right (by with_reducible assumption)))))))))))) | exact Nat.ne_of_lt (And.right (And.right (And.right (And.right (And.right (And.right (And.right (And.right (And.right (And.right (And.right (by with_reducible assumption)))))))))))) | exact Nat.ne_of_gt (And.left (And.right (And.right (And.right (And.right (And.right (And.right (And.right (And.right (And.right (And.right (And.right (by with_reducible assumption))))))))))))) | exact Nat.ne_of_lt (And.left (And.right (And.right (And.right (And.right (And.right (And.right (And.right (And.right (And.right (And.right (And.right (by with_reducible assumption))))))))))))) | exact Nat.ne_of_gt (And.right (And.right (And.right (And.right (And.right (And.right (And.right (And.right (And.right (And.right (And.right (And.right (by with_reducible assumption))))))))))))) | exact Nat.ne_of_lt (And.right (And.right (And.right (And.right (And.right (And.right (And.right (And.right (And.right (And.right (And.right (And.right (by with_reducible assumption))))))))))))) | exact Nat.ne_of_gt (And.left (And.right (And.right (And.right (And.right (And.right (And.right (And.right (And.right (And.right (And.right (And.right (And.right (by with_reducible assumption)))))))))))))) | exact Nat.ne_of_lt (And.left (And.right (And.right (And.right (And.right (And.right (And.right (And.right (And.right (And.right (And.right (And.right (And.right (by with_reducible assumption)))))))))))))) | exact Nat.ne_of_gt (And.right (And.right (And.right (And.right (And.right (And.right (And.right (And.right (And.right (And.right (And.right (And.right (And.right (by with_reducible assumption)))))))))))))) | exact Nat.ne_of_lt (And.right (And.right (And.right (And.right (And.right (And.right (And.right (And.right (And.right (And.right (And.right (And.right (And.right (by with_reducible assumption)))))))))))))) | exact Nat.ne_of_gt (And.left (And.right (And.right (And.right (And.right (And.right (And.right (And.right (And.right (And.right (And.right (And.right (And.right (And.right (by with_reducible assumption))))))))))))))) | exact Nat.ne_of_lt (And.left (And.right (And.right (And.right (And.right (And.right (And.right (And.right (And.right (And.right (And.right (And.right (And.right (And.right (by with_reducible assumption))))))))))))))) | omega)
  unfold Tel; k_fill
  intro meanZ9 mgZ9 mbZ9 gdZ9 cnZ9 csZ9 aZ9 ccdZ9 clZ9 outerZ9 h₀Z9 LZ9 mZ9 sZ9 QZ9 EZ9 FZ9 XZ9 TZ9 hpre hret
  refine wpAny_call ?_
  k_dflt (refine' enter0 ?k2 ?k3 ?k5 ?k6 ?k7 ?k8 ?k9 ?kB ?_ ?c2 ?c3 ?c4 ?c5; (case k2 => k_asm); (case k3 => k_asm); (case k5 => k_asm); (case k6 => k_is); (case k7 => k_is); (case k8 => ktr_room); (case k9 => exact BindsTo.of_eq rfl); (case c5 => decide); (case kB => exact locs rfl); (case c2 => exact rfl); (case c3 => exact rfl); (case c4 => exact rfl); k_whole)
  clear XZ9 TZ9
  intro LZ9' hZ9' FZ9' NZ9' XZ9' TZ9'
  (try dsimp only)
  (try k_fold)
  obtain ⟨hl, hi, hz, hz', hd⟩ := hpre
  k_steps
  all_goals ((show Back _ _ _; unfold Back; dsimp only; refine hret _ _ _ ?_ ?_; (· exact Fr.keep (by k_asm))); exact ⟨_, rfl⟩)
end Mine
namespace Mine
open LCg in
section
variable {prog : Program} {w : World} {A : Around} {E : Value → Shared → Prop} {s : Shared} {h₀ : Heap} {L : Addr} {m : Str → Option Value} {env : Env}
/-- where a comprehension over a range of any step starts -/
noncomputable def SrcG (prog : Program) (w : World) (A : Around) (h₀ : Heap) (L : Addr) (m : Str → Option Value) (env : Env) (elt : Expr) (x : Str) (scope : Scope) (cl : List (Str × Addr)) (Fin : Shared → List Value → List (Addr × Obj) → Prop) (xv : Value) (s₁ : Shared) : Prop :=
  ∃ r a b c t u v n news, xv = .ref r ∧ A.handled = none ∧ Fr h₀ L s₁.heap m ∧ News h₀ L s₁.heap news ∧ IsRange s₁.heap r a b c t u v ∧ Builtin.Range.small a b c = true ∧ Builtin.Range.rangeSize a b c = ((n : Nat) : Int) ∧ n ≤ sizeLine ∧
    ∀ s₂ : Shared, (∃ h, s₂ = { s₁ with heap := h }) → CompRest prog w A h₀ L m env elt x scope cl s₂ (fun _ => True) (fun i v => ∃ t, v = .int (a + (i : Int) * c) t) (Fin s₂) n 0 [] news
theorem SrcG.intro {elt : Expr} {x : Str} {scope : Scope} {cl : List (Str × Addr)} {Fin : Shared → List Value → List (Addr × Obj) → Prop} {r : Addr} {a b c : Int} {t u v : Tok} {n : Nat} {news : List (Addr × Obj)} {s₁ : Shared}
    (hh : A.handled = none) (F : Fr h₀ L s₁.heap m) (N : News h₀ L s₁.heap news) (hr : IsRange s₁.heap r a b c t u v) (hsm : Builtin.Range.small a b c = true) (hn : Builtin.Range.rangeSize a b c = ((n : Nat) : Int)) (hsz : n ≤ sizeLine)
    (h : ∀ g, CompRest prog w A h₀ L m env elt x scope cl { s₁ with heap := g } (fun _ => True) (fun i v => ∃ t, v = .int (a + (i : Int) * c) t) (Fin { s₁ with heap := g }) n 0 [] news) :
    SrcG prog w A h₀ L m env elt x scope cl Fin (.ref r) s₁ := ⟨r, a, b, c, t, u, v, n, news, rfl, hh, F, N, hr, hsm, hn, hsz, fun _ ⟨g, e⟩ => e ▸ h g⟩
theorem ListComp_R {elt iter : Expr} {x : Str} {px : Pos} {scope : Scope} {cl : List (Str × Addr)} {pos : Pos} {Q : Value → Shared → Prop} (_F₀ : Fr h₀ L s.heap m)
    (hclos : closureFor scope env = pure cl) (hcell : ∀ y ∈ scope.names, y.2 ≠ .cell) (hkind : scope.kind = .function)
    (hnames : ∀ y ∈ scope.names, y.2 = .local → scope.names.lookup y.1 = some .local) (hx : scope.names.lookup x = some .local)
    (h : wpAny (model prog w) A (eval iter env) (SrcG prog w A h₀ L m env elt x scope cl (fun s₂ => FinE h₀ L m s₂ Q)) E s)
    (hs : ∀ x, foldedSetIterable iter env x = pure x := by intro _; rfl) :
    wpAny (model prog w) A (eval (.ListComp elt [⟨.Name x px, iter, [], 0⟩] scope pos) env) Q E s := by
  rw [eval_ListComp]
  refine wpAny_comprehension_free (use := none) rfl hs hclos hkind hnames (wpAny_mono h (fun xv s₁ h₁ => ?_) fun _ _ e => e)
  obtain ⟨r, a, b, c, t, u, v, n, news, rfl, hh, F, N, hr, hsm, hn, hsz, R⟩ := h₁
  refine wpAny_pyIter_range hr hsm ?_
  refine block_U (St := fun i h => IsRangeIter h s₁.heap.objs.size (a + (i : Nat) * c) ((n : Int) - (i : Nat)) c) (Walks.range hh s₁.heap.objs.size a c n) hsz (fun i h st => ⟨_, st⟩)
    (fun i h h' o nw st e e' _ _ _ => by
      have st' : h.get? s₁.heap.objs.size = some _ := st
      show h'.get? s₁.heap.objs.size = some _
      rw [e', ← e]; exact st') hcell hkind hx (by show IsRangeIter _ _ _ _ _; rw [hn]; simpa using Heap.get?_push_size _ rfl) (fun b hb => ?_)
    (F.keeps fun _ _ e => Heap.get?_push_of_some _ e) (N.grown fun _ _ e => Heap.get?_push_of_some _ e) (Nat.ne_of_lt F.ns.lt) (next_is_new F) (fun p hp => Nat.ne_of_lt (Heap.lt_size (N p hp).1)) trivial (R _ ⟨_, rfl⟩) ?_
  · rw [List.mem_singleton.mp hb]
    show s₁.heap.objs.size < (s₁.heap.push _).objs.size
    rw [Heap.size_push]; exact Nat.lt_succ_self _
  · intro D C h tk m' ys news' F' N' o1 hn hC₀ hD₀ hCL hDL hCD offC fin
    refine ⟨m', hn, fun h'' hs'' => fin D h'' tk (F'.change hs'' hCL hC₀) (fun p hp => ?_) o1⟩
    refine ⟨hs''.extBut _ _ ?_ (N' p hp).1, (N' p hp).2⟩
    rcases List.mem_cons.mp hp with rfl | hp
    · exact Ne.symm hCD
    · exact offC p hp
end
/-- a range's ints -/
noncomputable def rng (a c : Int) (n : Nat) : List Int := (List.range n).map fun (i : Nat) => a + (i : Int) * c
theorem rng_len (a c : Int) (n : Nat) : (rng a c n).length = n := by simp [rng]
theorem rng_at {a c : Int} {n : Nat} (i : Nat) (v : Value) (hi : i < n) (h : ∃ t, v = .int (a + (i : Int) * c) t) : ∃ k t, (rng a c n)[i]? = some k ∧ v = .int k t := by
  obtain ⟨t, e⟩ := h
  exact ⟨_, t, by simp [rng, hi], e⟩
structure RngOf (a b c : Int) (n : Nat) : Prop where
  small : Builtin.Range.small a b c = true
  size : Builtin.Range.rangeSize a b c = ((n : Nat) : Int)
  few : n ≤ 10
  cards : ∀ k ∈ rng a c n, 0 ≤ k ∧ k ≤ 9
set_option maxHeartbeats 8000000 in
theorem t_textR (w : World) (l : Addr) (a b c : Int) (n : Nat) (t u v : Tok) : Tel w 303 10 134 [.ref l] (fun h => IsRange h l a b c t u v ∧ RngOf a b c n) (fun _ r _ => ∃ t', r = .str (txt (rng a c n)) t') := by
  w_top off
  k_with_none
  k_with "own call type:str" => ((k_here; (with_reducible show wpAny _ _ (call (Value.type "str") [Value.int _ _]) _ _ _); (refine P.str_of_int (dg_log (by assumption) (by assumption)) ?_)))
  k_with "own call builtin:str.join" => ((k_here; (with_reducible show wpAny _ _ (call (Value.builtin "str.join") [Value.str _ _, Value.ref _]) _ _ _); k_dflt (refine' txt_join (by k_asm) (by k_mem) (by assumption) (by (rw [rng_len]; omega)) (by assumption) ?_); intro t9 k9))
  k_with "own KCtEl" => (exact kct_el rfl rfl rfl)
  k_with "own eval ListComp" => ((k_here; k_dflt (refine ListComp_R (by k_asm) (by with_unfolding_all rfl) (by decide) (by rfl) (by decide) (by rfl) ?_)))
  k_with "own SrcG" => ((k_here; k_dflt (refine SrcG.intro (by rfl) (by k_asm) (by k_asm) (Fr.keep (by k_asm) _ _ (by assumption)) (RngOf.small (by assumption)) (RngOf.size (by assumption)) (by rw [sizeLine_eq]; omega) ?_; intro g'; (refine' kct_rest (ks := rng _ _ _) dg (rng_len _ _ _) (fun i v hi hv => rng_at i v hi hv) (fun k' t' I' oI' C' oC' D' m' ys' h' tk' E' hk' hC' hx' F' N' off' ne' hMark' => ?_) ?_); (all_goals (try (simp only [LCg.Off3, and_true] at off'))); (all_goals (try k_fold)))))
  k_with "own k_ne" => (refine neN ?_; (try dsimp only); first | exact Nat.ne_of_gt (by with_reducible assumption) | exact Nat.ne_of_lt (by with_reducible assumption) | exact Nat.ne_of_gt (And.left (by with_reducible assumption)) | exact Nat.ne_of_lt (And.left (by with_reducible assumption)) | exact Nat.ne_of_gt (And.right (by with_reducible assumption)) | exact Nat.ne_of_lt (And.right (by with_reducible assumption)) | exact Nat.ne_of_gt (And.left (And.right (by with_reducible assumption))) | exact Nat.ne_of_lt (And.left (And.right (by with_reducible assumption))) | exact Nat.ne_of_gt (And.right (And.right (by with_reducible assumption))) | exact Nat.ne_of_lt (And.right (And.right (by with_reducible assumption))) | exact Nat.ne_of_gt (And.left (And.right (And.right (by with_reducible assumption)))) | exact Nat.ne_of_lt (And.left (And.right (And.right (by with_reducible assumption)))) | exact Nat.ne_of_gt (And.right (And.right (And.right (by with_reducible assumption)))) | exact Nat.ne_of_lt (And.right (And.right (And.right (by with_reducible assumption)))) | exact Nat.ne_of_gt (And.left (And.right (And.right (And.right (by with_reducible assumption))))) | exact Nat.ne_of_lt (And.left (And.right (And.right (And.right (by with_reducible assumption))))) | exact Nat.ne_of_gt (And.right (And.right (And.right (And.right (by with_reducible assumption))))) | exact Nat.ne_of_lt (And.right (And.right (And.right (And.right (by with_reducible assumption))))) | exact Nat.ne_of_gt (And.left (And.right (And.right (And.right (And.right (by with_reducible assumption)))))) | exact Nat.ne_of_lt (And.left (And.right (And.right (And.right (And.right (by with_reducible assumption)))))) | exact Nat.ne_of_gt (And.right (And.right (And.right (And.right (And.right (by with_reducible assumption)))))) | exact Nat.ne_of_lt (And.right (And.right (And.right (And.right (And.right (by with_reducible assumption)))))) | exact Nat.ne_of_gt (And.left (And.right (And.right (And.right (And.right (And.right (by with_reducible assumption))))))) | exact Nat.ne_of_lt (And.left (And.right (And.right (And.right (And.right (And.right (by with_reducible assumption))))))) | exact Nat.ne_of_gt (And.right (And.right (And.right (And.right (And.right (And.right (by with_reducible assumption))))))) | exact Nat.ne_of_lt (And.right (And.right (And.right (And.right (And.right (And.right (by with_reducible assumption))))))) | exact Nat.ne_of_gt (And.left (And.right (And.right (And.right (And.right (And.right (And.right (by with_reducible assumption)))))))) | exact Nat.ne_of_lt (And.left (And.right (And.right (And.right (And.right (And.right (And.right (by with_reducible assumption)))))))) | exact Nat.ne_of_gt (And.right (And.right (And.right (And.right (And.right (And.right (And.right (by with_reducible assumption)))))))) | exact Nat.ne_of_lt (And.right (And.right (And.right (And.right (And.right (And.right (And.right (by with_reducible assumption)))))))) | exact Nat.ne_of_gt (And.left (And.right (And.right (And.right (And.right (And.right (And.right (And.right (by with_reducible assumption))))))))) | exact Nat.ne_of_lt (And.left (And.right (And.right (And.right (And.right (And.right (And.right (And.right (by with_reducible assumption))))))))) | exact Nat.ne_of_gt (And.right (And.right (And.right (And.right (And.right (And.right (And.right (And.right (by with_reducible assumption))))))))) | exact Nat.ne_of_lt (And.right (And.right (And.right (And.right (And.right (And.right (And.right (And.right (by with_reducible assumption))))))))) | exact Nat.ne_of_gt (And.left (And.right (And.right (And.right (And.right (And.right (And.right (And.right (And.right (by with_reducible assumption)))))))))) | exact Nat.ne_of_lt (And.left (And.right (And.right (And.right (And.right (And.right (And.right (And.right (And.right (by with_reducible assumption)))))))))) | exact Nat.ne_of_gt (And.right (And.right (And.right (And.right (And.right (And.right (And.right (And.right (And.right (by with_reducible assumption)))))))))) | exact Nat.ne_of_lt (And.right (And.right (And.right (And.right (And.right (And.right (And.right (And.right (And.right (by with_reducible assumption)))))))))) | exact Nat.ne_of_gt (And.left (And.right (And.right (And.right (And.right (And.right (And.right (And.right (And.right (And.right (by with_reducible assumption))))))))))) | exact Nat.ne_of_lt (And.left (And.right (And.right (And.right (And.right (And.right (And.right (And.right (And.right (And.right (by with_reducible assumption))))))))))) | exact Nat.ne_of_gt (And.right (And.right (And.right (And.right (And.right (And.right (And.right (And.right (And.right (And.right (by with_reducible assumption))))))))))) | exact Nat.ne_of_lt (And.right (And.right (And.right (And.right (And.right (And.right (And.right (And.right (And.right (And.right (by with_reducible assumption))))))))))) | exact Nat.ne_of_gt (And.left (And.right (And.right (And.right (And.right (And.right (And.right (And.right (And.right (And.right (And.right (by with_reducible assumption)))))))))))) | exact Nat.ne_of_lt (And.left (And.right (And.right (And.right (And.right (And.right (And.right (And.right (And.right (And.right (And.right (by with_reducible assumption)))))))))))) | exact Nat.ne_of_gt (And.right (And.right (And.right (And.right (And.right (And.right (And.right (And.right (And.right (And.right (And.right (by with_reducible assumption)))))))))))) | exact Nat.ne_of_lt (And.right (And.right (And.right (And.right (And.right (And.right (And.right (And.right (And.right (And.right (And.right (by with_reducible assumption)))))))))))) | exact Nat.ne_of_gt (And.left (And.right (And.right (And.right (And.right (And.right (And.right (And.right (And.right (And.right (And.right (And.right (by with_reducible assumption))))))))))))) | exact Nat.ne_of_lt (And.left (And.right (And.right (And.right (And.right (And.right (And.right (And.right (And.right (And.right (And.right (And.right (by with_reducible assumption))))))))))))) | exact Nat.ne_of_gt (And.right (And.right (And.right (And.right (And.right (And.right (And.right (And.right (And.right (And.right (And.right (And.right (by with_reducible assumption))))))))))))) | exact Nat.ne_of_lt (And.right (And.right (And.right (And.right (And.right (And.right (And.right (And.right (And.right (And.right (And.right (And.right (by with_reducible assumption))))))))))))) | exact Nat.ne_of_gt (And.left (And.right (And.right (And.right (And.right (And.right (And.right (And.right (And.right (And.right (And.right (And.right (And.right (by with_reducible assumption)))))))))))))) | exact Nat.ne_of_lt (And.left (And.right (And.right (And.right (And.right (And.right (And.right (And.right (And.right (And.right (And.right (And.right (And.right (by with_reducible assumption)))))))))))))) | exact Nat.ne_of_gt (And.right (And.right (And.right (And.right (And.right (And.right (And.right (And.right (And.right (And.right (And.right (And.right (And.right (by with_reducible assumption)))))))))))))) | exact Nat.ne_of_lt (And.right (And.right (And.right (And.right (And.right (And.right (And.right (And.right (And.right (And.right (And.right (And.right (And.right (by with_reducible assumption)))))))))))))) | exact Nat.ne_of_gt (And.left (And.right (And.right (And.right (And.right (And.right (And.right (And.right (And.right (And.right (And.right (And.right (And.right (And.right (by with_reducible assumption))))))))))))))) | exact Nat.ne_of_lt (And.left (And.right (And.right (And.right (And.right (And.right (And.right (And.right (And.right (And.right (And.right (And.right (And.right (And.right (by with_reducible assumption))))))))))))))) | omega)
  unfold Tel; k_fill
  intro meanZ9 mgZ9 mbZ9 gdZ9 cnZ9 csZ9 aZ9 ccdZ9 clZ9 outerZ9 h₀Z9 LZ9 mZ9 sZ9 QZ9 EZ9 FZ9 XZ9 TZ9 hpre hret
  refine wpAny_call ?_
  k_dflt (refine' enter0 ?k2 ?k3 ?k5 ?k6 ?k7 ?k8 ?k9 ?kB ?_ ?c2 ?c3 ?c4 ?c5; (case k2 => k_asm); (case k3 => k_asm); (case k5 => k_asm); (case k6 => k_is); (case k7 => k_is); (case k8 => ktr_room); (case k9 => exact BindsTo.of_eq rfl); (case c5 => decide); (case kB => exact locs rfl); (case c2 => exact rfl); (case c3 => exact rfl); (case c4 => exact rfl); k_whole)
  clear XZ9 TZ9
  intro LZ9' hZ9' FZ9' NZ9' XZ9' TZ9'
  (try dsimp only)
  (try k_fold)
  obtain ⟨hl, hr⟩ := hpre
  have hfew := hr.few
  have hcards := hr.cards
  k_steps

  all_goals ((show Back _ _ _; unfold Back; dsimp only; refine hret _ _ _ ?_ ?_; (· exact Fr.keep (by k_asm))); exact ⟨_, rfl⟩)
end Mine
namespace Mine
noncomputable def dotsJ (y : Str) : Str := Txt.join (Str.ofString "...") (PyProof.Rows.signs y)
/-- _law_dots -/
noncomputable def dots (y : Str) : Str := Str.ofString "..." ++ dotsJ y ++ Str.ofString "..."
theorem signs_sum (y : Str) : ((PyProof.Rows.signs y).map (·.length)).sum = y.length := by
  have e0 := signLens_sum y.cps.toList
  simpa [PyProof.Rows.signs, Str.length] using e0
theorem signs_len (y : Str) : (PyProof.Rows.signs y).length = y.length := by simp [PyProof.Rows.signs, Str.length]
theorem dotsJ_len (y : Str) : (dotsJ y).length ≤ 4 * y.length := by
  have h := StrLaws.join_length_le (Str.ofString "...") (PyProof.Rows.signs y)
  have e : dotsJ y = Str.join (Str.ofString "...") (PyProof.Rows.signs y) := StrLaws.glued_eq_join _ _
  rw [e]
  rw [signs_sum, signs_len, show (Str.ofString "...").length = 3 from by decide +kernel] at h
  (first | lia | omega)
theorem dots_len (y : Str) : (dots y).length ≤ 4 * y.length + 6 := by
  have := dotsJ_len y
  unfold dots
  rw [Str.length_append, Str.length_append, show (Str.ofString "...").length = 3 from by decide +kernel]
  (first | lia | omega)
section
variable {prog : Program} {w : World} {A A₀ : Around} {E : Value → Shared → Prop} {s : Shared} {L D : Addr} {h₀ base : Heap} {m mg mb : Str → Option Value} {news news' : List (Addr × Obj)} {x y : Str} {t u v v' : Tok} {i j : Int}
theorem dots_join {Q : Value → Shared → Prop} (hh : A.handled = none) (F : Fr h₀ L s.heap m) (N : News h₀ L s.heap news) (hy : y.length ≤ 1000)
    (h : ∀ h' k t', (dotsJ y).length ≤ 4 * y.length → Fr h₀ L h' m → News h₀ L h' news → Q (.str (dotsJ y) t') { s with heap := h', toks := k }) :
    wpAny (model prog w) A (call (.builtin "str.join") [.str (Str.ofString "...") t, .str y u]) Q E s :=
  SC.joinStr hh (by
    unfold JoinOk
    rw [StrLaws.joinTotal, signs_sum, signs_len, show (Str.ofString "...").length = 3 from by decide +kernel]
    unfold Builtin.Str.tooLong
    rw [sizeLine_eq]
    simp; (first | lia | omega)) fun h' k t' st => h h' k t' (dotsJ_len y) (fr_stay F st) (news_stay N st)
end
set_option maxHeartbeats 8000000 in
theorem t_dots (w : World) (x : Str) (t : Tok) : Tel w 303 10 141 [.str x t] (fun h => x.length ≤ 1000) (fun _ r _ => ∃ t', r = .str (dots x) t') := by
  w_top off
  k_with_none
  k_with "own call builtin:str.join" => ((k_here; (with_reducible show wpAny _ _ (call (Value.builtin "str.join") [Value.str _ _, Value.str _ _]) _ _ _); k_dflt (refine' dots_join (by rfl) (by k_asm) (by k_asm) (by omega) ?_); intro h9 k9 t9 hl9 F9 N9; (try k_sweep)))
  k_with "own k_ne" => (refine neN ?_; (try dsimp only); first | exact Nat.ne_of_gt (by with_reducible assumption) | exact Nat.ne_of_lt (by with_reducible assumption) | exact Nat.ne_of_gt (And.left (by with_reducible assumption)) | exact Nat.ne_of_lt (And.left (by with_reducible assumption)) | exact Nat.ne_of_gt (And.right (by with_reducible assumption)) | exact Nat.ne_of_lt (And.right (by with_reducible assumption)) | exact Nat.ne_of_gt (And.left (And.right (by with_reducible assumption))) | exact Nat.ne_of_lt (And.left (And.right (by with_reducible assumption))) | exact Nat.ne_of_gt (And.right (And.right (by with_reducible assumption))) | exact Nat.ne_of_lt (And.right (And.right (by with_reducible assumption))) | exact Nat.ne_of_gt (And.left (And.right (And.right (by with_reducible assumption)))) | exact Nat.ne_of_lt (And.left (And.right (And.right (by with_reducible assumption)))) | exact Nat.ne_of_gt (And.right (And.right (And.right (by with_reducible assumption)))) | exact Nat.ne_of_lt (And.right (And.right (And.right (by with_reducible assumption)))) | exact Nat.ne_of_gt (And.left (And.right (And.right (And.right (by with_reducible assumption))))) | exact Nat.ne_of_lt (And.left (And.right (And.right (And.right (by with_reducible assumption))))) | exact Nat.ne_of_gt (And.right (And.right (And.right (And.right (by with_reducible assumption))))) | exact Nat.ne_of_lt (And.right (And.right (And.right (And.right (by with_reducible assumption))))) | exact Nat.ne_of_gt (And.left (And.right (And.right (And.right (And.right (by with_reducible assumption)))))) | exact Nat.ne_of_lt (And.left (And.right (And.right (And.right (And.right (by with_reducible assumption)))))) | exact Nat.ne_of_gt (And.right (And.right (And.right (And.right (And.right (by with_reducible assumption)))))) | exact Nat.ne_of_lt (And.right (And.right (And.right (And.right (And.right (by with_reducible assumption)))))) | exact Nat.ne_of_gt (And.left (And.right (And.right (And.right (And.right (And.right (by with_reducible assumption))))))) | exact Nat.ne_of_lt (And.left (And.right (And.right (And.right (And.right (And.right (by with_reducible assumption))))))) | exact Nat.ne_of_gt (And.right (And.right (And.right (And.right (And.right (And.right (by with_reducible assumption))))))) | exact Nat.ne_of_lt (And.right (And.right (And.right (And.right (And.right (And.right (by with_reducible assumption))))))) | exact Nat.ne_of_gt (And.left (And.right (And.right (And.right (And.right (And.right (And.right (by with_reducible assumption)))))))) | exact Nat.ne_of_lt (And.left (And.right (And.right (And.right (And.right (And.right (And.right (by with_reducible assumption)))))))) | exact Nat.ne_of_gt (And.right (And.right (And.right (And.right (And.right (And.right (And.right (by with_reducible assumption)))))))) | exact Nat.ne_of_lt (And.right (And.right (And.right (And.right (And.right (And.right (And.right (by with_reducible assumption)))))))) | exact Nat.ne_of_gt (And.left (And.right (And.right (And.right (And.right (And.right (And.right (And.right (by with_reducible assumption))))))))) | exact Nat.ne_of_lt (And.left (And.right (And.right (And.right (And.right (And.right (And.right (And.right (by with_reducible assumption))))))))) | exact Nat.ne_of_gt (And.right (And.right (And.right (And.right (And.right (And.right (And.right (And.right (by with_reducible assumption))))))))) | exact Nat.ne_of_lt (And.right (And.right (And.right (And.right (And.right (And.right (And.right (And.right (by with_reducible assumption))))))))) | exact Nat.ne_of_gt (And.left (And.right (And.right (And.right (And.right (And.right (And.right (And.right (And.right (by with_reducible assumption)))))))))) | exact Nat.ne_of_lt (And.left (And.right (And.right (And.right (And.right (And.right (And.right (And.right (And.right (by with_reducible assumption)))))))))) | exact Nat.ne_of_gt (And.right (And.right (And.right (And.right (And.right (And.right (And.right (And.right (And.right (by with_reducible assumption)))))))))) | exact Nat.ne_of_lt (And.right (And.right (And.right (And.right (And.right (And.right (And.right (And.right (And.right (by with_reducible assumption)))))))))) | exact Nat.ne_of_gt (And.left (And.right (And.right (And.right (And.right (And.right (And.right (And.right (And.right (And.right (by with_reducible assumption))))))))))) | exact Nat.ne_of_lt (And.left (And.right (And.right (And.right (And.right (And.right (And.right (And.right (And.right (And.right (by with_reducible assumption))))))))))) | exact Nat.ne_of_gt (And.right (And.right (And.right (And.right (And.right (And.right (And.right (And.right (And.right (And.right (by with_reducible assumption))))))))))) | exact Nat.ne_of_lt (And.right (And.right (And.right (And.right (And.right (And.right (And.right (And.right (And.right (And.right (by with_reducible assumption))))))))))) | exact Nat.ne_of_gt (And.left (And.right (And.right (And.right (And.right (And.right (And.right (And.right (And.right (And.right (And.right (by with_reducible assumption)))))))))))) | exact Nat.ne_of_lt (And.left (And.right (And.right (And.right (And.right (And.right (And.right (And.right (And.right (And.right (And.right (by with_reducible assumption)))))))))))) | exact Nat.ne_of_gt (And.right (And.right (And.right (And.right (And.right (And.right (And.right (And.right (And.right (And.right (And.right (by with_reducible assumption)))))))))))) | exact Nat.ne_of_lt (And.right (And.right (And.right (And.right (And.right (And.right (And.right (And.right (And.right (And.right (And.right (by with_reducible assumption)))))))))))) | exact Nat.ne_of_gt (And.left (And.right (And.right (And.right (And.right (And.right (And.right (And.right (And.right (And.right (And.right (And.right (by with_reducible assumption))))))))))))) | exact Nat.ne_of_lt (And.left (And.right (And.right (And.right (And.right (And.right (And.right (And.right (And.right (And.right (And.right (And.right (by with_reducible assumption))))))))))))) | exact Nat.ne_of_gt (And.right (And.right (And.right (And.right (And.right (And.right (And.right (And.right (And.right (And.right (And.right (And.right (by with_reducible assumption))))))))))))) | exact Nat.ne_of_lt (And.right (And.right (And.right (And.right (And.right (And.right (And.right (And.right (And.right (And.right (And.right (And.right (by with_reducible assumption))))))))))))) | exact Nat.ne_of_gt (And.left (And.right (And.right (And.right (And.right (And.right (And.right (And.right (And.right (And.right (And.right (And.right (And.right (by with_reducible assumption)))))))))))))) | exact Nat.ne_of_lt (And.left (And.right (And.right (And.right (And.right (And.right (And.right (And.right (And.right (And.right (And.right (And.right (And.right (by with_reducible assumption)))))))))))))) | exact Nat.ne_of_gt (And.right (And.right (And.right (And.right (And.right (And.right (And.right (And.right (And.right (And.right (And.right (And.right (And.right (by with_reducible assumption)))))))))))))) | exact Nat.ne_of_lt (And.right (And.right (And.right (And.right (And.right (And.right (And.right (And.right (And.right (And.right (And.right (And.right (And.right (by with_reducible assumption)))))))))))))) | exact Nat.ne_of_gt (And.left (And.right (And.right (And.right (And.right (And.right (And.right (And.right (And.right (And.right (And.right (And.right (And.right (And.right (by with_reducible assumption))))))))))))))) | exact Nat.ne_of_lt (And.left (And.right (And.right (And.right (And.right (And.right (And.right (And.right (And.right (And.right (And.right (And.right (And.right (And.right (by with_reducible assumption))))))))))))))) | omega)
  unfold Tel; k_fill
  intro meanZ9 mgZ9 mbZ9 gdZ9 cnZ9 csZ9 aZ9 ccdZ9 clZ9 outerZ9 h₀Z9 LZ9 mZ9 sZ9 QZ9 EZ9 FZ9 XZ9 TZ9 hpre hret
  refine wpAny_call ?_
  k_dflt (refine' enter0 ?k2 ?k3 ?k5 ?k6 ?k7 ?k8 ?k9 ?kB ?_ ?c2 ?c3 ?c4 ?c5; (case k2 => k_asm); (case k3 => k_asm); (case k5 => k_asm); (case k6 => k_is); (case k7 => k_is); (case k8 => ktr_room); (case k9 => exact BindsTo.of_eq rfl); (case c5 => decide); (case kB => exact locs rfl); (case c2 => exact rfl); (case c3 => exact rfl); (case c4 => exact rfl); k_whole)
  clear XZ9 TZ9
  intro LZ9' hZ9' FZ9' NZ9' XZ9' TZ9'
  (try dsimp only)
  (try k_fold)
  k_steps

  all_goals ((show Back _ _ _; unfold Back; dsimp only; refine hret _ _ _ ?_ ?_; (· exact Fr.keep (by k_asm))); exact ⟨_, rfl⟩)
end Mine
namespace Mine
open PySem.Builtin PySem.Builtin.Str in
noncomputable def find4 (x y : Str) (i j : Int) : Int := match occurrences x y (fromIndex x.length i) (min (fromIndex x.length j) x.length) 1 with | k :: _ => (k : Int) | [] => -1
section
open PySem.Builtin PySem.Builtin.Str
theorem gives_find4 (x y : Str) (i j : Int) (t u v v' : Tok) : Gives («str.find» ⟨[.str x t, .str y u, .int i v, .int j v'], []⟩) (.int (find4 x y i j)) := by
  show Gives (match occurrences x y (fromIndex x.length i) (min (fromIndex x.length j) x.length) 1 with | k :: _ => retInt k | [] => (do rule "str.find.not-found"; retInt (-1))) _
  unfold find4
  cases occurrences x y (fromIndex x.length i) (min (fromIndex x.length j) x.length) 1 with
  | nil => exact .rule (.of_eq rfl)
  | cons k _ => exact .of_eq rfl
end
/-- _ellipsis_match's last loop -/
noncomputable def emGo (g : Str) (e : Int) : List Str → Int → Bool
  | [], _ => true
  | y :: r, p => if find4 g y p e < 0 then false else emGo g e r (find4 g y p e + y.length)
noncomputable def emParts (g a : Str) (mid : List Str) (z : Str) : Bool :=
  if (a.length : Int) ≠ 0 ∧ Txt.startswith g a = false then false else
  if (z.length : Int) ≠ 0 ∧ Txt.endswith g z = false then false else
  if (g.length : Int) - z.length < a.length then false else
  emGo g (g.length - z.length) ((if (a.length : Int) = 0 then [a] else []) ++ (mid ++ (if (z.length : Int) = 0 then [z] else []))) a.length
/-- _ellipsis_match -/
noncomputable def em (x y : Str) : Bool :=
  if (Builtin.Str.occurrences x (Str.ofString "...") 0 x.length 1).isEmpty = true then x == y else
  match Txt.split x (Str.ofString "...") with
  | a :: r => emParts y a r.dropLast (r.getLastD Str.empty)
  | [] => false
theorem em_eq {x y a z : Str} {mid : List Str} (hc : (Builtin.Str.occurrences x (Str.ofString "...") 0 x.length 1).isEmpty = false) (hsp : Txt.split x (Str.ofString "...") = a :: (mid ++ [z])) : em x y = emParts y a mid z := by
  unfold em
  rw [hc, if_neg Bool.false_ne_true, hsp]
  simp
section
variable {x y a z : Str} {mid : List Str}
theorem em_no (hc : (Builtin.Str.occurrences x (Str.ofString "...") 0 x.length 1).isEmpty = true) : em x y = (x == y) := by unfold em; rw [hc, if_pos rfl]
theorem em_r1 (hc : (Builtin.Str.occurrences x (Str.ofString "...") 0 x.length 1).isEmpty = false) (hsp : Txt.split x (Str.ofString "...") = a :: (mid ++ [z])) (h : (a.length : Int) ≠ 0) (h' : Txt.startswith y a = false) : em x y = false := by
  rw [em_eq hc hsp, emParts, if_pos ⟨h, h'⟩]
theorem em_r2 (hc : (Builtin.Str.occurrences x (Str.ofString "...") 0 x.length 1).isEmpty = false) (hsp : Txt.split x (Str.ofString "...") = a :: (mid ++ [z])) (h : (z.length : Int) ≠ 0) (h' : Txt.endswith y z = false) : em x y = false := by
  rw [em_eq hc hsp, emParts]
  split
  · rfl
  · rw [if_pos ⟨h, h'⟩]
theorem em_r3 (hc : (Builtin.Str.occurrences x (Str.ofString "...") 0 x.length 1).isEmpty = false) (hsp : Txt.split x (Str.ofString "...") = a :: (mid ++ [z])) (h : (y.length : Int) - z.length < a.length) : em x y = false := by
  rw [em_eq hc hsp, emParts]
  split
  · rfl
  · split <;> first | rfl | rw [if_pos h]
theorem em_r4 (hc : (Builtin.Str.occurrences x (Str.ofString "...") 0 x.length 1).isEmpty = false) (hsp : Txt.split x (Str.ofString "...") = a :: (mid ++ [z])) (hz : (z.length : Int) = 0) (h : (y.length : Int) < a.length) : em x y = false := em_r3 hc hsp (by (first | lia | omega))
theorem em_r5 (hc : (Builtin.Str.occurrences x (Str.ofString "...") 0 x.length 1).isEmpty = false) (hsp : Txt.split x (Str.ofString "...") = a :: (mid ++ [z])) (hz : (a.length : Int) = 0) (h : (y.length : Int) - z.length < 0) : em x y = false := em_r3 hc hsp (by (first | lia | omega))
theorem em_s (hc : (Builtin.Str.occurrences x (Str.ofString "...") 0 x.length 1).isEmpty = false) (hsp : Txt.split x (Str.ofString "...") = a :: (mid ++ [z])) (h1 : (a.length : Int) = 0 ∨ Txt.startswith y a = true) (h2 : (z.length : Int) = 0 ∨ Txt.endswith y z = true) (h3 : ¬ (y.length : Int) - z.length < a.length) :
    emGo y (y.length - z.length) ((if (a.length : Int) = 0 then [a] else []) ++ (mid ++ (if (z.length : Int) = 0 then [z] else []))) a.length = em x y := by
  have c1 : ¬ ((a.length : Int) ≠ 0 ∧ Txt.startswith y a = false) := by
    rintro ⟨q, q'⟩
    rcases h1 with h | h
    · exact q h
    · rw [h] at q'; cases q'
  have c2 : ¬ ((z.length : Int) ≠ 0 ∧ Txt.endswith y z = false) := by
    rintro ⟨q, q'⟩
    rcases h2 with h | h
    · exact q h
    · rw [h] at q'; cases q'
  rw [em_eq hc hsp, emParts, if_neg c1, if_neg c2, if_neg h3]
theorem em_s1 (hc : (Builtin.Str.occurrences x (Str.ofString "...") 0 x.length 1).isEmpty = false) (hsp : Txt.split x (Str.ofString "...") = a :: (mid ++ [z])) (ha : (a.length : Int) ≠ 0) (hz : (z.length : Int) ≠ 0) (h1 : Txt.startswith y a = true) (h2 : Txt.endswith y z = true) (h3 : ¬ (y.length : Int) - z.length < a.length) :
    emGo y (y.length - z.length) mid a.length = em x y := by
  have := em_s hc hsp (.inr h1) (.inr h2) h3
  rwa [if_neg ha, if_neg hz, List.nil_append, List.append_nil] at this
theorem em_s2 (hc : (Builtin.Str.occurrences x (Str.ofString "...") 0 x.length 1).isEmpty = false) (hsp : Txt.split x (Str.ofString "...") = a :: (mid ++ [z])) (ha : (a.length : Int) ≠ 0) (hz : (z.length : Int) = 0) (h1 : Txt.startswith y a = true) (h3 : ¬ (y.length : Int) < a.length) :
    emGo y y.length (mid ++ [z]) a.length = em x y := by
  have := em_s hc hsp (.inr h1) (.inl hz) (by (first | lia | omega))
  rwa [if_neg ha, if_pos hz, List.nil_append, hz, Int.sub_zero] at this
theorem em_s3 (hc : (Builtin.Str.occurrences x (Str.ofString "...") 0 x.length 1).isEmpty = false) (hsp : Txt.split x (Str.ofString "...") = a :: (mid ++ [z])) (ha : (a.length : Int) = 0) (hz : (z.length : Int) ≠ 0) (h2 : Txt.endswith y z = true) (h3 : ¬ (y.length : Int) - z.length < 0) :
    emGo y (y.length - z.length) (a :: mid) 0 = em x y := by
  have := em_s hc hsp (.inl ha) (.inr h2) (by (first | lia | omega))
  rwa [if_pos ha, if_neg hz, List.append_nil, ha] at this
theorem em_s4 (hc : (Builtin.Str.occurrences x (Str.ofString "...") 0 x.length 1).isEmpty = false) (hsp : Txt.split x (Str.ofString "...") = a :: (mid ++ [z])) (ha : (a.length : Int) = 0) (hz : (z.length : Int) = 0) :
    emGo y y.length (a :: (mid ++ [z])) 0 = em x y := by
  have := em_s (y := y) hc hsp (.inl ha) (.inl hz) (by (first | lia | omega))
  rwa [if_pos ha, if_pos hz, ha, hz, Int.sub_zero] at this
theorem ev_mid {mid : List (Str × Tok)} : StrsAre (strValues mid) (mid.map (·.1)) := strsAre_of_values mid
theorem ev_app : ∀ {mid : List (Str × Tok)} {z : Str} {tz : Tok}, StrsAre (strValues mid ++ [Value.str z tz]) (mid.map (·.1) ++ [z])
  | [], z, tz => .cons z tz .nil
  | (b, t) :: r, z, tz => .cons b t ev_app
theorem ev_cons {mid : List (Str × Tok)} {a : Str} {ta : Tok} : StrsAre (Value.str a ta :: strValues mid) (a :: mid.map (·.1)) := .cons a ta ev_mid
theorem ev_both {mid : List (Str × Tok)} {a z : Str} {ta tz : Tok} : StrsAre (Value.str a ta :: (strValues mid ++ [Value.str z tz])) (a :: (mid.map (·.1) ++ [z])) := .cons a ta ev_app
theorem tx_short {n : Nat} {mid : List Str} (ha : a.length ≤ n) (hz : z.length ≤ n) (hm : ∀ b ∈ mid, b.length ≤ n) : (∀ b ∈ mid, b.length ≤ n) ∧ (∀ b ∈ mid ++ [z], b.length ≤ n) ∧ (∀ b ∈ a :: mid, b.length ≤ n) ∧ ∀ b ∈ a :: (mid ++ [z]), b.length ≤ n := by
  refine ⟨hm, ?_, ?_, ?_⟩ <;> intro b hb <;> simp only [List.mem_cons, List.mem_append, List.not_mem_nil, or_false] at hb <;> rcases hb with h | h <;> first | (subst h; assumption) | exact hm b h | (rcases h with h | h <;> first | (subst h; assumption) | exact hm b h)
theorem emGo_no {g y : Str} {e p : Int} {r : List Str} {R : Bool} (h : emGo g e (y :: r) p = R) (h' : find4 g y p e < 0) : R = false := by
  rw [← h, emGo, if_pos h']
theorem emGo_on {g y : Str} {e p : Int} {r : List Str} {R : Bool} (h : emGo g e (y :: r) p = R) (h' : ¬ find4 g y p e < 0) : emGo g e r (find4 g y p e + y.length) = R := by
  rw [← h, emGo, if_neg h']
theorem emGo_end {g : Str} {e p : Int} {R : Bool} (h : emGo g e [] p = R) : R = true := h.symm
end
theorem split_two {x : Str} (h : (Builtin.Str.occurrences x (Str.ofString "...") 0 x.length 1).isEmpty = false) : 2 ≤ (Txt.split x (Str.ofString "...")).length := by
  obtain ⟨i, h1, h2⟩ := (StrLaws.found_iff x (Str.ofString "...")).mp (by rw [h]; rfl)
  have hl : (Str.ofString "...").length = 3 := by decide +kernel
  have hk : Builtin.Str.strKind (Str.ofString "...") = 1 := by decide +kernel
  have hk1 : 1 ≤ Builtin.Str.strKind x := by unfold Builtin.Str.strKind; split; · decide
                                             · split <;> decide
  rcases StrLaws.occ_head x (Str.ofString "...") (x.length + 1) (by (first | lia | omega)) with ⟨_, hn⟩ | ⟨j, r, e, _⟩
  · exact absurd ⟨h1, h2⟩ (hn i)
  · unfold Txt.split
    rw [if_neg (by rw [hl] at h1 ⊢; rw [hk]; simp; (first | lia | omega)), if_neg (by rw [e]; simp), PySem.length_partsBetween, e]
    simp
theorem two_ends {l : List (Str × Tok)} {ws : List Str} (e : l.map (·.1) = ws) (h : 2 ≤ ws.length) : ∃ a ta mid z tz, strValues l = Value.str a ta :: (strValues mid ++ [Value.str z tz]) ∧ ws = a :: (mid.map (·.1) ++ [z]) := by
  subst e
  match l, h with
  | (a, ta) :: b :: r, _ =>
    have hne : b :: r ≠ [] := by simp
    refine ⟨a, ta, (b :: r).dropLast, ((b :: r).getLast hne).1, ((b :: r).getLast hne).2, ?_, ?_⟩
    · have := List.dropLast_concat_getLast hne
      show Value.str a ta :: strValues (b :: r) = _
      congr 1
      conv => lhs; rw [← this]
      simp [strValues]
    · have := List.dropLast_concat_getLast hne
      show a :: (b :: r).map (·.1) = _
      congr 1
      conv => lhs; rw [← this]
      simp
section
variable {prog : Program} {w : World} {A A₀ : Around} {E : Value → Shared → Prop} {s : Shared} {L : Addr} {h₀ base : Heap} {m mg mb : Str → Option Value} {news news' : List (Addr × Obj)} {x y : Str} {t u v v' : Tok} {i j : Int}
theorem call_find4 {Q : Value → Shared → Prop} (hq : Q (.int (find4 x y i j) s.toks) { s with toks := s.toks + 1 }) : wpAny (model prog w) A (call (.builtin "str.find") [.str x t, .str y u, .int i v, .int j v']) Q E s :=
  call_gives F.slot_str_find (typeIs_str _ _ _) F.entry_str_find (F.args_str_find_4 _ _ _ _) (gives_find4 x y i j t u v v') hq
theorem call_split3 {Q : Value → Shared → Prop} (hF : Fr h₀ L s.heap m) (hN : News h₀ L s.heap news) (hx : x.length ≤ 1000) (hc : (Builtin.Str.occurrences x (Str.ofString "...") 0 x.length 1).isEmpty = false)
    (h : ∀ l h' k a ta mid z tz, Txt.split x (Str.ofString "...") = a :: (mid.map (·.1) ++ [z]) → a.length ≤ x.length → z.length ≤ x.length → (∀ b ∈ mid.map (·.1), b.length ≤ x.length) → mid.length ≤ x.length → (∀ p ∈ news, p.1 < l) →
      Fr h₀ L h' m → News h₀ L h' ((l, listOf (Value.str a ta :: (strValues mid ++ [Value.str z tz])).toArray 0) :: news) → Q (.ref l) { s with heap := h', toks := k }) :
    wpAny (model prog w) A (call (.builtin "str.split") [.str x t, .str (Str.ofString "...") u]) Q E s := by
  refine splitN1A hF hN (by decide +kernel) (fun l h' k e _ hle _ F N => ?_) (by rw [sizeLine_eq]; (first | lia | omega))
  have h2 := split_two hc
  obtain ⟨a, ta, mid, z, tz, e1, e2⟩ := two_ends e h2
  rw [e1] at N
  have hlen : (Txt.split x (Str.ofString "...")).length ≤ x.length + 2 := by
    unfold Txt.split
    split
    · simp
    · split
      · simp
      · rw [PySem.length_partsBetween]
        have := StrLaws.occ_length_le x (Str.ofString "...") 0 x.length (x.length + 1)
        (first | lia | omega)
  rw [e, e2] at hle
  refine h _ h' k a ta mid z tz e2 (hle a (by simp)) (hle z (by simp)) (fun b hb => hle b (by simp only [List.mem_cons, List.mem_append]; exact .inr (.inl hb))) ?_ (fun p hp => Heap.lt_size (hN p hp).1) F N
  rw [e2] at hlen
  simp at hlen
  (first | lia | omega)
theorem truthy_short {Q : Bool → Shared → Prop} (hx : x.length ≤ 1000) (h : Q ((x.length : Int) != 0) { s with toks := s.toks + 1 + 1 }) : wpAny (model prog w) A (truthy (.str x t)) Q E s :=
  P.truthy_str (by (first | lia | omega)) h
theorem len_short {Q : Value → Shared → Prop} (hx : x.length ≤ 1000) (h : Q (.int (x.length : Int) (s.toks + 1)) { s with toks := s.toks + 1 + 1 }) : wpAny (model prog w) A (call (.builtin "len") [.str x t]) Q E s :=
  P.len_str (by (first | lia | omega)) h
theorem listAt {h : Heap} {l : Addr} {vs : List Value} {n : Nat} (N : News h₀ L h news) (hm : (l, listOf vs.toArray n) ∈ news) : h.IsList l vs.toArray := ⟨_, (N _ hm).1, rfl, n, rfl⟩
theorem len_ends {l : Addr} {n : Nat} {va vz : Value} {xs : List (Str × Tok)} {Q : Value → Shared → Prop} (N : News h₀ L s.heap news) (hm : (l, listOf (va :: (strValues xs ++ [vz])).toArray n) ∈ news) (hf : xs.length ≤ 100000)
    (h : Q (.int (xs.length + 2 : Int) (s.toks + 1)) { s with toks := s.toks + 1 + 1 }) : wpAny (model prog w) A (call (.builtin "len") [.ref l]) Q E s := by
  have e : ((va :: (strValues xs ++ [vz])).toArray.size : Int) = (xs.length + 2 : Int) := by simp [strValues]; (first | lia | omega)
  exact len_list (listAt N hm) (by rw [e]; (first | lia | omega)) (by rw [e]; exact h)
theorem item_first {value slice : PySem.Expr} {l : Addr} {n : Nat} {va : Value} {xs : List Value} {u : Tok} {Q : Value → Shared → Prop} (N : News h₀ L s.heap news) (hm : (l, listOf (va :: xs).toArray n) ∈ news) (h : Q va s)
    (hs : subscripted slice false (.ref l) (.int 0 u) = operate [.ref l, .int 0 u] (getItem (.ref l) (.int 0 u)) := by with_unfolding_all rfl) (hg : ∀ r, letTemporaryGo value (.ref l) r = pure () := by intro _; with_unfolding_all rfl) :
    wpAny (model prog w) A (subscriptTail value slice (.ref l) (.int 0 u)) Q E s :=
  item_list (listAt N hm) (by decide) (by decide) (by simp) h hs hg
theorem item_last {value slice : PySem.Expr} {l : Addr} {n : Nat} {vz : Value} {xs : List Value} {u : Tok} {Q : Value → Shared → Prop} (N : News h₀ L s.heap news) (hm : (l, listOf (xs ++ [vz]).toArray n) ∈ news) (h : Q vz s)
    (hs : subscripted slice false (.ref l) (.int (-1) u) = operate [.ref l, .int (-1) u] (getItem (.ref l) (.int (-1) u)) := by with_unfolding_all rfl) (hg : ∀ r, letTemporaryGo value (.ref l) r = pure () := by intro _; with_unfolding_all rfl) :
    wpAny (model prog w) A (subscriptTail value slice (.ref l) (.int (-1) u)) Q E s :=
  subscriptTail_builtin (listAt N hm).typeIs slot_list_getitem.lookup (wpAny_getItem_list_neg (listAt N hm) (by decide) (by simp; (first | lia | omega)) (by decide) (by
    have : ((-1 : Int) + ((xs ++ [vz]).toArray.size : Int)).toNat = xs.length := by simp; (first | lia | omega)
    rw [this]; simp) h) hs hg
theorem del_first {l : Addr} {n : Nat} {va : Value} {xs : List Value} {u : Tok} {Q : Unit → Shared → Prop} (F : Fr h₀ L s.heap m) (N : News h₀ L s.heap news) (U : Upd l (listOf (va :: xs).toArray n) (listOf xs.toArray (n + 1)) news news') (hf : xs.length ≤ 100000)
    (h : ∀ h', Fr h₀ L h' m → News h₀ L h' news' → Q () { s with heap := h' }) : wpAny (model prog w) A (delItem (.ref l) (.int 0 u)) Q E s :=
  ki_del F N rfl (k := 0) (by simp [seqIndex?]) rfl U (by rw [sizeLine_eq]; simp; (first | lia | omega)) h
theorem delL_last (vz : Value) : ∀ xs : List Value, ki_delL (xs ++ [vz]) xs.length = some xs
  | [] => rfl
  | x :: r => by
    show (match ki_delL (r ++ [vz]) r.length with | some q => some (x :: q) | none => none) = _
    rw [delL_last vz r]
theorem del_last {l : Addr} {n : Nat} {vz : Value} {xs : List Value} {u : Tok} {Q : Unit → Shared → Prop} (F : Fr h₀ L s.heap m) (N : News h₀ L s.heap news) (U : Upd l (listOf (xs ++ [vz]).toArray n) (listOf xs.toArray (n + 1)) news news') (hf : xs.length ≤ 100000)
    (h : ∀ h', Fr h₀ L h' m → News h₀ L h' news' → Q () { s with heap := h' }) : wpAny (model prog w) A (delItem (.ref l) (.int (-1) u)) Q E s :=
  ki_del F N rfl (k := xs.length) (by simp [seqIndex?]; (first | lia | omega)) (delL_last vz xs) U (by rw [sizeLine_eq]; simp; (first | lia | omega)) h
end
noncomputable def emTurn : List Stmt := nth (defBody 7) 9
section
variable {w : World} {mean : ExcName → Option Value} {mg mb : Str → Option Value} {s : Shared} {g : Heap} {L L' a l : Addr} {cs : Scope} {cn : Str} {ccd : Value} {cl : List (Str × Addr)} {outer : List Env} {gd : Option (List Code)} {m : Str → Option Value} {own : List (Addr × Obj)} {Q : Flow → Shared → Prop} {E : Value → Shared → Prop}
  {tail : List Stmt} {sk : ScopeKind} {names : List (Str × NameKind)} {ig ic : Bool} {more : List (Str × Const)} {b gt : Str} {r ss : List Str} {vs : List Value} {p ee : Int} {R : Bool} {t u tp te : Tok} {nn : Nat}
set_option maxHeartbeats 1000000 in
/-- a turn of _ellipsis_match's last loop -/
theorem em_turn {s0 : Stmt} (e : emTurn = s0 :: tail) (es' : defScope 7 = Scope.mk sk names ig ic more) (X : (hd.heap_1 w.params).In g) (TT : Top hd.view_1 (looseW hd.view_1 [Str.ofString "IPV4_RE"]) mean mg mb g)
    (hb : b.length ≤ 1000) (hP : emGo gt ee (b :: r) p = R) (F : Fr g L' s.heap (kstB m [(Str.ofString "w", .str b t), (Str.ofString "startpos", .int p tp), (Str.ofString "got", .str gt u), (Str.ofString "endpos", .int ee te)])) (N : News g L' s.heap own)
    (hret : ∀ h' tk' m', R = false → Fr g L' h' m' → Q (.ret (.bool false)) { s with heap := h', toks := tk' })
    (hon : ∀ h' tk' (m' : Str → Option Value) p' t', emGo gt ee r p' = R → (∀ z, z ≠ Str.ofString "startpos" → m' z = kstB m [(Str.ofString "w", .str b t), (Str.ofString "startpos", .int p tp), (Str.ofString "got", .str gt u), (Str.ofString "endpos", .int ee te)] z) → m' (Str.ofString "startpos") = some (.int p' t') →
      Fr g L' h' m' → News g L' h' own → Q .next { s with heap := h', toks := tk' }) :
    wpAny (model PySem.Challenge.rw_xj0016_01.row.prog w) ((ktrTop 303 10 gd cn cs L a ccd cl outer).deeper (envOf (Str.ofString "_ellipsis_match") (Scope.mk sk names ig ic more) L' 57 (.ref 56))) (execs (s0 :: tail) (envOf (Str.ofString "_ellipsis_match") (Scope.mk sk names ig ic more) L' 57 (.ref 56))) Q E s := by
  w_top off
  k_with_none
  k_with "own call builtin:str.find" => ((k_here; (with_reducible show wpAny _ _ (call (Value.builtin "str.find") [_, _, _, _]) _ _ _); (refine call_find4 ?_)))
  k_with "own truthy str" => ((k_here; (refine truthy_short (by omega) ?_)))
  k_with "own call builtin:str.split" => ((k_here; (with_reducible show wpAny _ _ (call (Value.builtin "str.split") [_, Value.str (Str.ofString "...") _]) _ _ _); (refine call_split3 (by k_asm) (by k_asm) (by omega) (by assumption) ?_); intro l' h' k' a' ta' mid' z' tz' hsp ha hz hmid hlm l1 F' N'; (try k_lt l1)))
  k_with "own call builtin:len" => ((k_here; (with_reducible show wpAny _ _ (call (Value.builtin "len") [Value.ref _]) _ _ _); k_dflt (refine' len_ends (by k_asm) (by k_mem) (by omega) ?_; k_whole)))
  k_with "own subscriptTail" => ((k_here; (with_reducible show wpAny _ _ (subscriptTail _ _ (Value.ref _) (Value.int 0 _)) _ _ _); k_dflt (refine' item_first (by k_asm) (by k_mem) ?_; k_whole)))
  k_with "own subscriptTail" => ((k_here; (with_reducible show wpAny _ _ (subscriptTail _ _ (Value.ref _) (Value.int (-1) _)) _ _ _); k_dflt (first
    | (refine' item_last (by k_asm) (by k_mem) ?_; k_whole)
    | (refine' item_last (xs := _ :: _) (by k_asm) (by k_mem) ?_; k_whole))))
  k_with "own delItem ref int" => ((k_here; (with_reducible show wpAny _ _ (delItem (Value.ref _) (Value.int 0 _)) _ _ _); k_dflt (refine' del_first (by k_asm) (by k_asm) (by k_upd) (by ((simp only [strValues, List.length_map, List.length_cons, List.length_append, List.length_nil]; omega))) ?_; k_whole); intro h' F' N'; (try k_sweep)))
  k_with "own delItem ref int" => ((k_here; (with_reducible show wpAny _ _ (delItem (Value.ref _) (Value.int (-1) _)) _ _ _); k_dflt (first
    | (refine' del_last (by k_asm) (by k_asm) (by k_upd) (by ((simp only [strValues, List.length_map, List.length_cons, List.length_append, List.length_nil]; omega))) ?_; k_whole)
    | (refine' del_last (xs := _ :: _) (by k_asm) (by k_asm) (by k_upd) (by ((simp only [strValues, List.length_map, List.length_cons, List.length_append, List.length_nil]; omega))) ?_; k_whole)); intro h' F' N'; (try k_sweep)))
  k_with "own call builtin:len" => ((k_here; (with_reducible show wpAny _ _ (call (Value.builtin "len") [Value.str _ _]) _ _ _); (refine len_short (by omega) ?_)))
  k_with "own k_ne" => (refine neN ?_; (try dsimp only); first | exact Nat.ne_of_gt (by with_reducible assumption) | exact Nat.ne_of_lt (by with_reducible assumption) | exact Nat.ne_of_gt (And.left (by with_reducible assumption)) | exact Nat.ne_of_lt (And.left (by with_reducible assumption)) | exact Nat.ne_of_gt (And.right (by with_reducible assumption)) | exact Nat.ne_of_lt (And.right (by with_reducible assumption)) | exact Nat.ne_of_gt (And.left (And.right (by with_reducible assumption))) | exact Nat.ne_of_lt (And.left (And.right (by with_reducible assumption))) | exact Nat.ne_of_gt (And.right (And.right (by with_reducible assumption))) | exact Nat.ne_of_lt (And.right (And.right (by with_reducible assumption))) | exact Nat.ne_of_gt (And.left (And.right (And.right (by with_reducible assumption)))) | exact Nat.ne_of_lt (And.left (And.right (And.right (by with_reducible assumption)))) | exact Nat.ne_of_gt (And.right (And.right (And.right (by with_reducible assumption)))) | exact Nat.ne_of_lt (And.right (And.right (And.right (by with_reducible assumption)))) | exact Nat.ne_of_gt (And.left (And.right (And.right (And.right (by with_reducible assumption))))) | exact Nat.ne_of_lt (And.left (And.right (And.right (And.right (by with_reducible assumption))))) | exact Nat.ne_of_gt (And.right (And.right (And.right (And.right (by with_reducible assumption))))) | exact Nat.ne_of_lt (And.right (And.right (And.right (And.right (by with_reducible assumption))))) | exact Nat.ne_of_gt (And.left (And.right (And.right (And.right (And.right (by with_reducible assumption)))))) | exact Nat.ne_of_lt (And.left (And.right (And.right (And.right (And.right (by with_reducible assumption)))))) | exact Nat.ne_of_gt (And.right (And.right (And.right (And.right (And.right (by with_reducible assumption)))))) | exact Nat.ne_of_lt (And.right (And.right (And.right (And.right (And.right (by with_reducible assumption)))))) | exact Nat.ne_of_gt (And.left (And.right (And.right (And.right (And.right (And.right (by with_reducible assumption))))))) | exact Nat.ne_of_lt (And.left (And.right (And.right (And.right (And.right (And.right (by with_reducible assumption))))))) | exact Nat.ne_of_gt (And.right (And.right (And.right (And.right (And.right (And.right (by with_reducible assumption))))))) | exact Nat.ne_of_lt (And.right (And.right (And.right (And.right (And.right (And.right (by with_reducible assumption))))))) | exact Nat.ne_of_gt (And.left (And.right (And.right (And.right (And.right (And.right (And.right (by with_reducible assumption)))))))) | exact Nat.ne_of_lt (And.left (And.right (And.right (And.right (And.right (And.right (And.right (by with_reducible assumption)))))))) | exact Nat.ne_of_gt (And.right (And.right (And.right (And.right (And.right (And.right (And.right (by with_reducible assumption)))))))) | exact Nat.ne_of_lt (And.right (And.right (And.right (And.right (And.right (And.right (And.right (by with_reducible assumption)))))))) | exact Nat.ne_of_gt (And.left (And.right (And.right (And.right (And.right (And.right (And.right (And.right (by with_reducible assumption))))))))) | exact Nat.ne_of_lt (And.left (And.right (And.right (And.right (And.right (And.right (And.right (And.right (by with_reducible assumption))))))))) | exact Nat.ne_of_gt (And.right (And.right (And.right (And.right (And.right (And.right (And.right (And.right (by with_reducible assumption))))))))) | exact Nat.ne_of_lt (And.right (And.right (And.right (And.right (And.right (And.right (And.right (And.right (by with_reducible assumption))))))))) | exact Nat.ne_of_gt (And.left (And.right (And.right (And.right (And.right (And.right (And.right (And.right (And.right (by with_reducible assumption)))))))))) | exact Nat.ne_of_lt (And.left (And.right (And.right (And.right (And.right (And.right (And.right (And.right (And.right (by with_reducible assumption)))))))))) | exact Nat.ne_of_gt (And.right (And.right (And.right (And.right (And.right (And.right (And.right (And.right (And.right (by with_reducible assumption)))))))))) | exact Nat.ne_of_lt (And.right (And.right (And.right (And.right (And.right (And.right (And.right (And.right (And.right (by with_reducible assumption)))))))))) | exact Nat.ne_of_gt (And.left (And.right (And.right (And.right (And.right (And.right (And.right (And.right (And.right (And.right (by with_reducible assumption))))))))))) | exact Nat.ne_of_lt (And.left (And.right (And.right (And.right (And.right (And.right (And.right (And.right (And.right (And.right (by with_reducible assumption))))))))))) | exact Nat.ne_of_gt (And.right (And.right (And.right (And.right (And.right (And.right (And.right (And.right (And.right (And.right (by with_reducible assumption))))))))))) | exact Nat.ne_of_lt (And.right (And.right (And.right (And.right (And.right (And.right (And.right (And.right (And.right (And.right (by with_reducible assumption))))))))))) | exact Nat.ne_of_gt (And.left (And.right (And.right (And.right (And.right (And.right (And.right (And.right (And.right (And.right (And.right (by with_reducible assumption)))))))))))) | exact Nat.ne_of_lt (And.left (And.right (And.right (And.right (And.right (And.right (And.right (And.right (And.right (And.right (And.right (by with_reducible assumption)))))))))))) | exact Nat.ne_of_gt (And.right (And.right (And.right (And.right (And.right (And.right (And.right (And.right (And.right (And.right (And.right (by with_reducible assumption)))))))))))) | exact Nat.ne_of_lt (And.right (And.right (And.right (And.right (And.right (And.right (And.right (And.right (And.right (And.right (And.right (by with_reducible assumption)))))))))))) | exact Nat.ne_of_gt (And.left (And.right (And.right (And.right (And.right (And.right (And.right (And.right (And.right (And.right (And.right (And.right (by with_reducible assumption))))))))))))) | exact Nat.ne_of_lt (And.left (And.right (And.right (And.right (And.right (And.right (And.right (And.right (And.right (And.right (And.right (And.right (by with_reducible assumption))))))))))))) | exact Nat.ne_of_gt (And.right (And.right (And.right (And.right (And.right (And.right (And.right (And.right (And.right (And.right (And.right (And.right (by with_reducible assumption))))))))))))) | exact Nat.ne_of_lt (And.right (And.right (And.right (And.right (And.right (And.right (And.right (And.right (And.right (And.right (And.right (And.right (by with_reducible assumption))))))))))))) | exact Nat.ne_of_gt (And.left (And.right (And.right (And.right (And.right (And.right (And.right (And.right (And.right (And.right (And.right (And.right (And.right (by with_reducible assumption)))))))))))))) | exact Nat.ne_of_lt (And.left (And.right (And.right (And.right (And.right (And.right (And.right (And.right (And.right (And.right (And.right (And.right (And.right (by with_reducible assumption)))))))))))))) | exact Nat.ne_of_gt (And.right (And.right (And.right (And.right (And.right (And.right (And.right (And.right (And.right (And.right (And.right (And.right (And.right (by with_reducible assumption)))))))))))))) | exact Nat.ne_of_lt (And.right (And.right (And.right (And.right (And.right (And.right (And.right (And.right (And.right (And.right (And.right (And.right (And.right (by with_reducible assumption)))))))))))))) | exact Nat.ne_of_gt (And.left (And.right (And.right (And.right (And.right (And.right (And.right (And.right (And.right (And.right (And.right (And.right (And.right (And.right (by with_reducible assumption))))))))))))))) | exact Nat.ne_of_lt (And.left (And.right (And.right (And.right (And.right (And.right (And.right (And.right (And.right (And.right (And.right (And.right (And.right (And.right (by with_reducible assumption))))))))))))))) | omega)
  injection e with e0 e
  subst e0 e
  injection es' with f0 f1 f2 f3 f4
  subst f0 f1 f2 f3 f4
  (try dsimp only [kstB] at F)
  revert X TT
  k_fill
  intro X TT
  (try k_fold)
  k_steps
  · rename Fr _ _ _ _ => kF
    exact hret _ _ _ (emGo_no hP (by assumption)) kF
  · rename Fr _ _ _ _ => kF; rename News _ _ _ _ => kN
    refine hon _ _ _ _ _ (emGo_on hP (by assumption)) ?_ (by with_unfolding_all rfl) kF kN
    intro z h1; simp [kstB, h1]
/-- _ellipsis_match's last loop -/
theorem em_loop {s0 : Stmt} {m₀ : Str → Option Value} (e : emTurn = s0 :: tail) (es' : defScope 7 = Scope.mk sk names ig ic more) (X : (hd.heap_1 w.params).In g) (TT : Top hd.view_1 (looseW hd.view_1 [Str.ofString "IPV4_RE"]) mean mg mb g)
    (hi : StrsAre vs ss) (hP : emGo gt ee ss p = R) (hb : ∀ b ∈ ss, b.length ≤ 1000) (hlm : (l, listOf vs.toArray nn) ∈ own) (F : Fr g L' s.heap m₀) (N : News g L' s.heap own)
    (hy : m₀ (Str.ofString "startpos") = some (.int p tp)) (hy2 : m₀ (Str.ofString "got") = some (.str gt u)) (hy3 : m₀ (Str.ofString "endpos") = some (.int ee te))
    (hret : ∀ h' tk' m' (kR : R = false), Fr g L' h' m' → Q (.ret (.bool false)) { s with heap := h', toks := tk' })
    (done : ∀ h' tk' m' (kR : R = true), Fr g L' h' m' → Q .next { s with heap := h', toks := tk' }) :
    wpAny (model PySem.Challenge.rw_xj0016_01.row.prog w) ((ktrTop 303 10 gd cn cs L a ccd cl outer).deeper (envOf (Str.ofString "_ellipsis_match") (Scope.mk sk names ig ic more) L' 57 (.ref 56))) (pyIter (.ref l)) (fun it s₂ => LoopAtV PySem.Challenge.rw_xj0016_01.row.prog w ((ktrTop 303 10 gd cn cs L a ccd cl outer).deeper (envOf (Str.ofString "_ellipsis_match") (Scope.mk sk names ig ic more) L' 57 (.ref 56))) g (envOf (Str.ofString "_ellipsis_match") (Scope.mk sk names ig ic more) L' 57 (.ref 56)) (Str.ofString "w") (s0 :: tail) Q E it s₂) E s := by
  refine iter_texts (yn := Str.ofString "startpos") (fun r p => emGo gt ee r p = R) rfl hlm hi F N hy (by decide) hP ?_ (fun _ p' t' h tk q F' _ => done h tk _ (emGo_end q) F')
  intro b r t p tp h tk own' hm q F' N'
  refine em_turn (t := t) (u := u) (tp := tp) (te := te) e es' X TT (hb b hm) q (m := fun z => if z = Str.ofString "w" then some (.str b t) else if z = Str.ofString "startpos" then some (.int p tp) else m₀ z) (fr_kst _ F' ?_) N' (fun h' tk' m' k F2 => hret h' tk' m' k F2) ?_
  · intro pp hpp
    simp only [List.mem_cons, List.not_mem_nil, or_false] at hpp
    rcases hpp with rfl | rfl | rfl | rfl
    · rfl
    · with_unfolding_all rfl
    · show (if _ then _ else if _ then _ else _) = _
      rw [if_neg (show ¬ Str.ofString "got" = Str.ofString "w" by decide), if_neg (show ¬ Str.ofString "got" = Str.ofString "startpos" by decide)]; exact hy2
    · show (if _ then _ else if _ then _ else _) = _
      rw [if_neg (show ¬ Str.ofString "endpos" = Str.ofString "w" by decide), if_neg (show ¬ Str.ofString "endpos" = Str.ofString "startpos" by decide)]; exact hy3
  · intro h' tk' m' p' t' q2 hm' hs F2 N2
    refine TxEnd.intro (P := fun r p => emGo gt ee r p = R) F2 N2 (fun p hp => hp) hs q2 (fun z h1 h2 => ?_)
    rw [hm' z h2]
    simp only [kstB, if_neg h1, if_neg h2]
    split
    · rename_i h; rw [h, hy2]
    · split
      · rename_i h; rw [h, hy3]
      · rfl
end
set_option maxHeartbeats 8000000 in
theorem t_em (w : World) (x y : Str) (t u : Tok) : Tel w 303 10 57 [.str x t, .str y u] (fun h => x.length ≤ 500 ∧ y.length ≤ 500) (fun _ r _ => r = .bool (em x y)) := by
  w_top off
  k_with_none
  k_with "own call builtin:str.find" => ((k_here; (with_reducible show wpAny _ _ (call (Value.builtin "str.find") [_, _, _, _]) _ _ _); (refine call_find4 ?_)))
  k_with "own truthy str" => ((k_here; (refine truthy_short (by omega) ?_)))
  k_with "own call builtin:str.split" => ((k_here; (with_reducible show wpAny _ _ (call (Value.builtin "str.split") [_, Value.str (Str.ofString "...") _]) _ _ _); (refine call_split3 (by k_asm) (by k_asm) (by omega) (by assumption) ?_); intro l' h' k' a' ta' mid' z' tz' hsp ha hz hmid hlm l1 F' N'; (try k_lt l1)))
  k_with "own call builtin:len" => ((k_here; (with_reducible show wpAny _ _ (call (Value.builtin "len") [Value.ref _]) _ _ _); k_dflt (refine' len_ends (by k_asm) (by k_mem) (by omega) ?_; k_whole)))
  k_with "own subscriptTail" => ((k_here; (with_reducible show wpAny _ _ (subscriptTail _ _ (Value.ref _) (Value.int 0 _)) _ _ _); k_dflt (refine' item_first (by k_asm) (by k_mem) ?_; k_whole)))
  k_with "own subscriptTail" => ((k_here; (with_reducible show wpAny _ _ (subscriptTail _ _ (Value.ref _) (Value.int (-1) _)) _ _ _); k_dflt (first
    | (refine' item_last (by k_asm) (by k_mem) ?_; k_whole)
    | (refine' item_last (xs := _ :: _) (by k_asm) (by k_mem) ?_; k_whole))))
  k_with "own delItem ref int" => ((k_here; (with_reducible show wpAny _ _ (delItem (Value.ref _) (Value.int 0 _)) _ _ _); k_dflt (refine' del_first (by k_asm) (by k_asm) (by k_upd) (by ((simp only [strValues, List.length_map, List.length_cons, List.length_append, List.length_nil]; omega))) ?_; k_whole); intro h' F' N'; (try k_sweep)))
  k_with "own delItem ref int" => ((k_here; (with_reducible show wpAny _ _ (delItem (Value.ref _) (Value.int (-1) _)) _ _ _); k_dflt (first
    | (refine' del_last (by k_asm) (by k_asm) (by k_upd) (by ((simp only [strValues, List.length_map, List.length_cons, List.length_append, List.length_nil]; omega))) ?_; k_whole)
    | (refine' del_last (xs := _ :: _) (by k_asm) (by k_asm) (by k_upd) (by ((simp only [strValues, List.length_map, List.length_cons, List.length_append, List.length_nil]; omega))) ?_; k_whole)); intro h' F' N'; (try k_sweep)))
  k_with "own call builtin:len" => ((k_here; (with_reducible show wpAny _ _ (call (Value.builtin "len") [Value.str _ _]) _ _ _); (refine len_short (by omega) ?_)))
  k_with "own pyIter ref" => ((k_here; (with_reducible rename Fr _ _ _ _ => lF'); (with_reducible rename News _ _ _ _ => lN'); (k_dflt (first
    | refine' em_loop (by rfl) (by rfl) (by assumption) (by assumption) ev_mid (em_s1 (by assumption) (by assumption) (by assumption) (by assumption) (by assumption) (by assumption) (by assumption)) (by ((intro b9 hb9; (try simp only [List.mem_cons, List.mem_append, List.not_mem_nil, or_false] at hb9); first | (have hm9 := (by assumption : ∀ b ∈ List.map (fun x : Str × Tok => x.fst) _, b.length ≤ _) b9 hb9; omega) | (rcases hb9 with hb9 | hb9 <;> first | (subst hb9; omega) | (have hm9 := (by assumption : ∀ b ∈ List.map (fun x : Str × Tok => x.fst) _, b.length ≤ _) b9 hb9; omega) | (rcases hb9 with hb9 | hb9 <;> first | (subst hb9; omega) | (have hm9 := (by assumption : ∀ b ∈ List.map (fun x : Str × Tok => x.fst) _, b.length ≤ _) b9 hb9; omega)))))) (by k_mem) lF' lN' (by with_unfolding_all rfl) (by with_unfolding_all rfl) (by with_unfolding_all rfl) ?_ ?_
    | refine' em_loop (by rfl) (by rfl) (by assumption) (by assumption) ev_app (em_s2 (by assumption) (by assumption) (by assumption) (by assumption) (by assumption) (by assumption)) (by ((intro b9 hb9; (try simp only [List.mem_cons, List.mem_append, List.not_mem_nil, or_false] at hb9); first | (have hm9 := (by assumption : ∀ b ∈ List.map (fun x : Str × Tok => x.fst) _, b.length ≤ _) b9 hb9; omega) | (rcases hb9 with hb9 | hb9 <;> first | (subst hb9; omega) | (have hm9 := (by assumption : ∀ b ∈ List.map (fun x : Str × Tok => x.fst) _, b.length ≤ _) b9 hb9; omega) | (rcases hb9 with hb9 | hb9 <;> first | (subst hb9; omega) | (have hm9 := (by assumption : ∀ b ∈ List.map (fun x : Str × Tok => x.fst) _, b.length ≤ _) b9 hb9; omega)))))) (by k_mem) lF' lN' (by with_unfolding_all rfl) (by with_unfolding_all rfl) (by with_unfolding_all rfl) ?_ ?_
    | refine' em_loop (by rfl) (by rfl) (by assumption) (by assumption) ev_cons (em_s3 (by assumption) (by assumption) (by assumption) (by assumption) (by assumption) (by assumption)) (by ((intro b9 hb9; (try simp only [List.mem_cons, List.mem_append, List.not_mem_nil, or_false] at hb9); first | (have hm9 := (by assumption : ∀ b ∈ List.map (fun x : Str × Tok => x.fst) _, b.length ≤ _) b9 hb9; omega) | (rcases hb9 with hb9 | hb9 <;> first | (subst hb9; omega) | (have hm9 := (by assumption : ∀ b ∈ List.map (fun x : Str × Tok => x.fst) _, b.length ≤ _) b9 hb9; omega) | (rcases hb9 with hb9 | hb9 <;> first | (subst hb9; omega) | (have hm9 := (by assumption : ∀ b ∈ List.map (fun x : Str × Tok => x.fst) _, b.length ≤ _) b9 hb9; omega)))))) (by k_mem) lF' lN' (by with_unfolding_all rfl) (by with_unfolding_all rfl) (by with_unfolding_all rfl) ?_ ?_
    | refine' em_loop (by rfl) (by rfl) (by assumption) (by assumption) ev_both (em_s4 (by assumption) (by assumption) (by assumption) (by assumption)) (by ((intro b9 hb9; (try simp only [List.mem_cons, List.mem_append, List.not_mem_nil, or_false] at hb9); first | (have hm9 := (by assumption : ∀ b ∈ List.map (fun x : Str × Tok => x.fst) _, b.length ≤ _) b9 hb9; omega) | (rcases hb9 with hb9 | hb9 <;> first | (subst hb9; omega) | (have hm9 := (by assumption : ∀ b ∈ List.map (fun x : Str × Tok => x.fst) _, b.length ≤ _) b9 hb9; omega) | (rcases hb9 with hb9 | hb9 <;> first | (subst hb9; omega) | (have hm9 := (by assumption : ∀ b ∈ List.map (fun x : Str × Tok => x.fst) _, b.length ≤ _) b9 hb9; omega)))))) (by k_mem) lF' lN' (by with_unfolding_all rfl) (by with_unfolding_all rfl) (by with_unfolding_all rfl) ?_ ?_)); (all_goals intro h9 tk9 m9 kR9 F9); clear lF' lN'; (all_goals try dsimp only)))
  k_with "own k_ne" => (refine neN ?_; (try dsimp only); first | exact Nat.ne_of_gt (by with_reducible assumption) | exact Nat.ne_of_lt (by with_reducible assumption) | exact Nat.ne_of_gt (And.left (by with_reducible assumption)) | exact Nat.ne_of_lt (And.left (by with_reducible assumption)) | exact Nat.ne_of_gt (And.right (by with_reducible assumption)) | exact Nat.ne_of_lt (And.right (by with_reducible assumption)) | exact Nat.ne_of_gt (And.left (And.right (by with_reducible assumption))) | exact Nat.ne_of_lt (And.left (And.right (by with_reducible assumption))) | exact Nat.ne_of_gt (And.right (And.right (by with_reducible assumption))) | exact Nat.ne_of_lt (And.right (And.right (by with_reducible assumption))) | exact Nat.ne_of_gt (And.left (And.right (And.right (by with_reducible assumption)))) | exact Nat.ne_of_lt (And.left (And.right (And.right (by with_reducible assumption)))) | exact Nat.ne_of_gt (And.right (And.right (And.right (by with_reducible assumption)))) | exact Nat.ne_of_lt (And.right (And.right (And.right (by with_reducible assumption)))) | exact Nat.ne_of_gt (And.left (And.right (And.right (And.right (by with_reducible assumption))))) | exact Nat.ne_of_lt (And.left (And.right (And.right (And.right (by with_reducible assumption))))) | exact Nat.ne_of_gt (And.right (And.right (And.right (And.right (by with_reducible assumption))))) | exact Nat.ne_of_lt (And.right (And.right (And.right (And.right (by with_reducible assumption))))) | exact Nat.ne_of_gt (And.left (And.right (And.right (And.right (And.right (by with_reducible assumption)))))) | exact Nat.ne_of_lt (And.left (And.right (And.right (And.right (And.right (by with_reducible assumption)))))) | exact Nat.ne_of_gt (And.right (And.right (And.right (And.right (And.right (by with_reducible assumption)))))) | exact Nat.ne_of_lt (And.right (And.right (And.right (And.right (And.right (by with_reducible assumption)))))) | exact Nat.ne_of_gt (And.left (And.right (And.right (And.right (And.right (And.right (by with_reducible assumption))))))) | exact Nat.ne_of_lt (And.left (And.right (And.right (And.right (And.right (And.right (by with_reducible assumption))))))) | exact Nat.ne_of_gt (And.right (And.right (And.right (And.right (And.right (And.right (by with_reducible assumption))))))) | exact Nat.ne_of_lt (And.right (And.right (And.right (And.right (And.right (And.right (by with_reducible assumption))))))) | exact Nat.ne_of_gt (And.left (And.right (And.right (And.right (And.right (And.right (And.right (by with_reducible assumption)))))))) | exact Nat.ne_of_lt (And.left (And.right (And.right (And.right (And.right (And.right (And.right (by with_reducible assumption)))))))) | exact Nat.ne_of_gt (And.right (And.right (And.right (And.right (And.right (And.right (And.right (by with_reducible assumption)))))))) | exact Nat.ne_of_lt (And.right (And.right (And.right (And.right (And.right (And.right (And.right (by with_reducible assumption)))))))) | exact Nat.ne_of_gt (And.left (And.right (And.right (And.right (And.right (And.right (And.right (And.right (by with_reducible assumption))))))))) | exact Nat.ne_of_lt (And.left (And.right (And.right (And.right (And.right (And.right (And.right (And.right (by with_reducible assumption))))))))) | exact Nat.ne_of_gt (And.right (And.right (And.right (And.right (And.right (And.right (And.right (And.right (by with_reducible assumption))))))))) | exact Nat.ne_of_lt (And.right (And.right (And.right (And.right (And.right (And.right (And.right (And.right (by with_reducible assumption))))))))) | exact Nat.ne_of_gt (And.left (And.right (And.right (And.right (And.right (And.right (And.right (And.right (And.right (by with_reducible assumption)))))))))) | exact Nat.ne_of_lt (And.left (And.right (And.right (And.right (And.right (And.right (And.right (And.right (And.right (by with_reducible assumption)))))))))) | exact Nat.ne_of_gt (And.right (And.right (And.right (And.right (And.right (And.right (And.right (And.right (And.right (by with_reducible assumption)))))))))) | exact Nat.ne_of_lt (And.right (And.right (And.right (And.right (And.right (And.right (And.right (And.right (And.right (by with_reducible assumption)))))))))) | exact Nat.ne_of_gt (And.left (And.right (And.right (And.right (And.right (And.right (And.right (And.right (And.right (And.right (by with_reducible assumption))))))))))) | exact Nat.ne_of_lt (And.left (And.right (And.right (And.right (And.right (And.right (And.right (And.right (And.right (And.right (by with_reducible assumption))))))))))) | exact Nat.ne_of_gt (And.right (And.right (And.right (And.right (And.right (And.right (And.right (And.right (And.right (And.right (by with_reducible assumption))))))))))) | exact Nat.ne_of_lt (And.right (And.right (And.right (And.right (And.right (And.right (And.right (And.right (And.right (And.right (by with_reducible assumption))))))))))) | exact Nat.ne_of_gt (And.left (And.right (And.right (And.right (And.right (And.right (And.right (And.right (And.right (And.right (And.right (by with_reducible assumption)))))))))))) | exact Nat.ne_of_lt (And.left (And.right (And.right (And.right (And.right (And.right (And.right (And.right (And.right (And.right (And.right (by with_reducible assumption)))))))))))) | exact Nat.ne_of_gt (And.right (And.right (And.right (And.right (And.right (And.right (And.right (And.right (And.right (And.right (And.right (by with_reducible assumption)))))))))))) | exact Nat.ne_of_lt (And.right (And.right (And.right (And.right (And.right (And.right (And.right (And.right (And.right (And.right (And.right (by with_reducible assumption)))))))))))) | exact Nat.ne_of_gt (And.left (And.right (And.right (And.right (And.right (And.right (And.right (And.right (And.right (And.right (And.right (And.right (by with_reducible assumption))))))))))))) | exact Nat.ne_of_lt (And.left (And.right (And.right (And.right (And.right (And.right (And.right (And.right (And.right (And.right (And.right (And.right (by with_reducible assumption))))))))))))) | exact Nat.ne_of_gt (And.right (And.right (And.right (And.right (And.right (And.right (And.right (And.right (And.right (And.right (And.right (And.right (by with_reducible assumption))))))))))))) | exact Nat.ne_of_lt (And.right (And.right (And.right (And.right (And.right (And.right (And.right (And.right (And.right (And.right (And.right (And.right (by with_reducible assumption))))))))))))) | exact Nat.ne_of_gt (And.left (And.right (And.right (And.right (And.right (And.right (And.right (And.right (And.right (And.right (And.right (And.right (And.right (by with_reducible assumption)))))))))))))) | exact Nat.ne_of_lt (And.left (And.right (And.right (And.right (And.right (And.right (And.right (And.right (And.right (And.right (And.right (And.right (And.right (by with_reducible assumption)))))))))))))) | exact Nat.ne_of_gt (And.right (And.right (And.right (And.right (And.right (And.right (And.right (And.right (And.right (And.right (And.right (And.right (And.right (by with_reducible assumption)))))))))))))) | exact Nat.ne_of_lt (And.right (And.right (And.right (And.right (And.right (And.right (And.right (And.right (And.right (And.right (And.right (And.right (And.right (by with_reducible assumption)))))))))))))) | exact Nat.ne_of_gt (And.left (And.right (And.right (And.right (And.right (And.right (And.right (And.right (And.right (And.right (And.right (And.right (And.right (And.right (by with_reducible assumption))))))))))))))) | exact Nat.ne_of_lt (And.left (And.right (And.right (And.right (And.right (And.right (And.right (And.right (And.right (And.right (And.right (And.right (And.right (And.right (by with_reducible assumption))))))))))))))) | omega)
  unfold Tel; k_fill
  intro meanZ9 mgZ9 mbZ9 gdZ9 cnZ9 csZ9 aZ9 ccdZ9 clZ9 outerZ9 h₀Z9 LZ9 mZ9 sZ9 QZ9 EZ9 FZ9 XZ9 TZ9 hpre hret
  refine wpAny_call ?_
  k_dflt (refine' enter0 ?k2 ?k3 ?k5 ?k6 ?k7 ?k8 ?k9 ?kB ?_ ?c2 ?c3 ?c4 ?c5; (case k2 => k_asm); (case k3 => k_asm); (case k5 => k_asm); (case k6 => k_is); (case k7 => k_is); (case k8 => ktr_room); (case k9 => exact BindsTo.of_eq rfl); (case c5 => decide); (case kB => exact locs rfl); (case c2 => exact rfl); (case c3 => exact rfl); (case c4 => exact rfl); k_whole)
  clear XZ9 TZ9
  intro LZ9' hZ9' FZ9' NZ9' XZ9' TZ9'
  (try dsimp only)
  (try k_fold)
  obtain ⟨hx, hy⟩ := hpre
  k_steps
  all_goals
    (show Back _ _ _; unfold Back; dsimp only; refine hret _ _ _ ?_ ?_; (· exact Fr.keep (by k_asm))); first
      | exact congrArg Value.bool (Eq.symm (by with_reducible assumption))
      | exact congrArg Value.bool (em_no (by assumption)).symm
      | exact congrArg Value.bool (em_r1 (by assumption) (by assumption) (by assumption) (by assumption)).symm
      | exact congrArg Value.bool (em_r2 (by assumption) (by assumption) (by assumption) (by assumption)).symm
      | exact congrArg Value.bool (em_r3 (by assumption) (by assumption) (by assumption)).symm
      | exact congrArg Value.bool (em_r4 (by assumption) (by assumption) (by assumption) (by assumption)).symm
      | exact congrArg Value.bool (em_r5 (by assumption) (by assumption) (by assumption) (by assumption)).symm

end Mine
namespace Mine
/-- a new list of these ints -/
noncomputable def MadeInts (h : Heap) (r : Value) (h' : Heap) (ns : List Int) : Prop := ∃ l vs n, r = .ref l ∧ h.get? l = none ∧ h'.get? l = some (listOf vs.toArray n) ∧ IntsAre vs ns
theorem made_of {h₀ h : Heap} {L l : Addr} {news : List (Addr × Obj)} {vs : List Value} {ns : List Int} {n : Nat} (N : News h₀ L h news) (hm : (l, listOf vs.toArray n) ∈ news) (hi : IntsAre vs ns) : MadeInts h₀ (.ref l) h ns :=
  ⟨l, vs, n, rfl, (N _ hm).2.2, (N _ hm).1, hi⟩
set_option maxHeartbeats 8000000 in
theorem t_cells (w : World) (l : Addr) (ns : List Int) (vs : List Value) : Tel w 302 7 115 [.ref l] (fun h => h.IsList l vs.toArray ∧ IntsAre vs ns ∧ ns.length ≤ 63) (fun h r h' => ∃ ns', ns'.length = 3 ∧ MadeInts h r h' ns') := by
  w_top off
  k_with_none
  k_with "own k_ne" => (refine neN ?_; (try dsimp only); first | exact Nat.ne_of_gt (by with_reducible assumption) | exact Nat.ne_of_lt (by with_reducible assumption) | exact Nat.ne_of_gt (And.left (by with_reducible assumption)) | exact Nat.ne_of_lt (And.left (by with_reducible assumption)) | exact Nat.ne_of_gt (And.right (by with_reducible assumption)) | exact Nat.ne_of_lt (And.right (by with_reducible assumption)) | exact Nat.ne_of_gt (And.left (And.right (by with_reducible assumption))) | exact Nat.ne_of_lt (And.left (And.right (by with_reducible assumption))) | exact Nat.ne_of_gt (And.right (And.right (by with_reducible assumption))) | exact Nat.ne_of_lt (And.right (And.right (by with_reducible assumption))) | exact Nat.ne_of_gt (And.left (And.right (And.right (by with_reducible assumption)))) | exact Nat.ne_of_lt (And.left (And.right (And.right (by with_reducible assumption)))) | exact Nat.ne_of_gt (And.right (And.right (And.right (by with_reducible assumption)))) | exact Nat.ne_of_lt (And.right (And.right (And.right (by with_reducible assumption)))) | exact Nat.ne_of_gt (And.left (And.right (And.right (And.right (by with_reducible assumption))))) | exact Nat.ne_of_lt (And.left (And.right (And.right (And.right (by with_reducible assumption))))) | exact Nat.ne_of_gt (And.right (And.right (And.right (And.right (by with_reducible assumption))))) | exact Nat.ne_of_lt (And.right (And.right (And.right (And.right (by with_reducible assumption))))) | exact Nat.ne_of_gt (And.left (And.right (And.right (And.right (And.right (by with_reducible assumption)))))) | exact Nat.ne_of_lt (And.left (And.right (And.right (And.right (And.right (by with_reducible assumption)))))) | exact Nat.ne_of_gt (And.right (And.right (And.right (And.right (And.right (by with_reducible assumption)))))) | exact Nat.ne_of_lt (And.right (And.right (And.right (And.right (And.right (by with_reducible assumption)))))) | exact Nat.ne_of_gt (And.left (And.right (And.right (And.right (And.right (And.right (by with_reducible assumption))))))) | exact Nat.ne_of_lt (And.left (And.right (And.right (And.right (And.right (And.right (by with_reducible assumption))))))) | exact Nat.ne_of_gt (And.right (And.right (And.right (And.right (And.right (And.right (by with_reducible assumption))))))) | exact Nat.ne_of_lt (And.right (And.right (And.right (And.right (And.right (And.right (by with_reducible assumption))))))) | exact Nat.ne_of_gt (And.left (And.right (And.right (And.right (And.right (And.right (And.right (by with_reducible assumption)))))))) | exact Nat.ne_of_lt (And.left (And.right (And.right (And.right (And.right (And.right (And.right (by with_reducible assumption)))))))) | exact Nat.ne_of_gt (And.right (And.right (And.right (And.right (And.right (And.right (And.right (by with_reducible assumption)))))))) | exact Nat.ne_of_lt (And.right (And.right (And.right (And.right (And.right (And.right (And.right (by with_reducible assumption)))))))) | exact Nat.ne_of_gt (And.left (And.right (And.right (And.right (And.right (And.right (And.right (And.right (by with_reducible assumption))))))))) | exact Nat.ne_of_lt (And.left (And.right (And.right (And.right (And.right (And.right (And.right (And.right (by with_reducible assumption))))))))) | exact Nat.ne_of_gt (And.right (And.right (And.right (And.right (And.right (And.right (And.right (And.right (by with_reducible assumption))))))))) | exact Nat.ne_of_lt (And.right (And.right (And.right (And.right (And.right (And.right (And.right (And.right (by with_reducible assumption))))))))) | exact Nat.ne_of_gt (And.left (And.right (And.right (And.right (And.right (And.right (And.right (And.right (And.right (by with_reducible assumption)))))))))) | exact Nat.ne_of_lt (And.left (And.right (And.right (And.right (And.right (And.right (And.right (And.right (And.right (by with_reducible assumption)))))))))) | exact Nat.ne_of_gt (And.right (And.right (And.right (And.right (And.right (And.right (And.right (And.right (And.right (by with_reducible assumption)))))))))) | exact Nat.ne_of_lt (And.right (And.right (And.right (And.right (And.right (And.right (And.right (And.right (And.right (by with_reducible assumption)))))))))) | exact Nat.ne_of_gt (And.left (And.right (And.right (And.right (And.right (And.right (And.right (And.right (And.right (And.right (by with_reducible assumption))))))))))) | exact Nat.ne_of_lt (And.left (And.right (And.right (And.right (And.right (And.right (And.right (And.right (And.right (And.right (by with_reducible assumption))))))))))) | exact Nat.ne_of_gt (And.right (And.right (And.right (And.right (And.right (And.right (And.right (And.right (And.right (And.right (by with_reducible assumption))))))))))) | exact Nat.ne_of_lt (And.right (And.right (And.right (And.right (And.right (And.right (And.right (And.right (And.right (And.right (by with_reducible assumption))))))))))) | exact Nat.ne_of_gt (And.left (And.right (And.right (And.right (And.right (And.right (And.right (And.right (And.right (And.right (And.right (by with_reducible assumption)))))))))))) | exact Nat.ne_of_lt (And.left (And.right (And.right (And.right (And.right (And.right (And.right (And.right (And.right (And.right (And.right (by with_reducible assumption)))))))))))) | exact Nat.ne_of_gt (And.right (And.right (And.right (And.right (And.right (And.right (And.right (And.right (And.right (And.right (And.right (by with_reducible assumption)))))))))))) | exact Nat.ne_of_lt (And.right (And.right (And.right (And.right (And.right (And.right (And.right (And.right (And.right (And.right (And.right (by with_reducible assumption)))))))))))) | exact Nat.ne_of_gt (And.left (And.right (And.right (And.right (And.right (And.right (And.right (And.right (And.right (And.right (And.right (And.right (by with_reducible assumption))))))))))))) | exact Nat.ne_of_lt (And.left (And.right (And.right (And.right (And.right (And.right (And.right (And.right (And.right (And.right (And.right (And.right (by with_reducible assumption))))))))))))) | exact Nat.ne_of_gt (And.right (And.right (And.right (And.right (And.right (And.right (And.right (And.right (And.right (And.right (And.right (And.right (by with_reducible assumption))))))))))))) | exact Nat.ne_of_lt (And.right (And.right (And.right (And.right (And.right (And.right (And.right (And.right (And.right (And.right (And.right (And.right (by with_reducible assumption))))))))))))) | exact Nat.ne_of_gt (And.left (And.right (And.right (And.right (And.right (And.right (And.right (And.right (And.right (And.right (And.right (And.right (And.right (by with_reducible assumption)))))))))))))) | exact Nat.ne_of_lt (And.left (And.right (And.right (And.right (And.right (And.right (And.right (And.right (And.right (And.right (And.right (And.right (And.right (by with_reducible assumption)))))))))))))) | exact Nat.ne_of_gt (And.right (And.right (And.right (And.right (And.right (And.right (And.right (And.right (And.right (And.right (And.right (And.right (And.right (by with_reducible assumption)))))))))))))) | exact Nat.ne_of_lt (And.right (And.right (And.right (And.right (And.right (And.right (And.right (And.right (And.right (And.right (And.right (And.right (And.right (by with_reducible assumption)))))))))))))) | exact Nat.ne_of_gt (And.left (And.right (And.right (And.right (And.right (And.right (And.right (And.right (And.right (And.right (And.right (And.right (And.right (And.right (by with_reducible assumption))))))))))))))) | exact Nat.ne_of_lt (And.left (And.right (And.right (And.right (And.right (And.right (And.right (And.right (And.right (And.right (And.right (And.right (And.right (And.right (by with_reducible assumption))))))))))))))) | omega)
  unfold Tel; k_fill
  intro meanZ9 mgZ9 mbZ9 gdZ9 cnZ9 csZ9 aZ9 ccdZ9 clZ9 outerZ9 h₀Z9 LZ9 mZ9 sZ9 QZ9 EZ9 FZ9 XZ9 TZ9 hpre hret
  refine wpAny_call ?_
  k_dflt (refine' enter0 ?k2 ?k3 ?k5 ?k6 ?k7 ?k8 ?k9 ?kB ?_ ?c2 ?c3 ?c4 ?c5; (case k2 => k_asm); (case k3 => k_asm); (case k5 => k_asm); (case k6 => k_is); (case k7 => k_is); (case k8 => ktr_room); (case k9 => exact BindsTo.of_eq rfl); (case c5 => decide); (case kB => exact locs rfl); (case c2 => exact rfl); (case c3 => exact rfl); (case c4 => exact rfl); k_whole)
  clear XZ9 TZ9
  intro LZ9' hZ9' FZ9' NZ9' XZ9' TZ9'
  (try dsimp only)
  (try k_fold)
  obtain ⟨hl, hi, hz⟩ := hpre
  (k_with "pyIter ref" => k_state (fun pre cells => cells.length = 3) "cells")
  k_steps
  (show Back _ _ _; unfold Back; dsimp only; refine hret _ _ _ ?_ ?_; (· exact Fr.keep (by k_asm)))
  exact ⟨_, by assumption, made_of (by k_asm) (by k_mem) (by assumption)⟩
end Mine
namespace Mine
theorem ints_of_carried : ∀ {vs : List Value} {ns : List Int}, CarriedAll vs (ns.map .int) → IntsAre vs ns
  | [], [], _ => .nil
  | [], _ :: _, h => nomatch h
  | _ :: _, [], h => nomatch h
  | v :: vs, n :: ns, .cons c r => by
    cases c
    exact .cons _ _ (ints_of_carried r)
theorem rng_eq (a c : Int) (n : Nat) : rangeInts a c n = rng a c n := by
  apply List.ext_getElem?
  intro i
  by_cases h : i < n
  · rw [rangeInts_get h]; simp [rng, h]
  · rw [List.getElem?_eq_none (by rw [rangeInts_length]; (first | lia | omega)), List.getElem?_eq_none (by rw [rng_len]; (first | lia | omega))]
section
variable {prog : Program} {w : World} {A : Around} {E : Value → Shared → Prop} {s : Shared} {h₀ : Heap} {L : Addr} {m : Str → Option Value} {Q : Value → Shared → Prop}
theorem list_rng {r : Addr} {a b c : Int} {t u v : Tok} {n : Nat} {news : List (Addr × Obj)} (hh : A.handled = none) (Fh : Fr h₀ L s.heap m) (N : News h₀ L s.heap news)
    (hr : IsRange s.heap r a b c t u v) (R : RngOf a b c n)
    (hQ : ∀ D h' tk vs k, (∀ p ∈ news, p.1 < D) → Fr h₀ L h' m → News h₀ L h' ((D, listOf vs.toArray k) :: news) → IntsAre vs (rng a c n) → Q (.ref D) { s with heap := h', toks := tk }) :
    wpAny (model prog w) A (call (.type "list") [.ref r]) Q E s := by
  refine list_rangeD hh Fh N hr R.small R.size (by have := R.few; (first | lia | omega)) fun h' tk ys F' N' hk hn _ hp hc => ?_
  obtain ⟨⟨k, hg⟩, _⟩ := hp
  rw [rng_eq] at hc
  refine hQ _ h' tk ys k (fun p hp => Heap.lt_size (N p hp).1) F' (fun p hp => ?_) (ints_of_carried hc)
  rcases List.mem_cons.mp hp with rfl | hp
  · exact ⟨hg, Nat.ne_of_gt Fh.ns.lt, hn⟩
  · exact N' p hp
end
theorem fmod7 (i : Int) : 0 ≤ i.fmod 7 ∧ i.fmod 7 < 7 := ⟨Int.fmod_nonneg_of_pos _ (by decide), Int.fmod_lt_of_pos _ (by decide)⟩
theorem rng_cards {a c : Int} {n : Nat} (h : ((List.range n).all fun (i : Nat) => decide (0 ≤ a + (i : Int) * c) && decide (a + (i : Int) * c ≤ 9)) = true) : ∀ k ∈ rng a c n, 0 ≤ k ∧ k ≤ 9 := by
  intro k hk
  obtain ⟨i, hi, rfl⟩ := List.mem_map.mp hk
  have := List.all_eq_true.mp h i hi
  simpa using this
theorem rngDown : ∀ c : Int, 0 ≤ c → c < 7 → RngOf c 0 (-1) c.toNat := by
  intro c h0 h7
  obtain ⟨n, rfl⟩ := Int.eq_ofNat_of_zero_le h0
  have hn : n < 7 := by (first | lia | omega)
  match n, hn with
  | 0, _ | 1, _ | 2, _ | 3, _ | 4, _ | 5, _ | 6, _ => exact ⟨by decide, by decide, by decide, rng_cards (by decide)⟩
theorem rngUp : ∀ c : Int, 0 ≤ c → c < 7 → RngOf (c + 1) 7 1 (6 - c).toNat := by
  intro c h0 h7
  obtain ⟨n, rfl⟩ := Int.eq_ofNat_of_zero_le h0
  have hn : n < 7 := by (first | lia | omega)
  match n, hn with
  | 0, _ | 1, _ | 2, _ | 3, _ | 4, _ | 5, _ | 6, _ => exact ⟨by decide, by decide, by decide, rng_cards (by decide)⟩
noncomputable def rstep (q : List Int × List Int × List Int) (b : Bool) : List Int × List Int × List Int :=
  if (b && !q.1.isEmpty) || q.2.1.isEmpty then (q.1.tail, q.2.1, q.2.2 ++ [q.1.headD 0]) else (q.1, q.2.1.tail, q.2.2 ++ [q.2.1.headD 0])
noncomputable def rrun (c : Int) (bs : List Bool) : List Int × List Int × List Int := bs.foldl rstep (rng c (-1) c.toNat, rng (c + 1) 1 (6 - c).toNat, [])
noncomputable def RInv (c : Int) (t h d : List Int) : Prop := ∃ bs : List Bool, bs.length = d.length ∧ rrun c bs = (t, h, d) ∧ d.length + t.length + h.length = 6
theorem rinv_start {c : Int} (h0 : 0 ≤ c) (h7 : c < 7) : RInv c (rng c (-1) c.toNat) (rng (c + 1) 1 (6 - c).toNat) [] := by
  refine ⟨[], rfl, rfl, ?_⟩
  rw [rng_len, rng_len]
  simp only [List.length_nil]
  (first | lia | omega)
theorem rinv_table {c : Int} {t h d : List Int} (R : RInv c t h d) (ht : 0 < t.length) : RInv c t.tail h (d ++ [t.headD 0]) := by
  obtain ⟨bs, h1, h2, h3⟩ := R
  refine ⟨bs ++ [true], by simp [h1], ?_, ?_⟩
  · unfold rrun at h2 ⊢
    rw [List.foldl_append, h2]
    cases t with
    | nil => simp at ht
    | cons x t => simp [rstep]
  · simp only [List.length_append, List.length_tail, List.length_cons, List.length_nil]
    (first | lia | omega)
theorem rinv_hand {c : Int} {t h d : List Int} (R : RInv c t h d) (ht : 0 < h.length) : RInv c t h.tail (d ++ [h.headD 0]) := by
  obtain ⟨bs, h1, h2, h3⟩ := R
  refine ⟨bs ++ [false], by simp [h1], ?_, ?_⟩
  · unfold rrun at h2 ⊢
    rw [List.foldl_append, h2]
    cases h with
    | nil => simp at ht
    | cons x t => simp [rstep]
  · simp only [List.length_append, List.length_tail, List.length_cons, List.length_nil]
    (first | lia | omega)
theorem rinv_left {c : Int} {t h d : List Int} (R : RInv c t h d) (hd : (d.length : Int) < 6) (he : decide (h = []) = true) : 0 < t.length := by
  obtain ⟨bs, h1, h2, h3⟩ := R
  rw [of_decide_eq_true he] at h3
  simp only [List.length_nil] at h3
  (first | lia | omega)
theorem some_left {t : List Int} (he : decide (t = []) = false) : 0 < t.length := List.length_pos_iff.mpr (of_decide_eq_false he)
theorem rinv_end {c : Int} {t h d : List Int} (R : RInv c t h d) (hd : ¬ (d.length : Int) < 6) : ∃ bs : List Bool, bs.length = 6 ∧ d = (rrun c bs).2.2 := by
  obtain ⟨bs, h1, h2, h3⟩ := R
  exact ⟨bs, by (first | lia | omega), by rw [h2]⟩
theorem rboth {c : Int} {t h d : List Int} (R : RInv c t h d) : d.length ≤ 6 ∧ RInv c t h d := ⟨by obtain ⟨bs, h1, h2, h3⟩ := R; (first | lia | omega), R⟩
theorem rinv_len {c : Int} {t h d : List Int} (R : RInv c t h d) : t.length ≤ 6 ∧ h.length ≤ 6 ∧ d.length ≤ 6 := by
  obtain ⟨bs, h1, h2, h3⟩ := R
  (first | lia | omega)
section
variable {prog : Program} {w : World} {A : Around} {E : Value → Shared → Prop} {s : Shared} {h₀ : Heap} {L D : Addr} {m : Str → Option Value} {news news' : List (Addr × Obj)} {Q : Value → Shared → Prop}
theorem pop_first {us : List Value} {ns : List Int} {n : Nat} {u : Tok} (F : Fr h₀ L s.heap m) (N : News h₀ L s.heap news) (hm : (D, listOf us.toArray n) ∈ news) (hi : IntsAre us ns) (hne : 0 < ns.length) (hz : ns.length ≤ 6)
    (U : Upd D (listOf us.toArray n) (listOf us.tail.toArray (n + 1)) news news')
    (h : ∀ h' v, Fr h₀ L h' m → News h₀ L h' news' → IntsAre us.tail ns.tail → Q (.int (ns.headD 0) v) { s with heap := h' }) : wpAny (model prog w) A (call (.builtin "list.pop") [.ref D, .int 0 u]) Q E s := by
  match us, ns, hi with
  | _, _, .nil => simp at hne
  | .int n' tk :: vs', _ :: ns', .cons _ _ hr =>
    refine kl_popAt (k := 0) (p := []) (q := vs') (y := .int n' tk) F N rfl (by simp [seqIndex?]) rfl U ?_ fun h' F' N' => h h' _ F' N' hr
    have := hr.length
    simp only [List.length_cons] at hz ⊢
    have : (6:Nat) < sizeLine := Nat.lt_of_sub_ne_zero (by decide)
    (first | lia | omega)
end
set_option maxHeartbeats 8000000 in
theorem t_riffled (w : World) (i : Int) (t : Tok) : Tel w 302 7 122 [.int i t] (fun h => True) (fun h r h' => ∃ bs : List Bool, bs.length = 6 ∧ MadeInts h r h' (rrun (i.fmod 7) bs).2.2) := by
  w_top off
  k_with_none
  k_with "own call type:list" => ((k_here; (with_reducible show wpAny _ _ (call (Value.type _) [Value.ref _]) _ _ _); k_dflt (first
    | (refine' list_rng (by rfl) (by k_asm) (by k_asm) (by assumption) (rngDown (Int.fmod _ 7) (fmod7 _).1 (fmod7 _).2) ?_)
    | (refine' list_rng (by rfl) (by k_asm) (by k_asm) (by assumption) (rngUp (Int.fmod _ 7) (fmod7 _).1 (fmod7 _).2) ?_)); intro D' h' tk' vs' k' l1 F' N' hI'; (try k_lt l1); (try k_sweep)))
  k_with "own call builtin:list.pop" => ((k_here; (with_reducible show wpAny _ _ (call (Value.builtin _) [Value.ref _, Value.int 0 _]) _ _ _); k_dflt (refine' pop_first (by k_asm) (by k_asm) (by k_mem) (by assumption) (by (first | exact some_left (by (first | assumption | exact And.right (by assumption))) | exact rinv_left (by (first | assumption | exact And.right (by assumption))) (by (first | assumption | exact And.right (by assumption))) (by (first | assumption | exact And.right (by assumption))))) (by (first | exact (rinv_len (by (first | assumption | exact And.right (by assumption)))).1 | exact (rinv_len (by (first | assumption | exact And.right (by assumption)))).2.1)) (by k_upd) ?_); intro h' u' F' N' hI'))
  k_with "own k_ne" => (refine neN ?_; (try dsimp only); first | exact Nat.ne_of_gt (by with_reducible assumption) | exact Nat.ne_of_lt (by with_reducible assumption) | exact Nat.ne_of_gt (And.left (by with_reducible assumption)) | exact Nat.ne_of_lt (And.left (by with_reducible assumption)) | exact Nat.ne_of_gt (And.right (by with_reducible assumption)) | exact Nat.ne_of_lt (And.right (by with_reducible assumption)) | exact Nat.ne_of_gt (And.left (And.right (by with_reducible assumption))) | exact Nat.ne_of_lt (And.left (And.right (by with_reducible assumption))) | exact Nat.ne_of_gt (And.right (And.right (by with_reducible assumption))) | exact Nat.ne_of_lt (And.right (And.right (by with_reducible assumption))) | exact Nat.ne_of_gt (And.left (And.right (And.right (by with_reducible assumption)))) | exact Nat.ne_of_lt (And.left (And.right (And.right (by with_reducible assumption)))) | exact Nat.ne_of_gt (And.right (And.right (And.right (by with_reducible assumption)))) | exact Nat.ne_of_lt (And.right (And.right (And.right (by with_reducible assumption)))) | exact Nat.ne_of_gt (And.left (And.right (And.right (And.right (by with_reducible assumption))))) | exact Nat.ne_of_lt (And.left (And.right (And.right (And.right (by with_reducible assumption))))) | exact Nat.ne_of_gt (And.right (And.right (And.right (And.right (by with_reducible assumption))))) | exact Nat.ne_of_lt (And.right (And.right (And.right (And.right (by with_reducible assumption))))) | exact Nat.ne_of_gt (And.left (And.right (And.right (And.right (And.right (by with_reducible assumption)))))) | exact Nat.ne_of_lt (And.left (And.right (And.right (And.right (And.right (by with_reducible assumption)))))) | exact Nat.ne_of_gt (And.right (And.right (And.right (And.right (And.right (by with_reducible assumption)))))) | exact Nat.ne_of_lt (And.right (And.right (And.right (And.right (And.right (by with_reducible assumption)))))) | exact Nat.ne_of_gt (And.left (And.right (And.right (And.right (And.right (And.right (by with_reducible assumption))))))) | exact Nat.ne_of_lt (And.left (And.right (And.right (And.right (And.right (And.right (by with_reducible assumption))))))) | exact Nat.ne_of_gt (And.right (And.right (And.right (And.right (And.right (And.right (by with_reducible assumption))))))) | exact Nat.ne_of_lt (And.right (And.right (And.right (And.right (And.right (And.right (by with_reducible assumption))))))) | exact Nat.ne_of_gt (And.left (And.right (And.right (And.right (And.right (And.right (And.right (by with_reducible assumption)))))))) | exact Nat.ne_of_lt (And.left (And.right (And.right (And.right (And.right (And.right (And.right (by with_reducible assumption)))))))) | exact Nat.ne_of_gt (And.right (And.right (And.right (And.right (And.right (And.right (And.right (by with_reducible assumption)))))))) | exact Nat.ne_of_lt (And.right (And.right (And.right (And.right (And.right (And.right (And.right (by with_reducible assumption)))))))) | exact Nat.ne_of_gt (And.left (And.right (And.right (And.right (And.right (And.right (And.right (And.right (by with_reducible assumption))))))))) | exact Nat.ne_of_lt (And.left (And.right (And.right (And.right (And.right (And.right (And.right (And.right (by with_reducible assumption))))))))) | exact Nat.ne_of_gt (And.right (And.right (And.right (And.right (And.right (And.right (And.right (And.right (by with_reducible assumption))))))))) | exact Nat.ne_of_lt (And.right (And.right (And.right (And.right (And.right (And.right (And.right (And.right (by with_reducible assumption))))))))) | exact Nat.ne_of_gt (And.left (And.right (And.right (And.right (And.right (And.right (And.right (And.right (And.right (by with_reducible assumption)))))))))) | exact Nat.ne_of_lt (And.left (And.right (And.right (And.right (And.right (And.right (And.right (And.right (And.right (by with_reducible assumption)))))))))) | exact Nat.ne_of_gt (And.right (And.right (And.right (And.right (And.right (And.right (And.right (And.right (And.right (by with_reducible assumption)))))))))) | exact Nat.ne_of_lt (And.right (And.right (And.right (And.right (And.right (And.right (And.right (And.right (And.right (by with_reducible assumption)))))))))) | exact Nat.ne_of_gt (And.left (And.right (And.right (And.right (And.right (And.right (And.right (And.right (And.right (And.right (by with_reducible assumption))))))))))) | exact Nat.ne_of_lt (And.left (And.right (And.right (And.right (And.right (And.right (And.right (And.right (And.right (And.right (by with_reducible assumption))))))))))) | exact Nat.ne_of_gt (And.right (And.right (And.right (And.right (And.right (And.right (And.right (And.right (And.right (And.right (by with_reducible assumption))))))))))) | exact Nat.ne_of_lt (And.right (And.right (And.right (And.right (And.right (And.right (And.right (And.right (And.right (And.right (by with_reducible assumption))))))))))) | exact Nat.ne_of_gt (And.left (And.right (And.right (And.right (And.right (And.right (And.right (And.right (And.right (And.right (And.right (by with_reducible assumption)))))))))))) | exact Nat.ne_of_lt (And.left (And.right (And.right (And.right (And.right (And.right (And.right (And.right (And.right (And.right (And.right (by with_reducible assumption)))))))))))) | exact Nat.ne_of_gt (And.right (And.right (And.right (And.right (And.right (And.right (And.right (And.right (And.right (And.right (And.right (by with_reducible assumption)))))))))))) | exact Nat.ne_of_lt (And.right (And.right (And.right (And.right (And.right (And.right (And.right (And.right (And.right (And.right (And.right (by with_reducible assumption)))))))))))) | exact Nat.ne_of_gt (And.left (And.right (And.right (And.right (And.right (And.right (And.right (And.right (And.right (And.right (And.right (And.right (by with_reducible assumption))))))))))))) | exact Nat.ne_of_lt (And.left (And.right (And.right (And.right (And.right (And.right (And.right (And.right (And.right (And.right (And.right (And.right (by with_reducible assumption))))))))))))) | exact Nat.ne_of_gt (And.right (And.right (And.right (And.right (And.right (And.right (And.right (And.right (And.right (And.right (And.right (And.right (by with_reducible assumption))))))))))))) | exact Nat.ne_of_lt (And.right (And.right (And.right (And.right (And.right (And.right (And.right (And.right (And.right (And.right (And.right (And.right (by with_reducible assumption))))))))))))) | exact Nat.ne_of_gt (And.left (And.right (And.right (And.right (And.right (And.right (And.right (And.right (And.right (And.right (And.right (And.right (And.right (by with_reducible assumption)))))))))))))) | exact Nat.ne_of_lt (And.left (And.right (And.right (And.right (And.right (And.right (And.right (And.right (And.right (And.right (And.right (And.right (And.right (by with_reducible assumption)))))))))))))) | exact Nat.ne_of_gt (And.right (And.right (And.right (And.right (And.right (And.right (And.right (And.right (And.right (And.right (And.right (And.right (And.right (by with_reducible assumption)))))))))))))) | exact Nat.ne_of_lt (And.right (And.right (And.right (And.right (And.right (And.right (And.right (And.right (And.right (And.right (And.right (And.right (And.right (by with_reducible assumption)))))))))))))) | exact Nat.ne_of_gt (And.left (And.right (And.right (And.right (And.right (And.right (And.right (And.right (And.right (And.right (And.right (And.right (And.right (And.right (by with_reducible assumption))))))))))))))) | exact Nat.ne_of_lt (And.left (And.right (And.right (And.right (And.right (And.right (And.right (And.right (And.right (And.right (And.right (And.right (And.right (And.right (by with_reducible assumption))))))))))))))) | omega)
  unfold Tel; k_fill
  intro meanZ9 mgZ9 mbZ9 gdZ9 cnZ9 csZ9 aZ9 ccdZ9 clZ9 outerZ9 h₀Z9 LZ9 mZ9 sZ9 QZ9 EZ9 FZ9 XZ9 TZ9 hpre hret
  refine wpAny_call ?_
  k_dflt (refine' enter0 ?k2 ?k3 ?k5 ?k6 ?k7 ?k8 ?k9 ?kB ?_ ?c2 ?c3 ?c4 ?c5; (case k2 => k_asm); (case k3 => k_asm); (case k5 => k_asm); (case k6 => k_is); (case k7 => k_is); (case k8 => ktr_room); (case k9 => exact BindsTo.of_eq rfl); (case c5 => decide); (case kB => exact locs rfl); (case c2 => exact rfl); (case c3 => exact rfl); (case c4 => exact rfl); k_whole)
  clear XZ9 TZ9
  intro LZ9' hZ9' FZ9' NZ9' XZ9' TZ9'
  (try dsimp only)
  (try k_fold)
  (k_with "state" => first | exact rboth (rinv_start (fmod7 _).1 (fmod7 _).2) | exact rboth <| rinv_table (by (first | assumption | exact And.right (by assumption))) (by first | exact some_left (by (first | assumption | exact And.right (by assumption))) | exact rinv_left (by (first | assumption | exact And.right (by assumption))) (by (first | assumption | exact And.right (by assumption))) (by (first | assumption | exact And.right (by assumption)))) | exact rboth <| rinv_hand (by (first | assumption | exact And.right (by assumption))) (some_left (by (first | assumption | exact And.right (by assumption)))))
  (k_with "exec While Compare cons nil" => k_while (fun script table hand ways deck => deck.length ≤ 6 ∧ RInv (i.fmod 7) table hand deck) (fun script table hand ways deck => 6 - deck.length) "table" "hand" "ways" "deck")
  k_steps
  (show Back _ _ _; unfold Back; dsimp only; refine hret _ _ _ ?_ ?_; (· exact Fr.keep (by k_asm)))
  obtain ⟨bs, hb, e⟩ := rinv_end (by (first | assumption | exact And.right (by assumption))) (by assumption)
  refine ⟨bs, hb, ?_⟩
  rw [← e]
  exact made_of (by k_asm) (by k_mem) (by assumption)
end Mine
namespace Mine
noncomputable def swap2 (ns : List Int) (i : Int) : List Int :=
  (ns.set (i.fmod 6).toNat (ns.getD ((i.fdiv 6).fmod 6).toNat 0)).set ((i.fdiv 6).fmod 6).toNat (ns.getD (i.fmod 6).toNat 0)
noncomputable def chg (ns : List Int) (i : Int) : List Int := swap2 (swap2 ns i) (i.fdiv 36)
set_option maxHeartbeats 8000000 in
theorem t_changed (w : World) (l : Addr) (ns : List Int) (vs : List Value) (i : Int) (t : Tok) : Tel w 302 7 129 [.ref l, .int i t] (fun h => h.IsList l vs.toArray ∧ IntsAre vs ns ∧ ns.length = 6) (fun h r h' => MadeInts h r h' (chg ns i)) := by
  w_top off
  k_with_none
  k_with "own k_ne" => (refine neN ?_; (try dsimp only); first | exact Nat.ne_of_gt (by with_reducible assumption) | exact Nat.ne_of_lt (by with_reducible assumption) | exact Nat.ne_of_gt (And.left (by with_reducible assumption)) | exact Nat.ne_of_lt (And.left (by with_reducible assumption)) | exact Nat.ne_of_gt (And.right (by with_reducible assumption)) | exact Nat.ne_of_lt (And.right (by with_reducible assumption)) | exact Nat.ne_of_gt (And.left (And.right (by with_reducible assumption))) | exact Nat.ne_of_lt (And.left (And.right (by with_reducible assumption))) | exact Nat.ne_of_gt (And.right (And.right (by with_reducible assumption))) | exact Nat.ne_of_lt (And.right (And.right (by with_reducible assumption))) | exact Nat.ne_of_gt (And.left (And.right (And.right (by with_reducible assumption)))) | exact Nat.ne_of_lt (And.left (And.right (And.right (by with_reducible assumption)))) | exact Nat.ne_of_gt (And.right (And.right (And.right (by with_reducible assumption)))) | exact Nat.ne_of_lt (And.right (And.right (And.right (by with_reducible assumption)))) | exact Nat.ne_of_gt (And.left (And.right (And.right (And.right (by with_reducible assumption))))) | exact Nat.ne_of_lt (And.left (And.right (And.right (And.right (by with_reducible assumption))))) | exact Nat.ne_of_gt (And.right (And.right (And.right (And.right (by with_reducible assumption))))) | exact Nat.ne_of_lt (And.right (And.right (And.right (And.right (by with_reducible assumption))))) | exact Nat.ne_of_gt (And.left (And.right (And.right (And.right (And.right (by with_reducible assumption)))))) | exact Nat.ne_of_lt (And.left (And.right (And.right (And.right (And.right (by with_reducible assumption)))))) | exact Nat.ne_of_gt (And.right (And.right (And.right (And.right (And.right (by with_reducible assumption)))))) | exact Nat.ne_of_lt (And.right (And.right (And.right (And.right (And.right (by with_reducible assumption)))))) | exact Nat.ne_of_gt (And.left (And.right (And.right (And.right (And.right (And.right (by with_reducible assumption))))))) | exact Nat.ne_of_lt (And.left (And.right (And.right (And.right (And.right (And.right (by with_reducible assumption))))))) | exact Nat.ne_of_gt (And.right (And.right (And.right (And.right (And.right (And.right (by with_reducible assumption))))))) | exact Nat.ne_of_lt (And.right (And.right (And.right (And.right (And.right (And.right (by with_reducible assumption))))))) | exact Nat.ne_of_gt (And.left (And.right (And.right (And.right (And.right (And.right (And.right (by with_reducible assumption)))))))) | exact Nat.ne_of_lt (And.left (And.right (And.right (And.right (And.right (And.right (And.right (by with_reducible assumption)))))))) | exact Nat.ne_of_gt (And.right (And.right (And.right (And.right (And.right (And.right (And.right (by with_reducible assumption)))))))) | exact Nat.ne_of_lt (And.right (And.right (And.right (And.right (And.right (And.right (And.right (by with_reducible assumption)))))))) | exact Nat.ne_of_gt (And.left (And.right (And.right (And.right (And.right (And.right (And.right (And.right (by with_reducible assumption))))))))) | exact Nat.ne_of_lt (And.left (And.right (And.right (And.right (And.right (And.right (And.right (And.right (by with_reducible assumption))))))))) | exact Nat.ne_of_gt (And.right (And.right (And.right (And.right (And.right (And.right (And.right (And.right (by with_reducible assumption))))))))) | exact Nat.ne_of_lt (And.right (And.right (And.right (And.right (And.right (And.right (And.right (And.right (by with_reducible assumption))))))))) | exact Nat.ne_of_gt (And.left (And.right (And.right (And.right (And.right (And.right (And.right (And.right (And.right (by with_reducible assumption)))))))))) | exact Nat.ne_of_lt (And.left (And.right (And.right (And.right (And.right (And.right (And.right (And.right (And.right (by with_reducible assumption)))))))))) | exact Nat.ne_of_gt (And.right (And.right (And.right (And.right (And.right (And.right (And.right (And.right (And.right (by with_reducible assumption)))))))))) | exact Nat.ne_of_lt (And.right (And.right (And.right (And.right (And.right (And.right (And.right (And.right (And.right (by with_reducible assumption)))))))))) | exact Nat.ne_of_gt (And.left (And.right (And.right (And.right (And.right (And.right (And.right (And.right (And.right (And.right (by with_reducible assumption))))))))))) | exact Nat.ne_of_lt (And.left (And.right (And.right (And.right (And.right (And.right (And.right (And.right (And.right (And.right (by with_reducible assumption))))))))))) | exact Nat.ne_of_gt (And.right (And.right (And.right (And.right (And.right (And.right (And.right (And.right (And.right (And.right (by with_reducible assumption))))))))))) | exact Nat.ne_of_lt (And.right (And.right (And.right (And.right (And.right (And.right (And.right (And.right (And.right (And.right (by with_reducible assumption))))))))))) | exact Nat.ne_of_gt (And.left (And.right (And.right (And.right (And.right (And.right (And.right (And.right (And.right (And.right (And.right (by with_reducible assumption)))))))))))) | exact Nat.ne_of_lt (And.left (And.right (And.right (And.right (And.right (And.right (And.right (And.right (And.right (And.right (And.right (by with_reducible assumption)))))))))))) | exact Nat.ne_of_gt (And.right (And.right (And.right (And.right (And.right (And.right (And.right (And.right (And.right (And.right (And.right (by with_reducible assumption)))))))))))) | exact Nat.ne_of_lt (And.right (And.right (And.right (And.right (And.right (And.right (And.right (And.right (And.right (And.right (And.right (by with_reducible assumption)))))))))))) | exact Nat.ne_of_gt (And.left (And.right (And.right (And.right (And.right (And.right (And.right (And.right (And.right (And.right (And.right (And.right (by with_reducible assumption))))))))))))) | exact Nat.ne_of_lt (And.left (And.right (And.right (And.right (And.right (And.right (And.right (And.right (And.right (And.right (And.right (And.right (by with_reducible assumption))))))))))))) | exact Nat.ne_of_gt (And.right (And.right (And.right (And.right (And.right (And.right (And.right (And.right (And.right (And.right (And.right (And.right (by with_reducible assumption))))))))))))) | exact Nat.ne_of_lt (And.right (And.right (And.right (And.right (And.right (And.right (And.right (And.right (And.right (And.right (And.right (And.right (by with_reducible assumption))))))))))))) | exact Nat.ne_of_gt (And.left (And.right (And.right (And.right (And.right (And.right (And.right (And.right (And.right (And.right (And.right (And.right (And.right (by with_reducible assumption)))))))))))))) | exact Nat.ne_of_lt (And.left (And.right (And.right (And.right (And.right (And.right (And.right (And.right (And.right (And.right (And.right (And.right (And.right (by with_reducible assumption)))))))))))))) | exact Nat.ne_of_gt (And.right (And.right (And.right (And.right (And.right (And.right (And.right (And.right (And.right (And.right (And.right (And.right (And.right (by with_reducible assumption)))))))))))))) | exact Nat.ne_of_lt (And.right (And.right (And.right (And.right (And.right (And.right (And.right (And.right (And.right (And.right (And.right (And.right (And.right (by with_reducible assumption)))))))))))))) | exact Nat.ne_of_gt (And.left (And.right (And.right (And.right (And.right (And.right (And.right (And.right (And.right (And.right (And.right (And.right (And.right (And.right (by with_reducible assumption))))))))))))))) | exact Nat.ne_of_lt (And.left (And.right (And.right (And.right (And.right (And.right (And.right (And.right (And.right (And.right (And.right (And.right (And.right (And.right (by with_reducible assumption))))))))))))))) | omega)
  unfold Tel; k_fill
  intro meanZ9 mgZ9 mbZ9 gdZ9 cnZ9 csZ9 aZ9 ccdZ9 clZ9 outerZ9 h₀Z9 LZ9 mZ9 sZ9 QZ9 EZ9 FZ9 XZ9 TZ9 hpre hret
  refine wpAny_call ?_
  k_dflt (refine' enter0 ?k2 ?k3 ?k5 ?k6 ?k7 ?k8 ?k9 ?kB ?_ ?c2 ?c3 ?c4 ?c5; (case k2 => k_asm); (case k3 => k_asm); (case k5 => k_asm); (case k6 => k_is); (case k7 => k_is); (case k8 => ktr_room); (case k9 => exact BindsTo.of_eq rfl); (case c5 => decide); (case kB => exact locs rfl); (case c2 => exact rfl); (case c3 => exact rfl); (case c4 => exact rfl); k_whole)
  clear XZ9 TZ9
  intro LZ9' hZ9' FZ9' NZ9' XZ9' TZ9'
  (try dsimp only)
  (try k_fold)
  obtain ⟨hl, hi, hz⟩ := hpre
  k_steps
  (show Back _ _ _; unfold Back; dsimp only; refine hret _ _ _ ?_ ?_; (· exact Fr.keep (by k_asm)))
  exact made_of (by k_asm) (by k_mem) (by assumption)
end Mine
namespace Mine
section
open Builtin Builtin.Str Builtin.BaseException Builtin.Exceptions
variable {prog : Program} {w : World} {A : Around} {E : Value → Shared → Prop} {s : Shared} {e t0 C : Addr} {K : Frag}
theorem bexcArgs_at {M : Model} {items : List Value} {Q : Value × List Value → Shared → Prop} {o : Obj} {vs : Array Value} (ho : s.heap.get? e = some o) (hd : o.data = .fields vs) (h0 : vs[0]? = some (.ref t0)) (ht : s.heap.TupAt t0 items) (hq : Q (.ref t0, items) s) :
    wpAny M A (bexcArgs (.ref e)) Q E s := by
  obtain ⟨ot, k, hto, _, htd⟩ := ht
  unfold bexcArgs
  refine wpAny_bind (wpAny_field ho hd h0 (wpAny_bind (wpAny_seqItems hto htd ?_)))
  have : items.toArray.toList = items := by simp
  show wpAny M A (pure (Value.ref t0, items.toArray.toList)) Q E s
  rw [this]; exact wpAny_pure hq
theorem bexcStr_one {m : PySem.Str} {tk : Tok} {Q : Fin → Shared → Prop} {o : Obj} {vs : Array Value} (ho : s.heap.get? e = some o) (hd : o.data = .fields vs) (h0 : vs[0]? = some (.ref t0)) (ht : s.heap.TupAt t0 [.str m tk]) (hq : Q (.done (.ret (.str m tk))) s) :
    wpAny (model prog w) A (Builtin.«BaseException.__str__» ⟨[.ref e], []⟩) Q E s := by
  unfold Builtin.«BaseException.__str__»
  repeat (first | with_reducible refine bexcArgs_at ho hd h0 ht ?_ | wp_step)
  exact hq
theorem call_str_one {m : PySem.Str} {tk : Tok} {Q : Value → Shared → Prop} {o : Obj} {vs : Array Value} (X : K.In s.heap) (ho : s.heap.get? e = some o) (hc : o.cls = .ref C) (hm : mroIn K C (.type "BaseException") = some true) (hd : o.data = .fields vs) (h0 : vs[0]? = some (.ref t0)) (ht : s.heap.TupAt t0 [.str m tk]) (hq : Q (.str m tk) s) :
    wpAny (model prog w) A (call (.builtin "BaseException.__str__") [.ref e]) Q E s := by
  refine wpAny_call (codeAny_call_builtin (b := Builtin.«BaseException.__str__») (by decide +kernel) PySem.F.entry_bexc_str ?_)
  have hsplit : splitId "BaseException.__str__" = some ("BaseException", "__str__") := by decide +kernel
  have hkind : (Manifest.find? "BaseException").bind (·.attrs.lookup "__str__") = some .slot := by decide +kernel
  have hk : builtinKind "BaseException.__str__" = some .slot := by simp only [builtinKind, hsplit]; exact hkind
  have ha := PySem.F.args_bexc_str (.ref e)
  simp only [checkBuiltinCall, hk, hsplit]
  refine wpAny_bind ?_
  show wpAny _ _ (typeOf (.ref e) >>= fun v => isSubtype v (.type "BaseException")) _ _ _
  refine wpAny_bind (wpAny_typeOf_ref ho ?_)
  rw [hc]
  refine (looks_mroIn X hm).here ?_
  simp only [Bool.not_true, Bool.false_eq_true, if_false]
  have fin : wpAny (model prog w) A.in1 (Builtin.«BaseException.__str__» ⟨[.ref e], []⟩) (fun fin s' => match fin with | .done f => (fun (r : Result) s' => match r with | .ok (.ret v) => Q v s' | .ok _ => False | .error e => E e s') (.ok f) s' | .again c' => c'.quiet = true ∧ codeAny (model prog w) A c' (fun (r : Result) s' => match r with | .ok (.ret v) => Q v s' | .ok _ => False | .error e => E e s') s') E s := bexcStr_one ho hd h0 ht hq
  cases hsig : Manifest.signature? "BaseException.__str__" with
  | none => exact wpAny_pure fin
  | some sig =>
    simp only [argsOk, hsig] at ha
    have h2 : Bind.checkArgs "BaseException.__str__" sig ⟨[.ref e], []⟩ = pure () := ha
    show wpAny _ _ (Bind.checkArgs "BaseException.__str__" sig ⟨[.ref e], []⟩) _ _ _
    rw [h2]; exact wpAny_pure fin
theorem str_own {news : List (Addr × Obj)} {h₀ : Heap} {L : Addr} {m : PySem.Str} {u : Tok} {Q : Value → Shared → Prop} (G : Got news e t0 (.ref C) [.str m u]) (N : News h₀ L s.heap news) (X : K.In s.heap) (hs : findIn K (.ref C) "__str__" = some (some (.builtin "BaseException.__str__")))
    (hm : mroIn K C (.type "BaseException") = some true) (hu : A.in1.in1.units < cLine) (hq : Q (.str m u) s) : wpAny (model prog w) A (call (.type "str") [.ref e]) Q E s := by
  obtain ⟨oe, ot, ws, nt, h1, h2, h3, h4, h5, h6, h7⟩ := G
  have ho := (N _ h1).1
  have ht : s.heap.TupAt t0 [.str m u] := ⟨ot, nt, (N _ h2).1, h6, h7⟩
  refine callType_codes (T := "str") (Bi := Builtin.«object.__init__») (Q₁ := fun r s₁ => ∃ y u, r = .str y u ∧ Q r s₁) PySem.F.called_str (PySem.F.typeCall_str_1 _) PySem.F.entry_object_init ?_ ?_
  · refine codeAny_of_tree ?_
    show wpAny _ A.in1.in1 (do checkBuiltinCall "str.__new__" ⟨[.type "str", .ref e], []⟩; again (.builtin "str.__new__" ⟨[.type "str", .ref e], []⟩)) _ _ s
    refine wpAny_bind (wpAny_of_eq (PySem.F.newCall_str_1 _) (wpAny_pure ⟨plainId_quiet (by decide +kernel) _, codeAny_builtin PySem.F.entry_str_new ?_⟩))
    rw [Around.under_plainId (by decide +kernel) _]
    rw [str_new_tree]
    refine wpAny_bind (wpAny_pure ?_)
    refine wpAny_bind (wpAny_of_eq isSubtype_str_str ?_)
    refine wpAny_bind ?_
    unfold PySem.Builtin.Str.strOf
    rw [show isExactStr (.ref e) = false from rfl]
    refine wpAny_bind (m := cRoomFor _ _) (wpAny_cRoomFor hu ?_)
    refine wpAny_bind (m := callSpecial? (.ref e) (Str.ofString "__str__")) ?_
    unfold callSpecial?
    refine wpAny_bind ?_
    show wpAny _ _ (typeOf (.ref e) >>= fun v => typeLookup v _) _ _ _
    refine wpAny_bind (wpAny_typeOf_ref ho ?_)
    rw [h3]
    refine (looks_findIn X hs).here ?_
    dsimp only
    refine wpAny_holding ?_
    rw [show bindSpecial (.builtin "BaseException.__str__") (.ref e) = pure (.builtin "BaseException.__str__", [.ref e]) from PySem.F.excStr_Exception.str.bind _]
    refine wpAny_bind (wpAny_pure (wpAny_bind ?_))
    refine call_str_one X ho h3 hm h4 h5 ht ?_
    exact wpAny_pure (wpAny_pure (wpAny_pure ⟨_, _, rfl, hq⟩))
  · rintro obj s₁ ⟨y, u, rfl, hq⟩
    exact ⟨typeIs_str _ _ _, PySem.F.args_object_init_2 _ _, object_init_meets PySem.F.called_str.init.lookup PySem.F.called_str.made (by decide) prog w A.in1 _ s₁ ⟨typeIs_str _ _ _, rfl, hq⟩⟩
end
end Mine
namespace Mine
section
variable {prog : Program} {w : World} {A : Around} {s : Shared} {K : Frag} {L : Addr} {h₀ : Heap} {m mg mb : Str → Option Value} {p : Program} {loose : List Str} {mean : ExcName → Option Value}
/-- the entry of a def with cells -/
theorem enter0C {R : Result → Shared → Prop} {name qual : Str} {params : Arguments} {body : List Stmt} {scope : Scope} {dV kV doc pm cdv ct oc : Value} {an od : Option Addr} {osl : Array (Option Value)} {f : Addr} {args : Args} {binds : List (Str × Value)}
    (F : Fr h₀ L s.heap m) (X₀ : K.In h₀) (T : Top p loose mean mg mb h₀)
    (ho : K.lookup f = some ⟨oc, od, .func (fnOf name qual params body scope dV kV doc pm an cdv ct), osl⟩) (hcd : codeIn K cdv qual = true) (hroom : A.depth < recursionLimit)
    (hbind : BindsTo s (fnOf name qual params body scope dV kV doc pm an cdv ct) args binds) (hkind : (binds.all fun y => scope.names.lookup y.1 == some .local || scope.names.lookup y.1 == some .cell) = true)
    (hnd : ((cellsFrom 0 scope.names []).map (·.1)).Nodup)
    (h : ∀ L' h₁ tk cells, Fr s.heap L' h₁ (bindL (envOfC qual scope L' f cdv).kindOf binds fun _ => none) → News s.heap L' h₁ cells →
      CellsAre (bindC (envOfC qual scope L' f cdv).kindOf binds fun _ => none) (cellsFrom (L' + 1) scope.names []) cells → K.In s.heap → Top p loose mean mg mb s.heap →
      wpAny (model prog w) (A.deeper (envOfC qual scope L' f cdv)) (execs body (envOfC qual scope L' f cdv))
        (fun fl s' => Back R (match fl with | .ret v => v | _ => .none) s')
        (fun e s' => wpAny (model prog w) (A.deeper (envOfC qual scope L' f cdv)) (leaving (envOfC qual scope L' f cdv) e) (fun _ s'' => R (.error e) s'') (fun e' s'' => R (.error e') s'') s')
        { s with heap := h₁, toks := tk })
    (hco : scope.isCoroutine = false) (hgen : scope.isGenerator = false) (hk : scope.kind = .function) : codeAny (model prog w) A (.call (.ref f) args) R s := by
  have X := X₀.keeps F.keep
  have T' := T.keeps F.keep
  refine codeAny_call_function (fd := fnOf name qual params body scope dV kV doc pm an cdv ct) (body := body) hroom (X _ _ ho) rfl hco hgen rfl (codeRec_of X hcd) (hbind _ _ _ _ ?_)
  refine wpAny_newFunctionEnv_cells hk (kindsX hkind _) fun env' he s' x => ?_
  subst he
  refine ⟨T'.nolimit.keeps x.toInCall.keep, codeAny_func ?_⟩
  obtain ⟨h₁, tk, rfl, _⟩ := x.done
  have hk₁ := x.toInCall.keep
  obtain ⟨cells, NC, Y⟩ := Cl.news (h₀ := s.heap) (Nat.le_refl _) fun n c hm => ⟨x.cell n c (lookup_of_mem_nodup (cellsFrom_names scope.names 0 (s.heap.objs.size + 1) [] [] rfl ▸ hnd) hm), x.above n c hm⟩
  exact wpAny_mono (h s.heap.objs.size h₁ tk cells ⟨x.toInCall.ns, hk₁, Nat.le_refl _⟩ NC Y X T') (fun fl s' hl => hl) fun _ _ y => y
end
end Mine
namespace Mine
theorem find3_bounds {x y : Str} {i : Int} (h : ¬ Txt.find3 x y i < 0) (hi : 0 ≤ i) : i ≤ Txt.find3 x y i ∧ Txt.find3 x y i + y.length ≤ x.length := by
  unfold Txt.find3 at h ⊢
  rcases StrLaws.occ_head_from x y (fromIndex x.length i) 1 (by decide) with ⟨e, _⟩ | ⟨k, r, e, h1, h2, _⟩
  · rw [e] at h; exact absurd (by decide) h
  · rw [e]
    have hf : fromIndex x.length i = i.toNat := by unfold fromIndex; rw [if_neg (by (first | lia | omega))]; (first | lia | omega)
    rw [hf] at h1
    have := h2.1
    show i ≤ (k : Int) ∧ (k : Int) + y.length ≤ x.length
    (first | lia | omega)
theorem find_nonneg {x y : Str} (h : ¬ Txt.find x y < 0) : 0 ≤ Txt.find x y := by (first | lia | omega)
section
variable {prog : Program} {w : World} {A A₀ : Around} {E : Value → Shared → Prop} {s : Shared} {L D : Addr} {h₀ base : Heap} {m mg mb : Str → Option Value} {news news' : List (Addr × Obj)} {x y : Str} {t u v v' : Tok} {i j : Int} {value slice : PySem.Expr}
theorem item_l {Q : Value → Shared → Prop} (hx : x.length ≤ 1000) (h1 : ¬ Txt.find x (Str.ofString "(") < 0) (h2 : ¬ Txt.find3 x (Str.ofString ")") (Txt.find x (Str.ofString "(") + 1) < 0)
    (h : (1 ≤ (Txt.item x (Txt.find x (Str.ofString "(") + 1)).length ∧ (Txt.item x (Txt.find x (Str.ofString "(") + 1)).length ≤ 1) → Q (.str (Txt.item x (Txt.find x (Str.ofString "(") + 1)) s.toks) { s with toks := s.toks + 1 })
    (hs : subscripted slice false (.str x t) (.int (Txt.find x (Str.ofString "(") + 1) u) = operate [.str x t, .int (Txt.find x (Str.ofString "(") + 1) u] (getItem (.str x t) (.int (Txt.find x (Str.ofString "(") + 1) u)) := by with_unfolding_all rfl)
    (ht : ∀ r, letTemporaryGo value (.str x t) r = pure () := by intro _; with_unfolding_all rfl) :
    wpAny (model prog w) A (subscriptTail value slice (.str x t) (.int (Txt.find x (Str.ofString "(") + 1) u)) Q E s := by
  have b := find3_bounds h2 (by (first | lia | omega))
  have e : (Str.ofString ")").length = 1 := by decide +kernel
  rw [e] at b
  exact item_str (fitsSsize_of (N := 9223372036854775808) (by (first | lia | omega)) (by (first | lia | omega)) (Int.le_refl _)) (by (first | lia | omega)) (by (first | lia | omega)) h hs ht
theorem item_r {Q : Value → Shared → Prop} (hx : x.length ≤ 1000) (h1 : ¬ Txt.find x (Str.ofString "(") < 0) (h2 : ¬ Txt.find3 x (Str.ofString ")") (Txt.find x (Str.ofString "(") + 1) < 0)
    (h : (1 ≤ (Txt.item x (Txt.find3 x (Str.ofString ")") (Txt.find x (Str.ofString "(") + 1) - 1)).length ∧ (Txt.item x (Txt.find3 x (Str.ofString ")") (Txt.find x (Str.ofString "(") + 1) - 1)).length ≤ 1) → Q (.str (Txt.item x (Txt.find3 x (Str.ofString ")") (Txt.find x (Str.ofString "(") + 1) - 1)) s.toks) { s with toks := s.toks + 1 })
    (hs : subscripted slice false (.str x t) (.int (Txt.find3 x (Str.ofString ")") (Txt.find x (Str.ofString "(") + 1) - 1) u) = operate [.str x t, .int (Txt.find3 x (Str.ofString ")") (Txt.find x (Str.ofString "(") + 1) - 1) u] (getItem (.str x t) (.int (Txt.find3 x (Str.ofString ")") (Txt.find x (Str.ofString "(") + 1) - 1) u)) := by with_unfolding_all rfl)
    (ht : ∀ r, letTemporaryGo value (.str x t) r = pure () := by intro _; with_unfolding_all rfl) :
    wpAny (model prog w) A (subscriptTail value slice (.str x t) (.int (Txt.find3 x (Str.ofString ")") (Txt.find x (Str.ofString "(") + 1) - 1) u)) Q E s := by
  have b := find3_bounds h2 (by (first | lia | omega))
  have e : (Str.ofString ")").length = 1 := by decide +kernel
  rw [e] at b
  exact item_str (fitsSsize_of (N := 9223372036854775808) (by (first | lia | omega)) (by (first | lia | omega)) (Int.le_refl _)) (by (first | lia | omega)) (by (first | lia | omega)) h hs ht
end
section
variable {prog : Program} {w : World} {A : Around} {s : Shared} {K : Frag} {base : Heap} {outer : List Env} {mg mb : Str → Option Value} {p : Program} {loose : List Str} {mean : ExcName → Option Value}
/-- an entry that keeps the callers' frames in sight -/
theorem enterR {R : Result → Shared → Prop} {name qual : Str} {params : Arguments} {body : List Stmt} {scope : Scope} {dV kV doc pm cdv ct oc : Value} {an od : Option Addr} {osl : Array (Option Value)} {f : Addr} {args : Args} {binds : List (Str × Value)}
    (B : Below A base outer s.heap) (X₀ : K.In base) (T : Top p loose mean mg mb base)
    (ho : K.lookup f = some ⟨oc, od, .func (fnOf name qual params body scope dV kV doc pm an cdv ct), osl⟩) (hcd : codeIn K cdv qual = true) (hroom : A.depth < recursionLimit)
    (hbind : BindsTo s (fnOf name qual params body scope dV kV doc pm an cdv ct) args binds) (hloc : ∀ y ∈ binds, scope.names.lookup y.1 = some .local)
    (h : ∀ L' h₁, Fr s.heap L' h₁ (fun y => binds.reverse.lookup y) → News s.heap L' h₁ [] → K.In s.heap → Top p loose mean mg mb s.heap →
      wpAny (model prog w) (A.deeper (envOf qual scope L' f cdv)) (execs body (envOf qual scope L' f cdv))
        (fun fl s' => Back R (match fl with | .ret v => v | _ => .none) s')
        (fun e s' => wpAny (model prog w) (A.deeper (envOf qual scope L' f cdv)) (leaving (envOf qual scope L' f cdv) e) (fun _ s'' => R (.error e) s'') (fun e' s'' => R (.error e') s'') s')
        { s with heap := h₁, toks := s.toks + binds.length })
    (hco : scope.isCoroutine = false) (hgen : scope.isGenerator = false) (hk : scope.kind = .function)
    (hcell : ∀ x ∈ scope.names, x.2 ≠ .cell) : codeAny (model prog w) A (.call (.ref f) args) R s := by
  have X := X₀.keeps B.stays
  have T' := T.keeps B.stays
  refine codeAny_call_def (fd := fnOf name qual params body scope dV kV doc pm an cdv ct) (body := body) (binds := binds) hroom (X _ _ ho) rfl T'.nolimit (codeRec_of X hcd) rfl hbind hcell hloc (fun h₁ hns hk₁ => ?_) hco hgen hk
  exact wpAny_mono (h _ h₁ ⟨hns, hk₁, Nat.le_refl _⟩ News.nil X T') (fun fl s' hl => hl) fun _ _ y => y
end
/-- a reply's answer: what parse229 makes of it -/
inductive Said where
  | code | form | port (y : Str)

noncomputable def lpar : Int → Int := id
noncomputable def partsOf (x : Str) : List Str := Txt.split (Txt.slice x (some (Txt.find x (Str.ofString "(") + 1)) (some (Txt.find3 x (Str.ofString ")") (Txt.find x (Str.ofString "(") + 1)))) (Txt.item x (Txt.find x (Str.ofString "(") + 1))
noncomputable def p229 (x : Str) : Said :=
  if (Txt.slice x none (some 3) != Str.ofString "229") = true then .code
  else if Txt.find x (Str.ofString "(") < 0 then .form
  else if Txt.find3 x (Str.ofString ")") (Txt.find x (Str.ofString "(") + 1) < 0 then .form
  else if (Txt.item x (Txt.find x (Str.ofString "(") + 1) != Txt.item x (Txt.find3 x (Str.ofString ")") (Txt.find x (Str.ofString "(") + 1) - 1)) = true then .form
  else if (partsOf x).length ≠ 5 then .form
  else .port ((partsOf x).getD 3 Str.empty)
section
variable {x y : Str} {l : List (Str × Tok)}
theorem p229_c (h1 : (Txt.slice x none (some 3) != Str.ofString "229") = true) : p229 x = .code := by unfold p229; rw [if_pos h1]
theorem p229_f1 (h1 : (Txt.slice x none (some 3) != Str.ofString "229") = false) (h2 : Txt.find x (Str.ofString "(") < 0) : p229 x = .form := by unfold p229; rw [h1, if_neg Bool.false_ne_true, if_pos h2]
theorem p229_f2 (h1 : (Txt.slice x none (some 3) != Str.ofString "229") = false) (h2 : ¬ Txt.find x (Str.ofString "(") < 0) (h3 : Txt.find3 x (Str.ofString ")") (Txt.find x (Str.ofString "(") + 1) < 0) : p229 x = .form := by
  unfold p229; rw [h1, if_neg Bool.false_ne_true, if_neg h2, if_pos h3]
theorem p229_f3 (h1 : (Txt.slice x none (some 3) != Str.ofString "229") = false) (h2 : ¬ Txt.find x (Str.ofString "(") < 0) (h3 : ¬ Txt.find3 x (Str.ofString ")") (Txt.find x (Str.ofString "(") + 1) < 0)
    (h4 : (Txt.item x (Txt.find x (Str.ofString "(") + 1) != Txt.item x (Txt.find3 x (Str.ofString ")") (Txt.find x (Str.ofString "(") + 1) - 1)) = true) : p229 x = .form := by
  unfold p229; rw [h1, if_neg Bool.false_ne_true, if_neg h2, if_neg h3, if_pos h4]
theorem p229_f4 (h1 : (Txt.slice x none (some 3) != Str.ofString "229") = false) (h2 : ¬ Txt.find x (Str.ofString "(") < 0) (h3 : ¬ Txt.find3 x (Str.ofString ")") (Txt.find x (Str.ofString "(") + 1) < 0)
    (h4 : (Txt.item x (Txt.find x (Str.ofString "(") + 1) != Txt.item x (Txt.find3 x (Str.ofString ")") (Txt.find x (Str.ofString "(") + 1) - 1)) = false) (hl : l.map (·.1) = partsOf x) (h5 : ¬ (l.length : Int) = 5) : p229 x = .form := by
  unfold p229; rw [h1, if_neg Bool.false_ne_true, if_neg h2, if_neg h3, h4, if_neg Bool.false_ne_true, if_pos]
  rw [← hl, List.length_map]; (first | lia | omega)
theorem p229_p (h1 : (Txt.slice x none (some 3) != Str.ofString "229") = false) (h2 : ¬ Txt.find x (Str.ofString "(") < 0) (h3 : ¬ Txt.find3 x (Str.ofString ")") (Txt.find x (Str.ofString "(") + 1) < 0)
    (h4 : (Txt.item x (Txt.find x (Str.ofString "(") + 1) != Txt.item x (Txt.find3 x (Str.ofString ")") (Txt.find x (Str.ofString "(") + 1) - 1)) = false) (hl : l.map (·.1) = partsOf x) (h5 : (l.length : Int) = 5) (hy : (l.map (·.1))[Int.toNat 3]? = some y) : p229 x = .port y := by
  unfold p229; rw [h1, if_neg Bool.false_ne_true, if_neg h2, if_neg h3, h4, if_neg Bool.false_ne_true, if_neg]
  · rw [← hl, List.getD_eq_getElem?_getD, show (3 : Nat) = Int.toNat 3 from rfl, hy]; rfl
  · rw [← hl, List.length_map]; (first | lia | omega)
end
noncomputable def SaidVals (x : Str) : Said → List Value → Prop
  | .code, vs => ∃ t1 t2, vs = [.str (Str.ofString "code") t1, .str x t2]
  | .form, vs => ∃ t1 t2, vs = [.str (Str.ofString "form") t1, .str x t2]
  | .port y, vs => ∃ n t1 t2, PySem.intText? y = some n ∧ vs = [.str (Str.ofString "h") t1, .int n t2]
noncomputable def SaidIs (x : Str) (h : Heap) (r : Value) (h' : Heap) : Prop := ∃ D vs, r = .ref D ∧ h.get? D = none ∧ h'.get? D = some ⟨.type "tuple", none, .seq vs.toArray 0, #[]⟩ ∧ SaidVals x (p229 x) vs
theorem said_of {fs : List Addr} {x : Str} {h g h' : Heap} {L D : Addr} {news : List (Addr × Obj)} {vs : List Value} (T : KtsTurn fs h g) (N : News g L h' news) (hm : (D, ⟨.type "tuple", none, .seq vs.toArray 0, #[]⟩) ∈ news) (hv : SaidVals x (p229 x) vs) : SaidIs x h (.ref D) h' := by
  refine ⟨D, vs, rfl, ?_, (N _ hm).1, hv⟩
  cases q : h.get? D with
  | none => rfl
  | some o =>
    obtain ⟨sl, hs⟩ := T.up q
    have := (N _ hm).2.2
    rw [hs] at this
    cases this
section
variable {prog : Program} {w : World} {A : Around} {E : Value → Shared → Prop} {s : Shared} {Q : Value → Shared → Prop} {x y z : Str} {u : Tok} {l : List Str}
theorem int_part (hy : l[Int.toNat 3]? = some y) (hx : x.length ≤ 500) (hp : ∀ y, p229 x = .port y → ∃ n, PySem.intText? y = some n) (e : p229 x = .port y) (hb : ∀ a, a ∈ l → a.length ≤ z.length) (hz : z.length ≤ x.length)
    (h : ∀ n, PySem.intText? y = some n → Q (.int n s.toks) { s with toks := s.toks + 1 }) : wpAny (model prog w) A (call (.type "int") [.str y u]) Q E s := by
  obtain ⟨n, hn⟩ := hp y e
  have := hb y (List.mem_of_getElem? hy)
  exact KIN.call_text hn (by (first | lia | omega)) (h n hn)
end
/-- a contract for a def that catches: all objects but the frames' dicts stay, those up to their slots -/
noncomputable def TelR (w : World) (dp un : Nat) (f : Addr) (vs : List Value) (pre : Prop) (post : Heap → Value → Heap → Prop) : Prop :=
  ∀ (mean : ExcName → Option Value) (mg mb : Str → Option Value) (gd : Option (List Code)) (cn : Str) (cs : Scope) (L a : Addr) (ccd : Value) (cl : List (Str × Addr)) (outer : List Env) (base : Heap) (s : Shared) (Q E : Value → Shared → Prop),
    Below (ktrTop dp un gd cn cs L a ccd cl outer) base (envX cn cs L a ccd cl :: outer) s.heap → (hd.heap_1 w.params).In base → Top hd.view_1 (looseW hd.view_1 [Str.ofString "IPV4_RE"]) mean mg mb base →
    KtsDicts ((envX cn cs L a ccd cl :: outer).filterMap (·.frame)) s.heap → pre →
    (∀ r h' tk' g', KtsTurn ((envX cn cs L a ccd cl :: outer).filterMap (·.frame)) s.heap g' → g'.StaysIn h' → post s.heap r h' → Q r { s with heap := h', toks := tk' }) →
    wpAny (model PySem.Challenge.rw_xj0016_01.row.prog w) (ktrTop dp un gd cn cs L a ccd cl outer) (call (.ref f) vs) Q E s
set_option maxHeartbeats 8000000 in
theorem t_reply (w : World) (x : Str) (t : Tok) : TelR w 303 10 148 [.str x t] (x.length ≤ 500 ∧ ∀ y, p229 x = .port y → ∃ n, PySem.intText? y = some n) (SaidIs x) := by
  w_top off
  k_with_none
  k_with "own subscriptTail" => ((k_here; (with_reducible show wpAny _ _ (subscriptTail _ _ (Value.str _ _) (Value.int (Txt.find _ _ + 1) _)) _ _ _); k_dflt (refine' item_l (by omega) (by assumption) (by assumption) ?_); intro _))
  k_with "own subscriptTail" => ((k_here; (with_reducible show wpAny _ _ (subscriptTail _ _ (Value.str _ _) (Value.int (Txt.find3 _ _ _ - 1) _)) _ _ _); k_dflt (refine' item_r (by omega) (by assumption) (by assumption) ?_); intro _))
  k_with "own call type:int" => ((k_here; (with_reducible show wpAny _ _ (call (Value.type "int") [Value.str _ _]) _ _ _); k_dflt (refine' int_part (by assumption) (by assumption) (by assumption) (by exact p229_p (by assumption) (by assumption) (by assumption) (by assumption) (by assumption) (by assumption) (by assumption)) (by assumption) (by assumption) ?_); intro n' hn'))
  k_with "own call type:str" => ((k_here; (with_reducible show wpAny _ _ (call (Value.type "str") [Value.ref _]) _ _ _); k_dflt (refine' str_own (by assumption) (by assumption) (by k_in) (by k_is) (by k_is) (by k_units) ?_; k_whole)))
  k_with "own k_ne" => (refine neN ?_; (try dsimp only); first | exact Nat.ne_of_gt (by with_reducible assumption) | exact Nat.ne_of_lt (by with_reducible assumption) | exact Nat.ne_of_gt (And.left (by with_reducible assumption)) | exact Nat.ne_of_lt (And.left (by with_reducible assumption)) | exact Nat.ne_of_gt (And.right (by with_reducible assumption)) | exact Nat.ne_of_lt (And.right (by with_reducible assumption)) | exact Nat.ne_of_gt (And.left (And.right (by with_reducible assumption))) | exact Nat.ne_of_lt (And.left (And.right (by with_reducible assumption))) | exact Nat.ne_of_gt (And.right (And.right (by with_reducible assumption))) | exact Nat.ne_of_lt (And.right (And.right (by with_reducible assumption))) | exact Nat.ne_of_gt (And.left (And.right (And.right (by with_reducible assumption)))) | exact Nat.ne_of_lt (And.left (And.right (And.right (by with_reducible assumption)))) | exact Nat.ne_of_gt (And.right (And.right (And.right (by with_reducible assumption)))) | exact Nat.ne_of_lt (And.right (And.right (And.right (by with_reducible assumption)))) | exact Nat.ne_of_gt (And.left (And.right (And.right (And.right (by with_reducible assumption))))) | exact Nat.ne_of_lt (And.left (And.right (And.right (And.right (by with_reducible assumption))))) | exact Nat.ne_of_gt (And.right (And.right (And.right (And.right (by with_reducible assumption))))) | exact Nat.ne_of_lt (And.right (And.right (And.right (And.right (by with_reducible assumption))))) | exact Nat.ne_of_gt (And.left (And.right (And.right (And.right (And.right (by with_reducible assumption)))))) | exact Nat.ne_of_lt (And.left (And.right (And.right (And.right (And.right (by with_reducible assumption)))))) | exact Nat.ne_of_gt (And.right (And.right (And.right (And.right (And.right (by with_reducible assumption)))))) | exact Nat.ne_of_lt (And.right (And.right (And.right (And.right (And.right (by with_reducible assumption)))))) | exact Nat.ne_of_gt (And.left (And.right (And.right (And.right (And.right (And.right (by with_reducible assumption))))))) | exact Nat.ne_of_lt (And.left (And.right (And.right (And.right (And.right (And.right (by with_reducible assumption))))))) | exact Nat.ne_of_gt (And.right (And.right (And.right (And.right (And.right (And.right (by with_reducible assumption))))))) | exact Nat.ne_of_lt (And.right (And.right (And.right (And.right (And.right (And.right (by with_reducible assumption))))))) | exact Nat.ne_of_gt (And.left (And.right (And.right (And.right (And.right (And.right (And.right (by with_reducible assumption)))))))) | exact Nat.ne_of_lt (And.left (And.right (And.right (And.right (And.right (And.right (And.right (by with_reducible assumption)))))))) | exact Nat.ne_of_gt (And.right (And.right (And.right (And.right (And.right (And.right (And.right (by with_reducible assumption)))))))) | exact Nat.ne_of_lt (And.right (And.right (And.right (And.right (And.right (And.right (And.right (by with_reducible assumption)))))))) | exact Nat.ne_of_gt (And.left (And.right (And.right (And.right (And.right (And.right (And.right (And.right (by with_reducible assumption))))))))) | exact Nat.ne_of_lt (And.left (And.right (And.right (And.right (And.right (And.right (And.right (And.right (by with_reducible assumption))))))))) | exact Nat.ne_of_gt (And.right (And.right (And.right (And.right (And.right (And.right (And.right (And.right (by with_reducible assumption))))))))) | exact Nat.ne_of_lt (And.right (And.right (And.right (And.right (And.right (And.right (And.right (And.right (by with_reducible assumption))))))))) | exact Nat.ne_of_gt (And.left (And.right (And.right (And.right (And.right (And.right (And.right (And.right (And.right (by with_reducible assumption)))))))))) | exact Nat.ne_of_lt (And.left (And.right (And.right (And.right (And.right (And.right (And.right (And.right (And.right (by with_reducible assumption)))))))))) | exact Nat.ne_of_gt (And.right (And.right (And.right (And.right (And.right (And.right (And.right (And.right (And.right (by with_reducible assumption)))))))))) | exact Nat.ne_of_lt (And.right (And.right (And.right (And.right (And.right (And.right (And.right (And.right (And.right (by with_reducible assumption)))))))))) | exact Nat.ne_of_gt (And.left (And.right (And.right (And.right (And.right (And.right (And.right (And.right (And.right (And.right (by with_reducible assumption))))))))))) | exact Nat.ne_of_lt (And.left (And.right (And.right (And.right (And.right (And.right (And.right (And.right (And.right (And.right (by with_reducible assumption))))))))))) | exact Nat.ne_of_gt (And.right (And.right (And.right (And.right (And.right (And.right (And.right (And.right (And.right (And.right (by with_reducible assumption))))))))))) | exact Nat.ne_of_lt (And.right (And.right (And.right (And.right (And.right (And.right (And.right (And.right (And.right (And.right (by with_reducible assumption))))))))))) | exact Nat.ne_of_gt (And.left (And.right (And.right (And.right (And.right (And.right (And.right (And.right (And.right (And.right (And.right (by with_reducible assumption)))))))))))) | exact Nat.ne_of_lt (And.left (And.right (And.right (And.right (And.right (And.right (And.right (And.right (And.right (And.right (And.right (by with_reducible assumption)))))))))))) | exact Nat.ne_of_gt (And.right (And.right (And.right (And.right (And.right (And.right (And.right (And.right (And.right (And.right (And.right (by with_reducible assumption)))))))))))) | exact Nat.ne_of_lt (And.right (And.right (And.right (And.right (And.right (And.right (And.right (And.right (And.right (And.right (And.right (by with_reducible assumption)))))))))))) | exact Nat.ne_of_gt (And.left (And.right (And.right (And.right (And.right (And.right (And.right (And.right (And.right (And.right (And.right (And.right (by with_reducible assumption))))))))))))) | exact Nat.ne_of_lt (And.left (And.right (And.right (And.right (And.right (And.right (And.right (And.right (And.right (And.right (And.right (And.right (by with_reducible assumption))))))))))))) | exact Nat.ne_of_gt (And.right (And.right (And.right (And.right (And.right (And.right (And.right (And.right (And.right (And.right (And.right (And.right (by with_reducible assumption))))))))))))) | exact Nat.ne_of_lt (And.right (And.right (And.right (And.right (And.right (And.right (And.right (And.right (And.right (And.right (And.right (And.right (by with_reducible assumption))))))))))))) | exact Nat.ne_of_gt (And.left (And.right (And.right (And.right (And.right (And.right (And.right (And.right (And.right (And.right (And.right (And.right (And.right (by with_reducible assumption)))))))))))))) | exact Nat.ne_of_lt (And.left (And.right (And.right (And.right (And.right (And.right (And.right (And.right (And.right (And.right (And.right (And.right (And.right (by with_reducible assumption)))))))))))))) | exact Nat.ne_of_gt (And.right (And.right (And.right (And.right (And.right (And.right (And.right (And.right (And.right (And.right (And.right (And.right (And.right (by with_reducible assumption)))))))))))))) | exact Nat.ne_of_lt (And.right (And.right (And.right (And.right (And.right (And.right (And.right (And.right (And.right (And.right (And.right (And.right (And.right (by with_reducible assumption)))))))))))))) | exact Nat.ne_of_gt (And.left (And.right (And.right (And.right (And.right (And.right (And.right (And.right (And.right (And.right (And.right (And.right (And.right (And.right (by with_reducible assumption))))))))))))))) | exact Nat.ne_of_lt (And.left (And.right (And.right (And.right (And.right (And.right (And.right (And.right (And.right (And.right (And.right (And.right (And.right (And.right (by with_reducible assumption))))))))))))))) | omega)
  unfold TelR
  k_fill
  intro mean mg mb gd cn cs L a ccd cl outer base s Q E B XB TB D hpre hret
  obtain ⟨hpx, hpi⟩ := hpre
  refine wpAny_call ?_
  k_dflt (refine' enterR ?k2 ?k3 ?k5 ?k6 ?k7 ?k8 ?k9 ?kB ?_ ?c2 ?c3 ?c4 ?c5; (case k2 => k_asm); (case k3 => k_asm); (case k5 => k_asm); (case k6 => k_is); (case k7 => k_is); (case k8 => ktr_room); (case k9 => exact BindsTo.of_eq rfl); (case c5 => decide); (case kB => exact locs rfl); (case c2 => exact rfl); (case c3 => exact rfl); (case c4 => exact rfl); k_whole)
  intro L' h' F' N' X' T'
  (try dsimp only)
  (try k_fold)
  k_steps
  all_goals (show Back _ _ _; unfold Back; dsimp only; refine' hret _ _ _ _ ?mT ?mst ?_; (case mst => exact Fr.keep (by k_asm)); (case mT => (first | assumption | exact KtsTurn.refl)))
  all_goals (refine' said_of (vs := [_, _]) ?mT ?mN ?mm ?_; (case mN => k_asm); (case mT => (first | assumption | exact KtsTurn.refl (fs := []))); (case mm => k_mem))
  · rw [p229_c (by assumption)]; exact ⟨_, _, rfl⟩
  · rw [p229_f1 (by assumption) (by assumption)]; exact ⟨_, _, rfl⟩
  · rw [p229_f2 (by assumption) (by assumption) (by assumption)]; exact ⟨_, _, rfl⟩
  · rw [p229_f3 (by assumption) (by assumption) (by assumption) (by assumption)]; exact ⟨_, _, rfl⟩
  · rw [p229_f4 (by assumption) (by assumption) (by assumption) (by assumption) (by assumption) (by assumption)]; exact ⟨_, _, rfl⟩
  · rw [p229_p (by assumption) (by assumption) (by assumption) (by assumption) (by assumption) (by assumption) (by assumption)]; exact ⟨_, _, _, by assumption, rfl⟩
end Mine
namespace Mine
noncomputable def saidDec : DecidableEq Said := fun a b => match a, b with
  | .code, .code => .isTrue rfl
  | .form, .form => .isTrue rfl
  | .port x, .port y => if h : x = y then .isTrue (by rw [h]) else .isFalse (fun e => h (by injection e))
  | .code, .form => .isFalse nofun
  | .code, .port _ => .isFalse nofun
  | .form, .code => .isFalse nofun
  | .form, .port _ => .isFalse nofun
  | .port _, .code => .isFalse nofun
  | .port _, .form => .isFalse nofun
/-- a contract for a def whose callees catch: the caller's frame dict may turn in its slots -/
noncomputable def TelM (w : World) (dp un : Nat) (f : Addr) (vs : List Value) (pre : Heap → Prop) (post : Value → Prop) : Prop :=
  ∀ (mean : ExcName → Option Value) (mg mb : Str → Option Value) (gd : Option (List Code)) (cn : Str) (cs : Scope) (L a : Addr) (ccd : Value) (h₀ : Heap) (m : Str → Option Value) (s : Shared) (Q E : Value → Shared → Prop),
    cs.kind = .function → Fr h₀ L s.heap m → (hd.heap_1 w.params).In h₀ → Top hd.view_1 (looseW hd.view_1 [Str.ofString "IPV4_RE"]) mean mg mb h₀ → pre s.heap →
    (∀ r h' tk', (∀ b o, s.heap.get? b = some o → b ≠ L → h'.get? b = some o) → (∀ o, s.heap.get? L = some o → ∃ sl, h'.get? L = some { o with slots := sl }) → post r → Q r { s with heap := h', toks := tk' }) →
    wpAny (model PySem.Challenge.rw_xj0016_01.row.prog w) (ktrTop dp un gd cn cs L a ccd [] []) (call (.ref f) vs) Q E s
/-- an object, but for its slots -/
noncomputable def SameBy (a b : Obj) : Prop := ∃ sl, b = { a with slots := sl }
theorem SameBy.refl {a : Obj} : SameBy a a := ⟨a.slots, rfl⟩
/-- an address that is none of these -/
noncomputable def AllOff (d : Nat) : List (Addr × Obj) → Prop
  | [] => True
  | p :: r => ((show Nat from p.1) < d ∨ d < (show Nat from p.1)) ∧ AllOff d r
theorem allOff_of {d : Addr} : ∀ {l : List (Addr × Obj)}, (∀ p ∈ l, p.1 ≠ d) → AllOff d l
  | [], _ => trivial
  | p :: r, h => ⟨Nat.lt_or_gt_of_ne (h p (.head _)), allOff_of fun q hq => h q (.tail _ hq)⟩
theorem allOff_append {d : Nat} : ∀ {l r : List (Addr × Obj)}, AllOff d (l ++ r) ↔ AllOff d l ∧ AllOff d r
  | [], r => by simp [AllOff]
  | p :: l, r => by simp [AllOff, allOff_append (l := l), and_assoc]
theorem news_two {h₀ h : Heap} {L : Addr} {news : List (Addr × Obj)} {p q : Addr × Obj} (N : News h₀ L h news) (hp : p ∈ news) (hq : q ∈ news) : News h₀ L h [p, q] := fun r hr => by
  rcases List.mem_cons.mp hr with rfl | hr
  · exact N _ hp
  · rw [List.mem_singleton.mp hr]; exact N _ hq
/-- what by_marks knows of its caller -/
structure Marks (w : World) (mean : ExcName → Option Value) (mg mb : Str → Option Value) (h₀ g : Heap) (L : Addr) (cs : Scope) : Prop where
  stays : h₀.StaysIn g
  hid : g.get? L = none
  fresh : h₀.get? L = none
  X : (hd.heap_1 w.params).In h₀
  T : Top hd.view_1 (looseW hd.view_1 [Str.ofString "IPV4_RE"]) mean mg mb h₀
  kind : cs.kind = .function
section
variable {w : World} {mean : ExcName → Option Value} {mg mb : Str → Option Value} {s : Shared} {h₀ g : Heap} {L L' a a' : Addr} {cs cs' : Scope} {cn cn' : Str} {ccd ccd' : Value} {gd : Option (List Code)} {m : Str → Option Value} {news : List (Addr × Obj)} {E : Value → Shared → Prop}
theorem marks_enter {R : Result → Shared → Prop} {name qual : Str} {params : Arguments} {body : List Stmt} {scope : Scope} {dV kV doc pm cdv ct oc : Value} {an od : Option Addr} {osl : Array (Option Value)} {f : Addr} {args : Args} {binds : List (Str × Value)} {dp un : Nat}
    (kind : cs.kind = .function) (F : Fr h₀ L s.heap m) (X₀ : (hd.heap_1 w.params).In h₀) (T : Top hd.view_1 (looseW hd.view_1 [Str.ofString "IPV4_RE"]) mean mg mb h₀)
    (ho : (hd.heap_1 w.params).lookup f = some ⟨oc, od, .func (fnOf name qual params body scope dV kV doc pm an cdv ct), osl⟩) (hcd : codeIn (hd.heap_1 w.params) cdv qual = true) (hroom : dp < recursionLimit)
    (hbind : BindsTo s (fnOf name qual params body scope dV kV doc pm an cdv ct) args binds) (hkind : (binds.all fun y => scope.names.lookup y.1 == some .local || scope.names.lookup y.1 == some .cell) = true)
    (hnd : ((cellsFrom 0 scope.names []).map (·.1)).Nodup)
    (h : ∀ L' h₁ tk cells g oL es n, Marks w mean mg mb h₀ g L cs → oL.data = .dict es n → s.heap.get? L = some oL → (∀ b o, s.heap.get? b = some o → b ≠ L → g.get? b = some o) → Fr g L' h₁ (bindL (envOfC qual scope L' f cdv).kindOf binds fun _ => none) → News g L' h₁ (cells ++ [(L, oL)]) →
      CellsAre (bindC (envOfC qual scope L' f cdv).kindOf binds fun _ => none) (cellsFrom (L' + 1) scope.names []) cells → L < L' → (hd.heap_1 w.params).In g → Top hd.view_1 (looseW hd.view_1 [Str.ofString "IPV4_RE"]) mean mg mb g →
      wpAny (model PySem.Challenge.rw_xj0016_01.row.prog w) ((ktrTop dp un gd cn cs L a ccd [] []).deeper (envOfC qual scope L' f cdv)) (execs body (envOfC qual scope L' f cdv))
        (fun fl s' => Back R (match fl with | .ret v => v | _ => .none) s')
        (fun e s' => wpAny (model PySem.Challenge.rw_xj0016_01.row.prog w) ((ktrTop dp un gd cn cs L a ccd [] []).deeper (envOfC qual scope L' f cdv)) (leaving (envOfC qual scope L' f cdv) e) (fun _ s'' => R (.error e) s'') (fun e' s'' => R (.error e') s'') s')
        { s with heap := h₁, toks := tk })
    (hco : scope.isCoroutine = false) (hgen : scope.isGenerator = false) (hk : scope.kind = .function) : codeAny (model PySem.Challenge.rw_xj0016_01.row.prog w) (ktrTop dp un gd cn cs L a ccd [] []) (.call (.ref f) args) R s := by
  have X := X₀.keeps F.keep
  obtain ⟨oL, es, ep, hL, hLd, r⟩ := F.ns
  have hl0 : h₀.get? L = none := kts_self F
  have nL : ∀ b o, h₀.get? b = some o → b ≠ L := fun b o e q => by subst q; rw [hl0] at e; cases e
  have sg : ∀ b o, s.heap.get? b = some o → b ≠ L → (hideAll s.heap [L]).get? b = some o := fun b o e n => hideAll_get _ e (fun q => n (List.mem_singleton.mp q))
  have st : h₀.StaysIn (hideAll s.heap [L]) := fun b o e => sg b o (F.keep b o e) (nL b o e)
  refine codeAny_call_function (fd := fnOf name qual params body scope dV kV doc pm an cdv ct) (body := body) hroom (X _ _ ho) rfl hco hgen rfl (codeRec_of X hcd) (hbind _ _ _ _ ?_)
  refine wpAny_newFunctionEnv_cells hk (kindsX hkind _) fun env' he s' x => ?_
  subst he
  refine ⟨(T.nolimit.keeps F.keep).keeps x.toInCall.keep, codeAny_func ?_⟩
  obtain ⟨h₁, tk, rfl, _⟩ := x.done
  have hk₁ := x.toInCall.keep
  obtain ⟨cells, NC, Y⟩ := Cl.news (h₀ := s.heap) (Nat.le_refl _) fun n c hm => ⟨x.cell n c (lookup_of_mem_nodup (cellsFrom_names scope.names 0 (s.heap.objs.size + 1) [] [] rfl ▸ hnd) hm), x.above n c hm⟩
  refine wpAny_mono (h s.heap.objs.size h₁ tk cells (hideAll s.heap [L]) oL es ep ⟨st, hideAll_none _ (List.mem_singleton.mpr rfl), hl0, X₀, T, kind⟩ hLd hL sg ⟨x.toInCall.ns, fun b o e => hk₁ b o (of_hideAll _ e), Nat.le_of_eq (hideAll_size _ _)⟩ ?_ Y (Heap.lt_size hL) (X₀.keeps st) (T.keeps st)) (fun fl s' hl => hl) fun _ _ y => y
  intro p hp
  rcases List.mem_append.mp hp with hp | hp
  · refine ⟨(NC p hp).1, (NC p hp).2.1, ?_⟩
    cases q : (hideAll s.heap [L]).get? p.1 with
    | none => rfl
    | some o => have := of_hideAll _ q; rw [(NC p hp).2.2] at this; cases this
  rw [List.mem_singleton.mp hp]
  exact ⟨hk₁ _ _ hL, Nat.ne_of_lt (Heap.lt_size hL), hideAll_none _ (List.mem_singleton.mpr rfl)⟩
theorem reply_call {x : Str} {t : Tok} {Q : Value → Shared → Prop} {oL : Obj} {es : Array DictEntry} {n : Nat} {oN : Obj} {gl : Obj → List (Addr × Obj)} {cl' : List (Str × Addr)}
    (P : Marks w mean mg mb h₀ g L cs) (hd' : oL.data = .dict es n) (F : Fr g L' s.heap m) (N : News g L' s.heap news) (hS : SameBy oL oN) (U : UpdF L oN news gl) (kind' : cs'.kind = .function)
    (hx : x.length ≤ 500) (hp : ∀ y, p229 x = .port y → ∃ n, PySem.intText? y = some n)
    (h : ∀ D vs oN' h' tk', AllOff D news → Fr g L' h' m → News g L' h' ((D, ⟨.type "tuple", none, .seq vs.toArray 0, #[]⟩) :: gl oN') → SameBy oL oN' → SaidVals x (p229 x) vs → Q (.ref D) { s with heap := h', toks := tk' }) :
    wpAny (model PySem.Challenge.rw_xj0016_01.row.prog w) (ktrTop 303 10 gd cn' cs' L' a' ccd' cl' [envOf cn cs L a ccd]) (call (.ref 148) [.str x t]) Q E s := by
  obtain ⟨sl, rfl⟩ := hS
  have N0 := N
  obtain ⟨pre, post, rfl, hgl, ha, hb⟩ := U.split
  have hLm := N (L, { oL with slots := sl }) (List.mem_append.mpr (.inr (.head _)))
  have hL := hLm.1
  have nLL : L ≠ L' := hLm.2.1
  obtain ⟨oL', es', ep', hL', hLd', hr1, hr2⟩ := F.ns
  have gL' : g.get? L' = none := kts_self F
  have h0L' : h₀.get? L' = none := kts_none P.stays gL'
  have B : Below (ktrTop 303 10 gd cn' cs' L' a' ccd' cl' [envOf cn cs L a ccd]) h₀ (envX cn' cs' L' a' ccd' cl' :: [envOf cn cs L a ccd]) s.heap := by
    refine ⟨rfl, fun b o e => F.keep b o (P.stays b o e), ?_, ⟨L', oL', rfl, h0L', hL', fun vs q => by rw [hLd'] at q; cases q⟩, ?_, ⟨L, _, rfl, P.fresh, hL, fun vs q => by rw [hd'] at q; cases q⟩, trivial⟩
    · show cs'.kind ≠ .module; rw [kind']; decide
    · show cs.kind ≠ .module; rw [P.kind]; decide
  have fs : (envX cn' cs' L' a' ccd' cl' :: [envOf cn cs L a ccd]).filterMap (·.frame) = [L', L] := rfl
  refine t_reply w x t mean mg mb gd cn' cs' L' a' ccd' cl' [envOf cn cs L a ccd] h₀ s Q E B P.X P.T ?_ ⟨hx, hp⟩ ?_
  · intro b hb
    rw [fs] at hb
    rcases List.mem_cons.mp hb with rfl | hb
    · exact ⟨_, _, _, hL', hLd'⟩
    · rw [List.mem_singleton.mp hb]; exact ⟨_, _, _, hL, hd'⟩
  · rintro r h' tk' g' T st ⟨D, vs, rfl, hD, hD', hv⟩
    rw [fs] at T
    obtain ⟨sl', hs⟩ := T.frame _ _ hL (.tail _ (.head _))
    obtain ⟨sl2, hs2⟩ := T.frame _ _ hL' (.head _)
    have nDL := allOff_of (d := D) fun p hp q => by have z := (N0 p hp).1; rw [q, hD] at z; cases z
    have off : ∀ p, p ∈ pre ++ post → h'.get? p.1 = some p.2 ∧ p.1 ≠ L' ∧ g.get? p.1 = none := fun p hp => by
      have hp' : p ∈ pre ++ (L, { oL with slots := sl }) :: post := (List.mem_append.mp hp).elim (fun q => List.mem_append.mpr (.inl q)) (fun q => List.mem_append.mpr (.inr (.tail _ q)))
      have np : p.1 ≠ L := (List.mem_append.mp hp).elim (fun q => ha p q) (fun q => hb p q)
      refine ⟨st _ _ (T.other _ _ (N p hp').1 fun q => ?_), (N p hp').2⟩
      rcases List.mem_cons.mp q with q | q
      · exact (N p hp').2.1 q
      · exact np (List.mem_singleton.mp q)
    refine h D vs { oL with slots := sl' } h' tk' nDL ⟨⟨_, es', ep', st _ _ hs2, hLd', hr1, hr2⟩, fun b o e => st _ _ (T.other _ _ (F.keep b o e) fun q => ?_), F.above⟩ ?_ ⟨sl', rfl⟩ hv
    · rcases List.mem_cons.mp q with q | q
      · rw [q, gL'] at e; cases e
      · rw [List.mem_singleton.mp q, P.hid] at e; cases e
    · intro p hp
      rw [hgl] at hp
      rcases List.mem_cons.mp hp with rfl | hp
      · refine ⟨hD', fun q => ?_, ?_⟩
        · dsimp only at q; rw [q, hL'] at hD; cases hD
        · cases q : g.get? D with
          | none => rfl
          | some o => rw [F.keep _ _ q] at hD; cases hD
      · rcases List.mem_append.mp hp with q | q
        · exact off p (List.mem_append.mpr (.inl q))
        · rcases List.mem_cons.mp q with rfl | q
          · exact ⟨st _ _ hs, nLL, P.hid⟩
          · exact off p (List.mem_append.mpr (.inr q))
end
end Mine
namespace Mine
theorem ok_of (s : String) : PyData.strOk (Str.ofString s) = true := by
  unfold PyData.strOk
  rw [← Array.all_toList, signs_ofString, List.all_eq_true]
  intro c hc
  obtain ⟨ch, _, rfl⟩ := List.mem_map.mp hc
  have := ch.valid
  simp only [decide_eq_true_eq]
  rcases this with h | h
  · exact Nat.lt_trans h (by decide)
  · exact h.2
theorem ok_app {x y : Str} (h : PyData.strOk x = true) (h' : PyData.strOk y = true) : PyData.strOk (x ++ y) = true := by
  unfold PyData.strOk at *
  rw [← Array.all_toList] at *
  rw [Str.cps_append, Array.toList_append, List.all_append, h, h']
  rfl
theorem shaped_ss {x y : Str} (h : PyData.strOk x = true) (h' : PyData.strOk y = true) : SeqAt.shaped (.tuple [.str x, .str y]) = true := by
  simp [SeqAt.shaped, PyData.canLay0, PyData.canLayAll0, PyData.depth, PyData.depthAll, h, h']
theorem shaped_si {x : Str} {n : Int} (h : PyData.strOk x = true) : SeqAt.shaped (.tuple [.str x, .int n]) = true := by
  simp [SeqAt.shaped, PyData.canLay0, PyData.canLayAll0, PyData.depth, PyData.depthAll, h]
section
variable {prog : Program} {w : World} {A : Around} {E : Value → Shared → Prop} {s : Shared} {h₀ : Heap} {L a b : Addr} {m : Str → Option Value} {news : List (Addr × Obj)} {x y : Str} {n : Int} {t u t' u' : Tok} {Q : Value → Shared → Prop}
theorem reads_ss (N : News h₀ L s.heap news) (ha : (a, ⟨.type "tuple", none, .seq [.str x t, .str y u].toArray 0, #[]⟩) ∈ news) : ∃ as, Reads s.heap (.ref a) (.tuple [.str x, .str y]) as :=
  ⟨_, reads_tuple_at (N.get ha) rfl rfl (ReadsAll.cons (Reads.str _ _) (ReadsAll.cons (Reads.str _ _) ReadsAll.nil))⟩
theorem reads_si (N : News h₀ L s.heap news) (ha : (a, ⟨.type "tuple", none, .seq [.str x t, .int n u].toArray 0, #[]⟩) ∈ news) : ∃ as, Reads s.heap (.ref a) (.tuple [.str x, .int n]) as :=
  ⟨_, reads_tuple_at (N.get ha) rfl rfl (ReadsAll.cons (Reads.str _ _) (ReadsAll.cons (Reads.int _ _) ReadsAll.nil))⟩
theorem eq_ss (N : News h₀ L s.heap news) (ha : (a, ⟨.type "tuple", none, .seq [.str x t, .str y u].toArray 0, #[]⟩) ∈ news) (hb : (b, ⟨.type "tuple", none, .seq [.str x t', .str y u'].toArray 0, #[]⟩) ∈ news)
    (hx : PyData.strOk x = true) (hy : PyData.strOk y = true) (hu : A.units + 64 < cLine) (h : Q (.bool true) s) : wpAny (model prog w) A (compareOp .Eq (.ref a) (.ref b)) Q E s := by
  obtain ⟨_, ra⟩ := reads_ss N ha
  obtain ⟨_, rb⟩ := reads_ss N hb
  exact eq_dataH ra rb (shaped_ss hx hy) (shaped_ss hx hy) hu (by simpa [PyData.eqv, PyData.eqvAll] using h)
theorem ne_ss (N : News h₀ L s.heap news) (ha : (a, ⟨.type "tuple", none, .seq [.str x t, .str y u].toArray 0, #[]⟩) ∈ news) (hb : (b, ⟨.type "tuple", none, .seq [.str x t', .str y u'].toArray 0, #[]⟩) ∈ news)
    (hx : PyData.strOk x = true) (hy : PyData.strOk y = true) (hu : A.units + 64 < cLine) (h : Q (.bool false) s) : wpAny (model prog w) A (compareOp .NotEq (.ref a) (.ref b)) Q E s := by
  obtain ⟨_, ra⟩ := reads_ss N ha
  obtain ⟨_, rb⟩ := reads_ss N hb
  exact ne_dataH ra rb (shaped_ss hx hy) (shaped_ss hx hy) hu (by simpa [PyData.eqv, PyData.eqvAll] using h)
theorem ne_si (N : News h₀ L s.heap news) (ha : (a, ⟨.type "tuple", none, .seq [.str x t, .int n u].toArray 0, #[]⟩) ∈ news) (hb : (b, ⟨.type "tuple", none, .seq [.str x t', .int n u'].toArray 0, #[]⟩) ∈ news)
    (hx : PyData.strOk x = true) (hu : A.units + 64 < cLine) (h : Q (.bool false) s) : wpAny (model prog w) A (compareOp .NotEq (.ref a) (.ref b)) Q E s := by
  obtain ⟨_, ra⟩ := reads_si N ha
  obtain ⟨_, rb⟩ := reads_si N hb
  exact ne_dataH ra rb (shaped_si hx) (shaped_si hx) hu (by simpa [PyData.eqv, PyData.eqvAll] using h)
end
end Mine
namespace Mine
noncomputable def hasN (top : List Int) (n : Int) : Bool := top.any fun x => x == n
noncomputable def rowStep (mk : Str) (k : Int) (top : List Int) (row : Str) (c : Int) : Str :=
  let r := if ((top.any fun x => x == c) != top.any fun x => x == c - 1) = true then row ++ mk else row
  if k.fmod 2 = 1 then r ++ Str.ofString (toString c) else if (top.any fun x => x == c) = true then r else r ++ Str.ofString (toString c)
noncomputable def rowOf (mk : Str) (k : Int) (top : List Int) (pre : List Int) : Str := pre.foldl (rowStep mk k top) mk
section
variable {mk row : Str} {k n : Int} {top pre : List Int}
theorem rs1 (h1 : ((top.any fun x => x == n) != top.any fun x => x == n - 1) = true) (h2 : k.fmod 2 = 1) : row ++ mk ++ Str.ofString (toString n) = rowStep mk k top row n := by unfold rowStep; rw [if_pos h1, if_pos h2]
theorem rs2 (h1 : ((top.any fun x => x == n) != top.any fun x => x == n - 1) = true) (h2 : k.fmod 2 ≠ 1) (h3 : (top.any fun x => x == n) = true) : row ++ mk = rowStep mk k top row n := by unfold rowStep; rw [if_pos h1, if_neg h2, if_pos h3]
theorem rs3 (h1 : ((top.any fun x => x == n) != top.any fun x => x == n - 1) = true) (h2 : k.fmod 2 ≠ 1) (h3 : (top.any fun x => x == n) = false) : row ++ mk ++ Str.ofString (toString n) = rowStep mk k top row n := by
  unfold rowStep; rw [if_pos h1, if_neg h2, h3, if_neg Bool.false_ne_true]
theorem rs4 (h1 : ((top.any fun x => x == n) != top.any fun x => x == n - 1) = false) (h2 : k.fmod 2 = 1) : row ++ Str.ofString (toString n) = rowStep mk k top row n := by unfold rowStep; rw [h1, if_neg Bool.false_ne_true, if_pos h2]
theorem rs5 (h1 : ((top.any fun x => x == n) != top.any fun x => x == n - 1) = false) (h2 : k.fmod 2 ≠ 1) (h3 : (top.any fun x => x == n) = true) : row = rowStep mk k top row n := by unfold rowStep; rw [h1, if_neg Bool.false_ne_true, if_neg h2, if_pos h3]
theorem rs6 (h1 : ((top.any fun x => x == n) != top.any fun x => x == n - 1) = false) (h2 : k.fmod 2 ≠ 1) (h3 : (top.any fun x => x == n) = false) : row ++ Str.ofString (toString n) = rowStep mk k top row n := by
  unfold rowStep; rw [h1, if_neg Bool.false_ne_true, if_neg h2, h3, if_neg Bool.false_ne_true]
theorem dg_len (h0 : 0 ≤ n) (h1 : n < 10) : (Str.ofString (toString n)).length = 1 := by
  obtain ⟨k, rfl⟩ := Int.eq_ofNat_of_zero_le h0
  have hk : k < 10 := by (first | lia | omega)
  match k, hk with
  | 0, _ | 1, _ | 2, _ | 3, _ | 4, _ | 5, _ | 6, _ | 7, _ | 8, _ | 9, _ => decide +kernel
theorem rowStep_len (hm : mk.length = 1) (h0 : 0 ≤ n) (h1 : n < 10) : (rowStep mk k top row n).length ≤ row.length + 2 := by
  have e := dg_len h0 h1
  unfold rowStep
  dsimp only
  split <;> split <;> (try split) <;> ((try simp only [Str.length_append]); (first | lia | omega))
theorem row_state {row' : Str} (h : row' = rowStep mk k top row n) (hl : row.length ≤ 1 + 2 * pre.length) (he : row = rowOf mk k top pre) (hm : mk.length = 1) (h0 : 0 ≤ n) (h1 : n < 10) :
    row'.length ≤ 1 + 2 * (pre ++ [n]).length ∧ row' = rowOf mk k top (pre ++ [n]) := by
  constructor
  · have := rowStep_len (row := row) (k := k) (top := top) hm h0 h1
    rw [h, List.length_append, List.length_singleton]
    (first | lia | omega)
  · unfold rowOf at he ⊢
    rw [List.foldl_append, ← he, h]
    rfl
theorem row_start (hm : mk.length = 1) : mk.length ≤ 1 + 2 * ([] : List Int).length ∧ mk = rowOf mk k top [] := ⟨by simp [hm], rfl⟩
end
end Mine
namespace Mine
section
variable {w : World} {mg mb : Str → Option Value} {s : Shared} {h₀ : Heap} {L l : Addr} {m : Str → Option Value} {news : List (Addr × Obj)} {E : Value → Shared → Prop} {x y : Str} {t u v : Tok} {a b c : Int} {n : Nat} {ns : List Int} {vs : List Value}
  {mean : ExcName → Option Value} {gd : Option (List Code)} {cn : Str} {cs : Scope} {ca : Addr} {ccd : Value} {cl : List (Str × Addr)} {outer : List Env} {Q : Value → Shared → Prop}
theorem text_call (F : Fr h₀ L s.heap m) (N : News h₀ L s.heap news) (X : (hd.heap_1 w.params).In h₀) (T : Top hd.view_1 (looseW hd.view_1 [Str.ofString "IPV4_RE"]) mean mg mb h₀)
    (hl : s.heap.IsList l vs.toArray) (hi : IntsAre vs ns) (hz : ns.length ≤ 10) (hb : ∀ k ∈ ns, 0 ≤ k ∧ k ≤ 9) (h : ∀ h' tk' t', Fr h₀ L h' m → News h₀ L h' news → Q (.str (txt ns) t') { s with heap := h', toks := tk' }) :
    wpAny (model PySem.Challenge.rw_xj0016_01.row.prog w) (ktrTop 303 10 gd cn cs L ca ccd cl outer) (call (.ref 134) [.ref l]) Q E s :=
  t_text w l ns vs mean mg mb gd cn cs ca ccd cl outer h₀ L m s Q E F X T ⟨hl, hi, hz, by have := hi.length; (first | lia | omega), hb⟩ fun r h' tk' st e => by
    obtain ⟨t', rfl⟩ := e; exact h h' tk' t' (fr_stay F st) (news_stay N st)
theorem textR_call (F : Fr h₀ L s.heap m) (N : News h₀ L s.heap news) (X : (hd.heap_1 w.params).In h₀) (T : Top hd.view_1 (looseW hd.view_1 [Str.ofString "IPV4_RE"]) mean mg mb h₀)
    (hl : IsRange s.heap l a b c t u v) (hi : RngOf a b c n) (h : ∀ h' tk' t', Fr h₀ L h' m → News h₀ L h' news → Q (.str (txt (rng a c n)) t') { s with heap := h', toks := tk' }) :
    wpAny (model PySem.Challenge.rw_xj0016_01.row.prog w) (ktrTop 303 10 gd cn cs L ca ccd cl outer) (call (.ref 134) [.ref l]) Q E s :=
  t_textR w l a b c n t u v mean mg mb gd cn cs ca ccd cl outer h₀ L m s Q E F X T ⟨hl, hi⟩ fun r h' tk' st e => by
    obtain ⟨t', rfl⟩ := e; exact h h' tk' t' (fr_stay F st) (news_stay N st)
theorem dots_call (F : Fr h₀ L s.heap m) (N : News h₀ L s.heap news) (X : (hd.heap_1 w.params).In h₀) (T : Top hd.view_1 (looseW hd.view_1 [Str.ofString "IPV4_RE"]) mean mg mb h₀)
    (hx : x.length ≤ 1000) (h : ∀ h' tk' t', Fr h₀ L h' m → News h₀ L h' news → Q (.str (dots x) t') { s with heap := h', toks := tk' }) :
    wpAny (model PySem.Challenge.rw_xj0016_01.row.prog w) (ktrTop 303 10 gd cn cs L ca ccd cl outer) (call (.ref 141) [.str x t]) Q E s :=
  t_dots w x t mean mg mb gd cn cs ca ccd cl outer h₀ L m s Q E F X T hx fun r h' tk' st e => by
    obtain ⟨t', rfl⟩ := e; exact h h' tk' t' (fr_stay F st) (news_stay N st)
theorem em_call (F : Fr h₀ L s.heap m) (N : News h₀ L s.heap news) (X : (hd.heap_1 w.params).In h₀) (T : Top hd.view_1 (looseW hd.view_1 [Str.ofString "IPV4_RE"]) mean mg mb h₀)
    (hx : x.length ≤ 500) (hy : y.length ≤ 500) (h : ∀ h' tk', Fr h₀ L h' m → News h₀ L h' news → Q (.bool (em x y)) { s with heap := h', toks := tk' }) :
    wpAny (model PySem.Challenge.rw_xj0016_01.row.prog w) (ktrTop 303 10 gd cn cs L ca ccd cl outer) (call (.ref 57) [.str x t, .str y u]) Q E s :=
  t_em w x y t u mean mg mb gd cn cs ca ccd cl outer h₀ L m s Q E F X T ⟨hx, hy⟩ fun r h' tk' st e => by
    subst e; exact h h' tk' (fr_stay F st) (news_stay N st)
end
end Mine
namespace Mine
/-- the reply that tells a front -/
noncomputable def plainT (mk : Str) (k : Int) (ns : List Int) : Str := Str.ofString "229 )(" ++ (rowOf mk k (ns.take k.toNat) (rangeKs 1 ((8 : Int) - 1).toNat) ++ mk) ++ Str.ofString ")(|0|0|9|)"
noncomputable def IsMax (M : Int) (l : List Int) : Prop := M ∈ l ∧ ∀ a, a ∈ l → a ≤ M
noncomputable def IsMin (M : Int) (l : List Int) : Prop := M ∈ l ∧ ∀ a, a ∈ l → M ≤ a
theorem isMax_eq {M M' : Int} {l : List Int} (h : M ∈ l) (h2 : ∀ a, a ∈ l → a ≤ M) (h' : M' ∈ l) (h2' : ∀ a, a ∈ l → a ≤ M') : M = M' := Int.le_antisymm (h2' _ h) (h2 _ h')
/-- what by_marks may lean on -/
structure MarksOk (ns : List Int) (mk : Str) : Prop where
  cards : ∀ c ∈ ns, 1 ≤ c ∧ c ≤ 6
  open0 : ∀ k, 0 ≤ k → k < 7 → ¬ 0 < k → p229 (plainT mk k ns) = .form
  gap : ∀ k M m, 0 < k → k < 7 → IsMax M (ns.take k.toNat) → IsMin m (ns.take k.toNat) → ¬ M - m = k - 1 → p229 (plainT mk k ns) = .form
  close : ∀ k M m, 0 < k → k < 7 → IsMax M (ns.take k.toNat) → IsMin m (ns.take k.toNat) → M - m = k - 1 → p229 (plainT mk k ns) = .port (txt (rng (M + 1) 1 (7 - M).toNat))
theorem rngUp8 : ∀ M : Int, 1 ≤ M → M ≤ 6 → RngOf (M + 1) 8 1 (7 - M).toNat := by
  intro c h0 h7
  obtain ⟨n, rfl⟩ := Int.eq_ofNat_of_zero_le (show 0 ≤ c by (first | lia | omega))
  have hn : n < 7 := by (first | lia | omega)
  match n, hn with
  | 0, _ => exact absurd h0 (by decide)
  | 1, _ | 2, _ | 3, _ | 4, _ | 5, _ | 6, _ => exact ⟨by decide, by decide, by decide, rng_cards (by decide)⟩
theorem portNum : ∀ M : Int, 1 ≤ M → M ≤ 6 → ∃ n, PySem.intText? (txt (rng (M + 1) 1 (7 - M).toNat)) = some n := by
  intro c h0 h7
  obtain ⟨n, rfl⟩ := Int.eq_ofNat_of_zero_le (show 0 ≤ c by (first | lia | omega))
  have hn : n < 7 := by (first | lia | omega)
  match n, hn with
  | 0, _ => exact absurd h0 (by decide)
  | 1, _ => exact ⟨234567, by decide +kernel⟩
  | 2, _ => exact ⟨34567, by decide +kernel⟩
  | 3, _ => exact ⟨4567, by decide +kernel⟩
  | 4, _ => exact ⟨567, by decide +kernel⟩
  | 5, _ => exact ⟨67, by decide +kernel⟩
  | 6, _ => exact ⟨7, by decide +kernel⟩
theorem take_bnd {ns : List Int} {mk : Str} (H : MarksOk ns mk) {M : Int} {j : Nat} (h : M ∈ ns.take j) : 1 ≤ M ∧ M ≤ 6 := H.cards _ (List.mem_of_mem_take h)
theorem portLen : ∀ M : Int, 1 ≤ M → M ≤ 6 → (txt (rng (M + 1) 1 (7 - M).toNat)).length ≤ 640 := by
  intro c h0 h7
  obtain ⟨n, rfl⟩ := Int.eq_ofNat_of_zero_le (show 0 ≤ c by (first | lia | omega))
  have hn : n < 7 := by (first | lia | omega)
  match n, hn with
  | 0, _ => exact absurd h0 (by decide)
  | 1, _ | 2, _ | 3, _ | 4, _ | 5, _ | 6, _ => decide +kernel
section
variable {prog : Program} {w : World} {A : Around} {E : Value → Shared → Prop} {s : Shared} {Q : Value → Shared → Prop} {u : Tok} {mk row : Str} {ns : List Int} {k M m M3 n3 : Int}
theorem int_rng (h1 : 1 ≤ M ∧ M ≤ 6) (h : ∀ n, PySem.intText? (txt (rng (M + 1) 1 (7 - M).toNat)) = some n → Q (.int n s.toks) { s with toks := s.toks + 1 }) : wpAny (model prog w) A (call (.type "int") [.str (txt (rng (M + 1) 1 (7 - M).toNat)) u]) Q E s := by
  obtain ⟨n, hn⟩ := portNum M h1.1 h1.2
  exact KIN.call_text hn (portLen M h1.1 h1.2) (h n hn)
theorem pl_open0 (H : MarksOk ns mk) (he : row = rowOf mk k (ns.take k.toNat) (rangeKs 1 ((8 : Int) - 1).toNat)) (h0 : 0 ≤ k) (h7 : k < 7) (hn : ¬ 0 < k) : p229 (Str.ofString "229 )(" ++ (row ++ mk) ++ Str.ofString ")(|0|0|9|)") = .form := by
  rw [he]; exact H.open0 k h0 h7 hn
theorem pl_gap (H : MarksOk ns mk) (he : row = rowOf mk k (ns.take k.toNat) (rangeKs 1 ((8 : Int) - 1).toNat)) (h0 : 0 < k) (h7 : k < 7) (a1 : M ∈ ns.take k.toNat) (b1 : ∀ a, a ∈ ns.take k.toNat → a ≤ M) (a2 : m ∈ ns.take k.toNat) (b2 : ∀ a, a ∈ ns.take k.toNat → m ≤ a) (hn : ¬ M - m = k - 1) :
    p229 (Str.ofString "229 )(" ++ (row ++ mk) ++ Str.ofString ")(|0|0|9|)") = .form := by
  rw [he]; exact H.gap k M m h0 h7 ⟨a1, b1⟩ ⟨a2, b2⟩ hn
theorem pl_close (H : MarksOk ns mk) (he : row = rowOf mk k (ns.take k.toNat) (rangeKs 1 ((8 : Int) - 1).toNat)) (_ : PySem.intText? (txt (rng (M3 + 1) 1 (7 - M3).toNat)) = some n3) (a3 : M3 ∈ ns.take k.toNat) (b3 : ∀ a, a ∈ ns.take k.toNat → a ≤ M3)
    (h0 : 0 < k) (h7 : k < 7) (hn : M - m = k - 1) (a1 : M ∈ ns.take k.toNat) (b1 : ∀ a, a ∈ ns.take k.toNat → a ≤ M) (a2 : m ∈ ns.take k.toNat) (b2 : ∀ a, a ∈ ns.take k.toNat → m ≤ a) :
    p229 (Str.ofString "229 )(" ++ (row ++ mk) ++ Str.ofString ")(|0|0|9|)") = .port (txt (rng (M3 + 1) 1 (7 - M3).toNat)) := by
  rw [he, isMax_eq a3 b3 a1 b1]; exact H.close k M m h0 h7 ⟨a1, b1⟩ ⟨a2, b2⟩ hn
theorem port_ok {x y : Str} (e : p229 x = .port y) (hn : PySem.intText? y = some n3) : ∀ y', p229 x = .port y' → ∃ n, PySem.intText? y' = some n := by
  intro y' e'
  rw [e] at e'
  injection e' with e'
  exact ⟨n3, e' ▸ hn⟩
theorem said_port {x y : Str} {vs : List Value} (e : p229 x = .port y) (hn : PySem.intText? y = some n3) (h : SaidVals x (p229 x) vs) : ∃ t1 t2, vs = [.str (Str.ofString "h") t1, .int n3 t2] := by
  rw [e] at h
  obtain ⟨n, t1, t2, h1, h2⟩ := h
  rw [hn] at h1
  injection h1 with h1
  exact ⟨t1, t2, h1 ▸ h2⟩
theorem said_form {x : Str} {vs : List Value} (e : p229 x = .form) (h : SaidVals x (p229 x) vs) : ∃ t1 t2, vs = [.str (Str.ofString "form") t1, .str x t2] := by rw [e] at h; exact h
theorem said_code {x : Str} {vs : List Value} (e : p229 x = .code) (h : SaidVals x (p229 x) vs) : ∃ t1 t2, vs = [.str (Str.ofString "code") t1, .str x t2] := by rw [e] at h; exact h
end
end Mine
namespace Mine
section
variable {prog : Program} {w : World} {A : Around} {s : Shared} {env : Env} {h₀ : Heap}
theorem letGo_name {E : Value → Shared → Prop} {x : Str} {p : Pos} {it v : Value} {Q' : Unit → Shared → Prop} {s' : Shared} (h : Q' () s') :
    wpAny (model prog w) A (letOwnedTupleGo (.Name x p) it v) Q' E s' := by
  unfold letOwnedTupleGo
  exact wpAny_pure h
/-- a short range, unrolled, its turns' value in whatever the target is -/
theorem iter_range_unr {E : Value → Shared → Prop} {Q : Flow → Shared → Prop} {x : Str} {p : Pos} {body : List Stmt} {m : Str → Option Value} {news : List (Addr × Obj)} {r : Addr} {a₀ b₀ c₀ : Int} {t₀ u₀ v₀ : Tok} {n : Nat}
    (hh : A.handled = none) (hr : IsRange s.heap r a₀ b₀ c₀ t₀ u₀ v₀) (hsmall : Builtin.Range.small a₀ b₀ c₀ = true) (hn : Builtin.Range.rangeSize a₀ b₀ c₀ = (n : Int)) (F : Fr h₀ env.locals s.heap m) (N : News h₀ env.locals s.heap news)
    (h : ∀ o, Unr prog w A E h₀ env (.Name x p) body Q (fun i v => ∃ t, v = .int (a₀ + (i : Nat) * c₀) t) [s.heap.objs.size] { s with heap := s.heap.push o } n 0 m news) :
    wpAny (model prog w) A (pyIter (.ref r)) (fun it s₂ => UnrAt prog w A h₀ env (.Name x p) body Q E it s₂) E s := by
  refine wpAny_pyIter_range hr hsmall ?_
  refine ⟨s.heap.objs.size, [s.heap.objs.size], [s.heap.objs.size], n, _, _, m, news, rfl, Walks.range hh _ a₀ c₀ n, ?_, ?_, ?_, (by show IsRangeIter _ _ _ _ _; rw [hn]; simpa using Heap.get?_push_size _ rfl), F.push _, fun p hp => ⟨Heap.get?_push_of_some _ (N p hp).1, (N p hp).2⟩, fun i s' v Q' st hQ' => letGo_name hQ', h _⟩
  · intro hm
    exact absurd F.ns.lt ((List.mem_singleton.mp hm) ▸ Nat.lt_irrefl _)
  · intro b hb
    rw [List.mem_singleton.mp hb]
    exact next_is_new F
  · intro p hp hI
    exact absurd (Heap.lt_size (N p hp).1) ((List.mem_singleton.mp hI) ▸ Nat.lt_irrefl _)
theorem iter_range_unr' {E : Value → Shared → Prop} {Q : Flow → Shared → Prop} {x : Str} {p : Pos} {body : List Stmt} {m : Str → Option Value} {news : List (Addr × Obj)} {r : Addr} {a₀ b₀ c₀ : Int} {t₀ u₀ v₀ : Tok}
    (hh : A.handled = none) (hr : IsRange s.heap r a₀ b₀ c₀ t₀ u₀ v₀) (hsmall : Builtin.Range.small a₀ b₀ c₀ = true) (hn : Builtin.Range.rangeSize a₀ b₀ c₀ = ((Builtin.Range.rangeSize a₀ b₀ c₀).toNat : Int)) (F : Fr h₀ env.locals s.heap m) (N : News h₀ env.locals s.heap news)
    (h : ∀ o, Unr prog w A E h₀ env (.Name x p) body Q (fun i v => ∃ t, v = .int (a₀ + (i : Nat) * c₀) t) [s.heap.objs.size] { s with heap := s.heap.push o } (Builtin.Range.rangeSize a₀ b₀ c₀).toNat 0 m news) :
    wpAny (model prog w) A (pyIter (.ref r)) (fun it s₂ => UnrAt prog w A h₀ env (.Name x p) body Q E it s₂) E s := iter_range_unr hh hr hsmall hn F N h
/-- an unrolled loop by an invariant -/
theorem unr_inv {E : Value → Shared → Prop} {Q : Flow → Shared → Prop} {target : Expr} {body : List Stmt} {P : Nat → Value → Prop} {fp : List Addr} {n : Nat} {adr : List Addr} (J : Nat → (Str → Option Value) → List (Addr × Obj) → Prop)
    (turn : ∀ i v m₁ news₁ h tk own, i < n → P i v → (∀ p ∈ own, p.1 ∈ fp) → news₁.map (·.1) = adr → J i m₁ news₁ → Fr h₀ env.locals h m₁ → News h₀ env.locals h (own ++ news₁) →
      wpAny (model prog w) A (assign target env v) (fun _ s₂ => wpAny (model prog w) A (execs body env) (InvPostN h₀ env.locals (J (i + 1)) own adr { s with heap := h, toks := tk } Q) E s₂) E { s with heap := h, toks := tk })
    (done : ∀ m₁ news₁ h tk, J n m₁ news₁ → Fr h₀ env.locals h m₁ → News h₀ env.locals h news₁ → Q .next { s with heap := h, toks := tk }) :
    ∀ k i m₁ news₁, i + k = n → news₁.map (·.1) = adr → J i m₁ news₁ → Unr prog w A E h₀ env target body Q P fp s k i m₁ news₁
  | 0, i, m₁, news₁, hi, _, hJ => Unr.zero fun h' tk F N => done m₁ news₁ h' tk (by rw [Nat.add_zero] at hi; exact hi ▸ hJ) F N
  | k + 1, i, m₁, news₁, hi, ha, hJ => Unr.succ fun v h₁ tk₁ own hP ho F N => by
    refine wpAny_mono (turn i v m₁ news₁ h₁ tk₁ own (by (first | lia | omega)) hP ho ha hJ F N) (fun _ s₂ p => wpAny_mono p (fun f s₃ q => ?_) fun _ _ e => e) fun _ _ e => e
    have up : InvEndN h₀ env.locals (J (i + 1)) own adr { s with heap := h₁, toks := tk₁ } s₃ → LoopStep2 h₀ env.locals own news₁ (Unr prog w A E h₀ env target body Q P fp s k (i + 1)) { s with heap := h₁, toks := tk₁ } .next s₃ := by
      rintro ⟨h', tk, m', news', nx, rfl, F', N', hn, ho', ha', hJ'⟩
      exact ⟨rfl, h', tk, m', nx, rfl, F', fun p hp => N' p ((List.mem_append.mp hp).elim (ho' p) (hn p)), ha'.trans ha.symm, unr_inv J turn done k (i + 1) m' nx (by (first | lia | omega)) ha' hJ'⟩
    cases f with
    | ret v => exact .ret q
    | brk => exact .brk q
    | next => exact .next (up q)
    | cont => exact .cont (up q)
end
section
variable {prog : Program} {w : World} {A : Around} {s : Shared} {h₀ : Heap} {cn : Str} {cs : Scope} {L a : Addr} {ccd : Value} {cl : List (Str × Addr)} {x : Str} {px : Pos} {body : List Stmt} {E : Value → Shared → Prop} {Q : Flow → Shared → Prop}
noncomputable abbrev CellSt {τ : Type} (ca : Addr) (Led : τ → List (Addr × Obj)) (ps : τ → List (Str × Value)) (Facts : τ → Prop) (x : Str) (stored : List Str) (m₀ : Str → Option Value) (P : List Int → τ → Prop) : List Int → (Str → Option Value) → List (Addr × Obj) → Prop :=
  KstS (σ := Obj × τ) (fun c => (ca, c.1) :: Led c.2) (fun c => ps c.2) (fun c => (∃ v, c.1.data = .cell v) ∧ Facts c.2) x stored m₀ (fun pre c => P pre c.2)
/-- a for over a range whose target is a cell, by an invariant -/
theorem range_cell {τ : Type} {r ca : Addr} {oc : Obj} {a₀ b₀ c₀ : Int} {t₀ u₀ v₀ : Tok} {n : Nat} {m₀ : Str → Option Value} (Led : τ → List (Addr × Obj)) (ps : τ → List (Str × Value)) (Facts : τ → Prop) (stored : List Str) (P : List Int → τ → Prop) (d₀ : τ)
    (hh : A.handled = none) (hr : IsRange s.heap r a₀ b₀ c₀ t₀ u₀ v₀) (hsmall : Builtin.Range.small a₀ b₀ c₀ = true) (hn : Builtin.Range.rangeSize a₀ b₀ c₀ = (n : Int))
    (hk : cs.kind = .function) (hx : (envX cn cs L a ccd cl).kindOf x = some .cell) (hc : cl.lookup x = some ca)
    (F : Fr h₀ L s.heap m₀) (N : News h₀ L s.heap ((ca, oc) :: Led d₀)) (hoc : ∃ v, oc.data = .cell v) (hnd : ∀ p ∈ Led d₀, p.1 ≠ ca) (hf : Facts d₀) (hkk : ∀ p ∈ ps d₀, m₀ p.1 = some p.2) (hp : P [] d₀)
    (turn : ∀ (d : τ) oc' (i : Nat) t (u : Str → Option Value) h tk own, i < n → OwnOff own (ca :: (Led d₀).map (·.1)) → Facts d → P (rng a₀ c₀ i) d → oc'.data = .cell (some (.int (a₀ + (i : Nat) * c₀) t)) →
      Fr h₀ L h (kstB (fun z => if stored.contains z || z == x then u z else m₀ z) (ps d)) → News h₀ L h ((ca, oc') :: (Led d ++ own)) →
      wpAny (model prog w) A (execs body (envX cn cs L a ccd cl)) (InvPostN h₀ L (CellSt ca Led ps Facts x stored m₀ P (rng a₀ c₀ (i + 1))) own (ca :: (Led d₀).map (·.1)) { s with heap := h, toks := tk } Q) E { s with heap := h, toks := tk })
    (done : ∀ (d : τ) oc' (u : Str → Option Value) h tk, Facts d → P (rng a₀ c₀ n) d → (∃ v, oc'.data = .cell v) → Fr h₀ L h (kstB (fun z => if stored.contains z || z == x then u z else m₀ z) (ps d)) → News h₀ L h ((ca, oc') :: Led d) → Q .next { s with heap := h, toks := tk }) :
    wpAny (model prog w) A (pyIter (.ref r)) (fun it s₂ => UnrAt prog w A h₀ (envX cn cs L a ccd cl) (.Name x px) body Q E it s₂) E s := by
  have frOf : ∀ {h : Heap} {d : τ} {m₁ : Str → Option Value}, (∀ p ∈ ps d, m₁ p.1 = some p.2) → (∀ z, z ≠ x → (∀ p ∈ ps d, z ≠ p.1) → stored.contains z = false → m₁ z = m₀ z) → Fr h₀ L h m₁ → Fr h₀ L h (kstB (fun z => if stored.contains z || z == x then m₁ z else m₀ z) (ps d)) := by
    intro h d m₁ h1 h2 F₁
    have em : kstB (fun z => if stored.contains z || z == x then m₁ z else m₀ z) (ps d) = m₁ := by
      funext y
      refine kstB_eq h1 fun hn => ?_
      show (if (stored.contains y || y == x) = true then m₁ y else m₀ y) = m₁ y
      cases h3 : stored.contains y with
      | true => simp
      | false =>
        by_cases e : y = x
        · simp [e]
        · simp only [Bool.false_or, beq_iff_eq, e, if_false]
          exact (h2 y e hn h3).symm
    rw [em]; exact F₁
  refine iter_range_unr hh hr hsmall hn F N fun o => ?_
  refine unr_inv (adr := ca :: (Led d₀).map (·.1)) (fun i => CellSt ca Led ps Facts x stored m₀ P (rng a₀ c₀ i)) ?_ ?_ n 0 m₀ ((ca, oc) :: Led d₀) (Nat.zero_add n) rfl ⟨(oc, d₀), rfl, ⟨hoc, hf⟩, hkk, fun _ _ _ _ => rfl, hp⟩
  · rintro i v m₁ news₁ h tk own hi ⟨t, rfl⟩ ho ha ⟨⟨oc', d⟩, rfl, ⟨⟨v₀, hv₀⟩, hf'⟩, h1, h2, hp'⟩ F₁ N₁
    have hadr : (Led d).map (·.1) = (Led d₀).map (·.1) := (List.cons.inj ha).2
    have offd : ∀ p ∈ Led d, p.1 ≠ ca := fun p hp q => by
      have hm : p.1 ∈ (Led d₀).map (·.1) := hadr ▸ List.mem_map_of_mem hp
      obtain ⟨q', hq', e⟩ := List.mem_map.mp hm
      exact hnd q' hq' (e.trans q)
    have own_lt : ∀ p ∈ own, p.1 = s.heap.objs.size := fun p hp => List.mem_singleton.mp (ho p hp)
    have hoff : OwnOff own (ca :: (Led d₀).map (·.1)) := by
      intro p hp b hb e
      rw [own_lt p hp] at e
      have hb' : b ∈ ((ca, oc) :: Led d₀).map (·.1) := hb
      obtain ⟨q, hq, rfl⟩ := List.mem_map.mp hb'
      have hlt := Heap.lt_size (N q hq).1
      exact absurd (e ▸ hlt) (Nat.lt_irrefl _)
    have N₂ : News h₀ L h ((ca, oc') :: (Led d ++ own)) := fun p hp => N₁ p (by
      rcases List.mem_cons.mp hp with rfl | hp
      · exact List.mem_append.mpr (.inr (.head _))
      · rcases List.mem_append.mp hp with q | q
        · exact List.mem_append.mpr (.inr (.tail _ q))
        · exact List.mem_append.mpr (.inl q))
    have U : UpdF ca oc' ((ca, oc') :: (Led d ++ own)) (fun o' => (ca, o') :: (Led d ++ own)) := .head fun p hp => (List.mem_append.mp hp).elim (offd p) fun q => hoff p q ca (.head _)
    refine assign_Name (storeX_C F₁ N₂ hc U hv₀ (fun h' o' F₂ N₃ hd => ?_) hk hx)
    exact turn d o' i t m₁ h' tk own hi hoff hf' hp' hd (frOf h1 h2 F₂) N₃
  · rintro m₁ news₁ h tk ⟨⟨oc', d⟩, rfl, ⟨hv, hf'⟩, h1, h2, hp'⟩ F₁ N₁
    exact done d oc' m₁ h tk hf' hp' hv (frOf h1 h2 F₁) N₁
end
end Mine
namespace Mine
/-- a text's signs -/
noncomputable def cp (x : Str) : List Nat := x.cps.toList
theorem cp_len (x : Str) : x.length = (cp x).length := by simp [cp, Str.length]
theorem cp_app (x y : Str) : cp (x ++ y) = cp x ++ cp y := by unfold cp; rw [Str.cps_append, Array.toList_append]
theorem cp_inj {x y : Str} (h : cp x = cp y) : x = y := by
  obtain ⟨⟨a⟩⟩ := x; obtain ⟨⟨b⟩⟩ := y
  have : a = b := h
  rw [this]
theorem cp_eq (x y : Str) : (x == y) = (cp x == cp y) := by
  by_cases h : x = y
  · subst h; simp
  · have h' : ¬ cp x = cp y := fun e => h (cp_inj e)
    rw [beq_eq_false_iff_ne.mpr h, beq_eq_false_iff_ne.mpr h']
noncomputable def prefF : List Nat → List Nat → Bool
  | [], _ => true
  | _ :: _, [] => false
  | a :: y, b :: g => match Nat.beq a b with | true => prefF y g | false => false
theorem prefF_eq : ∀ y g, prefF y g = (g.take y.length == y)
  | [], g => by simp [prefF]
  | a :: y, [] => by simp [prefF]
  | a :: y, b :: g => by
    show (match Nat.beq a b with | true => prefF y g | false => false) = ((b :: g.take y.length) == (a :: y))
    rw [prefF_eq y g]
    by_cases h : a = b
    · subst h; rw [Nat.beq_refl]; simp
    · have : Nat.beq a b = false := by cases q : Nat.beq a b with
        | false => rfl
        | true => exact absurd (Nat.eq_of_beq_eq_true q) h
      rw [this]
      symm; rw [beq_eq_false_iff_ne]; intro e; injection e with e _; exact h e.symm
theorem subAt_F (s sub : Str) (i : Nat) : Builtin.Str.subAt s sub i = prefF (cp sub) ((cp s).drop i) := by
  rw [prefF_eq]
  unfold Builtin.Str.subAt cp
  have e : (s.cps.extract i (i + sub.length)).toList = (s.cps.toList.drop i).take sub.cps.toList.length := by
    rw [Array.toList_extract]
    simp [List.extract_eq_take_drop, Str.length]
  rw [← e]
  by_cases h : s.cps.extract i (i + sub.length) = sub.cps
  · rw [h]; simp
  · have h' : ¬ (s.cps.extract i (i + sub.length)).toList = sub.cps.toList := fun e => h (Array.toList_inj.mp e)
    rw [beq_eq_false_iff_ne.mpr h, beq_eq_false_iff_ne.mpr h']
noncomputable def occF (y : List Nat) (w hi lim : Nat) : Nat → Nat → Nat → Nat → List Nat → List Nat
  | 0, _, _, _, _ => []
  | n + 1, i, free, c, g => match Nat.ble lim c with
    | true => []
    | false => match Nat.ble free i && Nat.ble (i + w) hi && prefF y g with
      | true => i :: occF y w hi lim n (i + 1) (i + w) (c + 1) g.tail
      | false => occF y w hi lim n (i + 1) free c g.tail
theorem occF_full {y : List Nat} {w hi lim : Nat} (h : Nat.ble lim c = true) : ∀ {n i free g}, occF y w hi lim n i free c g = []
  | 0, _, _, _ => rfl
  | n + 1, _, _, _ => by unfold occF; rw [h]
open Builtin.Str StrLaws in
theorem occ_go (s sub : Str) (hi lim : Nat) : ∀ (n i : Nat) (st : Array Nat × Nat), (forIn (List.range' i n) st (occBody s sub hi lim)).run.fst.toList = st.fst.toList ++ occF (cp sub) sub.length hi lim n i st.snd st.fst.size ((cp s).drop i)
  | 0, i, st => by
    show st.fst.toList = st.fst.toList ++ []
    rw [List.append_nil]
  | n + 1, i, st => by
    rw [List.range'_succ, List.forIn_cons]
    have e : ((cp s).drop i).tail = (cp s).drop (i + 1) := by rw [List.tail_drop]
    cases hc : Nat.ble lim st.fst.size with
    | true =>
      have h0 : ¬ st.fst.size < lim := fun q => by have := Nat.le_of_ble_eq_true hc; (first | lia | omega)
      have e1 : occBody s sub hi lim i st = pure (ForInStep.yield (st.fst, st.snd)) := by unfold occBody; rw [if_neg (fun q => h0 q.1.1.1)]
      rw [e1]
      show (forIn (List.range' (i + 1) n) (st.fst, st.snd) (occBody s sub hi lim)).run.fst.toList = _
      rw [occ_go s sub hi lim n (i + 1) (st.fst, st.snd), occF_full hc, occF_full hc]
    | false =>
      have h0 : st.fst.size < lim := by
        rcases Nat.lt_or_ge st.fst.size lim with q | q
        · exact q
        · rw [Nat.ble_eq_true_of_le q] at hc; cases hc
      unfold occF
      rw [hc]
      dsimp only
      cases hd : Nat.ble st.snd i && Nat.ble (i + sub.length) hi && prefF (cp sub) ((cp s).drop i) with
      | true =>
        simp only [Bool.and_eq_true] at hd
        have e1 : occBody s sub hi lim i st = pure (ForInStep.yield (st.fst.push i, i + sub.length)) := by
          unfold occBody; rw [if_pos ⟨⟨⟨h0, Nat.le_of_ble_eq_true hd.1.1⟩, Nat.le_of_ble_eq_true hd.1.2⟩, by rw [subAt_F]; exact hd.2⟩]
        rw [e1]
        show (forIn (List.range' (i + 1) n) (st.fst.push i, i + sub.length) (occBody s sub hi lim)).run.fst.toList = _
        rw [occ_go s sub hi lim n (i + 1) (st.fst.push i, i + sub.length), e]
        simp
      | false =>
        have e1 : occBody s sub hi lim i st = pure (ForInStep.yield (st.fst, st.snd)) := by
          unfold occBody
          rw [if_neg]
          rintro ⟨⟨⟨_, q1⟩, q2⟩, q3⟩
          rw [subAt_F] at q3
          rw [Nat.ble_eq_true_of_le q1, Nat.ble_eq_true_of_le q2, q3] at hd
          cases hd
        rw [e1]
        show (forIn (List.range' (i + 1) n) (st.fst, st.snd) (occBody s sub hi lim)).run.fst.toList = _
        rw [occ_go s sub hi lim n (i + 1) (st.fst, st.snd), e]
noncomputable def occL (x y : List Nat) (lo hi lim : Nat) : List Nat := occF y y.length hi lim (hi + 1 - lo) lo lo 0 (x.drop lo)
theorem occ_L (s sub : Str) (lo hi lim : Nat) : Builtin.Str.occurrences s sub lo hi lim = occL (cp s) (cp sub) lo hi lim := by
  rw [StrLaws.occ_eq, occ_go]
  unfold occL
  rw [← cp_len]
  rfl
noncomputable def splitF (x y : List Nat) : List (List Nat) :=
  if x.length < y.length then [x] else
  match occL x y 0 x.length (x.length + 1) with
  | [] => [x]
  | o => ((0 :: o.map (· + y.length)).zip (o ++ [x.length])).map fun p => (x.drop p.1).take (p.2 - p.1)
theorem kind_ge (x : Str) : 1 ≤ Builtin.Str.strKind x := by
  unfold Builtin.Str.strKind; split
  · decide
  · split <;> decide
theorem cp_sub (x : Str) (i j : Nat) : cp (Builtin.Str.strSub x i j) = ((cp x).drop i).take (j - i) := by
  unfold cp Builtin.Str.strSub
  rw [Array.toList_extract, List.extract_eq_take_drop]
theorem split_F (x y : Str) (hy : Builtin.Str.strKind y = 1) : (Txt.split x y).map cp = splitF (cp x) (cp y) := by
  unfold Txt.split splitF
  have := kind_ge x
  rw [hy, cp_len, cp_len, occ_L]
  have hk : decide (Builtin.Str.strKind x < 1) = false := by simp; (first | lia | omega)
  rw [hk, Bool.or_false]
  by_cases h : (cp x).length < (cp y).length
  · rw [if_pos (by simpa using h), if_pos h]; rfl
  · rw [if_neg (by simpa using h), if_neg h]
    cases ho : occL (cp x) (cp y) 0 (cp x).length ((cp x).length + 1) with
    | nil => rfl
    | cons a r =>
      rw [if_neg (by simp)]
      dsimp only
      unfold Builtin.Str.partsBetween
      rw [List.map_map, cp_len]
      refine List.map_congr_left fun p hp => ?_
      show cp (Builtin.Str.strSub x p.1 p.2) = _
      rw [cp_sub]
noncomputable def find4F (x y : List Nat) (i j : Int) : Int := match occL x y (fromIndex x.length i) (min (fromIndex x.length j) x.length) 1 with | k :: _ => (k : Int) | [] => -1
theorem find4_F (x y : Str) (i j : Int) : find4 x y i j = find4F (cp x) (cp y) i j := by unfold find4 find4F; rw [occ_L, cp_len]; try (cases occL (cp x) (cp y) (fromIndex (cp x).length i) (min (fromIndex (cp x).length j) (cp x).length) 1 <;> rfl)
noncomputable def emGoF (g : List Nat) (e : Int) : List (List Nat) → Int → Bool
  | [], _ => true
  | y :: r, p => if find4F g y p e < 0 then false else emGoF g e r (find4F g y p e + y.length)
theorem emGo_F (g : Str) (e : Int) : ∀ l p, emGo g e l p = emGoF (cp g) e (l.map cp) p
  | [], _ => rfl
  | y :: r, p => by
    show (if find4 g y p e < 0 then false else emGo g e r (find4 g y p e + y.length)) = if find4F (cp g) (cp y) p e < 0 then false else emGoF (cp g) e (r.map cp) (find4F (cp g) (cp y) p e + (cp y).length)
    rw [emGo_F g e r, find4_F, cp_len]
noncomputable def starts (x y : List Nat) : Bool := decide (y.length ≤ x.length) && prefF y x
noncomputable def ends (x y : List Nat) : Bool := decide (y.length ≤ x.length) && prefF y (x.drop (x.length - y.length))
theorem starts_F (x y : Str) : Txt.startswith x y = starts (cp x) (cp y) := by unfold Txt.startswith starts; rw [subAt_F, cp_len, cp_len, Nat.zero_add, List.drop_zero]
theorem ends_F (x y : Str) : Txt.endswith x y = ends (cp x) (cp y) := by unfold Txt.endswith ends; rw [subAt_F, cp_len, cp_len, Nat.zero_add]
noncomputable def emPartsF (g a : List Nat) (mid : List (List Nat)) (z : List Nat) : Bool :=
  if a ≠ [] ∧ starts g a = false then false else
  if z ≠ [] ∧ ends g z = false then false else
  if (g.length : Int) - z.length < a.length then false else
  emGoF g (g.length - z.length) ((if a = [] then [a] else []) ++ (mid ++ (if z = [] then [z] else []))) a.length
theorem len0 (x : Str) : ((x.length : Int) = 0) = (cp x = []) := by rw [cp_len]; simp
theorem emParts_F (g a z : Str) (mid : List Str) : emParts g a mid z = emPartsF (cp g) (cp a) (mid.map cp) (cp z) := by
  unfold emParts emPartsF
  rw [starts_F, ends_F, emGo_F]
  simp only [ne_eq, len0, List.map_append, apply_ite (List.map cp), List.map_cons, List.map_nil]
  rw [cp_len g, cp_len a, cp_len z]
/-- _ellipsis_match on signs -/
noncomputable def emF (x y : List Nat) : Bool :=
  match occL x [46, 46, 46] 0 x.length 1 with
  | [] => x == y
  | _ :: _ => match splitF x [46, 46, 46] with
    | a :: r => emPartsF y a r.dropLast (r.getLastD [])
    | [] => false
theorem cp_dots : cp (Str.ofString "...") = [46, 46, 46] := by decide +kernel
theorem cp_empty : cp Str.empty = [] := rfl
theorem em_F (x y : Str) : em x y = emF (cp x) (cp y) := by
  unfold em emF
  rw [occ_L, cp_dots, cp_len]
  cases occL (cp x) [46, 46, 46] 0 (cp x).length 1 with
  | nil =>
    rw [if_pos (by rfl), cp_eq]
  | cons a r =>
    rw [if_neg (by simp)]
    dsimp only
    have h := split_F x (Str.ofString "...") (by decide +kernel)
    rw [cp_dots] at h
    rw [← h]
    cases Txt.split x (Str.ofString "...") with
    | nil => rfl
    | cons b t =>
      show emParts y b t.dropLast (t.getLastD Str.empty) = emPartsF (cp y) (cp b) (t.map cp).dropLast ((t.map cp).getLastD [])
      rw [emParts_F, List.map_dropLast]
      congr 1
      cases t with
      | nil => rfl
      | cons c t =>
        rw [List.getLastD_eq_getLast?, List.getLastD_eq_getLast?, List.getLast?_map]
        cases q : (c :: t).getLast? with
        | none => rfl
        | some z => rfl
end Mine
namespace Mine
noncomputable def sliceF (x : List Nat) (l u : Option Int) : List Nat :=
  if (Builtin.Str.strSliceIndices l u 1 x.length).length = x.length then x else (Builtin.Str.strSliceIndices l u 1 x.length).filterMap (x[·]?)
theorem slice_F (x : Str) (l u : Option Int) : cp (Txt.slice x l u) = sliceF (cp x) l u := by
  unfold Txt.slice sliceF
  rw [cp_len]
  by_cases h : (Builtin.Str.strSliceIndices l u 1 (cp x).length).length = (cp x).length
  · rw [if_pos h, if_pos (by simpa using h)]
  · rw [if_neg h, if_neg (by simpa using h)]
    unfold cp
    simp
noncomputable def itemF (x : List Nat) (i : Int) : Nat := ((seqIndex? i x.length).bind (x[·]?)).getD 0
theorem item_F (x : Str) (i : Int) : cp (Txt.item x i) = [itemF (cp x) i] := by
  unfold Txt.item Txt.charAt itemF
  rw [cp_len]
  unfold cp
  simp
theorem item_kind {x : Str} (h : ∀ c ∈ cp x, c < 256) (i : Int) : Builtin.Str.strKind (Txt.item x i) = 1 := by
  unfold Builtin.Str.strKind
  rw [if_pos]
  show (#[_] : Array Nat).all _ = true
  have : itemF (cp x) i < 256 := by
    unfold itemF
    cases hq : (seqIndex? i (cp x).length).bind ((cp x)[·]?) with
    | none => decide
    | some c =>
      obtain ⟨j, _, hj⟩ := Option.bind_eq_some_iff.mp hq
      exact h c (List.mem_of_getElem? hj)
  have e := item_F x i
  unfold Txt.item cp at e
  simp at e
  simp [e]
  exact this
noncomputable def findF (x y : List Nat) : Int := match occL x y 0 x.length 1 with | k :: _ => (k : Int) | [] => -1
theorem find_F (x y : Str) : Txt.find x y = findF (cp x) (cp y) := by unfold Txt.find findF; rw [occ_L, cp_len]; try (cases occL (cp x) (cp y) 0 (cp x).length 1 <;> rfl)
noncomputable def find3F (x y : List Nat) (i : Int) : Int := match occL x y (fromIndex x.length i) x.length 1 with | k :: _ => (k : Int) | [] => -1
theorem find3_F (x y : Str) (i : Int) : Txt.find3 x y i = find3F (cp x) (cp y) i := by unfold Txt.find3 find3F; rw [occ_L, cp_len]; try (cases occL (cp x) (cp y) (fromIndex (cp x).length i) (cp x).length 1 <;> rfl)
/-- parse229 on signs: none (another code), some none (refused), some (some port) -/
noncomputable def p229F (x : List Nat) : Option (Option (List Nat)) :=
  if sliceF x none (some 3) ≠ [50, 50, 57] then none else
  if findF x [40] < 0 then some none else
  if find3F x [41] (findF x [40] + 1) < 0 then some none else
  if itemF x (findF x [40] + 1) ≠ itemF x (find3F x [41] (findF x [40] + 1) - 1) then some none else
  match splitF (sliceF x (some (findF x [40] + 1)) (some (find3F x [41] (findF x [40] + 1)))) [itemF x (findF x [40] + 1)] with
  | [_, _, _, y, _] => some (some y)
  | _ => some none
noncomputable def enc : Said → Option (Option (List Nat))
  | .code => none
  | .form => some none
  | .port y => some (some (cp y))
theorem cp_229 : cp (Str.ofString "229") = [50, 50, 57] := by decide +kernel
theorem cp_lp : cp (Str.ofString "(") = [40] := by decide +kernel
theorem cp_rp : cp (Str.ofString ")") = [41] := by decide +kernel
theorem parts_F {x : Str} (h : ∀ c ∈ cp x, c < 256) : (partsOf x).map cp = splitF (sliceF (cp x) (some (findF (cp x) [40] + 1)) (some (find3F (cp x) [41] (findF (cp x) [40] + 1)))) [itemF (cp x) (findF (cp x) [40] + 1)] := by
  unfold partsOf
  rw [split_F _ _ (item_kind h _), slice_F, item_F, find_F, find3_F, cp_lp, cp_rp]
theorem p229_F {x : Str} (h : ∀ c ∈ cp x, c < 256) : enc (p229 x) = p229F (cp x) := by
  have hp := parts_F h
  unfold p229 p229F
  have e1 : ((Txt.slice x none (some 3) != Str.ofString "229") = true) ↔ sliceF (cp x) none (some 3) ≠ [50, 50, 57] := by
    rw [← slice_F, ← cp_229, bne_iff_ne]
    exact ⟨fun q e => q (cp_inj e), fun q e => q (congrArg cp e)⟩
  have e4 : ((Txt.item x (Txt.find x (Str.ofString "(") + 1) != Txt.item x (Txt.find3 x (Str.ofString ")") (Txt.find x (Str.ofString "(") + 1) - 1)) = true) ↔ itemF (cp x) (findF (cp x) [40] + 1) ≠ itemF (cp x) (find3F (cp x) [41] (findF (cp x) [40] + 1) - 1) := by
    rw [bne_iff_ne, find_F, find3_F, cp_lp, cp_rp]
    have e : ∀ i, cp (Txt.item x i) = [itemF (cp x) i] := item_F x
    exact ⟨fun q e' => q (cp_inj (by rw [e, e, e'])), fun q e' => q (by have := congrArg cp e'; rw [e, e] at this; simpa using this)⟩
  have e2 : Txt.find x (Str.ofString "(") = findF (cp x) [40] := by rw [find_F, cp_lp]
  have e3 : Txt.find3 x (Str.ofString ")") (Txt.find x (Str.ofString "(") + 1) = find3F (cp x) [41] (findF (cp x) [40] + 1) := by rw [find3_F, cp_rp, e2]
  by_cases h1 : sliceF (cp x) none (some 3) ≠ [50, 50, 57]
  · rw [if_pos (e1.mpr h1), if_pos h1]; rfl
  rw [if_neg (fun q => h1 (e1.mp q)), if_neg h1, e2]
  by_cases h2 : findF (cp x) [40] < 0
  · rw [if_pos h2, if_pos h2]; rfl
  rw [if_neg h2, if_neg h2, ← e2, e3]
  by_cases h3 : find3F (cp x) [41] (findF (cp x) [40] + 1) < 0
  · rw [if_pos h3, e2, if_pos h3]; rfl
  rw [if_neg h3, e2, if_neg h3]
  rw [e3, e2] at e4
  by_cases h4 : itemF (cp x) (findF (cp x) [40] + 1) ≠ itemF (cp x) (find3F (cp x) [41] (findF (cp x) [40] + 1) - 1)
  · rw [if_pos (e4.mpr h4), if_pos h4]; rfl
  rw [if_neg (fun q => h4 (e4.mp q)), if_neg h4, ← hp]
  generalize partsOf x = l
  match l with
  | [] => rfl
  | [_] => rfl
  | [_, _] => rfl
  | [_, _, _] => rfl
  | [_, _, _, _] => rfl
  | [_, _, _, y, _] => rfl
  | _ :: _ :: _ :: _ :: _ :: _ :: _ => simp [enc]
noncomputable def lowF (c : Nat) : Nat := if 65 ≤ c ∧ c ≤ 90 then c + 32 else c
theorem low_all : ((List.range 128).all fun c => Unicode.lowerOf c == [lowF c]) = true := by decide +kernel
theorem low_one {c : Nat} (h : c < 128) : Unicode.lowerOf c = [lowF c] := by
  have := List.all_eq_true.mp low_all c (List.mem_range.mpr h)
  simpa using this
theorem flat_map {f : Nat → Nat} : ∀ l : List Nat, (l.map fun c => [f c]).flatten = l.map f
  | [] => rfl
  | a :: l => by simp [flat_map l]
theorem lower_F {x : Str} (h : ∀ c ∈ cp x, c < 128) : cp (Txt.lower x) = (cp x).map lowF := by
  unfold Txt.lower cp placed
  rw [Array.toList_flatten, Array.toList_mapIdx]
  rw [← flat_map]
  congr 1
  refine List.ext_getElem (by simp) fun i h1 h2 => ?_
  have hi : i < x.cps.size := by simpa using h1
  have hc := h (x.cps[i]) (by unfold cp; simp)
  have hl := low_one hc
  have hne : ¬ x.cps[i] = 931 := fun e => by rw [e] at hc; exact absurd hc (by decide)
  simp [Unicode.lowerAt, hi, hne, hl]
noncomputable def lastF (y : List Nat) (w hi : Nat) : Nat → Nat → Option Nat → List Nat → Option Nat
  | 0, _, st, _ => st
  | n + 1, i, st, g => match Nat.ble (i + w) hi && prefF y g with
    | true => lastF y w hi n (i + 1) (some i) g.tail
    | false => lastF y w hi n (i + 1) st g.tail
open Builtin.Str StrLaws in
theorem last_go (s sub : Str) (hi : Nat) : ∀ (n i : Nat) (st : Option Nat), (forIn (List.range' i n) st (lastBody s sub hi)).run = lastF (cp sub) sub.length hi n i st ((cp s).drop i)
  | 0, i, st => rfl
  | n + 1, i, st => by
    rw [List.range'_succ, List.forIn_cons]
    have e : ((cp s).drop i).tail = (cp s).drop (i + 1) := by rw [List.tail_drop]
    unfold lastF
    cases hd : Nat.ble (i + sub.length) hi && prefF (cp sub) ((cp s).drop i) with
    | true =>
      simp only [Bool.and_eq_true] at hd
      have e1 : lastBody s sub hi i st = pure (ForInStep.yield (some i)) := by
        unfold lastBody; rw [if_pos ⟨Nat.le_of_ble_eq_true hd.1, by rw [subAt_F]; exact hd.2⟩]
      rw [e1]
      show (forIn (List.range' (i + 1) n) (some i) (lastBody s sub hi)).run = _
      rw [last_go s sub hi n (i + 1), e]
    | false =>
      have e1 : lastBody s sub hi i st = pure (ForInStep.yield st) := by
        unfold lastBody
        rw [if_neg]
        rintro ⟨q2, q3⟩
        rw [subAt_F] at q3
        rw [Nat.ble_eq_true_of_le q2, q3] at hd
        cases hd
      rw [e1]
      show (forIn (List.range' (i + 1) n) st (lastBody s sub hi)).run = _
      rw [last_go s sub hi n (i + 1), e]
noncomputable def rfindF (x y : List Nat) : Int := match lastF y y.length x.length (x.length + 1) 0 none x with | some i => (i : Int) | none => -1
theorem rfind_F (x y : Str) : Txt.rfind x y = rfindF (cp x) (cp y) := by
  unfold Txt.rfind rfindF
  rw [StrLaws.last_eq, last_go, cp_len, cp_len]
  rfl
noncomputable def isHDNF (x : List Nat) : Bool := !(ipTail x.toArray) && (!(x == []) && (!(itemF x 0 == 46) && !(itemF x (-1) == 46)))
theorem cp_dot : cp (Str.ofString ".") = [46] := by decide +kernel
theorem item_beq (x : Str) (i : Int) : (Txt.item x i == Str.ofString ".") = (itemF (cp x) i == 46) := by
  rw [cp_eq, item_F, cp_dot]
  by_cases h : itemF (cp x) i = 46
  · rw [h]; rfl
  · rw [beq_eq_false_iff_ne.mpr h, beq_eq_false_iff_ne.mpr (fun e => h (by simpa using e))]
theorem isHDN_F (x : Str) : isHDN x = isHDNF (cp x) := by
  unfold isHDN isHDNF
  rw [item_beq, item_beq, cp_eq]
  have e : (cp x).toArray = x.cps := by unfold cp; simp
  rw [e]
  rfl
noncomputable def dmatchL (x y : List Nat) : Bool :=
  if x = y then true else
  if isHDNF x = false then false else
  if rfindF x y = -1 then false else
  if rfindF x y = 0 then false else
  if starts y [46] = false then false else
  isHDNF (sliceF y (some 1) none)
noncomputable def dmatchF (x y : List Nat) : Bool := dmatchL (x.map lowF) (y.map lowF)
theorem dmatch_F {x y : Str} (hx : ∀ c ∈ cp x, c < 128) (hy : ∀ c ∈ cp y, c < 128) : dmatch x y = dmatchF (cp x) (cp y) := by
  unfold dmatch dmatchF dmatchL
  rw [← lower_F hx, ← lower_F hy]
  rw [isHDN_F, isHDN_F, rfind_F, starts_F, slice_F, cp_dot]
  have e : ((Txt.lower x == Txt.lower y) = true) = (cp (Txt.lower x) = cp (Txt.lower y)) := by rw [cp_eq]; simp
  simp only [e]
end Mine
namespace Mine
noncomputable def dgF (c : Int) : Nat := 48 + c.toNat
theorem cp_dg {c : Int} (h : 0 ≤ c ∧ c ≤ 9) : cp (dg c) = [dgF c] := by
  obtain ⟨n, rfl⟩ := Int.eq_ofNat_of_zero_le h.1
  match n, (show n < 10 by (first | lia | omega)) with
  | 0, _ | 1, _ | 2, _ | 3, _ | 4, _ | 5, _ | 6, _ | 7, _ | 8, _ | 9, _ => decide +kernel
theorem cp_fold (glue : Str) : ∀ (r : List Str) (a : Array Nat), (r.foldl (fun acc p => acc ++ glue.cps ++ p.cps) a).toList = a.toList ++ (r.map fun q => cp glue ++ cp q).flatten
  | [], a => by simp
  | q :: r, a => by
    rw [List.foldl_cons, cp_fold glue r]
    simp [cp, List.append_assoc]
noncomputable def joinF (g : List Nat) : List (List Nat) → List Nat
  | [] => []
  | p :: r => p ++ (r.map fun q => g ++ q).flatten
theorem cp_join (g : Str) (l : List Str) : cp (Txt.join g l) = joinF (cp g) (l.map cp) := by
  unfold Txt.join Builtin.Str.glued
  cases l with
  | nil => rfl
  | cons p r =>
    show ((r.foldl (fun acc p => acc ++ g.cps ++ p.cps) p.cps).toList) = _
    rw [cp_fold]
    simp [joinF, cp, List.map_map, Function.comp_def]
theorem cp_e : cp (Str.ofString "") = [] := by decide +kernel
theorem cp_txt : ∀ {l : List Int}, (∀ c ∈ l, 0 ≤ c ∧ c ≤ 9) → cp (txt l) = l.map dgF := by
  intro l h
  unfold txt
  rw [cp_join, cp_e]
  have e : (l.map dg).map cp = l.map fun c => [dgF c] := by
    rw [List.map_map]
    exact List.map_congr_left fun c hc => cp_dg (h c hc)
  rw [e]
  have key : ∀ l : List Int, ((l.map fun c => [dgF c]).map fun q => ([] : List Nat) ++ q).flatten = l.map dgF := by
    intro l
    induction l with
    | nil => rfl
    | cons c l ih => simp only [List.map_cons, List.flatten_cons, ih]; rfl
  cases l with
  | nil => rfl
  | cons c l =>
    show [dgF c] ++ ((l.map fun c => [dgF c]).map fun q => ([] : List Nat) ++ q).flatten = _
    rw [key]; rfl
theorem txt_len {l : List Int} (h : ∀ c ∈ l, 0 ≤ c ∧ c ≤ 9) : (txt l).length = l.length := by rw [cp_len, cp_txt h, List.length_map]
noncomputable def dotsF (y : List Nat) : List Nat := [46, 46, 46] ++ joinF [46, 46, 46] (y.map fun c => [c]) ++ [46, 46, 46]
theorem cp_signs (y : Str) : (PyProof.Rows.signs y).map cp = (cp y).map fun c => [c] := by
  unfold PyProof.Rows.signs cp
  simp [Function.comp_def]
theorem cp_dotsS (y : Str) : cp (dots y) = dotsF (cp y) := by
  unfold dots dotsJ dotsF
  rw [cp_app, cp_app, cp_join, cp_dots, cp_signs]
theorem dotsF_len : ∀ y : List Nat, (dotsF y).length ≤ 4 * y.length + 6 := by
  intro y
  unfold dotsF
  cases y with
  | nil => decide
  | cons c r =>
    have key : ∀ r : List Nat, ((r.map fun c => [c]).map fun q => ([46, 46, 46] : List Nat) ++ q).flatten.length = 4 * r.length := by
      intro r
      induction r with
      | nil => rfl
      | cons a r ih => simp only [List.map_cons, List.flatten_cons, List.length_append, ih, List.length_cons, List.length_nil]; (first | lia | omega)
    show ([46, 46, 46] ++ ([c] ++ ((r.map fun c => [c]).map fun q => ([46, 46, 46] : List Nat) ++ q).flatten) ++ [46, 46, 46]).length ≤ _
    simp only [List.length_append, key, List.length_cons, List.length_nil]
    (first | lia | omega)
theorem dots_len4 (y : Str) : (dots y).length ≤ 4 * y.length + 6 := by rw [cp_len, cp_dotsS, cp_len y]; exact dotsF_len _
end Mine
namespace Mine
section
variable {prog : Program} {w : World} {A : Around} {E : Value → Shared → Prop} {s : Shared} {h₀ : Heap} {L l : Addr} {news : List (Addr × Obj)} {Q : Value → Shared → Prop} {k : Int} {u : Tok} {value slice : PySem.Expr}
/-- an item of a list of texts -/
theorem item_strs {vs : List Value} {ss : List Str} {n : Nat} (N : News h₀ L s.heap news) (hm : (l, listOf vs.toArray n) ∈ news) (hs : StrsAre vs ss) (h0 : 0 ≤ k) (h1 : k < ss.length) (hz : ss.length < 100)
    (h : ∀ t, Q (.str (ss.getD k.toNat Str.empty) t) s)
    (hc : subscripted slice false (.ref l) (.int k u) = operate [.ref l, .int k u] (getItem (.ref l) (.int k u)) := by with_unfolding_all rfl) :
    wpAny (model prog w) A (subscriptTail value slice (.ref l) (.int k u)) Q E s := by
  have hl : s.heap.IsList l vs.toArray := ⟨_, (N _ hm).1, rfl, n, rfl⟩
  have hlen := hs.length
  have hk : k.toNat < vs.length := by (first | lia | omega)
  obtain ⟨y, t, e1, e2⟩ := strs_get hs k.toNat _ (List.getElem?_eq_getElem hk)
  refine tail_any hl.typeIs slot_list_getitem.lookup (wpAny_getItem_list hl h0 (by (first | lia | omega)) (x := .str y t) ?_ ?_) hc
  · rw [← e1]; simp [hk]
  · have := h t
    rw [List.getD_eq_getElem?_getD, e2] at this
    exact this
end
/-- the reply bent -/
noncomputable def bentL (mk R P code : Str) : List Str := [Str.ofString "229 )(" ++ R ++ mk ++ Str.ofString ")(|0|0|9|)", code ++ Txt.slice P (some 3) none, Str.ofString "229 )(" ++ R ++ Str.ofString "x)(|0|0|9|)", Str.ofString "229 )(" ++ R ++ Str.ofString "x"]
noncomputable def codeL : List Str := [Str.ofString "228", Str.ofString "129", Str.ofString "209"]
noncomputable def kindOf (dress k : Int) : Int := (dress.fdiv (4 ^ k.toNat)).fmod 4
noncomputable def bentOf (mk R P : Str) (k kind : Int) : Str := (bentL mk R P (codeL.getD (k.fmod 3).toNat Str.empty)).getD kind.toNat Str.empty
noncomputable def codeT (k : Int) : Str := codeL.getD (k.fmod 3).toNat Str.empty
theorem codeT_len (k : Int) : (codeT k).length = 3 := by
  unfold codeT
  have h0 := Int.fmod_nonneg_of_pos k (b := 3) (by decide)
  have h1 := Int.fmod_lt_of_pos k (b := 3) (by decide)
  generalize k.fmod 3 = i at *
  obtain ⟨n, rfl⟩ := Int.eq_ofNat_of_zero_le h0
  match n, (show n < 3 by (first | lia | omega)) with
  | 0, _ | 1, _ | 2, _ => decide +kernel
section
variable {prog : Program} {w : World} {A : Around} {E : Value → Shared → Prop} {s : Shared} {h₀ : Heap} {L l : Addr} {news : List (Addr × Obj)} {Q : Value → Shared → Prop} {k i : Int} {u : Tok} {value slice : PySem.Expr}
theorem item_code {n : Nat} {t0 t1 t2 : Tok} {cd : Str} (hcd : codeT k = cd) (N : News h₀ L s.heap news) (hm : (l, listOf [Value.str (Str.ofString "228") t0, .str (Str.ofString "129") t1, .str (Str.ofString "209") t2].toArray n) ∈ news)
    (h : ∀ t, Q (.str cd t) s)
    (hc : subscripted slice false (.ref l) (.int (k.fmod 3) u) = operate [.ref l, .int (k.fmod 3) u] (getItem (.ref l) (.int (k.fmod 3) u)) := by with_unfolding_all rfl) :
    wpAny (model prog w) A (subscriptTail value slice (.ref l) (.int (k.fmod 3) u)) Q E s :=
  item_strs N hm (.cons _ _ (.cons _ _ (.cons _ _ .nil))) (Int.fmod_nonneg_of_pos _ (by decide)) (Int.fmod_lt_of_pos _ (by decide)) (by decide) (fun t => by have := h t; rw [← hcd] at this; exact this) hc
theorem item_bent {n : Nat} {t0 t1 t2 t3 : Tok} {b0 b1 b2 b3 B : Str} (N : News h₀ L s.heap news) (hm : (l, listOf [Value.str b0 t0, .str b1 t1, .str b2 t2, .str b3 t3].toArray n) ∈ news)
    (hB : [b0, b1, b2, b3].getD (i.fmod 4).toNat Str.empty = B) (h : ∀ t, Q (.str B t) s)
    (hc : subscripted slice false (.ref l) (.int (i.fmod 4) u) = operate [.ref l, .int (i.fmod 4) u] (getItem (.ref l) (.int (i.fmod 4) u)) := by with_unfolding_all rfl) :
    wpAny (model prog w) A (subscriptTail value slice (.ref l) (.int (i.fmod 4) u)) Q E s :=
  item_strs N hm (.cons _ _ (.cons _ _ (.cons _ _ (.cons _ _ .nil)))) (Int.fmod_nonneg_of_pos _ (by decide)) (Int.fmod_lt_of_pos _ (by decide)) (by simp) (fun t => by rw [hB]; exact h t) hc
end
noncomputable def marksTurn : List Stmt := nth (defBody 22) 3
end Mine
namespace Mine
theorem no_port {x : Str} (h : p229 x = .form ∨ p229 x = .code) : ∀ y, p229 x = .port y → ∃ n, PySem.intText? y = some n := by
  rintro y e; rcases h with h | h <;> rw [h] at e <;> cases e
theorem bent_cases {c a b : Prop} (h1 : c → a) (h0 : c → False → False) (h0' : ¬ c → b) : (c ∧ a) ∨ (¬ c ∧ b) := by
  by_cases h : c
  · exact .inl ⟨h, h1 h⟩
  · exact .inr ⟨h, h0' h⟩
theorem add_le {prog : Program} {w : World} {A : Around} {E : Value → Shared → Prop} {s : Shared} {Q : Value → Shared → Prop} {x y : Str} {t u : Tok} {m n : Nat} (hx : x.length ≤ m) (hy : y.length ≤ n) (hz : m + n ≤ 10000) (h : ∀ t' c, (x ++ y).length ≤ m + n → Q (.str (x ++ y) t') { s with toks := c }) :
    wpAny (model prog w) A (binaryOp .Add (.str x t) (.str y u)) Q E s :=
  SBL.add (fun t' c g => h t' c (by (first | lia | omega))) (by rw [sizeLine_eq]; (first | lia | omega))
theorem pow4_bnd {k : Int} (h0 : 0 ≤ k) (h7 : k < 7) : 1 ≤ (4 : Int) ^ k.toNat ∧ (4 : Int) ^ k.toNat ≤ 4096 := by
  obtain ⟨n, rfl⟩ := Int.eq_ofNat_of_zero_le h0
  have hn : n < 7 := by (first | lia | omega)
  match n, hn with
  | 0, _ | 1, _ | 2, _ | 3, _ | 4, _ | 5, _ | 6, _ => decide
theorem pow4_ne {k : Int} (h0 : 0 ≤ k) (h7 : k < 7) : (4 : Int) ^ k.toNat ≠ 0 := by have := pow4_bnd h0 h7; (first | lia | omega)
section
variable {w : World} {mean : ExcName → Option Value} {mg mb : Str → Option Value} {s : Shared} {h₀ g : Heap} {L L' a l T D : Addr} {cs : Scope} {cn : Str} {ccd : Value} {gd : Option (List Code)} {m : Str → Option Value} {own : List (Addr × Obj)} {E : Value → Shared → Prop} {Q : Flow → Shared → Prop}
  {s0 s1 s2 s3 s4 s5 s6 s7 : Stmt} {tail : List Stmt} {sk : ScopeKind} {names : List (Str × NameKind)} {ig ic : Bool} {more : List (Str × Const)} {oL oN oc : Obj} {es : Array DictEntry} {en nn : Nat} {vs tv : List Value} {ns : List Int} {R P B cd mk : Str} {k dress least : Int} {tR tP tk tm td tl t1 t2 : Tok} {cb : Bool}
set_option maxHeartbeats 1000000 in
theorem marks_tailN (hcb : cb = false) (e : marksTurn = s0 :: s1 :: s2 :: s3 :: s4 :: s5 :: s6 :: s7 :: tail) (es' : defScope 22 = Scope.mk sk names ig ic more)
    (PM : Marks w mean mg mb h₀ g L cs) (hdL : oL.data = .dict es en) (hS : SameBy oL oN) (X : (hd.heap_1 w.params).In g) (TT : Top hd.view_1 (looseW hd.view_1 [Str.ofString "IPV4_RE"]) mean mg mb g)
    (hl : g.IsList l vs.toArray) (hi : IntsAre vs ns) (hz : ns.length = 6) (hti : IntsAre tv (ns.take k.toNat)) (hoc : oc.data = .cell (some (.ref T)))
    (hk0 : 0 ≤ k) (hk7 : k < 7) (hmk : mk.length ≤ 1) (hP : P.length ≤ 200) (hR : R.length ≤ 100) (okP : PyData.strOk P = true)
    (hp : p229 P = .form) (hcd : codeT k = cd) (hcl : cd.length ≤ 3) (hB : (bentL mk R P cd).getD (kindOf dress k).toNat Str.empty = B) (hb1 : kindOf dress k = 1 → p229 B = .code) (hb0 : kindOf dress k ≠ 1 → p229 B = .form)
    (okB : PyData.strOk B = true) (hBl : B.length ≤ 500)
    (hoff : OwnOff own [L' + 1, L]) (q1 : @LT.lt Nat _ L L') (q2 : @LT.lt Nat _ (L' + 1) T) (q3 : @LT.lt Nat _ T D)
    (F : Fr g L' s.heap (kstB m [(Str.ofString "close", .bool cb), (Str.ofString "due", .ref D), (Str.ofString "plain", .str P tP), (Str.ofString "row", .str R tR), (Str.ofString "size", .int k tk), (Str.ofString "mark", .str mk tm), (Str.ofString "dress", .int dress td), (Str.ofString "deck", .ref l), (Str.ofString "least", .int least tl)]))
    (N : News g L' s.heap ((D, ⟨.type "tuple", none, .seq [.str (Str.ofString "form") t1, .str P t2].toArray 0, #[]⟩) :: (T, listOf tv.toArray nn) :: (L' + 1, oc) :: (L, oN) :: own))
    (hQ : ∀ h' tk' oN' (m' : Str → Option Value), SameBy oL oN' → (∀ z, z ≠ Str.ofString "told" → z ≠ Str.ofString "kind" → z ≠ Str.ofString "code" → z ≠ Str.ofString "bent" → z ≠ Str.ofString "above" → z ≠ Str.ofString "calm" → z ≠ Str.ofString "least" → m' z = kstB m [(Str.ofString "close", .bool cb), (Str.ofString "due", .ref D), (Str.ofString "plain", .str P tP), (Str.ofString "row", .str R tR), (Str.ofString "size", .int k tk), (Str.ofString "mark", .str mk tm), (Str.ofString "dress", .int dress td), (Str.ofString "deck", .ref l), (Str.ofString "least", .int least tl)] z) → (∃ n t', m' (Str.ofString "least") = some (.int n t') ∧ n = if 0 < k then max least (k + 1) else least) →
      Fr g L' h' m' → News g L' h' ((L' + 1, oc) :: (L, oN') :: own) → Q .next { s with heap := h', toks := tk' }) :
    wpAny (model PySem.Challenge.rw_xj0016_01.row.prog w) ((ktrTop 302 7 gd cn cs L a ccd [] []).deeper (envOfC (Str.ofString "_law_by_marks") (Scope.mk sk names ig ic more) L' 153 (.ref 152))) (execs tail (envOfC (Str.ofString "_law_by_marks") (Scope.mk sk names ig ic more) L' 153 (.ref 152))) Q E s := by
  w_top off
  k_with_none
  k_with "own call ref" => ((k_here; (with_reducible show wpAny _ _ (call (Value.ref 148) _) _ _ _); (with_reducible rename (_ = (1 : Int) → p229 _ = Said.code) => kb1); (with_reducible rename (¬ _ = (1 : Int) → p229 _ = Said.form) => kb0); (rcases bent_cases kb1 (fun _ h => h) kb0 with ⟨kq, kp⟩ | ⟨kq, kp⟩); (all_goals clear kb1 kb0); (all_goals walk_at "call ref")))
  k_with "own call ref" => ((k_here; (with_reducible show wpAny _ _ (call (Value.ref 148) _) _ _ _); k_dflt (refine' reply_call (by assumption) (by assumption) (by k_asm) (by k_asm) (by assumption) (by k_updF) (by exact rfl) (by walk_at "m_len") (by walk_at "m_port") ?_; k_whole); intro D' vs' o' h' tk' n' F' N' O' S'; (try dsimp only at N'); (try simp only [AllOff, allOff_append, and_true] at n'); walk_at "m_said"; (try k_sweep)))
  k_with "own m_len" => (with_reducible first | assumption | omega)
  k_with "own m_form" => (with_reducible assumption)
  k_with "own m_port" => (with_reducible first
    | exact no_port (.inl (by assumption))
    | exact no_port (.inr (by assumption))
    | exact port_ok (by assumption) (by assumption))
  k_with "own m_said" => (with_reducible first
    | ((rename SaidVals _ _ _ => kR); (have kS := said_form (by assumption) kR); clear kR; obtain ⟨t1', t2', e'⟩ := kS; subst e')
    | ((rename SaidVals _ _ _ => kR); (have kS := said_code (by assumption) kR); clear kR; obtain ⟨t1', t2', e'⟩ := kS; subst e')
    | ((rename SaidVals _ _ _ => kR); (have kS := said_port (by assumption) (by assumption) kR); clear kR; obtain ⟨t1', t2', e'⟩ := kS; subst e'))
  k_with "own m_ok" => (with_reducible first | exact ok_of _ | (refine ok_app ?_ ?_ <;> walk_at "m_ok") | assumption)
  k_with "own compareOp Eq ref ref" => ((k_here; (with_reducible show wpAny _ _ (compareOp CmpOp.Eq (Value.ref _) (Value.ref _)) _ _ _); k_dflt (refine' eq_ss (by k_asm) (by k_mem) (by k_mem) (by walk_at "m_ok") (by walk_at "m_ok") (by ke_room) ?_; k_whole)))
  k_with "own compareOp NotEq ref ref" => ((k_here; exfalso; with_reducible (exact absurd (by assumption) (by assumption))))
  k_with "own compareOp NotEq ref ref" => ((k_here; (with_reducible show wpAny _ _ (compareOp CmpOp.NotEq (Value.ref _) (Value.ref _)) _ _ _); k_dflt (first
    | (refine' ne_ss (by k_asm) (by k_mem) (by k_mem) (by walk_at "m_ok") (by walk_at "m_ok") (by ke_room) ?_; k_whole)
    | (refine' ne_si (by k_asm) (by k_mem) (by k_mem) (by walk_at "m_ok") (by ke_room) ?_; k_whole))))
  k_with "own m_b" => (first | with_reducible assumption | exact (show PySem.Str.length _ ≤ 30 by decide +kernel))
  k_with "own binaryOp Add str str" => ((k_here; (with_reducible show wpAny _ _ (binaryOp Operator.Add (Value.str _ _) (Value.str _ _)) _ _ _); (refine' add_le (by walk_at "m_b") (by walk_at "m_b") (by omega) ?_); intro _ _ _))
  k_with "own last binaryOp Add str str" => ((k_here; (with_reducible show wpAny _ _ (binaryOp Operator.Add (Value.str _ _) (Value.str _ _)) _ _ _); (refine' add_le (by walk_at "m_b") (by walk_at "m_b") (by omega) ?_); intro _ _ _))
  k_with "own binaryOp FloorDiv int int" => ((k_here; (with_reducible show wpAny _ _ (binaryOp Operator.FloorDiv (Value.int _ _) (Value.int (4 ^ _) _)) _ _ _); (with_reducible refine floordiv_int (by exact pow4_ne (by assumption) (by assumption)) ?_ (Or.inl (PyProof.noPylong_small (by (have kb9 := pow4_bnd (by assumption) (by assumption); omega)))))))
  k_with "own subscriptTail" => ((k_here; (with_reducible show wpAny _ _ (subscriptTail _ _ (Value.ref _) (Value.int (Int.fmod _ 3) _)) _ _ _); k_dflt (refine' item_code (by with_reducible assumption) (by k_asm) (by k_mem) ?_ (by with_unfolding_all rfl); k_whole); intro tI))
  k_with "own subscriptTail" => ((k_here; (with_reducible show wpAny _ _ (subscriptTail _ _ (Value.ref _) (Value.int (Int.fmod (Int.fdiv _ _) 4) _)) _ _ _); k_dflt (refine' item_bent (by k_asm) (by k_mem) (by with_reducible assumption) ?_ (by with_unfolding_all rfl); k_whole); intro tI))
  k_with "own k_ne" => (refine neN ?_; (try dsimp only); first | exact Nat.ne_of_gt (by with_reducible assumption) | exact Nat.ne_of_lt (by with_reducible assumption) | exact Nat.ne_of_gt (And.left (by with_reducible assumption)) | exact Nat.ne_of_lt (And.left (by with_reducible assumption)) | exact Nat.ne_of_gt (And.right (by with_reducible assumption)) | exact Nat.ne_of_lt (And.right (by with_reducible assumption)) | exact Nat.ne_of_gt (And.left (And.right (by with_reducible assumption))) | exact Nat.ne_of_lt (And.left (And.right (by with_reducible assumption))) | exact Nat.ne_of_gt (And.right (And.right (by with_reducible assumption))) | exact Nat.ne_of_lt (And.right (And.right (by with_reducible assumption))) | exact Nat.ne_of_gt (And.left (And.right (And.right (by with_reducible assumption)))) | exact Nat.ne_of_lt (And.left (And.right (And.right (by with_reducible assumption)))) | exact Nat.ne_of_gt (And.right (And.right (And.right (by with_reducible assumption)))) | exact Nat.ne_of_lt (And.right (And.right (And.right (by with_reducible assumption)))) | exact Nat.ne_of_gt (And.left (And.right (And.right (And.right (by with_reducible assumption))))) | exact Nat.ne_of_lt (And.left (And.right (And.right (And.right (by with_reducible assumption))))) | exact Nat.ne_of_gt (And.right (And.right (And.right (And.right (by with_reducible assumption))))) | exact Nat.ne_of_lt (And.right (And.right (And.right (And.right (by with_reducible assumption))))) | exact Nat.ne_of_gt (And.left (And.right (And.right (And.right (And.right (by with_reducible assumption)))))) | exact Nat.ne_of_lt (And.left (And.right (And.right (And.right (And.right (by with_reducible assumption)))))) | exact Nat.ne_of_gt (And.right (And.right (And.right (And.right (And.right (by with_reducible assumption)))))) | exact Nat.ne_of_lt (And.right (And.right (And.right (And.right (And.right (by with_reducible assumption)))))) | exact Nat.ne_of_gt (And.left (And.right (And.right (And.right (And.right (And.right (by with_reducible assumption))))))) | exact Nat.ne_of_lt (And.left (And.right (And.right (And.right (And.right (And.right (by with_reducible assumption))))))) | exact Nat.ne_of_gt (And.right (And.right (And.right (And.right (And.right (And.right (by with_reducible assumption))))))) | exact Nat.ne_of_lt (And.right (And.right (And.right (And.right (And.right (And.right (by with_reducible assumption))))))) | exact Nat.ne_of_gt (And.left (And.right (And.right (And.right (And.right (And.right (And.right (by with_reducible assumption)))))))) | exact Nat.ne_of_lt (And.left (And.right (And.right (And.right (And.right (And.right (And.right (by with_reducible assumption)))))))) | exact Nat.ne_of_gt (And.right (And.right (And.right (And.right (And.right (And.right (And.right (by with_reducible assumption)))))))) | exact Nat.ne_of_lt (And.right (And.right (And.right (And.right (And.right (And.right (And.right (by with_reducible assumption)))))))) | exact Nat.ne_of_gt (And.left (And.right (And.right (And.right (And.right (And.right (And.right (And.right (by with_reducible assumption))))))))) | exact Nat.ne_of_lt (And.left (And.right (And.right (And.right (And.right (And.right (And.right (And.right (by with_reducible assumption))))))))) | exact Nat.ne_of_gt (And.right (And.right (And.right (And.right (And.right (And.right (And.right (And.right (by with_reducible assumption))))))))) | exact Nat.ne_of_lt (And.right (And.right (And.right (And.right (And.right (And.right (And.right (And.right (by with_reducible assumption))))))))) | exact Nat.ne_of_gt (And.left (And.right (And.right (And.right (And.right (And.right (And.right (And.right (And.right (by with_reducible assumption)))))))))) | exact Nat.ne_of_lt (And.left (And.right (And.right (And.right (And.right (And.right (And.right (And.right (And.right (by with_reducible assumption)))))))))) | exact Nat.ne_of_gt (And.right (And.right (And.right (And.right (And.right (And.right (And.right (And.right (And.right (by with_reducible assumption)))))))))) | exact Nat.ne_of_lt (And.right (And.right (And.right (And.right (And.right (And.right (And.right (And.right (And.right (by with_reducible assumption)))))))))) | exact Nat.ne_of_gt (And.left (And.right (And.right (And.right (And.right (And.right (And.right (And.right (And.right (And.right (by with_reducible assumption))))))))))) | exact Nat.ne_of_lt (And.left (And.right (And.right (And.right (And.right (And.right (And.right (And.right (And.right (And.right (by with_reducible assumption))))))))))) | exact Nat.ne_of_gt (And.right (And.right (And.right (And.right (And.right (And.right (And.right (And.right (And.right (And.right (by with_reducible assumption))))))))))) | exact Nat.ne_of_lt (And.right (And.right (And.right (And.right (And.right (And.right (And.right (And.right (And.right (And.right (by with_reducible assumption))))))))))) | exact Nat.ne_of_gt (And.left (And.right (And.right (And.right (And.right (And.right (And.right (And.right (And.right (And.right (And.right (by with_reducible assumption)))))))))))) | exact Nat.ne_of_lt (And.left (And.right (And.right (And.right (And.right (And.right (And.right (And.right (And.right (And.right (And.right (by with_reducible assumption)))))))))))) | exact Nat.ne_of_gt (And.right (And.right (And.right (And.right (And.right (And.right (And.right (And.right (And.right (And.right (And.right (by with_reducible assumption)))))))))))) | exact Nat.ne_of_lt (And.right (And.right (And.right (And.right (And.right (And.right (And.right (And.right (And.right (And.right (And.right (by with_reducible assumption)))))))))))) | exact Nat.ne_of_gt (And.left (And.right (And.right (And.right (And.right (And.right (And.right (And.right (And.right (And.right (And.right (And.right (by with_reducible assumption))))))))))))) | exact Nat.ne_of_lt (And.left (And.right (And.right (And.right (And.right (And.right (And.right (And.right (And.right (And.right (And.right (And.right (by with_reducible assumption))))))))))))) | exact Nat.ne_of_gt (And.right (And.right (And.right (And.right (And.right (And.right (And.right (And.right (And.right (And.right (And.right (And.right (by with_reducible assumption))))))))))))) | exact Nat.ne_of_lt (And.right (And.right (And.right (And.right (And.right (And.right (And.right (And.right (And.right (And.right (And.right (And.right (by with_reducible assumption))))))))))))) | exact Nat.ne_of_gt (And.left (And.right (And.right (And.right (And.right (And.right (And.right (And.right (And.right (And.right (And.right (And.right (And.right (by with_reducible assumption)))))))))))))) | exact Nat.ne_of_lt (And.left (And.right (And.right (And.right (And.right (And.right (And.right (And.right (And.right (And.right (And.right (And.right (And.right (by with_reducible assumption)))))))))))))) | exact Nat.ne_of_gt (And.right (And.right (And.right (And.right (And.right (And.right (And.right (And.right (And.right (And.right (And.right (And.right (And.right (by with_reducible assumption)))))))))))))) | exact Nat.ne_of_lt (And.right (And.right (And.right (And.right (And.right (And.right (And.right (And.right (And.right (And.right (And.right (And.right (And.right (by with_reducible assumption)))))))))))))) | exact Nat.ne_of_gt (And.left (And.right (And.right (And.right (And.right (And.right (And.right (And.right (And.right (And.right (And.right (And.right (And.right (And.right (by with_reducible assumption))))))))))))))) | exact Nat.ne_of_lt (And.left (And.right (And.right (And.right (And.right (And.right (And.right (And.right (And.right (And.right (And.right (And.right (And.right (And.right (by with_reducible assumption))))))))))))))) | omega)
  subst hcb
  injection e with e0 e
  injection e with e1 e
  injection e with e2 e
  injection e with e3 e
  injection e with e4 e
  injection e with e5 e
  injection e with e6 e
  injection e with e7 e
  subst e
  injection es' with f0 f1 f2 f3 f4
  subst f0 f1 f2 f3 f4
  clear e0 e1 e2 e3 e4 e5 e6 e7
  (try dsimp only [kstB] at F)
  have hM := kstMark
  have hsl := Txt.slice_le P (some 3) none
  unfold bentL kindOf at hB
  unfold kindOf at hb0 hb1
  have hb0' : ¬ (dress.fdiv (4 ^ k.toNat)).fmod 4 = (1 : Int) → p229 B = Said.form := hb0
  clear hb0
  revert X TT
  k_fill
  intro X TT
  (try k_fold)
  k_steps
  all_goals (try (exfalso; with_reducible (first | contradiction | omega)))
  all_goals (rename Fr _ _ _ _ => kF; rename News _ _ _ _ => kN; rename SameBy _ _ => kS)
  all_goals (refine' hQ _ _ _ _ kS ?_ ?_ kF ?_)
  all_goals first
    | (intro z h1 h2 h3 h4 h5 h6 h7; simp only [kstB, h1, h2, h3, h4, h5, h6, h7, if_false]; done)
    | (refine kst_newsOf kN ?_; intro p hp; repeat (first | exact hp | refine List.Mem.tail _ ?_))
    | (refine ⟨_, _, by with_unfolding_all rfl, ?_⟩; first | omega | (split <;> (try split) <;> omega))
    | skip
end
end Mine
namespace Mine
section
variable {w : World} {mean : ExcName → Option Value} {mg mb : Str → Option Value} {s : Shared} {h₀ g : Heap} {L L' a l T D : Addr} {cs : Scope} {cn : Str} {ccd : Value} {gd : Option (List Code)} {m : Str → Option Value} {own : List (Addr × Obj)} {E : Value → Shared → Prop} {Q : Flow → Shared → Prop}
  {s0 s1 s2 s3 s4 s5 s6 s7 s8 s9 s10 s11 s12 : Stmt} {tail : List Stmt} {sk : ScopeKind} {names : List (Str × NameKind)} {ig ic : Bool} {more : List (Str × Const)} {oL oN oc : Obj} {es : Array DictEntry} {en nn : Nat} {vs tv : List Value} {ns : List Int} {R P B cd mk : Str} {k dress least n M : Int} {y : Str} {tR tP tk tm td tl t1 t2 : Tok} {cb : Bool}
set_option maxHeartbeats 1000000 in
theorem marks_told (hcb : cb = true) (e : marksTurn = s0 :: s1 :: s2 :: s3 :: s4 :: s5 :: s6 :: s7 :: s8 :: s9 :: s10 :: s11 :: s12 :: tail) (es' : defScope 22 = Scope.mk sk names ig ic more)
    (PM : Marks w mean mg mb h₀ g L cs) (hdL : oL.data = .dict es en) (hS : SameBy oL oN) (X : (hd.heap_1 w.params).In g) (TT : Top hd.view_1 (looseW hd.view_1 [Str.ofString "IPV4_RE"]) mean mg mb g)
    (hl : g.IsList l vs.toArray) (hi : IntsAre vs ns) (hz : ns.length = 6) (hti : IntsAre tv (ns.take k.toNat)) (hoc : oc.data = .cell (some (.ref T)))
    (hk0 : 0 ≤ k) (hk7 : k < 7) (hmk : mk.length ≤ 1) (hP : P.length ≤ 200) (hR : R.length ≤ 100) (okP : PyData.strOk P = true)
    (hp : p229 P = .port y) (hn : PySem.intText? y = some n) (hcd : codeT k = cd) (hcl : cd.length ≤ 3) (hB : (bentL mk R P cd).getD (kindOf dress k).toNat Str.empty = B) (hb1 : kindOf dress k = 1 → p229 B = .code) (hb0 : kindOf dress k ≠ 1 → p229 B = .form)
    (okB : PyData.strOk B = true) (hBl : B.length ≤ 500)
    (hoff : OwnOff own [L' + 1, L]) (q1 : @LT.lt Nat _ L L') (q2 : @LT.lt Nat _ (L' + 1) T) (q3 : @LT.lt Nat _ T D)
    (F : Fr g L' s.heap (kstB m [(Str.ofString "close", .bool cb), (Str.ofString "due", .ref D), (Str.ofString "plain", .str P tP), (Str.ofString "row", .str R tR), (Str.ofString "size", .int k tk), (Str.ofString "mark", .str mk tm), (Str.ofString "dress", .int dress td), (Str.ofString "deck", .ref l), (Str.ofString "least", .int least tl)]))
    (N : News g L' s.heap ((D, ⟨.type "tuple", none, .seq [(.str (Str.ofString "h") t1 : Value), .int n t2].toArray 0, #[]⟩) :: (T, listOf tv.toArray nn) :: (L' + 1, oc) :: (L, oN) :: own))
    (hQ : ∀ h' tk' oN' D1 t1' t2' (m' : Str → Option Value), SameBy oL oN' → (∀ z, z ≠ Str.ofString "told" → z ≠ Str.ofString "kind" → z ≠ Str.ofString "code" → z ≠ Str.ofString "bent" → m' z = kstB m [(Str.ofString "close", .bool cb), (Str.ofString "due", .ref D), (Str.ofString "plain", .str P tP), (Str.ofString "row", .str R tR), (Str.ofString "size", .int k tk), (Str.ofString "mark", .str mk tm), (Str.ofString "dress", .int dress td), (Str.ofString "deck", .ref l), (Str.ofString "least", .int least tl)] z) → m' (Str.ofString "told") = some (.ref D1) →
      Fr g L' h' m' → News g L' h' ((D1, ⟨.type "tuple", none, .seq [(.str (Str.ofString "h") t1' : Value), .int n t2'].toArray 0, #[]⟩) :: (T, listOf tv.toArray nn) :: (L' + 1, oc) :: (L, oN') :: own) →
      wpAny (model PySem.Challenge.rw_xj0016_01.row.prog w) ((ktrTop 302 7 gd cn cs L a ccd [] []).deeper (envOfC (Str.ofString "_law_by_marks") (Scope.mk sk names ig ic more) L' 153 (.ref 152))) (execs tail (envOfC (Str.ofString "_law_by_marks") (Scope.mk sk names ig ic more) L' 153 (.ref 152))) Q E { s with heap := h', toks := tk' }) :
    wpAny (model PySem.Challenge.rw_xj0016_01.row.prog w) ((ktrTop 302 7 gd cn cs L a ccd [] []).deeper (envOfC (Str.ofString "_law_by_marks") (Scope.mk sk names ig ic more) L' 153 (.ref 152))) (execs (s8 :: s9 :: s10 :: s11 :: s12 :: tail) (envOfC (Str.ofString "_law_by_marks") (Scope.mk sk names ig ic more) L' 153 (.ref 152))) Q E s := by
  w_top off
  k_with_none
  k_with "own call ref" => ((k_here; (with_reducible show wpAny _ _ (call (Value.ref 148) _) _ _ _); (with_reducible rename (_ = (1 : Int) → p229 _ = Said.code) => kb1); (with_reducible rename (¬ _ = (1 : Int) → p229 _ = Said.form) => kb0); (rcases bent_cases kb1 (fun _ h => h) kb0 with ⟨kq, kp⟩ | ⟨kq, kp⟩); (all_goals clear kb1 kb0); (all_goals walk_at "call ref")))
  k_with "own call ref" => ((k_here; (with_reducible show wpAny _ _ (call (Value.ref 148) _) _ _ _); k_dflt (refine' reply_call (by assumption) (by assumption) (by k_asm) (by k_asm) (by assumption) (by k_updF) (by exact rfl) (by walk_at "m_len") (by walk_at "m_port") ?_; k_whole); intro D' vs' o' h' tk' n' F' N' O' S'; (try dsimp only at N'); (try simp only [AllOff, allOff_append, and_true] at n'); walk_at "m_said"; (try k_sweep)))
  k_with "own m_len" => (with_reducible first | assumption | omega)
  k_with "own m_form" => (with_reducible assumption)
  k_with "own m_port" => (with_reducible first
    | exact no_port (.inl (by assumption))
    | exact no_port (.inr (by assumption))
    | exact port_ok (by assumption) (by assumption))
  k_with "own m_said" => (with_reducible first
    | ((rename SaidVals _ _ _ => kR); (have kS := said_form (by assumption) kR); clear kR; obtain ⟨t1', t2', e'⟩ := kS; subst e')
    | ((rename SaidVals _ _ _ => kR); (have kS := said_code (by assumption) kR); clear kR; obtain ⟨t1', t2', e'⟩ := kS; subst e')
    | ((rename SaidVals _ _ _ => kR); (have kS := said_port (by assumption) (by assumption) kR); clear kR; obtain ⟨t1', t2', e'⟩ := kS; subst e'))
  k_with "own m_ok" => (with_reducible first | exact ok_of _ | (refine ok_app ?_ ?_ <;> walk_at "m_ok") | assumption)
  k_with "own compareOp Eq ref ref" => ((k_here; (with_reducible show wpAny _ _ (compareOp CmpOp.Eq (Value.ref _) (Value.ref _)) _ _ _); k_dflt (refine' eq_ss (by k_asm) (by k_mem) (by k_mem) (by walk_at "m_ok") (by walk_at "m_ok") (by ke_room) ?_; k_whole)))
  k_with "own compareOp NotEq ref ref" => ((k_here; exfalso; with_reducible (exact absurd (by assumption) (by assumption))))
  k_with "own compareOp NotEq ref ref" => ((k_here; (with_reducible show wpAny _ _ (compareOp CmpOp.NotEq (Value.ref _) (Value.ref _)) _ _ _); k_dflt (first
    | (refine' ne_ss (by k_asm) (by k_mem) (by k_mem) (by walk_at "m_ok") (by walk_at "m_ok") (by ke_room) ?_; k_whole)
    | (refine' ne_si (by k_asm) (by k_mem) (by k_mem) (by walk_at "m_ok") (by ke_room) ?_; k_whole))))
  k_with "own m_b" => (first | with_reducible assumption | exact (show PySem.Str.length _ ≤ 30 by decide +kernel))
  k_with "own binaryOp Add str str" => ((k_here; (with_reducible show wpAny _ _ (binaryOp Operator.Add (Value.str _ _) (Value.str _ _)) _ _ _); (refine' add_le (by walk_at "m_b") (by walk_at "m_b") (by omega) ?_); intro _ _ _))
  k_with "own last binaryOp Add str str" => ((k_here; (with_reducible show wpAny _ _ (binaryOp Operator.Add (Value.str _ _) (Value.str _ _)) _ _ _); (refine' add_le (by walk_at "m_b") (by walk_at "m_b") (by omega) ?_); intro _ _ _))
  k_with "own binaryOp FloorDiv int int" => ((k_here; (with_reducible show wpAny _ _ (binaryOp Operator.FloorDiv (Value.int _ _) (Value.int (4 ^ _) _)) _ _ _); (with_reducible refine floordiv_int (by exact pow4_ne (by assumption) (by assumption)) ?_ (Or.inl (PyProof.noPylong_small (by (have kb9 := pow4_bnd (by assumption) (by assumption); omega)))))))
  k_with "own subscriptTail" => ((k_here; (with_reducible show wpAny _ _ (subscriptTail _ _ (Value.ref _) (Value.int (Int.fmod _ 3) _)) _ _ _); k_dflt (refine' item_code (by with_reducible assumption) (by k_asm) (by k_mem) ?_ (by with_unfolding_all rfl); k_whole); intro tI))
  k_with "own subscriptTail" => ((k_here; (with_reducible show wpAny _ _ (subscriptTail _ _ (Value.ref _) (Value.int (Int.fmod (Int.fdiv _ _) 4) _)) _ _ _); k_dflt (refine' item_bent (by k_asm) (by k_mem) (by with_reducible assumption) ?_ (by with_unfolding_all rfl); k_whole); intro tI))
  k_with "own k_ne" => (refine neN ?_; (try dsimp only); first | exact Nat.ne_of_gt (by with_reducible assumption) | exact Nat.ne_of_lt (by with_reducible assumption) | exact Nat.ne_of_gt (And.left (by with_reducible assumption)) | exact Nat.ne_of_lt (And.left (by with_reducible assumption)) | exact Nat.ne_of_gt (And.right (by with_reducible assumption)) | exact Nat.ne_of_lt (And.right (by with_reducible assumption)) | exact Nat.ne_of_gt (And.left (And.right (by with_reducible assumption))) | exact Nat.ne_of_lt (And.left (And.right (by with_reducible assumption))) | exact Nat.ne_of_gt (And.right (And.right (by with_reducible assumption))) | exact Nat.ne_of_lt (And.right (And.right (by with_reducible assumption))) | exact Nat.ne_of_gt (And.left (And.right (And.right (by with_reducible assumption)))) | exact Nat.ne_of_lt (And.left (And.right (And.right (by with_reducible assumption)))) | exact Nat.ne_of_gt (And.right (And.right (And.right (by with_reducible assumption)))) | exact Nat.ne_of_lt (And.right (And.right (And.right (by with_reducible assumption)))) | exact Nat.ne_of_gt (And.left (And.right (And.right (And.right (by with_reducible assumption))))) | exact Nat.ne_of_lt (And.left (And.right (And.right (And.right (by with_reducible assumption))))) | exact Nat.ne_of_gt (And.right (And.right (And.right (And.right (by with_reducible assumption))))) | exact Nat.ne_of_lt (And.right (And.right (And.right (And.right (by with_reducible assumption))))) | exact Nat.ne_of_gt (And.left (And.right (And.right (And.right (And.right (by with_reducible assumption)))))) | exact Nat.ne_of_lt (And.left (And.right (And.right (And.right (And.right (by with_reducible assumption)))))) | exact Nat.ne_of_gt (And.right (And.right (And.right (And.right (And.right (by with_reducible assumption)))))) | exact Nat.ne_of_lt (And.right (And.right (And.right (And.right (And.right (by with_reducible assumption)))))) | exact Nat.ne_of_gt (And.left (And.right (And.right (And.right (And.right (And.right (by with_reducible assumption))))))) | exact Nat.ne_of_lt (And.left (And.right (And.right (And.right (And.right (And.right (by with_reducible assumption))))))) | exact Nat.ne_of_gt (And.right (And.right (And.right (And.right (And.right (And.right (by with_reducible assumption))))))) | exact Nat.ne_of_lt (And.right (And.right (And.right (And.right (And.right (And.right (by with_reducible assumption))))))) | exact Nat.ne_of_gt (And.left (And.right (And.right (And.right (And.right (And.right (And.right (by with_reducible assumption)))))))) | exact Nat.ne_of_lt (And.left (And.right (And.right (And.right (And.right (And.right (And.right (by with_reducible assumption)))))))) | exact Nat.ne_of_gt (And.right (And.right (And.right (And.right (And.right (And.right (And.right (by with_reducible assumption)))))))) | exact Nat.ne_of_lt (And.right (And.right (And.right (And.right (And.right (And.right (And.right (by with_reducible assumption)))))))) | exact Nat.ne_of_gt (And.left (And.right (And.right (And.right (And.right (And.right (And.right (And.right (by with_reducible assumption))))))))) | exact Nat.ne_of_lt (And.left (And.right (And.right (And.right (And.right (And.right (And.right (And.right (by with_reducible assumption))))))))) | exact Nat.ne_of_gt (And.right (And.right (And.right (And.right (And.right (And.right (And.right (And.right (by with_reducible assumption))))))))) | exact Nat.ne_of_lt (And.right (And.right (And.right (And.right (And.right (And.right (And.right (And.right (by with_reducible assumption))))))))) | exact Nat.ne_of_gt (And.left (And.right (And.right (And.right (And.right (And.right (And.right (And.right (And.right (by with_reducible assumption)))))))))) | exact Nat.ne_of_lt (And.left (And.right (And.right (And.right (And.right (And.right (And.right (And.right (And.right (by with_reducible assumption)))))))))) | exact Nat.ne_of_gt (And.right (And.right (And.right (And.right (And.right (And.right (And.right (And.right (And.right (by with_reducible assumption)))))))))) | exact Nat.ne_of_lt (And.right (And.right (And.right (And.right (And.right (And.right (And.right (And.right (And.right (by with_reducible assumption)))))))))) | exact Nat.ne_of_gt (And.left (And.right (And.right (And.right (And.right (And.right (And.right (And.right (And.right (And.right (by with_reducible assumption))))))))))) | exact Nat.ne_of_lt (And.left (And.right (And.right (And.right (And.right (And.right (And.right (And.right (And.right (And.right (by with_reducible assumption))))))))))) | exact Nat.ne_of_gt (And.right (And.right (And.right (And.right (And.right (And.right (And.right (And.right (And.right (And.right (by with_reducible assumption))))))))))) | exact Nat.ne_of_lt (And.right (And.right (And.right (And.right (And.right (And.right (And.right (And.right (And.right (And.right (by with_reducible assumption))))))))))) | exact Nat.ne_of_gt (And.left (And.right (And.right (And.right (And.right (And.right (And.right (And.right (And.right (And.right (And.right (by with_reducible assumption)))))))))))) | exact Nat.ne_of_lt (And.left (And.right (And.right (And.right (And.right (And.right (And.right (And.right (And.right (And.right (And.right (by with_reducible assumption)))))))))))) | exact Nat.ne_of_gt (And.right (And.right (And.right (And.right (And.right (And.right (And.right (And.right (And.right (And.right (And.right (by with_reducible assumption)))))))))))) | exact Nat.ne_of_lt (And.right (And.right (And.right (And.right (And.right (And.right (And.right (And.right (And.right (And.right (And.right (by with_reducible assumption)))))))))))) | exact Nat.ne_of_gt (And.left (And.right (And.right (And.right (And.right (And.right (And.right (And.right (And.right (And.right (And.right (And.right (by with_reducible assumption))))))))))))) | exact Nat.ne_of_lt (And.left (And.right (And.right (And.right (And.right (And.right (And.right (And.right (And.right (And.right (And.right (And.right (by with_reducible assumption))))))))))))) | exact Nat.ne_of_gt (And.right (And.right (And.right (And.right (And.right (And.right (And.right (And.right (And.right (And.right (And.right (And.right (by with_reducible assumption))))))))))))) | exact Nat.ne_of_lt (And.right (And.right (And.right (And.right (And.right (And.right (And.right (And.right (And.right (And.right (And.right (And.right (by with_reducible assumption))))))))))))) | exact Nat.ne_of_gt (And.left (And.right (And.right (And.right (And.right (And.right (And.right (And.right (And.right (And.right (And.right (And.right (And.right (by with_reducible assumption)))))))))))))) | exact Nat.ne_of_lt (And.left (And.right (And.right (And.right (And.right (And.right (And.right (And.right (And.right (And.right (And.right (And.right (And.right (by with_reducible assumption)))))))))))))) | exact Nat.ne_of_gt (And.right (And.right (And.right (And.right (And.right (And.right (And.right (And.right (And.right (And.right (And.right (And.right (And.right (by with_reducible assumption)))))))))))))) | exact Nat.ne_of_lt (And.right (And.right (And.right (And.right (And.right (And.right (And.right (And.right (And.right (And.right (And.right (And.right (And.right (by with_reducible assumption)))))))))))))) | exact Nat.ne_of_gt (And.left (And.right (And.right (And.right (And.right (And.right (And.right (And.right (And.right (And.right (And.right (And.right (And.right (And.right (by with_reducible assumption))))))))))))))) | exact Nat.ne_of_lt (And.left (And.right (And.right (And.right (And.right (And.right (And.right (And.right (And.right (And.right (And.right (And.right (And.right (And.right (by with_reducible assumption))))))))))))))) | omega)
  subst hcb
  injection e with e0 e
  injection e with e1 e
  injection e with e2 e
  injection e with e3 e
  injection e with e4 e
  injection e with e5 e
  injection e with e6 e
  injection e with e7 e
  injection e with e8 e
  injection e with e9 e
  injection e with e10 e
  injection e with e11 e
  injection e with e12 e
  subst e8 e9 e10 e11 e12
  injection es' with f0 f1 f2 f3 f4
  subst f0 f1 f2 f3 f4
  clear e0 e1 e2 e3 e4 e5 e6 e7 e
  (try dsimp only [kstB] at F)
  have hM := kstMark
  have hsl := Txt.slice_le P (some 3) none
  unfold bentL kindOf at hB
  unfold kindOf at hb0 hb1
  have hb0' : ¬ (dress.fdiv (4 ^ k.toNat)).fmod 4 = (1 : Int) → p229 B = Said.form := hb0
  clear hb0
  revert X TT
  k_fill
  intro X TT
  (try k_fold)
  k_steps
  all_goals (try (exfalso; with_reducible (first | contradiction | omega)))
  · rename Fr _ _ _ _ => kF; rename News _ _ _ _ => kN; rename SameBy _ _ => kS
    refine' hQ _ _ _ _ _ _ _ kS ?ma ?mt kF (kst_newsOf kN ?mn)
    case mt => with_unfolding_all rfl
    case mn =>
      refine List.forall_mem_cons.mpr ⟨?_, ?_⟩
      · repeat (first | exact List.Mem.head _ | refine List.Mem.tail _ ?_)
      · intro p hp
        repeat (first | exact hp | refine List.Mem.tail _ ?_)
    case ma => intro z h1 h2 h3 h4; simp only [kstB, h1, h2, h3, h4, if_false]
  · rename Fr _ _ _ _ => kF; rename News _ _ _ _ => kN; rename SameBy _ _ => kS
    refine' hQ _ _ _ _ _ _ _ kS ?ma ?mt kF (kst_newsOf kN ?mn)
    case mt => with_unfolding_all rfl
    case mn =>
      refine List.forall_mem_cons.mpr ⟨?_, ?_⟩
      · repeat (first | exact List.Mem.head _ | refine List.Mem.tail _ ?_)
      · intro p hp
        repeat (first | exact hp | refine List.Mem.tail _ ?_)
    case ma => intro z h1 h2 h3 h4; simp only [kstB, h1, h2, h3, h4, if_false]
end
end Mine
namespace Mine
theorem cards9 {ns : List Int} (h : ∀ c ∈ ns, 1 ≤ c ∧ c ≤ 6) (j : Nat) : ∀ c ∈ ns.drop j, 0 ≤ c ∧ c ≤ 9 := fun c hc => by have := h c (List.mem_of_mem_drop hc); (first | lia | omega)
structure Held (p : Prop) : Prop where
  it : p
theorem isAbove_yes {M M' k : Int} {top l : List Int} (a : M' ∈ top) (b : ∀ x, x ∈ top → x ≤ M') (c : M ∈ top) (d : ∀ x, x ∈ top → x ≤ M) (e : k > M') : (fun (l : List Int) (c : Int) => if M < c then l ++ [c] else l) l k = l ++ [k] := by
  have := isMax_eq a b c d
  dsimp only
  rw [if_pos (by (first | lia | omega))]
theorem isAbove_no {M M' k : Int} {top l : List Int} (a : M' ∈ top) (b : ∀ x, x ∈ top → x ≤ M') (c : M ∈ top) (d : ∀ x, x ∈ top → x ≤ M) (e : ¬ k > M') : (fun (l : List Int) (c : Int) => if M < c then l ++ [c] else l) l k = l := by
  have := isMax_eq a b c d
  dsimp only
  rw [if_neg (by (first | lia | omega))]
theorem above_grows (M : Int) : KPfGrows (fun (l : List Int) (c : Int) => if M < c then l ++ [c] else l) := by
  intro l k
  dsimp only
  split
  · simp
  · (first | lia | omega)
theorem above_len {ns : List Int} (M : Int) (hz : ns.length = 6) (j : Nat) : ((ns.drop j).foldl (fun (l : List Int) (c : Int) => if M < c then l ++ [c] else l) []).length < 64 := by
  have key : ∀ (l acc : List Int), (l.foldl (fun (l : List Int) (c : Int) => if M < c then l ++ [c] else l) acc).length ≤ acc.length + l.length := by
    intro l
    induction l with
    | nil => intro acc; simp
    | cons c l ih =>
      intro acc
      rw [List.foldl_cons]
      refine Nat.le_trans (ih _) ?_
      split <;> simp <;> (first | lia | omega)
  have := key (ns.drop j) []
  rw [List.length_drop] at this
  simp only [List.length_nil] at this
  (first | lia | omega)
noncomputable def aboveF (M : Int) (l : List Int) : List Int := l.filter fun c => decide (M < c)
theorem above_fold (M : Int) : ∀ (l acc : List Int), l.foldl (fun (l : List Int) (c : Int) => if M < c then l ++ [c] else l) acc = acc ++ aboveF M l
  | [], acc => by simp [aboveF]
  | c :: l, acc => by
    rw [List.foldl_cons, above_fold M l]
    unfold aboveF
    by_cases h : M < c
    · rw [if_pos h, List.filter_cons_of_pos (by simpa using h)]; simp
    · rw [if_neg h, List.filter_cons_of_neg (by simpa using h)]
theorem calm_ok {X : Bool} {M : Int} {l ys : List Int} (hem : X = decide ((aboveF M l).Pairwise (· ≤ ·))) (hp : ys.Perm (l.foldl (fun (l : List Int) (c : Int) => if M < c then l ++ [c] else l) [])) (ho : ys.Pairwise (· ≤ ·)) :
    (X != decide (l.foldl (fun (l : List Int) (c : Int) => if M < c then l ++ [c] else l) [] = ys)) = false := by
  rw [above_fold, List.nil_append] at hp ⊢
  have e : decide ((aboveF M l).Pairwise (· ≤ ·)) = decide (aboveF M l = ys) := by
    by_cases h : (aboveF M l).Pairwise (· ≤ ·)
    · rw [decide_eq_true h, decide_eq_true (List.Perm.eq_of_pairwise (fun a b _ _ h1 h2 => Int.le_antisymm h1 h2) h ho hp.symm)]
    · rw [decide_eq_false h, decide_eq_false (fun e => h (by rw [e]; exact ho))]
  rw [hem, e]
  cases decide (aboveF M l = ys) <;> rfl
section
variable {w : World} {mean : ExcName → Option Value} {mg mb : Str → Option Value} {s : Shared} {h₀ g : Heap} {L L' a l T D : Addr} {cs : Scope} {cn : Str} {ccd : Value} {gd : Option (List Code)} {m : Str → Option Value} {own : List (Addr × Obj)} {E : Value → Shared → Prop} {Q : Flow → Shared → Prop}
  {s0 s1 s2 s3 s4 s5 s6 s7 s8 s9 s10 s11 s12 : Stmt} {tail : List Stmt} {sk : ScopeKind} {names : List (Str × NameKind)} {ig ic : Bool} {more : List (Str × Const)} {oL oN oc : Obj} {es : Array DictEntry} {en nn : Nat} {vs tv : List Value} {ns : List Int} {R P B cd mk : Str} {k dress least n M : Int} {y : Str} {tR tP tk tm td tl t1 t2 : Tok} {cb : Bool}
set_option maxHeartbeats 2000000 in
theorem marks_above (hcb : cb = true) (e : marksTurn = s0 :: s1 :: s2 :: s3 :: s4 :: s5 :: s6 :: s7 :: s8 :: s9 :: s10 :: s11 :: s12 :: tail) (es' : defScope 22 = Scope.mk sk names ig ic more)
    (X : (hd.heap_1 w.params).In g) (TT : Top hd.view_1 (looseW hd.view_1 [Str.ofString "IPV4_RE"]) mean mg mb g)
    (hl : g.IsList l vs.toArray) (hi : IntsAre vs ns) (hz : ns.length = 6) (hti : IntsAre tv (ns.take k.toNat)) (hoc : oc.data = .cell (some (.ref T)))
    (hk0 : 0 ≤ k) (hk7 : k < 7) (hnb : 0 ≤ n ∧ n < 1000000000) (hcards : ∀ c ∈ ns, 1 ≤ c ∧ c ≤ 6) (hMi : M ∈ ns.take k.toNat) (hMx : ∀ a, a ∈ ns.take k.toNat → a ≤ M) (hk1 : 0 < k)
    (hem : Held (em (dots (Txt.slice (Str.ofString (toString n)) none (some (-1)))) (txt (ns.drop k.toNat)) = decide ((aboveF M (ns.drop k.toNat)).Pairwise (· ≤ ·))))
    (hsn : (Txt.slice (Str.ofString (toString n)) none (some (-1))).length ≤ 30)
    (hd1 : (dots (Txt.slice (Str.ofString (toString n)) none (some (-1)))).length ≤ 500) (hd2 : (txt (ns.drop k.toNat)).length ≤ 500)
    (hoff : OwnOff own [L' + 1, L]) (q1 : @LT.lt Nat _ L L') (q2 : @LT.lt Nat _ (L' + 1) T)
    (F : Fr g L' s.heap (kstB m [(Str.ofString "told", .ref D), (Str.ofString "close", .bool cb), (Str.ofString "size", .int k tk), (Str.ofString "deck", .ref l), (Str.ofString "least", .int least tl)]))
    (N : News g L' s.heap ((D, ⟨.type "tuple", none, .seq [(.str (Str.ofString "h") t1 : Value), .int n t2].toArray 0, #[]⟩) :: (T, listOf tv.toArray nn) :: (L' + 1, oc) :: (L, oN) :: own))
    (hQ : ∀ h' tk' (m' : Str → Option Value), (∀ z, z ≠ Str.ofString "above" → z ≠ Str.ofString "calm" → m' z = kstB m [(Str.ofString "told", .ref D), (Str.ofString "close", .bool cb), (Str.ofString "size", .int k tk), (Str.ofString "deck", .ref l), (Str.ofString "least", .int least tl)] z) →
      Fr g L' h' m' → News g L' h' ((L' + 1, oc) :: (L, oN) :: own) → Q .next { s with heap := h', toks := tk' }) :
    wpAny (model PySem.Challenge.rw_xj0016_01.row.prog w) ((ktrTop 302 7 gd cn cs L a ccd [] []).deeper (envOfC (Str.ofString "_law_by_marks") (Scope.mk sk names ig ic more) L' 153 (.ref 152))) (execs tail (envOfC (Str.ofString "_law_by_marks") (Scope.mk sk names ig ic more) L' 153 (.ref 152))) Q E s := by
  w_top off
  k_with_none
  k_with "own call ref" => ((k_here; (with_reducible show wpAny _ _ (call (Value.ref 134) _) _ _ _); k_dflt (refine' text_call (by k_asm) (by k_asm) (by k_asm) (by k_asm) (by is_list) (by l_ints) (by (simp only [List.length_drop]; omega)) (by exact cards9 (by assumption) _) ?_; k_whole); intro h9 tk9 t9 F9 N9; (try k_sweep); (try dsimp only); (try k_fold)))
  k_with "own call ref" => ((k_here; (with_reducible show wpAny _ _ (call (Value.ref 141) _) _ _ _); k_dflt (refine' dots_call (by k_asm) (by k_asm) (by k_asm) (by k_asm) (by omega) ?_; k_whole); intro h9 tk9 t9 F9 N9; (try k_sweep); (try dsimp only); (try k_fold)))
  k_with "own call ref" => ((k_here; (with_reducible show wpAny _ _ (call (Value.ref 57) _) _ _ _); k_dflt (refine' em_call (by k_asm) (by k_asm) (by k_asm) (by k_asm) (by with_reducible assumption) (by with_reducible assumption) ?_; k_whole); intro h9 tk9 F9 N9; (try k_sweep); (try dsimp only); (try k_fold)))
  k_with "own eval ListComp" => ((k_here; k_dflt (refine LCt.ListComp_T (F₀ := by k_asm) (by with_unfolding_all rfl) (by decide) (by rfl) (by decide) (by rfl) ?_); k_dflt lct_toSrc))
  k_with "own call builtin:max" => ((k_here; (with_reducible show wpAny _ _ (call (Value.builtin _) [Value.ref _]) _ _ _); (with_unfolding_all refine' kso_max (by k_asm) (by k_asm) (by kso_list) (by l_ints) (by assumption) (by with_unfolding_all rfl) ?_; k_whole); intro h' M' t' k' F' N' a' b'; (try k_sweep)))
  k_with "own call builtin:sorted" => ((k_here; (with_reducible show wpAny _ _ (call (Value.builtin _) [Value.ref _]) _ _ _); (with_unfolding_all refine' kso_sorted (by k_asm) (by k_asm) (by kso_list) (by l_ints) (by exact above_len _ (by assumption) _) ?_; k_whole); intro D' v' n' c' h' F' N' l1 i' e' p' o' b'; (try k_lt l1); (try k_sweep)))
  k_with "own CompSrcT" => (k_extra "CompSrcT")
  k_with "own CompEnd" => (k_extra "CompEnd")
  k_with "own k_ne" => (refine neN ?_; (try dsimp only); first | exact Nat.ne_of_gt (by with_reducible assumption) | exact Nat.ne_of_lt (by with_reducible assumption) | exact Nat.ne_of_gt (And.left (by with_reducible assumption)) | exact Nat.ne_of_lt (And.left (by with_reducible assumption)) | exact Nat.ne_of_gt (And.right (by with_reducible assumption)) | exact Nat.ne_of_lt (And.right (by with_reducible assumption)) | exact Nat.ne_of_gt (And.left (And.right (by with_reducible assumption))) | exact Nat.ne_of_lt (And.left (And.right (by with_reducible assumption))) | exact Nat.ne_of_gt (And.right (And.right (by with_reducible assumption))) | exact Nat.ne_of_lt (And.right (And.right (by with_reducible assumption))) | exact Nat.ne_of_gt (And.left (And.right (And.right (by with_reducible assumption)))) | exact Nat.ne_of_lt (And.left (And.right (And.right (by with_reducible assumption)))) | exact Nat.ne_of_gt (And.right (And.right (And.right (by with_reducible assumption)))) | exact Nat.ne_of_lt (And.right (And.right (And.right (by with_reducible assumption)))) | exact Nat.ne_of_gt (And.left (And.right (And.right (And.right (by with_reducible assumption))))) | exact Nat.ne_of_lt (And.left (And.right (And.right (And.right (by with_reducible assumption))))) | exact Nat.ne_of_gt (And.right (And.right (And.right (And.right (by with_reducible assumption))))) | exact Nat.ne_of_lt (And.right (And.right (And.right (And.right (by with_reducible assumption))))) | exact Nat.ne_of_gt (And.left (And.right (And.right (And.right (And.right (by with_reducible assumption)))))) | exact Nat.ne_of_lt (And.left (And.right (And.right (And.right (And.right (by with_reducible assumption)))))) | exact Nat.ne_of_gt (And.right (And.right (And.right (And.right (And.right (by with_reducible assumption)))))) | exact Nat.ne_of_lt (And.right (And.right (And.right (And.right (And.right (by with_reducible assumption)))))) | exact Nat.ne_of_gt (And.left (And.right (And.right (And.right (And.right (And.right (by with_reducible assumption))))))) | exact Nat.ne_of_lt (And.left (And.right (And.right (And.right (And.right (And.right (by with_reducible assumption))))))) | exact Nat.ne_of_gt (And.right (And.right (And.right (And.right (And.right (And.right (by with_reducible assumption))))))) | exact Nat.ne_of_lt (And.right (And.right (And.right (And.right (And.right (And.right (by with_reducible assumption))))))) | exact Nat.ne_of_gt (And.left (And.right (And.right (And.right (And.right (And.right (And.right (by with_reducible assumption)))))))) | exact Nat.ne_of_lt (And.left (And.right (And.right (And.right (And.right (And.right (And.right (by with_reducible assumption)))))))) | exact Nat.ne_of_gt (And.right (And.right (And.right (And.right (And.right (And.right (And.right (by with_reducible assumption)))))))) | exact Nat.ne_of_lt (And.right (And.right (And.right (And.right (And.right (And.right (And.right (by with_reducible assumption)))))))) | exact Nat.ne_of_gt (And.left (And.right (And.right (And.right (And.right (And.right (And.right (And.right (by with_reducible assumption))))))))) | exact Nat.ne_of_lt (And.left (And.right (And.right (And.right (And.right (And.right (And.right (And.right (by with_reducible assumption))))))))) | exact Nat.ne_of_gt (And.right (And.right (And.right (And.right (And.right (And.right (And.right (And.right (by with_reducible assumption))))))))) | exact Nat.ne_of_lt (And.right (And.right (And.right (And.right (And.right (And.right (And.right (And.right (by with_reducible assumption))))))))) | exact Nat.ne_of_gt (And.left (And.right (And.right (And.right (And.right (And.right (And.right (And.right (And.right (by with_reducible assumption)))))))))) | exact Nat.ne_of_lt (And.left (And.right (And.right (And.right (And.right (And.right (And.right (And.right (And.right (by with_reducible assumption)))))))))) | exact Nat.ne_of_gt (And.right (And.right (And.right (And.right (And.right (And.right (And.right (And.right (And.right (by with_reducible assumption)))))))))) | exact Nat.ne_of_lt (And.right (And.right (And.right (And.right (And.right (And.right (And.right (And.right (And.right (by with_reducible assumption)))))))))) | exact Nat.ne_of_gt (And.left (And.right (And.right (And.right (And.right (And.right (And.right (And.right (And.right (And.right (by with_reducible assumption))))))))))) | exact Nat.ne_of_lt (And.left (And.right (And.right (And.right (And.right (And.right (And.right (And.right (And.right (And.right (by with_reducible assumption))))))))))) | exact Nat.ne_of_gt (And.right (And.right (And.right (And.right (And.right (And.right (And.right (And.right (And.right (And.right (by with_reducible assumption))))))))))) | exact Nat.ne_of_lt (And.right (And.right (And.right (And.right (And.right (And.right (And.right (And.right (And.right (And.right (by with_reducible assumption))))))))))) | exact Nat.ne_of_gt (And.left (And.right (And.right (And.right (And.right (And.right (And.right (And.right (And.right (And.right (And.right (by with_reducible assumption)))))))))))) | exact Nat.ne_of_lt (And.left (And.right (And.right (And.right (And.right (And.right (And.right (And.right (And.right (And.right (And.right (by with_reducible assumption)))))))))))) | exact Nat.ne_of_gt (And.right (And.right (And.right (And.right (And.right (And.right (And.right (And.right (And.right (And.right (And.right (by with_reducible assumption)))))))))))) | exact Nat.ne_of_lt (And.right (And.right (And.right (And.right (And.right (And.right (And.right (And.right (And.right (And.right (And.right (by with_reducible assumption)))))))))))) | exact Nat.ne_of_gt (And.left (And.right (And.right (And.right (And.right (And.right (And.right (And.right (And.right (And.right (And.right (And.right (by with_reducible assumption))))))))))))) | exact Nat.ne_of_lt (And.left (And.right (And.right (And.right (And.right (And.right (And.right (And.right (And.right (And.right (And.right (And.right (by with_reducible assumption))))))))))))) | exact Nat.ne_of_gt (And.right (And.right (And.right (And.right (And.right (And.right (And.right (And.right (And.right (And.right (And.right (And.right (by with_reducible assumption))))))))))))) | exact Nat.ne_of_lt (And.right (And.right (And.right (And.right (And.right (And.right (And.right (And.right (And.right (And.right (And.right (And.right (by with_reducible assumption))))))))))))) | exact Nat.ne_of_gt (And.left (And.right (And.right (And.right (And.right (And.right (And.right (And.right (And.right (And.right (And.right (And.right (And.right (by with_reducible assumption)))))))))))))) | exact Nat.ne_of_lt (And.left (And.right (And.right (And.right (And.right (And.right (And.right (And.right (And.right (And.right (And.right (And.right (And.right (by with_reducible assumption)))))))))))))) | exact Nat.ne_of_gt (And.right (And.right (And.right (And.right (And.right (And.right (And.right (And.right (And.right (And.right (And.right (And.right (And.right (by with_reducible assumption)))))))))))))) | exact Nat.ne_of_lt (And.right (And.right (And.right (And.right (And.right (And.right (And.right (And.right (And.right (And.right (And.right (And.right (And.right (by with_reducible assumption)))))))))))))) | exact Nat.ne_of_gt (And.left (And.right (And.right (And.right (And.right (And.right (And.right (And.right (And.right (And.right (And.right (And.right (And.right (And.right (by with_reducible assumption))))))))))))))) | exact Nat.ne_of_lt (And.left (And.right (And.right (And.right (And.right (And.right (And.right (And.right (And.right (And.right (And.right (And.right (And.right (And.right (by with_reducible assumption))))))))))))))) | omega)
  subst hcb
  injection e with e0 e
  injection e with e1 e
  injection e with e2 e
  injection e with e3 e
  injection e with e4 e
  injection e with e5 e
  injection e with e6 e
  injection e with e7 e
  injection e with e8 e
  injection e with e9 e
  injection e with e10 e
  injection e with e11 e
  injection e with e12 e
  subst e
  injection es' with f0 f1 f2 f3 f4
  subst f0 f1 f2 f3 f4
  clear e0 e1 e2 e3 e4 e5 e6 e7 e8 e9 e10 e11 e12
  (try dsimp only [kstB] at F)
  have hM := kstMark
  have htl := List.length_pos_of_mem hMi
  revert X TT
  k_fill
  intro X TT
  (try k_fold)
  k_with "CompSrcT" => (k_here; k_dflt (refine LCt.CompSrcT.ledger (by rfl) (by k_asm) (by k_asm) (by k_mem) (by first | size_fits | exact Nat.le_of_ble_eq_true rfl | (rw [PySem.sizeLine_eq]; simp; omega)) ?_; intro g'; (refine' kci_list (fun (l : List Int) (c : Int) => if M < c then l ++ [c] else l) (by assumption) (fun k' t' I' oI' C' oC' D' m' ys' l' h' tk' E' hk' hI' hC' hx' F' N' off' ne' => ?_) ?_ ?_); (all_goals (try (simp only [LCg.Off3, and_true] at off'))); (all_goals (try ((show KPfMark → _); intro hMark'))); kcf_last))
  k_with "CompEnd" => ((rename ∀ a, a ∈ _ → a ≤ _ => kb); (refine' LCg.CompEnd.intro (by assumption) (by assumption) ?nn ?sub ?off ?src ?r); (case r => first | ((show KCiEl _ _ _ _ _); refine' kci_el (isAbove_yes ?_ kb hMi hMx ?_) rfl rfl; (assumption); (assumption)) | ((show KCiNo _ _ _ _); refine' kci_no (isAbove_no ?_ kb hMi hMx ?_) rfl; (assumption); (first | assumption | omega))); (case sub => kcf_all); (case off => first | assumption | (simp only [LCg.Off3, and_true]; done) | (simp only [LCg.Off3, and_true]; assumption)); (case src => first | lcg_src | assumption))
  k_steps
  · exfalso
    rename (_ != decide _) = true => kb
    rw [calm_ok hem.it (by assumption) (by assumption)] at kb
    cases kb
  · rename Fr _ _ _ _ => kF; rename News _ _ _ _ => kN
    refine hQ _ _ _ ?_ kF (kst_newsOf kN ?_)
    · intro z h1 h2
      simp only [kstB, h1, h2, if_false]
    · intro p hp
      repeat (first | exact hp | refine List.Mem.tail _ ?_)
end
end Mine
namespace Mine
noncomputable def rowT (mk : Str) (k : Int) (ns : List Int) : Str := rowOf mk k (ns.take k.toNat) (rangeKs 1 ((8 : Int) - 1).toNat) ++ mk
noncomputable def plainT2 (mk : Str) (k : Int) (ns : List Int) : Str := Str.ofString "229 )(" ++ rowT mk k ns ++ Str.ofString ")(|0|0|9|)"
noncomputable def bentT (mk : Str) (k : Int) (ns : List Int) (dress : Int) : Str := (bentL mk (rowT mk k ns) (plainT2 mk k ns) (codeT k)).getD (kindOf dress k).toNat Str.empty
noncomputable def spread (top : List Int) (j : Int) : Bool := (top.any fun a => top.any fun b => a - b == j - 1) && (top.all fun a => top.all fun b => decide (a - b ≤ j - 1))
/-- the cards above rise -/
noncomputable def calmB (M : Int) (l : List Int) : Bool := decide ((aboveF M l).Pairwise (· ≤ ·))
theorem spread_iff {top : List Int} {M m j : Int} (hM : IsMax M top) (hm : IsMin m top) : spread top j = true ↔ M - m = j - 1 := by
  unfold spread
  simp only [Bool.and_eq_true, List.any_eq_true, List.all_eq_true, beq_iff_eq, decide_eq_true_eq]
  constructor
  · rintro ⟨⟨a, ha, b, hb, e⟩, h⟩
    have h1 := h M hM.1 m hm.1
    have h2 := hM.2 a ha
    have h3 := hm.2 b hb
    (first | lia | omega)
  · intro e
    refine ⟨⟨M, hM.1, m, hm.1, e⟩, fun a ha b hb => ?_⟩
    have h2 := hM.2 a ha
    have h3 := hm.2 b hb
    (first | lia | omega)
/-- by_marks' answer, size by size -/
noncomputable def leastM (ns : List Int) : Nat → Int
  | 0 => 1
  | j + 1 => if j = 0 ∨ spread (ns.take j) j = true then leastM ns j else max (leastM ns j) ((j : Int) + 1)
theorem least_zero {ns : List Int} {pre : List Int} {k least n : Int} (hl : least = leastM ns pre.length) (hk : k = 0 + (pre.length : Int)) (h0 : ¬ 0 < k) (hn : n = if 0 < k then max least (k + 1) else least) : n = leastM ns (pre ++ [k]).length := by
  rw [List.length_append, List.length_singleton, leastM, if_pos (.inl (by (first | lia | omega))), hn, if_neg h0, hl]
theorem least_gap {ns : List Int} {pre : List Int} {k least n M m : Int} (hl : least = leastM ns pre.length) (hk : k = 0 + (pre.length : Int)) (h0 : 0 < k) (hn : n = if 0 < k then max least (k + 1) else least)
    (hM : IsMax M (ns.take k.toNat)) (hm : IsMin m (ns.take k.toNat)) (hg : ¬ M - m = k - 1) : n = leastM ns (pre ++ [k]).length := by
  have e : k.toNat = pre.length := by (first | lia | omega)
  rw [List.length_append, List.length_singleton, leastM, if_neg, hn, if_pos h0, hl]
  · rw [hk]; simp
  · rintro (h | h)
    · (first | lia | omega)
    · rw [← e] at h
      rw [show ((k.toNat : Nat) : Int) = k from by (first | lia | omega)] at h
      exact hg ((spread_iff hM hm).mp h)
theorem least_close {ns : List Int} {pre : List Int} {k least M m : Int} (hl : least = leastM ns pre.length) (hk : k = 0 + (pre.length : Int)) (h0 : 0 < k)
    (hM : IsMax M (ns.take k.toNat)) (hm : IsMin m (ns.take k.toNat)) (hg : M - m = k - 1) : least = leastM ns (pre ++ [k]).length := by
  have e : k.toNat = pre.length := by (first | lia | omega)
  rw [List.length_append, List.length_singleton, leastM, if_pos, hl]
  right
  rw [← e, show ((k.toNat : Nat) : Int) = k from by (first | lia | omega)]
  exact (spread_iff hM hm).mpr hg
/-- what by_marks leans on -/
structure MarksOk2 (ns : List Int) (mk : Str) (dress : Int) : Prop where
  cards : ∀ c ∈ ns, 1 ≤ c ∧ c ≤ 6
  six : ns.length = 6
  mkl : mk.length = 1
  lenR : ∀ k, 0 ≤ k → k < 7 → (rowT mk k ns).length ≤ 100
  okP : ∀ k, 0 ≤ k → k < 7 → PyData.strOk (plainT2 mk k ns) = true
  okB : ∀ k, 0 ≤ k → k < 7 → PyData.strOk (bentT mk k ns dress) = true
  lenB : ∀ k, 0 ≤ k → k < 7 → (bentT mk k ns dress).length ≤ 500
  bent1 : ∀ k, 0 ≤ k → k < 7 → kindOf dress k = 1 → p229 (bentT mk k ns dress) = .code
  bent0 : ∀ k, 0 ≤ k → k < 7 → kindOf dress k ≠ 1 → p229 (bentT mk k ns dress) = .form
  open0 : p229 (plainT2 mk 0 ns) = .form
  gap : ∀ k M m, 0 < k → k < 7 → IsMax M (ns.take k.toNat) → IsMin m (ns.take k.toNat) → ¬ M - m = k - 1 → p229 (plainT2 mk k ns) = .form
  close : ∀ k M m, 0 < k → k < 7 → IsMax M (ns.take k.toNat) → IsMin m (ns.take k.toNat) → M - m = k - 1 → p229 (plainT2 mk k ns) = .port (txt (rng (M + 1) 1 (7 - M).toNat))
  calm : ∀ k M m, 0 < k → k < 7 → IsMax M (ns.take k.toNat) → IsMin m (ns.take k.toNat) → M - m = k - 1 → em (dots (txt (rng (M + 1) 1 (6 - M).toNat))) (txt (ns.drop k.toNat)) = calmB M (ns.drop k.toNat)
theorem lenP2 {ns : List Int} {mk : Str} {k : Int} (h : (rowT mk k ns).length ≤ 100) : (plainT2 mk k ns).length ≤ 200 := by
  unfold plainT2
  rw [Str.length_append, Str.length_append]
  have e1 : (Str.ofString "229 )(").length = 6 := by decide +kernel
  have e2 : (Str.ofString ")(|0|0|9|)").length = 10 := by decide +kernel
  (first | lia | omega)
noncomputable def portNo : Nat → Int
  | 1 => 234567
  | 2 => 34567
  | 3 => 4567
  | 4 => 567
  | 5 => 67
  | 6 => 7
  | _ => 0
noncomputable def portTx (j : Nat) : Str := txt (rng ((j : Int) + 1) 1 (7 - (j : Int)).toNat)
noncomputable def portTy (j : Nat) : Str := txt (rng ((j : Int) + 1) 1 (6 - (j : Int)).toNat)
theorem port_eval : ∀ j, 1 ≤ j → j ≤ 6 → PySem.intText? (portTx j) = some (portNo j) ∧ Txt.slice (Str.ofString (toString (portNo j))) none (some (-1)) = portTy j ∧ (portTy j).length ≤ 10 := by
  intro j h1 h6
  match j, (show j < 7 by (first | lia | omega)) with
  | 0, _ => exact absurd h1 (by decide)
  | 1, _ | 2, _ | 3, _ | 4, _ | 5, _ | 6, _ => decide +kernel
theorem portNo_bnd : ∀ j, 0 ≤ portNo j ∧ portNo j < 1000000000 := by
  intro j
  unfold portNo
  split <;> decide
theorem port_facts {M n : Int} (h1 : 1 ≤ M) (h6 : M ≤ 6) (hn : PySem.intText? (txt (rng (M + 1) 1 (7 - M).toNat)) = some n) :
    (0 ≤ n ∧ n < 1000000000) ∧ Txt.slice (Str.ofString (toString n)) none (some (-1)) = txt (rng (M + 1) 1 (6 - M).toNat) ∧ (txt (rng (M + 1) 1 (6 - M).toNat)).length ≤ 10 := by
  obtain ⟨j, rfl⟩ := Int.eq_ofNat_of_zero_le (show 0 ≤ M by (first | lia | omega))
  obtain ⟨e1, e2, e3⟩ := port_eval j (by (first | lia | omega)) (by (first | lia | omega))
  have e4 : PySem.intText? (portTx j) = some n := hn
  rw [e1] at e4
  injection e4 with e4
  subst e4
  exact ⟨portNo_bnd j, e2, e3⟩
end Mine
namespace Mine
theorem kst_here {m : Str → Option Value} {ps : List (Str × Value)} (hp : ∀ p ∈ ps, m p.1 = some p.2) : kstB m ps = m := by funext z; exact kstB_eq hp fun _ => rfl
noncomputable def psM (cb : Bool) (D l : Addr) (P R mk : Str) (k dress least : Int) (tP tR tk tm td tl : Tok) : List (Str × Value) := [(Str.ofString "close", .bool cb), (Str.ofString "due", .ref D), (Str.ofString "plain", .str P tP), (Str.ofString "row", .str R tR), (Str.ofString "size", .int k tk), (Str.ofString "mark", .str mk tm), (Str.ofString "dress", .int dress td), (Str.ofString "deck", .ref l), (Str.ofString "least", .int least tl)]
section
variable {w : World} {mean : ExcName → Option Value} {mg mb : Str → Option Value} {s : Shared} {h₀ g : Heap} {L L' a l T D : Addr} {cs : Scope} {cn : Str} {ccd : Value} {gd : Option (List Code)} {mm : Str → Option Value} {own news : List (Addr × Obj)} {E : Value → Shared → Prop} {Q : Flow → Shared → Prop}
  {s0 s1 s2 s3 s4 s5 s6 s7 s8 s9 s10 s11 s12 : Stmt} {tail : List Stmt} {sk : ScopeKind} {names : List (Str × NameKind)} {ig ic : Bool} {more : List (Str × Const)} {oL oN oc : Obj} {es : Array DictEntry} {en nn : Nat} {vs tv : List Value} {ns : List Int} {row mk : Str} {k dress least n M M2 m M3 : Int} {tR tP tk tm td tl t1 t2 : Tok} {cb : Bool}
theorem pl_same (_H : MarksOk2 ns mk dress) (hrow : row = rowOf mk k (ns.take k.toNat) (rangeKs 1 ((8 : Int) - 1).toNat)) : Str.ofString "229 )(" ++ (row ++ mk) ++ Str.ofString ")(|0|0|9|)" = plainT2 mk k ns ∧ row ++ mk = rowT mk k ns := by
  subst hrow; exact ⟨rfl, rfl⟩
theorem marks_N (H : MarksOk2 ns mk dress) (hrow : row = rowOf mk k (ns.take k.toNat) (rangeKs 1 ((8 : Int) - 1).toNat)) (hcb : cb = false) (hpf : p229 (plainT2 mk k ns) = .form) (e : marksTurn = s0 :: s1 :: s2 :: s3 :: s4 :: s5 :: s6 :: s7 :: tail) (es' : defScope 22 = Scope.mk sk names ig ic more)
    (PM : Marks w mean mg mb h₀ g L cs) (hdL : oL.data = .dict es en) (hS : SameBy oL oN) (X : (hd.heap_1 w.params).In g) (TT : Top hd.view_1 (looseW hd.view_1 [Str.ofString "IPV4_RE"]) mean mg mb g)
    (hl : g.IsList l vs.toArray) (hi : IntsAre vs ns) (hti : IntsAre tv (ns.take k.toNat)) (hoc : oc.data = .cell (some (.ref T))) (hk0 : 0 ≤ k) (hk7 : k < 7)
    (hoff : OwnOff own [L' + 1, L]) (q1 : @LT.lt Nat _ L L') (q2 : @LT.lt Nat _ (L' + 1) T) (q3 : @LT.lt Nat _ T D)
    (F : Fr g L' s.heap mm) (hps : ∀ p ∈ psM cb D l (Str.ofString "229 )(" ++ (row ++ mk) ++ Str.ofString ")(|0|0|9|)") (row ++ mk) mk k dress least tP tR tk tm td tl, mm p.1 = some p.2)
    (N : News g L' s.heap news) (hN : ∀ p ∈ (D, ⟨.type "tuple", none, .seq [.str (Str.ofString "form") t1, .str (Str.ofString "229 )(" ++ (row ++ mk) ++ Str.ofString ")(|0|0|9|)") t2].toArray 0, #[]⟩) :: (T, listOf tv.toArray nn) :: (L' + 1, oc) :: (L, oN) :: own, p ∈ news)
    (hQ : ∀ h' tk' oN' (m' : Str → Option Value), SameBy oL oN' → (∀ z, z ≠ Str.ofString "told" → z ≠ Str.ofString "kind" → z ≠ Str.ofString "code" → z ≠ Str.ofString "bent" → z ≠ Str.ofString "above" → z ≠ Str.ofString "calm" → z ≠ Str.ofString "least" → m' z = mm z) → (∃ n t', m' (Str.ofString "least") = some (.int n t') ∧ n = if 0 < k then max least (k + 1) else least) →
      Fr g L' h' m' → News g L' h' ((L' + 1, oc) :: (L, oN') :: own) → Q .next { s with heap := h', toks := tk' }) :
    wpAny (model PySem.Challenge.rw_xj0016_01.row.prog w) ((ktrTop 302 7 gd cn cs L a ccd [] []).deeper (envOfC (Str.ofString "_law_by_marks") (Scope.mk sk names ig ic more) L' 153 (.ref 152))) (execs tail (envOfC (Str.ofString "_law_by_marks") (Scope.mk sk names ig ic more) L' 153 (.ref 152))) Q E s := by
  obtain ⟨e1, e2⟩ := pl_same H hrow
  rw [e1] at hps hN
  rw [e2] at hps
  have ek := kst_here hps
  have F' : Fr g L' s.heap (kstB mm (psM cb D l (plainT2 mk k ns) (rowT mk k ns) mk k dress least tP tR tk tm td tl)) := by rw [ek]; exact F
  refine marks_tailN hcb e es' PM hdL hS X TT hl hi H.six hti hoc hk0 hk7 (Nat.le_of_eq H.mkl) (lenP2 (H.lenR k hk0 hk7)) (H.lenR k hk0 hk7) (H.okP k hk0 hk7) hpf rfl (Nat.le_of_eq (codeT_len k)) rfl (H.bent1 k hk0 hk7) (H.bent0 k hk0 hk7) (H.okB k hk0 hk7) (H.lenB k hk0 hk7) hoff q1 q2 q3 F' (kst_newsOf N hN) ?_
  intro h' tk' oN' m' hS' hz hl' F2 N2
  refine hQ h' tk' oN' m' hS' (fun z a1 a2 a3 a4 a5 a6 a7 => ?_) hl' F2 N2
  rw [hz z a1 a2 a3 a4 a5 a6 a7]
  exact congrFun ek z
theorem marks_C (H : MarksOk2 ns mk dress) (hrow : row = rowOf mk k (ns.take k.toNat) (rangeKs 1 ((8 : Int) - 1).toNat)) (hcb : cb = true) (hk1 : 0 < k) (a1 : M ∈ ns.take k.toNat) (b1 : ∀ a, a ∈ ns.take k.toNat → a ≤ M) (a2 : m ∈ ns.take k.toNat) (b2 : ∀ a, a ∈ ns.take k.toNat → m ≤ a) (hc : M - m = k - 1)
    (a3 : M3 ∈ ns.take k.toNat) (b3 : ∀ a, a ∈ ns.take k.toNat → a ≤ M3) (hn : PySem.intText? (txt (rng (M3 + 1) 1 (7 - M3).toNat)) = some n)
    (e : marksTurn = s0 :: s1 :: s2 :: s3 :: s4 :: s5 :: s6 :: s7 :: s8 :: s9 :: s10 :: s11 :: s12 :: tail) (es' : defScope 22 = Scope.mk sk names ig ic more)
    (PM : Marks w mean mg mb h₀ g L cs) (hdL : oL.data = .dict es en) (hS : SameBy oL oN) (X : (hd.heap_1 w.params).In g) (TT : Top hd.view_1 (looseW hd.view_1 [Str.ofString "IPV4_RE"]) mean mg mb g)
    (hl : g.IsList l vs.toArray) (hi : IntsAre vs ns) (hti : IntsAre tv (ns.take k.toNat)) (hoc : oc.data = .cell (some (.ref T))) (hk0 : 0 ≤ k) (hk7 : k < 7)
    (hoff : OwnOff own [L' + 1, L]) (q1 : @LT.lt Nat _ L L') (q2 : @LT.lt Nat _ (L' + 1) T) (q3 : @LT.lt Nat _ T D)
    (F : Fr g L' s.heap mm) (hps : ∀ p ∈ psM cb D l (Str.ofString "229 )(" ++ (row ++ mk) ++ Str.ofString ")(|0|0|9|)") (row ++ mk) mk k dress least tP tR tk tm td tl, mm p.1 = some p.2)
    (N : News g L' s.heap news) (hN : ∀ p ∈ (D, ⟨.type "tuple", none, .seq [(.str (Str.ofString "h") t1 : Value), .int n t2].toArray 0, #[]⟩) :: (T, listOf tv.toArray nn) :: (L' + 1, oc) :: (L, oN) :: own, p ∈ news)
    (hQ : ∀ h' tk' oN' (m' : Str → Option Value), SameBy oL oN' → (∀ z, z ≠ Str.ofString "told" → z ≠ Str.ofString "kind" → z ≠ Str.ofString "code" → z ≠ Str.ofString "bent" → z ≠ Str.ofString "above" → z ≠ Str.ofString "calm" → m' z = mm z) →
      Fr g L' h' m' → News g L' h' ((L' + 1, oc) :: (L, oN') :: own) → Q .next { s with heap := h', toks := tk' }) :
    wpAny (model PySem.Challenge.rw_xj0016_01.row.prog w) ((ktrTop 302 7 gd cn cs L a ccd [] []).deeper (envOfC (Str.ofString "_law_by_marks") (Scope.mk sk names ig ic more) L' 153 (.ref 152))) (execs (s8 :: s9 :: s10 :: s11 :: s12 :: tail) (envOfC (Str.ofString "_law_by_marks") (Scope.mk sk names ig ic more) L' 153 (.ref 152))) Q E s := by
  obtain ⟨e1, e2⟩ := pl_same H hrow
  rw [e1] at hps
  rw [e2] at hps
  have ek := kst_here hps
  have F' : Fr g L' s.heap (kstB mm (psM cb D l (plainT2 mk k ns) (rowT mk k ns) mk k dress least tP tR tk tm td tl)) := by rw [ek]; exact F
  have eM := isMax_eq a3 b3 a1 b1
  subst eM
  have hM1 := H.cards _ (List.mem_of_mem_take a3)
  obtain ⟨f1, f2, f3⟩ := port_facts hM1.1 hM1.2 hn
  have hcalm := H.calm k _ m hk1 hk7 ⟨a1, b1⟩ ⟨a2, b2⟩ hc
  have htx : (txt (ns.drop k.toNat)).length ≤ 500 := by
    rw [txt_len (cards9 H.cards _), List.length_drop, H.six]; (first | lia | omega)
  have hdx : (dots (txt (rng (M3 + 1) 1 (6 - M3).toNat))).length ≤ 500 := by
    have := dots_len4 (txt (rng (M3 + 1) 1 (6 - M3).toNat)); (first | lia | omega)
  refine marks_told hcb e es' PM hdL hS X TT hl hi H.six hti hoc hk0 hk7 (Nat.le_of_eq H.mkl) (lenP2 (H.lenR k hk0 hk7)) (H.lenR k hk0 hk7) (H.okP k hk0 hk7) (H.close k _ m hk1 hk7 ⟨a1, b1⟩ ⟨a2, b2⟩ hc) hn rfl (Nat.le_of_eq (codeT_len k)) rfl (H.bent1 k hk0 hk7) (H.bent0 k hk0 hk7) (H.okB k hk0 hk7) (H.lenB k hk0 hk7) hoff q1 q2 q3 F' (kst_newsOf N hN) ?_
  intro h' tk' oN' D1 t1' t2' m' hS' hz hD1 F2 N2
  have hz' : ∀ z, z ≠ Str.ofString "told" → z ≠ Str.ofString "kind" → z ≠ Str.ofString "code" → z ≠ Str.ofString "bent" → m' z = mm z := fun z a1 a2 a3 a4 => (hz z a1 a2 a3 a4).trans (congrFun ek z)
  have pk : ∀ x v, (x, v) ∈ psM cb D l (plainT2 mk k ns) (rowT mk k ns) mk k dress least tP tR tk tm td tl → mm x = some v := fun x v h => hps _ h
  have hps2 : ∀ p ∈ [(Str.ofString "told", Value.ref D1), (Str.ofString "close", .bool cb), (Str.ofString "size", .int k tk), (Str.ofString "deck", .ref l), (Str.ofString "least", .int least tl)], m' p.1 = some p.2 := by
    refine List.forall_mem_cons.mpr ⟨hD1, List.forall_mem_cons.mpr ⟨?_, List.forall_mem_cons.mpr ⟨?_, List.forall_mem_cons.mpr ⟨?_, List.forall_mem_cons.mpr ⟨?_, List.forall_mem_nil _⟩⟩⟩⟩⟩
    · exact (hz' (Str.ofString "close") (by decide +kernel) (by decide +kernel) (by decide +kernel) (by decide +kernel)).trans (pk _ _ (by unfold psM; simp))
    · exact (hz' (Str.ofString "size") (by decide +kernel) (by decide +kernel) (by decide +kernel) (by decide +kernel)).trans (pk _ _ (by unfold psM; simp))
    · exact (hz' (Str.ofString "deck") (by decide +kernel) (by decide +kernel) (by decide +kernel) (by decide +kernel)).trans (pk _ _ (by unfold psM; simp))
    · exact (hz' (Str.ofString "least") (by decide +kernel) (by decide +kernel) (by decide +kernel) (by decide +kernel)).trans (pk _ _ (by unfold psM; simp))
  have ek2 := kst_here hps2
  refine marks_above (s := { s with heap := h', toks := tk' }) hcb e es' X TT hl hi H.six hti hoc hk0 hk7 f1 H.cards a1 b1 hk1 ⟨by rw [f2]; exact hcalm⟩ (by rw [f2]; (first | lia | omega)) (by rw [f2]; exact hdx) htx hoff q1 q2 (fr_kst _ F2 hps2) N2 ?_
  intro h2 tk2 m2 hz2 F3 N3
  refine hQ h2 tk2 oN' m2 hS' (fun z a1 a2 a3 a4 a5 a6 => ?_) F3 N3
  rw [hz2 z a5 a6]
  exact (congrFun ek2 z).trans (hz' z a1 a2 a3 a4)
end
end Mine
namespace Mine
section
variable {w : World} {mean : ExcName → Option Value} {mg mb : Str → Option Value} {s : Shared} {g : Heap} {L L' a T : Addr} {cs : Scope} {cn : Str} {ccd : Value} {gd : Option (List Code)} {m : Str → Option Value} {own : List (Addr × Obj)} {Q : Flow → Shared → Prop}
  {s0 s1 s2 : Stmt} {tail : List Stmt} {sk : ScopeKind} {names : List (Str × NameKind)} {ig ic : Bool} {more : List (Str × Const)} {oc : Obj} {nn : Nat} {tv : List Value} {ns : List Int} {mk : Str} {k : Int} {tR tk tm : Tok}
set_option maxHeartbeats 1000000 in
theorem row_loop (e : marksTurn = s0 :: s1 :: s2 :: tail) (es' : defScope 22 = Scope.mk sk names ig ic more) (X : (hd.heap_1 w.params).In g) (TT : Top hd.view_1 (looseW hd.view_1 [Str.ofString "IPV4_RE"]) mean mg mb g)
    (hti : IntsAre tv (ns.take k.toNat)) (hoc : oc.data = .cell (some (.ref T))) (hk0 : 0 ≤ k) (hk7 : k < 7) (hmk : mk.length = 1)
    (F : Fr g L' s.heap m) (hps : ∀ p ∈ [(Str.ofString "row", Value.str mk tR), (Str.ofString "size", .int k tk), (Str.ofString "mark", .str mk tm)], m p.1 = some p.2)
    (N : News g L' s.heap ((T, listOf tv.toArray nn) :: (L' + 1, oc) :: own))
    (hQ : ∀ h' tk' R tR' (m' : Str → Option Value), R = rowOf mk k (ns.take k.toNat) (rangeKs 1 ((8 : Int) - 1).toNat) → R.length ≤ 15 → (∀ z, z ≠ Str.ofString "cell" → z ≠ Str.ofString "row" → m' z = m z) → m' (Str.ofString "row") = some (.str R tR') →
      Fr g L' h' m' → News g L' h' ((T, listOf tv.toArray nn) :: (L' + 1, oc) :: own) → Q .next { s with heap := h', toks := tk' }) :
    wpAny (model PySem.Challenge.rw_xj0016_01.row.prog w) ((ktrTop 302 7 gd cn cs L a ccd [] []).deeper (envOfC (Str.ofString "_law_by_marks") (Scope.mk sk names ig ic more) L' 153 (.ref 152))) (exec s2 (envOfC (Str.ofString "_law_by_marks") (Scope.mk sk names ig ic more) L' 153 (.ref 152))) Q (fun _ _ => False) s := by
  w_top off
  k_with_none
  k_with "own InvEndN" => (kst_close)
  k_with "own k_ne" => (refine neN ?_; (try dsimp only); first | exact Nat.ne_of_gt (by with_reducible assumption) | exact Nat.ne_of_lt (by with_reducible assumption) | exact Nat.ne_of_gt (And.left (by with_reducible assumption)) | exact Nat.ne_of_lt (And.left (by with_reducible assumption)) | exact Nat.ne_of_gt (And.right (by with_reducible assumption)) | exact Nat.ne_of_lt (And.right (by with_reducible assumption)) | exact Nat.ne_of_gt (And.left (And.right (by with_reducible assumption))) | exact Nat.ne_of_lt (And.left (And.right (by with_reducible assumption))) | exact Nat.ne_of_gt (And.right (And.right (by with_reducible assumption))) | exact Nat.ne_of_lt (And.right (And.right (by with_reducible assumption))) | exact Nat.ne_of_gt (And.left (And.right (And.right (by with_reducible assumption)))) | exact Nat.ne_of_lt (And.left (And.right (And.right (by with_reducible assumption)))) | exact Nat.ne_of_gt (And.right (And.right (And.right (by with_reducible assumption)))) | exact Nat.ne_of_lt (And.right (And.right (And.right (by with_reducible assumption)))) | exact Nat.ne_of_gt (And.left (And.right (And.right (And.right (by with_reducible assumption))))) | exact Nat.ne_of_lt (And.left (And.right (And.right (And.right (by with_reducible assumption))))) | exact Nat.ne_of_gt (And.right (And.right (And.right (And.right (by with_reducible assumption))))) | exact Nat.ne_of_lt (And.right (And.right (And.right (And.right (by with_reducible assumption))))) | exact Nat.ne_of_gt (And.left (And.right (And.right (And.right (And.right (by with_reducible assumption)))))) | exact Nat.ne_of_lt (And.left (And.right (And.right (And.right (And.right (by with_reducible assumption)))))) | exact Nat.ne_of_gt (And.right (And.right (And.right (And.right (And.right (by with_reducible assumption)))))) | exact Nat.ne_of_lt (And.right (And.right (And.right (And.right (And.right (by with_reducible assumption)))))) | exact Nat.ne_of_gt (And.left (And.right (And.right (And.right (And.right (And.right (by with_reducible assumption))))))) | exact Nat.ne_of_lt (And.left (And.right (And.right (And.right (And.right (And.right (by with_reducible assumption))))))) | exact Nat.ne_of_gt (And.right (And.right (And.right (And.right (And.right (And.right (by with_reducible assumption))))))) | exact Nat.ne_of_lt (And.right (And.right (And.right (And.right (And.right (And.right (by with_reducible assumption))))))) | exact Nat.ne_of_gt (And.left (And.right (And.right (And.right (And.right (And.right (And.right (by with_reducible assumption)))))))) | exact Nat.ne_of_lt (And.left (And.right (And.right (And.right (And.right (And.right (And.right (by with_reducible assumption)))))))) | exact Nat.ne_of_gt (And.right (And.right (And.right (And.right (And.right (And.right (And.right (by with_reducible assumption)))))))) | exact Nat.ne_of_lt (And.right (And.right (And.right (And.right (And.right (And.right (And.right (by with_reducible assumption)))))))) | exact Nat.ne_of_gt (And.left (And.right (And.right (And.right (And.right (And.right (And.right (And.right (by with_reducible assumption))))))))) | exact Nat.ne_of_lt (And.left (And.right (And.right (And.right (And.right (And.right (And.right (And.right (by with_reducible assumption))))))))) | exact Nat.ne_of_gt (And.right (And.right (And.right (And.right (And.right (And.right (And.right (And.right (by with_reducible assumption))))))))) | exact Nat.ne_of_lt (And.right (And.right (And.right (And.right (And.right (And.right (And.right (And.right (by with_reducible assumption))))))))) | exact Nat.ne_of_gt (And.left (And.right (And.right (And.right (And.right (And.right (And.right (And.right (And.right (by with_reducible assumption)))))))))) | exact Nat.ne_of_lt (And.left (And.right (And.right (And.right (And.right (And.right (And.right (And.right (And.right (by with_reducible assumption)))))))))) | exact Nat.ne_of_gt (And.right (And.right (And.right (And.right (And.right (And.right (And.right (And.right (And.right (by with_reducible assumption)))))))))) | exact Nat.ne_of_lt (And.right (And.right (And.right (And.right (And.right (And.right (And.right (And.right (And.right (by with_reducible assumption)))))))))) | exact Nat.ne_of_gt (And.left (And.right (And.right (And.right (And.right (And.right (And.right (And.right (And.right (And.right (by with_reducible assumption))))))))))) | exact Nat.ne_of_lt (And.left (And.right (And.right (And.right (And.right (And.right (And.right (And.right (And.right (And.right (by with_reducible assumption))))))))))) | exact Nat.ne_of_gt (And.right (And.right (And.right (And.right (And.right (And.right (And.right (And.right (And.right (And.right (by with_reducible assumption))))))))))) | exact Nat.ne_of_lt (And.right (And.right (And.right (And.right (And.right (And.right (And.right (And.right (And.right (And.right (by with_reducible assumption))))))))))) | exact Nat.ne_of_gt (And.left (And.right (And.right (And.right (And.right (And.right (And.right (And.right (And.right (And.right (And.right (by with_reducible assumption)))))))))))) | exact Nat.ne_of_lt (And.left (And.right (And.right (And.right (And.right (And.right (And.right (And.right (And.right (And.right (And.right (by with_reducible assumption)))))))))))) | exact Nat.ne_of_gt (And.right (And.right (And.right (And.right (And.right (And.right (And.right (And.right (And.right (And.right (And.right (by with_reducible assumption)))))))))))) | exact Nat.ne_of_lt (And.right (And.right (And.right (And.right (And.right (And.right (And.right (And.right (And.right (And.right (And.right (by with_reducible assumption)))))))))))) | exact Nat.ne_of_gt (And.left (And.right (And.right (And.right (And.right (And.right (And.right (And.right (And.right (And.right (And.right (And.right (by with_reducible assumption))))))))))))) | exact Nat.ne_of_lt (And.left (And.right (And.right (And.right (And.right (And.right (And.right (And.right (And.right (And.right (And.right (And.right (by with_reducible assumption))))))))))))) | exact Nat.ne_of_gt (And.right (And.right (And.right (And.right (And.right (And.right (And.right (And.right (And.right (And.right (And.right (And.right (by with_reducible assumption))))))))))))) | exact Nat.ne_of_lt (And.right (And.right (And.right (And.right (And.right (And.right (And.right (And.right (And.right (And.right (And.right (And.right (by with_reducible assumption))))))))))))) | exact Nat.ne_of_gt (And.left (And.right (And.right (And.right (And.right (And.right (And.right (And.right (And.right (And.right (And.right (And.right (And.right (by with_reducible assumption)))))))))))))) | exact Nat.ne_of_lt (And.left (And.right (And.right (And.right (And.right (And.right (And.right (And.right (And.right (And.right (And.right (And.right (And.right (by with_reducible assumption)))))))))))))) | exact Nat.ne_of_gt (And.right (And.right (And.right (And.right (And.right (And.right (And.right (And.right (And.right (And.right (And.right (And.right (And.right (by with_reducible assumption)))))))))))))) | exact Nat.ne_of_lt (And.right (And.right (And.right (And.right (And.right (And.right (And.right (And.right (And.right (And.right (And.right (And.right (And.right (by with_reducible assumption)))))))))))))) | exact Nat.ne_of_gt (And.left (And.right (And.right (And.right (And.right (And.right (And.right (And.right (And.right (And.right (And.right (And.right (And.right (And.right (by with_reducible assumption))))))))))))))) | exact Nat.ne_of_lt (And.left (And.right (And.right (And.right (And.right (And.right (And.right (And.right (And.right (And.right (And.right (And.right (And.right (And.right (by with_reducible assumption))))))))))))))) | omega)
  have ek : kstB m [(Str.ofString "row", Value.str mk tR), (Str.ofString "size", .int k tk), (Str.ofString "mark", .str mk tm)] = m := by funext z; exact kstB_eq hps fun _ => rfl
  replace F := fr_kst _ F hps
  clear hps
  injection e with e0 e
  injection e with e1 e
  injection e with e2 e
  subst e2
  injection es' with f0 f1 f2 f3 f4
  subst f0 f1 f2 f3 f4
  clear e0 e1 e
  (try dsimp only [kstB] at F)
  have hM := kstMark
  revert X TT
  k_fill
  intro X TT
  (try k_fold)
  (k_with "state" => first
    | exact row_start (by assumption)
    | exact row_state (by first | exact rs1 (by assumption) (by assumption) | exact rs4 (by assumption) (by assumption) | exact rs2 (by assumption) (by assumption) (by assumption) | exact rs3 (by assumption) (by assumption) (by assumption) | exact rs5 (by assumption) (by assumption) (by assumption) | exact rs6 (by assumption) (by assumption) (by assumption)) (by assumption) (by assumption) (by assumption) (by omega) (by omega))
  (k_with "pyIter ref" => k_state_short (fun pre row => row.length ≤ 1 + 2 * pre.length ∧ row = rowOf mk k (ns.take k.toNat) pre) "row")
  k_steps
  · rename Fr _ _ _ _ => kF; rename News _ _ _ _ => kN
    rename _ = rowOf _ _ _ _ => kP2
    rename _ ≤ 1 + 2 * _ => kP1
    refine' hQ _ _ _ _ _ kP2 ?za ?zb ?zc kF (kst_newsOf kN ?zd)
    case za => exact Nat.le_trans kP1 (by rw [rangeKs_length]; decide)
    case zb =>
      intro z h1 h2
      refine Eq.trans ?_ (congrFun ek z)
      simp [kstB, h1, h2]
    case zc => with_unfolding_all rfl
    case zd => intro p hp; exact hp
end
end Mine
namespace Mine
theorem take_bnd2 {ns : List Int} {mk : Str} {d : Int} (H : MarksOk2 ns mk d) {M : Int} {j : Nat} (h : M ∈ ns.take j) : 1 ≤ M ∧ M ≤ 6 := H.cards _ (List.mem_of_mem_take h)
theorem bare_form {i : Int} : p229 (Str.ofString "229 2 " ++ Str.ofString (toString (i.fmod 2)) ++ Str.ofString " 2)") = .form := by
  have h : i.fmod 2 = 0 ∨ i.fmod 2 = 1 := by have := Int.fmod_nonneg_of_pos i (b := 2) (by decide); have := Int.fmod_lt_of_pos i (b := 2) (by decide); (first | lia | omega)
  rcases h with h | h <;> rw [h] <;> exact @of_decide_eq_true _ (saidDec _ _) (by decide +kernel)
theorem dig_len (n : Int) (h0 : 0 ≤ n) (h1 : n < 10) : (Str.ofString (toString n)).length = 1 := by
  obtain ⟨k, rfl⟩ := Int.eq_ofNat_of_zero_le h0
  have hk : k < 10 := by (first | lia | omega)
  match k, hk with
  | 0, _ | 1, _ | 2, _ | 3, _ | 4, _ | 5, _ | 6, _ | 7, _ | 8, _ | 9, _ => decide +kernel
theorem bare_len {i : Int} : (Str.ofString "229 2 " ++ Str.ofString (toString (i.fmod 2)) ++ Str.ofString " 2)").length ≤ 500 := by
  have := Int.fmod_nonneg_of_pos i (b := 2) (by decide); have := Int.fmod_lt_of_pos i (b := 2) (by decide)
  rw [Str.length_append, Str.length_append, dig_len _ (by (first | lia | omega)) (by (first | lia | omega))]
  decide +kernel
theorem mem_l {α : Type} {l r : List α} : ∀ p ∈ l, p ∈ l ++ r := fun _ h => List.mem_append_left _ h
noncomputable def Told (p : Prop) : Prop := p
noncomputable def RowAt (p : Prop) : Prop := p
theorem kst_here3 {m : Str → Option Value} {ps : List (Str × Value)} (hp : ∀ p ∈ ps, m p.1 = some p.2) : kstB m ps = m := by funext z; exact kstB_eq hp fun _ => rfl
theorem map_turn {m9 m0 : Str → Option Value} {v : Value} (hz : ∀ z, z ≠ Str.ofString "cell" → z ≠ Str.ofString "row" → m9 z = m0 z) (hr : m9 (Str.ofString "row") = some v) :
    m9 = fun z => if z = Str.ofString "cell" then m9 z else if z = Str.ofString "row" then some v else m0 z := by
  funext z
  by_cases h1 : z = Str.ofString "cell"
  · rw [if_pos h1]
  · rw [if_neg h1]
    by_cases h2 : z = Str.ofString "row"
    · rw [if_pos h2, h2, hr]
    · rw [if_neg h2, hz z h1 h2]
theorem least_nil {ns : List Int} : (1 : Int) = leastM ns ([] : List Int).length := rfl
set_option maxHeartbeats 4000000 in
theorem t_marks (w : World) (l : Addr) (vs : List Value) (ns : List Int) (dress : Int) (t : Tok) : TelM w 302 7 153 [.ref l, .int dress t] (fun h => h.IsList l vs.toArray ∧ IntsAre vs ns ∧ ns.length = 6 ∧ MarksOk2 ns (Txt.item (Str.ofString "|!#/") ((dress.fdiv 16384).fmod 4)) dress) (fun r => ∃ t', r = .int (leastM ns 7) t') := by
  w_top off
  k_with_none
  k_with "own call ref" => ((k_here; (with_reducible show wpAny _ _ (call (Value.ref 148) _) _ _ _); k_dflt (refine' reply_call (by assumption) (by assumption) (by k_asm) (by k_asm) (by assumption) (by k_updF) (by exact rfl) (by walk_at "m_len") (by walk_at "m_port") ?_; k_whole); intro D' vs' o' h' tk' n' F' N' O' S'; (try dsimp only at N'); (try simp only [AllOff, allOff_append, and_true] at n'); walk_at "m_said"; (try k_sweep)))
  k_with "own m_len" => (first | exact bare_len | omega)
  k_with "own m_form" => (with_reducible exact bare_form)
  k_with "own m_port" => (exact no_port (.inl (by walk_at "m_form")))
  k_with "own m_said" => (((rename SaidVals _ _ _ => kR); (have kS := said_form (by walk_at "m_form") kR); clear kR; obtain ⟨t1', t2', e'⟩ := kS; subst e'))
  k_with "own execs cons" => ((k_here; (with_reducible show wpAny _ _ (execs (Stmt.Assign [Expr.Name (Str.ofString "told") _] _ _ :: _) _) _ _ _); k_extra "told"))
  k_with "own execs cons Assign cons" => ((k_here; (with_reducible show wpAny _ _ (execs (Stmt.Assign [Expr.Name (Str.ofString "told") _] _ _ :: _) _) _ _ _); k_extra "told"))
  k_with "own call type:int" => ((k_here; (with_reducible show wpAny _ _ (call (Value.type "int") [Value.str (txt _) _]) _ _ _); k_dflt (refine' int_rng (by exact take_bnd2 (by assumption) (by assumption)) ?_); intro n' hn'))
  k_with "own call ref" => ((k_here; (with_reducible show wpAny _ _ (call (Value.ref 134) _) _ _ _); k_dflt (refine' textR_call (by k_asm) (by k_asm) (by k_asm) (by k_asm) (by assumption) (by exact rngUp8 _ (take_bnd2 (by assumption) (by assumption)).1 (take_bnd2 (by assumption) (by assumption)).2) ?_; k_whole); intro h9 tk9 t9 F9 N9; (try k_sweep); (try dsimp only); (try k_fold)))
  k_with "own m_memq" => ((first | exact List.Mem.head _ | (refine List.Mem.tail _ ?_; walk_at "m_memq")))
  k_with "own m_ok" => (with_reducible first | exact ok_of _ | (refine ok_app ?_ ?_ <;> walk_at "m_ok") | assumption)
  k_with "own compareOp Eq ref ref" => ((k_here; (with_reducible show wpAny _ _ (compareOp CmpOp.Eq (Value.ref _) (Value.ref _)) _ _ _); k_dflt (refine' eq_ss (by k_asm) (by k_mem) (by k_mem) (by walk_at "m_ok") (by walk_at "m_ok") (by ke_room) ?_; k_whole)))
  k_with "own compareOp NotEq ref ref" => ((k_here; (with_reducible show wpAny _ _ (compareOp CmpOp.NotEq (Value.ref _) (Value.ref _)) _ _ _); k_dflt (first
    | (refine' ne_ss (by k_asm) (by k_mem) (by k_mem) (by walk_at "m_ok") (by walk_at "m_ok") (by ke_room) ?_; k_whole)
    | (refine' ne_si (by k_asm) (by k_mem) (by k_mem) (by walk_at "m_ok") (by ke_room) ?_; k_whole))))
  k_with "own InvEndN" => (kst_close)
  k_with "own exec For Name Call cons nil" => ((k_here; (with_reducible show wpAny _ _ (exec (Stmt.For (Expr.Name (Str.ofString "cell") _) _ _ _ _) _) _ _ _); k_dflt (show RowAt _)))
  k_with "own k_ne" => (refine neN ?_; (try dsimp only); first | exact Nat.ne_of_gt (by with_reducible assumption) | exact Nat.ne_of_lt (by with_reducible assumption) | exact Nat.ne_of_gt (And.left (by with_reducible assumption)) | exact Nat.ne_of_lt (And.left (by with_reducible assumption)) | exact Nat.ne_of_gt (And.right (by with_reducible assumption)) | exact Nat.ne_of_lt (And.right (by with_reducible assumption)) | exact Nat.ne_of_gt (And.left (And.right (by with_reducible assumption))) | exact Nat.ne_of_lt (And.left (And.right (by with_reducible assumption))) | exact Nat.ne_of_gt (And.right (And.right (by with_reducible assumption))) | exact Nat.ne_of_lt (And.right (And.right (by with_reducible assumption))) | exact Nat.ne_of_gt (And.left (And.right (And.right (by with_reducible assumption)))) | exact Nat.ne_of_lt (And.left (And.right (And.right (by with_reducible assumption)))) | exact Nat.ne_of_gt (And.right (And.right (And.right (by with_reducible assumption)))) | exact Nat.ne_of_lt (And.right (And.right (And.right (by with_reducible assumption)))) | exact Nat.ne_of_gt (And.left (And.right (And.right (And.right (by with_reducible assumption))))) | exact Nat.ne_of_lt (And.left (And.right (And.right (And.right (by with_reducible assumption))))) | exact Nat.ne_of_gt (And.right (And.right (And.right (And.right (by with_reducible assumption))))) | exact Nat.ne_of_lt (And.right (And.right (And.right (And.right (by with_reducible assumption))))) | exact Nat.ne_of_gt (And.left (And.right (And.right (And.right (And.right (by with_reducible assumption)))))) | exact Nat.ne_of_lt (And.left (And.right (And.right (And.right (And.right (by with_reducible assumption)))))) | exact Nat.ne_of_gt (And.right (And.right (And.right (And.right (And.right (by with_reducible assumption)))))) | exact Nat.ne_of_lt (And.right (And.right (And.right (And.right (And.right (by with_reducible assumption)))))) | exact Nat.ne_of_gt (And.left (And.right (And.right (And.right (And.right (And.right (by with_reducible assumption))))))) | exact Nat.ne_of_lt (And.left (And.right (And.right (And.right (And.right (And.right (by with_reducible assumption))))))) | exact Nat.ne_of_gt (And.right (And.right (And.right (And.right (And.right (And.right (by with_reducible assumption))))))) | exact Nat.ne_of_lt (And.right (And.right (And.right (And.right (And.right (And.right (by with_reducible assumption))))))) | exact Nat.ne_of_gt (And.left (And.right (And.right (And.right (And.right (And.right (And.right (by with_reducible assumption)))))))) | exact Nat.ne_of_lt (And.left (And.right (And.right (And.right (And.right (And.right (And.right (by with_reducible assumption)))))))) | exact Nat.ne_of_gt (And.right (And.right (And.right (And.right (And.right (And.right (And.right (by with_reducible assumption)))))))) | exact Nat.ne_of_lt (And.right (And.right (And.right (And.right (And.right (And.right (And.right (by with_reducible assumption)))))))) | exact Nat.ne_of_gt (And.left (And.right (And.right (And.right (And.right (And.right (And.right (And.right (by with_reducible assumption))))))))) | exact Nat.ne_of_lt (And.left (And.right (And.right (And.right (And.right (And.right (And.right (And.right (by with_reducible assumption))))))))) | exact Nat.ne_of_gt (And.right (And.right (And.right (And.right (And.right (And.right (And.right (And.right (by with_reducible assumption))))))))) | exact Nat.ne_of_lt (And.right (And.right (And.right (And.right (And.right (And.right (And.right (And.right (by with_reducible assumption))))))))) | exact Nat.ne_of_gt (And.left (And.right (And.right (And.right (And.right (And.right (And.right (And.right (And.right (by with_reducible assumption)))))))))) | exact Nat.ne_of_lt (And.left (And.right (And.right (And.right (And.right (And.right (And.right (And.right (And.right (by with_reducible assumption)))))))))) | exact Nat.ne_of_gt (And.right (And.right (And.right (And.right (And.right (And.right (And.right (And.right (And.right (by with_reducible assumption)))))))))) | exact Nat.ne_of_lt (And.right (And.right (And.right (And.right (And.right (And.right (And.right (And.right (And.right (by with_reducible assumption)))))))))) | exact Nat.ne_of_gt (And.left (And.right (And.right (And.right (And.right (And.right (And.right (And.right (And.right (And.right (by with_reducible assumption))))))))))) | exact Nat.ne_of_lt (And.left (And.right (And.right (And.right (And.right (And.right (And.right (And.right (And.right (And.right (by with_reducible assumption))))))))))) | exact Nat.ne_of_gt (And.right (And.right (And.right (And.right (And.right (And.right (And.right (And.right (And.right (And.right (by with_reducible assumption))))))))))) | exact Nat.ne_of_lt (And.right (And.right (And.right (And.right (And.right (And.right (And.right (And.right (And.right (And.right (by with_reducible assumption))))))))))) | exact Nat.ne_of_gt (And.left (And.right (And.right (And.right (And.right (And.right (And.right (And.right (And.right (And.right (And.right (by with_reducible assumption)))))))))))) | exact Nat.ne_of_lt (And.left (And.right (And.right (And.right (And.right (And.right (And.right (And.right (And.right (And.right (And.right (by with_reducible assumption)))))))))))) | exact Nat.ne_of_gt (And.right (And.right (And.right (And.right (And.right (And.right (And.right (And.right (And.right (And.right (And.right (by with_reducible assumption)))))))))))) | exact Nat.ne_of_lt (And.right (And.right (And.right (And.right (And.right (And.right (And.right (And.right (And.right (And.right (And.right (by with_reducible assumption)))))))))))) | exact Nat.ne_of_gt (And.left (And.right (And.right (And.right (And.right (And.right (And.right (And.right (And.right (And.right (And.right (And.right (by with_reducible assumption))))))))))))) | exact Nat.ne_of_lt (And.left (And.right (And.right (And.right (And.right (And.right (And.right (And.right (And.right (And.right (And.right (And.right (by with_reducible assumption))))))))))))) | exact Nat.ne_of_gt (And.right (And.right (And.right (And.right (And.right (And.right (And.right (And.right (And.right (And.right (And.right (And.right (by with_reducible assumption))))))))))))) | exact Nat.ne_of_lt (And.right (And.right (And.right (And.right (And.right (And.right (And.right (And.right (And.right (And.right (And.right (And.right (by with_reducible assumption))))))))))))) | exact Nat.ne_of_gt (And.left (And.right (And.right (And.right (And.right (And.right (And.right (And.right (And.right (And.right (And.right (And.right (And.right (by with_reducible assumption)))))))))))))) | exact Nat.ne_of_lt (And.left (And.right (And.right (And.right (And.right (And.right (And.right (And.right (And.right (And.right (And.right (And.right (And.right (by with_reducible assumption)))))))))))))) | exact Nat.ne_of_gt (And.right (And.right (And.right (And.right (And.right (And.right (And.right (And.right (And.right (And.right (And.right (And.right (And.right (by with_reducible assumption)))))))))))))) | exact Nat.ne_of_lt (And.right (And.right (And.right (And.right (And.right (And.right (And.right (And.right (And.right (And.right (And.right (And.right (And.right (by with_reducible assumption)))))))))))))) | exact Nat.ne_of_gt (And.left (And.right (And.right (And.right (And.right (And.right (And.right (And.right (And.right (And.right (And.right (And.right (And.right (And.right (by with_reducible assumption))))))))))))))) | exact Nat.ne_of_lt (And.left (And.right (And.right (And.right (And.right (And.right (And.right (And.right (And.right (And.right (And.right (And.right (And.right (And.right (by with_reducible assumption))))))))))))))) | omega)
  unfold TelM
  k_fill
  intro mean mg mb gd cn cs L a ccd h₀ m s Q E hkind F X T hpre hret
  obtain ⟨hl, hi, hz, H⟩ := hpre
  refine wpAny_call ?_
  k_dflt (refine' marks_enter ?k1 ?k2 ?k3 ?k5 ?k6 ?k7 ?k8 ?k9 ?kB ?kD ?_ ?c2 ?c3 ?c4; (case k1 => assumption); (case k2 => k_asm); (case k3 => k_asm); (case k5 => k_asm); (case k6 => k_is); (case k7 => k_is); (case k8 => decide); (case k9 => exact BindsTo.of_eq rfl); (case kB => exact rfl); (case kD => decide +kernel); (case c2 => exact rfl); (case c3 => exact rfl); (case c4 => exact rfl); k_whole)
  intro L' h' tk' cells' g oL es en P hdL hL hgs F' N' Y' hLL' X' T'
  have hg : g.IsList l vs.toArray := by
    obtain ⟨o, ho, hc, n, hd⟩ := hl
    refine ⟨o, hgs _ _ ho fun q => ?_, hc, n, hd⟩
    subst q
    rw [ho] at hL
    cases hL
    rw [hd] at hdL
    cases hdL
  clear F X T
  have hLN := ltN hLL'
  have hS : SameBy oL oL := .refl
  k_cells Y'
  (try simp only [List.cons_append, List.nil_append] at N')
  (try dsimp only)
  (try k_fold)
  (k_with "pyIter ref" => first
    | ((with_reducible show wpAny _ _ (pyIter (Value.ref _)) (fun it s₂ => LoopAtV _ _ _ _ _ (Str.ofString "size") _ _ _ it s₂) _ _); k_here; (rename Fr _ _ _ _ => lF'); (rename News _ _ _ _ => lN'); (rename IsRange _ _ _ _ _ _ _ _ => rgX); (with_unfolding_all refine' kst_range (σ := Obj × Obj × Int × Tok) (fun c => [(L' + 1, c.1), (L, c.2.1)]) (fun c => [(Str.ofString "least", .int c.2.2.1 c.2.2.2)]) (fun c => (∃ v, c.1.data = .cell v) ∧ SameBy oL c.2.1) [Str.ofString "row", Str.ofString "cell", Str.ofString "plain", Str.ofString "due", Str.ofString "close", Str.ofString "told", Str.ofString "kind", Str.ofString "code", Str.ofString "bent", Str.ofString "above", Str.ofString "calm"] (fun pre c => c.2.2.1 = leastM ns pre.length) (_, _, _, _) (by rfl) rgX (by decide) (by rfl) lF' ?kn ?kf ?kk ?kp ?_ ?_); (case kn => (with_unfolding_all refine' news_two lN' ?m1 ?m2; (case m1 => k_dflt (walk_at "m_memq")); (case m2 => k_dflt (walk_at "m_memq")))); (case kf => exact ⟨⟨_, by assumption⟩, by assumption⟩); (case kk => kst_all); (case kp => exact least_nil); (all_goals (try clear lF' lN')); (all_goals first
      | (rintro ⟨oc, oN, least, tl⟩ pre k tk0 u h tk own hk hlt hoff ⟨⟨cv, hcv⟩, hS⟩ hp F' N'; have hM := kstMark; have hk0 : 0 ≤ k := (by omega); have hl7 : pre.length < 7 := hlt; have hk7 : k < 7 := (by omega); (try dsimp only [kstB] at F'); (try dsimp only at N'); (try simp only [List.map_cons, List.map_nil] at hoff); (try simp only [List.nil_append, List.cons_append, List.append_nil] at N'); dsimp only at hcv hS hp)
      | (rintro ⟨oc, oN, least, tl⟩ u h tk ⟨⟨cv, hcv⟩, hS⟩ hp F' N'; (try dsimp only [kstB] at F'); (try dsimp only at N'); dsimp only at hcv hS hp)); (all_goals (try k_fold))))
  (k_with "told" => (show Told _))
  k_steps
  · unfold RowAt
    (rename Fr _ _ _ _ => kF)
    (rename News _ _ _ _ => kN)
    (rename IntsAre _ (List.take _ _) => kI)
    (rename _ = Data.cell (some (Value.ref _)) => koc)
    refine wpAny_noRaise ?_
    (with_unfolding_all refine' row_loop (own := (L, oN) :: own) (tk := tk0) (mk := Txt.item (Str.ofString "|!#/") ((dress.fdiv 16384).fmod 4)) (ns := ns) ?ye ?ys X' T' kI koc hk0 hk7 ?yk kF ?yF ?yN ?yQ)
    case yk => rfl
    case ye => with_unfolding_all rfl
    case ys => with_unfolding_all rfl
    case yF => kst_all
    case yN => exact kst_newsOf kN (by
      refine List.forall_mem_cons.mpr ⟨?_, List.forall_mem_cons.mpr ⟨?_, List.forall_mem_cons.mpr ⟨?_, ?_⟩⟩⟩
      · repeat (first | exact List.Mem.head _ | refine List.Mem.tail _ ?_)
      · repeat (first | exact List.Mem.head _ | refine List.Mem.tail _ ?_)
      · repeat (first | exact List.Mem.head _ | refine List.Mem.tail _ ?_)
      · intro p9 hp9; (repeat (first | exact hp9 | refine List.Mem.tail _ ?_)))
    case yQ =>
      intro h9 tk9 R9 tR9 m9 hR9 hRl9 hz9 hr9 F9 N9
      have F8 := F9
      rw [map_turn hz9 hr9] at F8
      clear F9 hz9 hr9 kF kN
      (try dsimp only)
      (try k_fold)
      k_steps
      · unfold Told
        (rename Fr _ _ _ _ => kF)
        (rename News _ _ _ _ => kN)
        (rename IntsAre _ (List.take _ _) => kI)
        (rename _ = Data.cell (some (Value.ref _)) => koc)
        (rename PySem.Obj => oc9)
        (rename PySem.intText? _ = some _ => kn)
        (rename (_ : Int) - _ = k - 1 => khc)
        (with_unfolding_all refine' marks_C H (by with_reducible assumption) ?hcb (by assumption) ?a1 ?b1 ?a2 ?b2 khc ?a3 ?b3 kn ?e ?e2 P hdL hS X' T' hg hi kI koc hk0 hk7 hoff hLN ?q2 ?q3 kF ?ps kN ?hN ?hQ)
        (case e => with_unfolding_all rfl)
        (case e2 => with_unfolding_all rfl)
        (case a1 => assumption)
        (case b1 => assumption)
        (case a2 => assumption)
        (case b2 => assumption)
        (case a3 => assumption)
        (case b3 => assumption)
        (case ps => (unfold psM; kst_all))
        (case hcb => (rw [beq_iff_eq]; assumption))
        (case hN => (refine List.forall_mem_cons.mpr ⟨?_, List.forall_mem_cons.mpr ⟨?_, List.forall_mem_cons.mpr ⟨?_, List.forall_mem_cons.mpr ⟨?_, ?_⟩⟩⟩⟩; (repeat (first | exact List.Mem.head _ | refine List.Mem.tail _ ?_)); (repeat (first | exact List.Mem.head _ | refine List.Mem.tail _ ?_)); (repeat (first | exact List.Mem.head _ | refine List.Mem.tail _ ?_)); (repeat (first | exact List.Mem.head _ | refine List.Mem.tail _ ?_)); (intro p9 hp9; (repeat (first | exact hp9 | refine List.Mem.tail _ ?_)))))
        (case q2 => first | assumption | omega)
        (case q3 => first | assumption | omega)
        (case hQ => (intro h9 tk9 oN9 m9 hS9 hz9 F9 N9; (with_unfolding_all refine' kst_end (oc9, oN9, least, tl) F9 N9 ?zn ?zo ?za ?zf ?zk ?zr ?zp); (case zn => (refine List.forall_mem_cons.mpr ⟨List.Mem.head _, List.forall_mem_cons.mpr ⟨List.Mem.tail _ (List.Mem.head _), List.forall_mem_nil _⟩⟩)); (case zo => exact fun p9 hp9 => List.Mem.tail _ (List.Mem.tail _ hp9)); (case za => rfl); (case zf => exact ⟨⟨_, koc⟩, hS9⟩); (case zk => exact List.forall_mem_cons.mpr ⟨(hz9 (Str.ofString "least") (by decide +kernel) (by decide +kernel) (by decide +kernel) (by decide +kernel) (by decide +kernel) (by decide +kernel)).trans (by with_unfolding_all rfl), List.forall_mem_nil _⟩); (case zr => (intro z h1 h2 h3; rw [hz9 z (by rintro rfl; exact absurd h3 (by decide +kernel)) (by rintro rfl; exact absurd h3 (by decide +kernel)) (by rintro rfl; exact absurd h3 (by decide +kernel)) (by rintro rfl; exact absurd h3 (by decide +kernel)) (by rintro rfl; exact absurd h3 (by decide +kernel)) (by rintro rfl; exact absurd h3 (by decide +kernel))]; revert z; kst_same)); (case zp => exact least_close hp hk (show 0 < k by assumption) ⟨by assumption, by assumption⟩ ⟨by assumption, by assumption⟩ khc)))
      · unfold Told
        (rename Fr _ _ _ _ => kF)
        (rename News _ _ _ _ => kN)
        (rename IntsAre _ (List.take _ _) => kI)
        (rename _ = Data.cell (some (Value.ref _)) => koc)
        (rename PySem.Obj => oc9)
        (rename (_ : Int) - _ ≠ k - 1 => khc)
        (with_unfolding_all refine' marks_N H (by with_reducible assumption) ?hcb (H.gap k _ _ (by assumption) hk7 ⟨?a1, ?b1⟩ ⟨?a2, ?b2⟩ khc) ?e ?e2 P hdL hS X' T' hg hi kI koc hk0 hk7 hoff hLN ?q2 ?q3 kF ?ps kN ?hN ?hQ)
        (case e => with_unfolding_all rfl)
        (case e2 => with_unfolding_all rfl)
        (case a1 => assumption)
        (case b1 => assumption)
        (case a2 => assumption)
        (case b2 => assumption)
        (case ps => (unfold psM; kst_all))
        (case hcb => (rw [beq_eq_false_iff_ne]; assumption))
        (case hN => (refine List.forall_mem_cons.mpr ⟨?_, List.forall_mem_cons.mpr ⟨?_, List.forall_mem_cons.mpr ⟨?_, List.forall_mem_cons.mpr ⟨?_, ?_⟩⟩⟩⟩; (repeat (first | exact List.Mem.head _ | refine List.Mem.tail _ ?_)); (repeat (first | exact List.Mem.head _ | refine List.Mem.tail _ ?_)); (repeat (first | exact List.Mem.head _ | refine List.Mem.tail _ ?_)); (repeat (first | exact List.Mem.head _ | refine List.Mem.tail _ ?_)); (intro p9 hp9; (repeat (first | exact hp9 | refine List.Mem.tail _ ?_)))))
        (case q2 => first | assumption | omega)
        (case q3 => first | assumption | omega)
        (case hQ => (intro h9 tk9 oN9 m9 hS9 hz9 hl9 F9 N9; obtain ⟨n9, t9, hl9, hn9⟩ := hl9; (with_unfolding_all refine' kst_end (oc9, oN9, n9, t9) F9 N9 ?zn ?zo ?za ?zf ?zk ?zr ?zp); (case zn => (refine List.forall_mem_cons.mpr ⟨List.Mem.head _, List.forall_mem_cons.mpr ⟨List.Mem.tail _ (List.Mem.head _), List.forall_mem_nil _⟩⟩)); (case zo => exact fun p9 hp9 => List.Mem.tail _ (List.Mem.tail _ hp9)); (case za => rfl); (case zf => exact ⟨⟨_, koc⟩, hS9⟩); (case zk => exact List.forall_mem_cons.mpr ⟨hl9, List.forall_mem_nil _⟩); (case zr => (intro z h1 h2 h3; rw [hz9 z (by rintro rfl; exact absurd h3 (by decide +kernel)) (by rintro rfl; exact absurd h3 (by decide +kernel)) (by rintro rfl; exact absurd h3 (by decide +kernel)) (by rintro rfl; exact absurd h3 (by decide +kernel)) (by rintro rfl; exact absurd h3 (by decide +kernel)) (by rintro rfl; exact absurd h3 (by decide +kernel)) (h2 _ (List.Mem.head _))]; revert z; kst_same)); (case zp => exact least_gap hp hk (show 0 < k by assumption) hn9 ⟨by assumption, by assumption⟩ ⟨by assumption, by assumption⟩ khc)))
      · exact absurd (show 0 < k by assumption) (by assumption)
      · unfold Told
        (rename Fr _ _ _ _ => kF)
        (rename News _ _ _ _ => kN)
        (rename IntsAre _ (List.take _ _) => kI)
        (rename _ = Data.cell (some (Value.ref _)) => koc)
        (rename PySem.Obj => oc9)
        (have kz : k = 0 := (by omega))
        (with_unfolding_all refine' marks_N H (by with_reducible assumption) ?hcb (kz ▸ H.open0) ?e ?e2 P hdL hS X' T' hg hi kI koc hk0 hk7 hoff hLN ?q2 ?q3 kF ?ps kN ?hN ?hQ)
        (case e => with_unfolding_all rfl)
        (case e2 => with_unfolding_all rfl)
        (case ps => (unfold psM; kst_all))
        (case hcb => (rw [decide_eq_false_iff_not]; assumption))
        (case hN => (refine List.forall_mem_cons.mpr ⟨?_, List.forall_mem_cons.mpr ⟨?_, List.forall_mem_cons.mpr ⟨?_, List.forall_mem_cons.mpr ⟨?_, ?_⟩⟩⟩⟩; (repeat (first | exact List.Mem.head _ | refine List.Mem.tail _ ?_)); (repeat (first | exact List.Mem.head _ | refine List.Mem.tail _ ?_)); (repeat (first | exact List.Mem.head _ | refine List.Mem.tail _ ?_)); (repeat (first | exact List.Mem.head _ | refine List.Mem.tail _ ?_)); (intro p9 hp9; (repeat (first | exact hp9 | refine List.Mem.tail _ ?_)))))
        (case q2 => first | assumption | omega)
        (case q3 => first | assumption | omega)
        (case hQ => (intro h9 tk9 oN9 m9 hS9 hz9 hl9 F9 N9; obtain ⟨n9, t9, hl9, hn9⟩ := hl9; (with_unfolding_all refine' kst_end (oc9, oN9, n9, t9) F9 N9 ?zn ?zo ?za ?zf ?zk ?zr ?zp); (case zn => (refine List.forall_mem_cons.mpr ⟨List.Mem.head _, List.forall_mem_cons.mpr ⟨List.Mem.tail _ (List.Mem.head _), List.forall_mem_nil _⟩⟩)); (case zo => exact fun p9 hp9 => List.Mem.tail _ (List.Mem.tail _ hp9)); (case za => rfl); (case zf => exact ⟨⟨_, koc⟩, hS9⟩); (case zk => exact List.forall_mem_cons.mpr ⟨hl9, List.forall_mem_nil _⟩); (case zr => (intro z h1 h2 h3; rw [hz9 z (by rintro rfl; exact absurd h3 (by decide +kernel)) (by rintro rfl; exact absurd h3 (by decide +kernel)) (by rintro rfl; exact absurd h3 (by decide +kernel)) (by rintro rfl; exact absurd h3 (by decide +kernel)) (by rintro rfl; exact absurd h3 (by decide +kernel)) (by rintro rfl; exact absurd h3 (by decide +kernel)) (h2 _ (List.Mem.head _))]; revert z; kst_same)); (case zp => exact least_zero hp hk (by assumption) hn9)))
  · show Back _ _ _
    unfold Back
    dsimp only
    refine hret _ _ _ (fun b o hb hn => F'.keep b o (hgs b o hb hn)) (fun o ho => ?_) ⟨tl, ?_⟩
    · obtain ⟨sl, hs⟩ := hS
      rw [hL] at ho
      injection ho with ho
      subst ho
      have := (N' (L, oN) (List.Mem.tail _ (List.Mem.head _))).1
      rw [hs] at this
      exact ⟨sl, this⟩
    · rw [hp, rangeKs_length]
end Mine
namespace Mine
noncomputable def horner (l : List Int) : Int := l.foldl (fun b c => 16 * b + c - 65) 0
noncomputable def hv (l : List UInt8) : Int := horner (l.map fun c => (c.toNat : Int))
theorem horner_step (l : List Int) (c : Int) : 16 * horner l + c - 65 = horner (l ++ [c]) := by unfold horner; rw [List.foldl_append]; rfl
theorem horner_from : ∀ (l : List Int) (b : Int), l.foldl (fun b c => 16 * b + c - 65) b = b * 16 ^ l.length + horner l
  | [], b => by simp [horner]
  | c :: l, b => by
    unfold horner
    rw [List.foldl_cons, List.foldl_cons, horner_from l, horner_from l (16 * 0 + c - 65), List.length_cons, Int.pow_succ]
    have e : (16 * b + c - 65) * 16 ^ l.length = b * (16 ^ l.length * 16) + (16 * 0 + c - 65) * 16 ^ l.length := by
      have : (16 * b + c - 65) = b * 16 + (16 * 0 + c - 65) := by (first | lia | omega)
      rw [this, Int.add_mul, Int.mul_assoc, Int.mul_comm 16 (16 ^ l.length)]
    rw [e, Int.add_assoc]
theorem hv_cons (c : UInt8) (l : List UInt8) : hv (c :: l) = ((c.toNat : Int) - 65) * 16 ^ l.length + hv l := by
  unfold hv horner
  rw [List.map_cons, List.foldl_cons, horner_from, List.length_map]
  have : (16 * 0 + (c.toNat : Int) - 65) = (c.toNat : Int) - 65 := by (first | lia | omega)
  rw [this]; rfl
theorem dig_toNat (n : Nat) : (UInt8.ofNat (65 + n % 16)).toNat = 65 + n % 16 := by
  rw [UInt8.toNat_ofNat']
  have : n % 16 < 16 := Nat.mod_lt _ (by decide)
  (first | lia | omega)
theorem apGo_hv : ∀ (f n : Nat) (acc : List UInt8), n < 16 ^ f → hv (apGo f n acc) = (n : Int) * 16 ^ acc.length + hv acc
  | 0, n, acc, h => by
    have : n = 0 := by simp at h; (first | lia | omega)
    subst this
    simp [apGo]
  | f + 1, n, acc, h => by
    rw [apGo]
    by_cases hn : n = 0
    · rw [if_pos hn, hn]; simp
    · rw [if_neg hn, apGo_hv f (n / 16) _ (by rw [Nat.pow_succ] at h; (first | lia | omega)), hv_cons, dig_toNat, List.length_cons, Int.pow_succ]
      have e : (n : Int) = ((n / 16 : Nat) : Int) * 16 + ((n % 16 : Nat) : Int) := by (first | lia | omega)
      have e2 : (((65 + n % 16 : Nat) : Int) - 65) = ((n % 16 : Nat) : Int) := by (first | lia | omega)
      rw [e2]
      have e3 : (n : Int) * 16 ^ acc.length = ((n / 16 : Nat) : Int) * (16 ^ acc.length * 16) + ((n % 16 : Nat) : Int) * 16 ^ acc.length := by
        have e4 := congrArg (· * (16 : Int) ^ acc.length) e
        simp only [Int.add_mul, Int.mul_assoc, Int.mul_comm 16 ((16 : Int) ^ acc.length)] at e4
        exact e4
      rw [e3]; (first | lia | omega)
theorem ap_hv {n : Nat} (h : n < 2 ^ 64) : horner ((ap n).map fun c => (c.toNat : Int)) = (n : Int) := by
  have e16 : (16 : Nat) ^ 16 = 2 ^ 64 := by decide
  have := apGo_hv 16 n [] (by (first | lia | omega))
  unfold ap
  show hv _ = _
  rw [this]
  simp [hv, horner]
theorem apGo_len : ∀ (f n : Nat) (acc : List UInt8), (apGo f n acc).length ≤ f + acc.length
  | 0, n, acc => by simp [apGo]
  | f + 1, n, acc => by
    rw [apGo]
    split
    · (first | lia | omega)
    · have := apGo_len f (n / 16) (UInt8.ofNat (65 + n % 16) :: acc)
      rw [List.length_cons] at this
      (first | lia | omega)
theorem ap_len (n : Nat) : (ap n).length ≤ 16 := apGo_len 16 n []
theorem apGo_head : ∀ (f n : Nat) (acc : List UInt8), n < 16 ^ f → n ≠ 0 → ∃ c l, apGo f n acc = c :: l ∧ c ≠ 65
  | 0, n, acc, h, h0 => by simp at h; (first | lia | omega)
  | f + 1, n, acc, h, h0 => by
    rw [apGo, if_neg h0]
    by_cases hq : n / 16 = 0
    · rw [hq]
      have e : apGo f 0 (UInt8.ofNat (65 + n % 16) :: acc) = UInt8.ofNat (65 + n % 16) :: acc := by cases f <;> rfl
      rw [e]
      refine ⟨_, _, rfl, fun q => ?_⟩
      have := dig_toNat n
      rw [q] at this
      have e2 : (65 : UInt8).toNat = 65 := by decide
      (first | lia | omega)
    · exact apGo_head f (n / 16) _ (by rw [Nat.pow_succ] at h; (first | lia | omega)) hq
theorem ap_cut1 {n : Nat} (h : n < 2 ^ 64) : (ap n).take 1 ≠ [65] := by
  by_cases h0 : n = 0
  · subst h0; decide
  · have e16 : (16 : Nat) ^ 16 = 2 ^ 64 := by decide
    obtain ⟨c, l, e, hc⟩ := apGo_head 16 n [] (by (first | lia | omega)) h0
    unfold ap
    rw [e]
    intro q
    simp at q
    exact hc q
end Mine
namespace Mine
section
variable {w : World} {mg mb : Str → Option Value} {s : Shared} {h₀ : Heap} {L : Addr} {m : Str → Option Value} {news : List (Addr × Obj)} {E : Value → Shared → Prop} {i : Int} {t : Tok}
theorem ap_call {mean : ExcName → Option Value} {gd : Option (List Code)} {cn : Str} {cs : Scope} {a : Addr} {ccd : Value} {cl : List (Str × Addr)} {outer : List Env} {Q : Value → Shared → Prop}
    (F : Fr h₀ L s.heap m) (N : News h₀ L s.heap news) (X : (hd.heap_1 w.params).In h₀) (T : Top hd.view_1 (looseW hd.view_1 [Str.ofString "IPV4_RE"]) mean mg mb h₀)
    (hx : i.natAbs < 2 ^ 64) (h : ∀ h' tk' t', Fr h₀ L h' m → News h₀ L h' news → Q (.bytes (ap i.natAbs).toArray t') { s with heap := h', toks := tk' }) :
    wpAny (model PySem.Challenge.rw_xj0016_01.row.prog w) (ktrTop 303 10 gd cn cs L a ccd cl outer) (call (.ref 108) [.int i t]) Q E s :=
  t_Int2AP w i t mean mg mb gd cn cs a ccd cl outer h₀ L m s Q E F X T hx fun r h' tk' st e => by
    obtain ⟨t', rfl⟩ := e; exact h h' tk' t' (fr_stay F st) (news_stay N st)
end
/-- a block's number -/
noncomputable def numOf (b : Int) (cs : List Int) : Nat := (cs.map fun c => 16 ^ (c.fmod b).toNat).sum
noncomputable def bees (n : Nat) : List UInt8 := List.replicate n 66
noncomputable def blk (b : Int) (cs : List Int) : Bool := ap (numOf b cs) == bees b.toNat
theorem num_eq (b : Int) : ∀ cs : List Int, (cs.map fun k => (16 : Int) ^ (k.fmod b).toNat).sum = ((numOf b cs : Nat) : Int)
  | [] => rfl
  | c :: cs => by
    have := num_eq b cs
    unfold numOf at *
    simp only [List.map_cons, List.sum_cons, Int.natCast_add, Int.natCast_pow] at *
    rw [this]; rfl
theorem num_leK {b : Int} {K : Nat} (hK : ∀ c : Int, 16 ^ (c.fmod b).toNat ≤ K) (cs : List Int) : numOf b cs ≤ cs.length * K := by
  induction cs with
  | nil => exact Nat.zero_le _
  | cons c cs ih =>
    have e : numOf b (c :: cs) = 16 ^ (c.fmod b).toNat + numOf b cs := by simp only [numOf, List.map_cons, List.sum_cons]
    rw [e, List.length_cons, Nat.succ_mul, Nat.add_comm]
    exact Nat.add_le_add ih (hK c)
theorem num_le {b : Int} (hb : 2 ≤ b ∧ b ≤ 6) (cs : List Int) : numOf b cs ≤ cs.length * 16 ^ 5 := by
  refine num_leK (fun c => Nat.pow_le_pow_right (by decide) ?_) cs
  have := Int.fmod_lt_of_pos c (b := b) (by (first | lia | omega))
  (first | lia | omega)
theorem num_lt {b : Int} {cs : List Int} (hb : 2 ≤ b ∧ b ≤ 6) (hz : cs.length ≤ 6) : numOf b cs < 2 ^ 64 := by
  have := num_le hb cs
  have h : cs.length * 16 ^ 5 ≤ 6 * 16 ^ 5 := Nat.mul_le_mul_right _ hz
  have h2 : (2 : Nat) ^ 64 = 18446744073709551616 := by decide
  rw [h2]
  have h3 : (16 : Nat) ^ 5 = 1048576 := by decide
  rw [h3] at *
  (first | lia | omega)
section
variable {w : World} {mg mb : Str → Option Value} {s : Shared} {h₀ : Heap} {L : Addr} {m : Str → Option Value} {news : List (Addr × Obj)} {E : Value → Shared → Prop} {b : Int} {cs' : List Int} {t : Tok}
theorem ap_num {i : Int} {mean : ExcName → Option Value} {gd : Option (List Code)} {cn : Str} {cs : Scope} {a : Addr} {ccd : Value} {cl : List (Str × Addr)} {outer : List Env} {Q : Value → Shared → Prop}
    (hi : i = (cs'.map fun k => (16 : Int) ^ (k.fmod b).toNat).sum ∨ i = -(cs'.map fun k => (16 : Int) ^ (k.fmod b).toNat).sum) (F : Fr h₀ L s.heap m) (N : News h₀ L s.heap news) (X : (hd.heap_1 w.params).In h₀) (T : Top hd.view_1 (looseW hd.view_1 [Str.ofString "IPV4_RE"]) mean mg mb h₀)
    (hb : 2 ≤ b ∧ b ≤ 6) (hz : cs'.length ≤ 6) (h : ∀ h' tk' t', Fr h₀ L h' m → News h₀ L h' news → Q (.bytes (ap (numOf b cs')).toArray t') { s with heap := h', toks := tk' }) :
    wpAny (model PySem.Challenge.rw_xj0016_01.row.prog w) (ktrTop 303 10 gd cn cs L a ccd cl outer) (call (.ref 108) [.int i t]) Q E s := by
  have hl := num_lt hb hz
  have e : i.natAbs = numOf b cs' := by
    rw [num_eq] at hi
    rcases hi with rfl | rfl <;> simp
  exact ap_call F N X T (by rw [e]; exact hl) fun h' tk' t' F' N' => by rw [e]; exact h h' tk' t' F' N'
end
section
variable {prog : Program} {w : World} {A : Around} {E : Value → Shared → Prop} {s : Shared} {env : Env} {Q : Value → Shared → Prop} {test body orelse : Expr} {pos : Pos} {x : Int}
/-- a number, or its other side: joined -/
theorem ifexp_join (h : ∀ Q' : Value → Shared → Prop, (∀ k t tk, (k = x ∨ k = -x) → Q' (.int k t) { s with toks := tk }) → wpAny (model prog w) A (isTrue test env (eval test env)) (fun c s₂ => if c then wpAny (model prog w) A (eval body env) Q' E s₂ else wpAny (model prog w) A (eval orelse env) Q' E s₂) E s)
    (hQ : ∀ k t tk, (k = x ∨ k = -x) → Q (.int k t) { s with toks := tk }) : wpAny (model prog w) A (eval (.IfExp test body orelse pos) env) Q E s := IfExp_ (h Q hQ)
end
theorem fm_bnd {c b : Int} (hb : 2 ≤ b ∧ b ≤ 6) : 0 ≤ c.fmod b ∧ c.fmod b ≤ 1000000 := ⟨Int.fmod_nonneg_of_pos _ (by (first | lia | omega)), by have := Int.fmod_lt_of_pos c (b := b) (by (first | lia | omega)); (first | lia | omega)⟩
section
open Builtin
variable {prog : Program} {w : World} {A : Around} {E : Value → Shared → Prop} {s : Shared} {value : PySem.Expr} {n : Nat} {t : Tok} {h₀ : Heap} {L : Addr} {m : PySem.Str → Option Value} {news : List (Addr × Obj)} {Q : Value → Shared → Prop} {p : Pos} {q q' : Pos} {kk : Nat} {u : Tok}
/-- a word's first letter -/
theorem word_cut {slice : PySem.Expr} (hF : Fr h₀ L s.heap m) (hN : News h₀ L s.heap news)
    (h : ∀ h' t' k, Fr h₀ L h' m → News h₀ L h' news → Q (.bytes ((ap n).take 1).toArray t') { s with heap := h', toks := k })
    (hs : subscripted slice false (.bytes (ap n).toArray t) (.ref s.heap.objs.size) = operate [.ref s.heap.objs.size, .bytes (ap n).toArray t] (getItem (.bytes (ap n).toArray t) (.ref s.heap.objs.size)) := by with_unfolding_all rfl)
    (ht : ∀ r, letTemporaryGo value (.bytes (ap n).toArray t) r = pure () := by intro _; with_unfolding_all rfl) :
    wpAny (model prog w) A (subscriptTail value slice (.bytes (ap n).toArray t) (.ref s.heap.objs.size)) Q E { s with heap := s.heap.push { cls := .type "slice", data := .fields #[.none, .int 1 u, .none] } } := by
  refine KBc.slice_K hF hN rfl .none (.int 1 u) ?_ (fun h' t' k F N e => ?_) hs ht
  · rw [KBw.ints_length]
    have := ap_len n
    simp only [List.size_toArray]
    (first | lia | omega)
  · have e2 : KBy.picked (ap n).toArray none (some 1) = ((ap n).take 1).toArray := by
      rw [KBc.picked_eq]
      simp only [Option.elim, List.drop_zero, Nat.sub_zero, List.size_toArray]
      congr 1
      have : clipAt (ap n).length 1 = min 1 (ap n).length := KBc.clip_lit _ 1
      rw [this, List.take_eq_take_iff]
      (first | lia | omega)
    rw [e2]
    exact h h' t' k F N
end
theorem back_eq {b : Int} {cs : List Int} (hb : 2 ≤ b ∧ b ≤ 6) (hz : cs.length ≤ 6) : horner ((ap (numOf b cs)).map fun c => (c.toNat : Int)) = (cs.map fun k => (16 : Int) ^ (k.fmod b).toNat).sum := by rw [ap_hv (num_lt hb hz), num_eq]
theorem cut_no {b : Int} {cs : List Int} (hb : 2 ≤ b ∧ b ≤ 6) (hz : cs.length ≤ 6) : (((ap (numOf b cs)).take 1).toArray.toList == #[65].toList) = false := by
  rw [beq_eq_false_iff_ne]
  exact ap_cut1 (num_lt hb hz)
theorem bees_eq {b : Int} {l : List UInt8} : (l.toArray.toList == (List.replicate b.toNat [66]).flatten.toArray.toList) = (true && l == bees b.toNat) := by
  rw [List.flatten_replicate_singleton]; rfl
noncomputable def cutOf (ns : List Int) (b st : Int) : List Int := List.take (min (st + b).toNat ns.length - st.toNat) (List.drop st.toNat ns)
theorem cutOf_len {ns : List Int} {b st : Int} (hz : ns.length = 6) : (List.take (min (st + b).toNat ns.length - st.toNat) (List.drop st.toNat ns)).length ≤ 6 := by simp only [List.length_take, List.length_drop]; (first | lia | omega)
noncomputable def lettersTurn : List Stmt := match nth (defBody 24) 2 with | s :: _ => bodyOf s | [] => []
section
variable {w : World} {mean : ExcName → Option Value} {mg mb : Str → Option Value} {s : Shared} {g : Heap} {L' l : Addr} {m : Str → Option Value} {news : List (Addr × Obj)} {E : Value → Shared → Prop} {Q : Flow → Shared → Prop} {A : Around}
  {body : List Stmt} {sk : ScopeKind} {names : List (Str × NameKind)} {ig ic : Bool} {more : List (Str × Const)} {oc : Obj} {vs : List Value} {ns : List Int} {b st : Int} {ts tb : Tok} {lv : Bool}
  {gd : Option (List Code)} {cn : Str} {cs : Scope} {L a : Addr} {ccd : Value} {cl : List (Str × Addr)} {outer : List Env}
set_option maxHeartbeats 2000000 in
theorem letters_block {s0 : Stmt} (e : lettersTurn = s0 :: body) (es' : defScope 24 = Scope.mk sk names ig ic more) (X : (hd.heap_1 w.params).In g) (TT : Top hd.view_1 (looseW hd.view_1 [Str.ofString "IPV4_RE"]) mean mg mb g)
    (hl : g.IsList l vs.toArray) (hi : IntsAre vs ns) (hz : ns.length = 6) (hb : 2 ≤ b ∧ b ≤ 6) (hst : 0 ≤ st) (hse : st + b ≤ 6) (hoc : oc.data = .cell (some (.int b tb)))
    (F : Fr g L' s.heap (kstB m [(Str.ofString "level", .bool lv), (Str.ofString "start", .int st ts), (Str.ofString "deck", .ref l)]))
    (N : News g L' s.heap ((L' + 1, oc) :: news))
    (hQ : ∀ h' tk' (m' : Str → Option Value), (∀ z, z ≠ Str.ofString "number" → z ≠ Str.ofString "word" → z ≠ Str.ofString "back" → z ≠ Str.ofString "letter" → z ≠ Str.ofString "level" → m' z = kstB m [(Str.ofString "level", .bool lv), (Str.ofString "start", .int st ts), (Str.ofString "deck", .ref l)] z) →
      (∃ lv', m' (Str.ofString "level") = some (.bool lv') ∧ lv' = (lv && blk b (cutOf ns b st))) → Fr g L' h' m' → News g L' h' ((L' + 1, oc) :: news) → Q .next { s with heap := h', toks := tk' }) :
    wpAny (model PySem.Challenge.rw_xj0016_01.row.prog w) ((ktrTop 302 7 gd cn cs L a ccd cl outer).deeper (envOfC (Str.ofString "_law_by_letters") (Scope.mk sk names ig ic more) L' 163 (.ref 162))) (execs (s0 :: body) (envOfC (Str.ofString "_law_by_letters") (Scope.mk sk names ig ic more) L' 163 (.ref 162))) Q (fun _ _ => False) s := by
  w_top off
  k_with_none
  k_with "own eval IfExp" => ((k_here; k_dflt (refine' ifexp_join (by (intro Qz hQz; k_steps; all_goals (first | exact hQz _ _ _ (.inr rfl) | exact hQz _ _ _ (.inl rfl)))) ?_); intro k9 t9 tk9 hk9))
  k_with "own call ref" => ((k_here; (with_reducible show wpAny _ _ (call (Value.ref 108) [Value.int _ _]) _ _ _); k_dflt (refine' ap_num (by with_reducible assumption) (by k_asm) (by k_asm) (by k_asm) (by k_asm) (by with_reducible assumption) (by (simp only [List.length_take, List.length_drop]; omega)) ?_; k_whole); intro h9 tk9 t9 F9 N9; (try k_sweep); (try dsimp only); (try k_fold)))
  k_with "own binaryOp Pow int int" => ((k_here; (with_reducible show wpAny _ _ (binaryOp Operator.Pow (Value.int 16 _) (Value.int (Int.fmod _ _) _)) _ _ _); (with_reducible refine pow_int_small (by exact (fm_bnd (by assumption)).1) (by exact (fm_bnd (by assumption)).2) (by decide) ?_)))
  k_with "own subscriptTail" => ((k_here; (with_reducible show wpAny _ _ (subscriptTail _ (Expr.Slice _ _ none _) (Value.bytes (List.toArray (ap _)) _) (Value.ref _)) _ _ _); (with_reducible rename Fr _ _ _ _ => F'); (with_reducible rename News _ _ _ _ => N'); (refine word_cut (s := ⟨_, _, _, _, _⟩) F' N' ?_); intro _ _ _ _ _))
  k_with "own k_ne" => (refine neN ?_; (try dsimp only); first | exact Nat.ne_of_gt (by with_reducible assumption) | exact Nat.ne_of_lt (by with_reducible assumption) | exact Nat.ne_of_gt (And.left (by with_reducible assumption)) | exact Nat.ne_of_lt (And.left (by with_reducible assumption)) | exact Nat.ne_of_gt (And.right (by with_reducible assumption)) | exact Nat.ne_of_lt (And.right (by with_reducible assumption)) | exact Nat.ne_of_gt (And.left (And.right (by with_reducible assumption))) | exact Nat.ne_of_lt (And.left (And.right (by with_reducible assumption))) | exact Nat.ne_of_gt (And.right (And.right (by with_reducible assumption))) | exact Nat.ne_of_lt (And.right (And.right (by with_reducible assumption))) | exact Nat.ne_of_gt (And.left (And.right (And.right (by with_reducible assumption)))) | exact Nat.ne_of_lt (And.left (And.right (And.right (by with_reducible assumption)))) | exact Nat.ne_of_gt (And.right (And.right (And.right (by with_reducible assumption)))) | exact Nat.ne_of_lt (And.right (And.right (And.right (by with_reducible assumption)))) | exact Nat.ne_of_gt (And.left (And.right (And.right (And.right (by with_reducible assumption))))) | exact Nat.ne_of_lt (And.left (And.right (And.right (And.right (by with_reducible assumption))))) | exact Nat.ne_of_gt (And.right (And.right (And.right (And.right (by with_reducible assumption))))) | exact Nat.ne_of_lt (And.right (And.right (And.right (And.right (by with_reducible assumption))))) | exact Nat.ne_of_gt (And.left (And.right (And.right (And.right (And.right (by with_reducible assumption)))))) | exact Nat.ne_of_lt (And.left (And.right (And.right (And.right (And.right (by with_reducible assumption)))))) | exact Nat.ne_of_gt (And.right (And.right (And.right (And.right (And.right (by with_reducible assumption)))))) | exact Nat.ne_of_lt (And.right (And.right (And.right (And.right (And.right (by with_reducible assumption)))))) | exact Nat.ne_of_gt (And.left (And.right (And.right (And.right (And.right (And.right (by with_reducible assumption))))))) | exact Nat.ne_of_lt (And.left (And.right (And.right (And.right (And.right (And.right (by with_reducible assumption))))))) | exact Nat.ne_of_gt (And.right (And.right (And.right (And.right (And.right (And.right (by with_reducible assumption))))))) | exact Nat.ne_of_lt (And.right (And.right (And.right (And.right (And.right (And.right (by with_reducible assumption))))))) | exact Nat.ne_of_gt (And.left (And.right (And.right (And.right (And.right (And.right (And.right (by with_reducible assumption)))))))) | exact Nat.ne_of_lt (And.left (And.right (And.right (And.right (And.right (And.right (And.right (by with_reducible assumption)))))))) | exact Nat.ne_of_gt (And.right (And.right (And.right (And.right (And.right (And.right (And.right (by with_reducible assumption)))))))) | exact Nat.ne_of_lt (And.right (And.right (And.right (And.right (And.right (And.right (And.right (by with_reducible assumption)))))))) | exact Nat.ne_of_gt (And.left (And.right (And.right (And.right (And.right (And.right (And.right (And.right (by with_reducible assumption))))))))) | exact Nat.ne_of_lt (And.left (And.right (And.right (And.right (And.right (And.right (And.right (And.right (by with_reducible assumption))))))))) | exact Nat.ne_of_gt (And.right (And.right (And.right (And.right (And.right (And.right (And.right (And.right (by with_reducible assumption))))))))) | exact Nat.ne_of_lt (And.right (And.right (And.right (And.right (And.right (And.right (And.right (And.right (by with_reducible assumption))))))))) | exact Nat.ne_of_gt (And.left (And.right (And.right (And.right (And.right (And.right (And.right (And.right (And.right (by with_reducible assumption)))))))))) | exact Nat.ne_of_lt (And.left (And.right (And.right (And.right (And.right (And.right (And.right (And.right (And.right (by with_reducible assumption)))))))))) | exact Nat.ne_of_gt (And.right (And.right (And.right (And.right (And.right (And.right (And.right (And.right (And.right (by with_reducible assumption)))))))))) | exact Nat.ne_of_lt (And.right (And.right (And.right (And.right (And.right (And.right (And.right (And.right (And.right (by with_reducible assumption)))))))))) | exact Nat.ne_of_gt (And.left (And.right (And.right (And.right (And.right (And.right (And.right (And.right (And.right (And.right (by with_reducible assumption))))))))))) | exact Nat.ne_of_lt (And.left (And.right (And.right (And.right (And.right (And.right (And.right (And.right (And.right (And.right (by with_reducible assumption))))))))))) | exact Nat.ne_of_gt (And.right (And.right (And.right (And.right (And.right (And.right (And.right (And.right (And.right (And.right (by with_reducible assumption))))))))))) | exact Nat.ne_of_lt (And.right (And.right (And.right (And.right (And.right (And.right (And.right (And.right (And.right (And.right (by with_reducible assumption))))))))))) | exact Nat.ne_of_gt (And.left (And.right (And.right (And.right (And.right (And.right (And.right (And.right (And.right (And.right (And.right (by with_reducible assumption)))))))))))) | exact Nat.ne_of_lt (And.left (And.right (And.right (And.right (And.right (And.right (And.right (And.right (And.right (And.right (And.right (by with_reducible assumption)))))))))))) | exact Nat.ne_of_gt (And.right (And.right (And.right (And.right (And.right (And.right (And.right (And.right (And.right (And.right (And.right (by with_reducible assumption)))))))))))) | exact Nat.ne_of_lt (And.right (And.right (And.right (And.right (And.right (And.right (And.right (And.right (And.right (And.right (And.right (by with_reducible assumption)))))))))))) | exact Nat.ne_of_gt (And.left (And.right (And.right (And.right (And.right (And.right (And.right (And.right (And.right (And.right (And.right (And.right (by with_reducible assumption))))))))))))) | exact Nat.ne_of_lt (And.left (And.right (And.right (And.right (And.right (And.right (And.right (And.right (And.right (And.right (And.right (And.right (by with_reducible assumption))))))))))))) | exact Nat.ne_of_gt (And.right (And.right (And.right (And.right (And.right (And.right (And.right (And.right (And.right (And.right (And.right (And.right (by with_reducible assumption))))))))))))) | exact Nat.ne_of_lt (And.right (And.right (And.right (And.right (And.right (And.right (And.right (And.right (And.right (And.right (And.right (And.right (by with_reducible assumption))))))))))))) | exact Nat.ne_of_gt (And.left (And.right (And.right (And.right (And.right (And.right (And.right (And.right (And.right (And.right (And.right (And.right (And.right (by with_reducible assumption)))))))))))))) | exact Nat.ne_of_lt (And.left (And.right (And.right (And.right (And.right (And.right (And.right (And.right (And.right (And.right (And.right (And.right (And.right (by with_reducible assumption)))))))))))))) | exact Nat.ne_of_gt (And.right (And.right (And.right (And.right (And.right (And.right (And.right (And.right (And.right (And.right (And.right (And.right (And.right (by with_reducible assumption)))))))))))))) | exact Nat.ne_of_lt (And.right (And.right (And.right (And.right (And.right (And.right (And.right (And.right (And.right (And.right (And.right (And.right (And.right (by with_reducible assumption)))))))))))))) | exact Nat.ne_of_gt (And.left (And.right (And.right (And.right (And.right (And.right (And.right (And.right (And.right (And.right (And.right (And.right (And.right (And.right (by with_reducible assumption))))))))))))))) | exact Nat.ne_of_lt (And.left (And.right (And.right (And.right (And.right (And.right (And.right (And.right (And.right (And.right (And.right (And.right (And.right (And.right (by with_reducible assumption))))))))))))))) | omega)
  injection e with e0 e
  subst e0 e
  injection es' with f0 f1 f2 f3 f4
  subst f0 f1 f2 f3 f4
  (try dsimp only [kstB] at F)
  have hM := kstMark
  revert X TT
  k_fill
  intro X TT
  (try k_fold)
  (k_with "state" => first | rfl | ((rename _ = horner _ => kh); rw [kh]; exact horner_step _ _))
  (k_with "pyIter bytes" => k_state (fun pre back => back = horner pre) "back")
  k_steps
  · rename _ = horner _ => kh
    exact absurd (kh.trans (back_eq hb (cutOf_len hz))) (by assumption)
  · rename (_ == _) = true => kb
    rw [cut_no hb (cutOf_len hz)] at kb
    cases kb
  · rename Fr _ _ _ _ => kF; rename News _ _ _ _ => kN
    refine hQ _ _ _ ?_ ⟨_, by with_unfolding_all rfl, ?_⟩ kF (kst_newsOf kN ?_)
    · intro z h1 h2 h3 h4 h5; simp [kstB, h1, h2, h3, h4, h5]
    · subst lv
      exact bees_eq
    · intro p hp
      repeat (first | exact hp | refine List.Mem.tail _ ?_)
  · rename Fr _ _ _ _ => kF; rename News _ _ _ _ => kN
    refine hQ _ _ _ ?_ ⟨_, by with_unfolding_all rfl, ?_⟩ kF (kst_newsOf kN ?_)
    · intro z h1 h2 h3 h4 h5; simp [kstB, h1, h2, h3, h4, h5]
    · subst lv
      rfl
    · intro p hp
      repeat (first | exact hp | refine List.Mem.tail _ ?_)
end
end Mine
namespace Mine
theorem kst_here2 {m : Str → Option Value} {ps : List (Str × Value)} (hp : ∀ p ∈ ps, m p.1 = some p.2) : kstB m ps = m := by funext z; exact kstB_eq hp fun _ => rfl
/-- the words of a size's blocks are B's, block by block -/
noncomputable def blksN (ns : List Int) (b : Int) : Nat → Bool
  | 0 => true
  | i + 1 => blksN ns b i && blk b (cutOf ns b (0 + (i : Int) * b))
section
variable {w : World} {mean : ExcName → Option Value} {mg mb : Str → Option Value} {s : Shared} {g : Heap} {L' l r : Addr} {m₀ : Str → Option Value} {own : List (Addr × Obj)} {E : Value → Shared → Prop} {Q : Flow → Shared → Prop}
  {body : List Stmt} {sk : ScopeKind} {names : List (Str × NameKind)} {ig ic : Bool} {more : List (Str × Const)} {oc : Obj} {vs : List Value} {ns : List Int} {b : Int} {tb t₀ u₀ v₀ : Tok} {lv : Bool} {px : Pos} {n : Nat}
  {gd : Option (List Code)} {cn : Str} {cs : Scope} {L a : Addr} {ccd : Value} {cl : List (Str × Addr)} {outer : List Env}
theorem letters_inner {s0 : Stmt} (e : lettersTurn = s0 :: body) (es' : defScope 24 = Scope.mk sk names ig ic more) (X : (hd.heap_1 w.params).In g) (TT : Top hd.view_1 (looseW hd.view_1 [Str.ofString "IPV4_RE"]) mean mg mb g)
    (hl : g.IsList l vs.toArray) (hi : IntsAre vs ns) (hz : ns.length = 6) (hb : 2 ≤ b ∧ b ≤ 6) (hoc : oc.data = .cell (some (.int b tb)))
    (hr : IsRange s.heap r 0 (7 - b) b t₀ u₀ v₀) (hsm : Builtin.Range.small 0 (7 - b) b = true) (hn : Builtin.Range.rangeSize 0 (7 - b) b = (n : Int)) (hfit : ∀ i : Nat, i < n → 0 + (i : Int) * b + b ≤ 6)
    (F : Fr g L' s.heap m₀) (hlv : m₀ (Str.ofString "level") = some (.bool lv)) (hdk : m₀ (Str.ofString "deck") = some (.ref l)) (N : News g L' s.heap ((L' + 1, oc) :: own))
    (done : ∀ m₁ h tk, m₁ (Str.ofString "level") = some (.bool (lv && blksN ns b n)) → (∀ z, z ≠ Str.ofString "start" → z ≠ Str.ofString "number" → z ≠ Str.ofString "word" → z ≠ Str.ofString "back" → z ≠ Str.ofString "letter" → z ≠ Str.ofString "level" → m₁ z = m₀ z) →
      Fr g L' h m₁ → News g L' h ((L' + 1, oc) :: own) → Q .next { s with heap := h, toks := tk }) :
    wpAny (model PySem.Challenge.rw_xj0016_01.row.prog w) ((ktrTop 302 7 gd cn cs L a ccd cl outer).deeper (envOfC (Str.ofString "_law_by_letters") (Scope.mk sk names ig ic more) L' 163 (.ref 162))) (pyIter (.ref r))
      (fun it s₂ => UnrAt PySem.Challenge.rw_xj0016_01.row.prog w ((ktrTop 302 7 gd cn cs L a ccd cl outer).deeper (envOfC (Str.ofString "_law_by_letters") (Scope.mk sk names ig ic more) L' 163 (.ref 162))) g (envOfC (Str.ofString "_law_by_letters") (Scope.mk sk names ig ic more) L' 163 (.ref 162)) (.Name (Str.ofString "start") px) (s0 :: body) Q E it s₂) E s := by
  have hkind : sk = .function := by injection es' with f0; exact f0.symm
  have hloc : ∀ x, names.lookup x = some .local → (envOfC (Str.ofString "_law_by_letters") (Scope.mk sk names ig ic more) L' 163 (.ref 162)).kindOf x = some .local := fun x h => h
  have hst : names.lookup (Str.ofString "start") = some .local := by
    injection es' with f0 f1; subst f1; decide +kernel
  have hend : ∀ {m₁ : Str → Option Value}, (∀ z, z ≠ Str.ofString "start" → z ≠ Str.ofString "number" → z ≠ Str.ofString "word" → z ≠ Str.ofString "back" → z ≠ Str.ofString "letter" → z ≠ Str.ofString "level" → m₁ z = m₀ z) → m₁ (Str.ofString "deck") = some (.ref l) := fun h =>
    (h _ (by decide +kernel) (by decide +kernel) (by decide +kernel) (by decide +kernel) (by decide +kernel) (by decide +kernel)).trans hdk
  refine iter_range_unr rfl hr hsm hn F N fun o => ?_
  refine unr_inv (adr := (L' + 1) :: own.map (·.1)) (fun i m₁ news₁ => news₁ = (L' + 1, oc) :: own ∧ m₁ (Str.ofString "level") = some (.bool (lv && blksN ns b i)) ∧
    ∀ z, z ≠ Str.ofString "start" → z ≠ Str.ofString "number" → z ≠ Str.ofString "word" → z ≠ Str.ofString "back" → z ≠ Str.ofString "letter" → z ≠ Str.ofString "level" → m₁ z = m₀ z) ?_ ?_ n 0 m₀ ((L' + 1, oc) :: own) (Nat.zero_add n) rfl ⟨rfl, by simpa [blksN] using hlv, fun _ _ _ _ _ _ _ => rfl⟩
  · rintro i v m₁ news₁ h tk own₁ hi' ⟨t, rfl⟩ ho ha ⟨rfl, hlv₁, hz₁⟩ F₁ N₁
    refine assign_Name (storeX_L F₁ N₁ (fun h' F₂ N₂ => ?_) hkind (hloc _ hst))
    have hps : ∀ p ∈ [(Str.ofString "level", Value.bool (lv && blksN ns b i)), (Str.ofString "start", .int (0 + (i : Int) * b) t), (Str.ofString "deck", .ref l)], (fun y => if y = Str.ofString "start" then some (Value.int (0 + (i : Int) * b) t) else m₁ y) p.1 = some p.2 := by
      refine List.forall_mem_cons.mpr ⟨?_, List.forall_mem_cons.mpr ⟨?_, List.forall_mem_cons.mpr ⟨?_, List.forall_mem_nil _⟩⟩⟩
      · try dsimp only
        rw [if_neg (by decide +kernel)]; exact hlv₁
      · try dsimp only
        rw [if_pos rfl]
      · try dsimp only
        rw [if_neg (by decide +kernel)]; exact hend hz₁
    refine wpAny_noRaise ?_
    have hib : 0 ≤ (i : Int) * b := Int.mul_nonneg (by (first | lia | omega)) (by (first | lia | omega))
    refine letters_block e es' X TT hl hi hz hb (by (first | lia | omega)) (hfit i hi') hoc (fr_kst _ F₂ hps) (kst_newsOf N₂ (l' := (L' + 1, oc) :: (own₁ ++ own)) ?_) ?_
    · intro p hp
      rcases List.mem_cons.mp hp with rfl | hp
      · exact List.mem_append.mpr (.inr (.head _))
      · rcases List.mem_append.mp hp with q | q
        · exact List.mem_append.mpr (.inl q)
        · exact List.mem_append.mpr (.inr (.tail _ q))
    · rintro h2 tk2 m2 hz2 ⟨lv', hl2, rfl⟩ F3 N3
      refine InvEndN.intro (nx := (L' + 1, oc) :: own) F3 N3 ⟨rfl, ?_, ?_⟩ rfl ?_ ?_
      · rw [hl2, blksN, Bool.and_assoc]
      · intro z h1 h2 h3 h4 h5 h6
        rw [hz2 z h2 h3 h4 h5 h6, kst_here2 hps]
        try dsimp only
        rw [if_neg h1]
        exact hz₁ z h1 h2 h3 h4 h5 h6
      · intro p hp
        rcases List.mem_cons.mp hp with rfl | hp
        · exact .head _
        · exact .tail _ (List.mem_append.mpr (.inr hp))
      · intro p hp
        exact .tail _ (List.mem_append.mpr (.inl hp))
  · rintro m₁ news₁ h tk ⟨rfl, hlv₁, hz₁⟩ F₁ N₁
    exact done m₁ h tk hlv₁ hz₁ F₁ N₁
end
end Mine
namespace Mine
noncomputable def InnerAt (p : Prop) : Prop := p
noncomputable def blksS (ns : List Int) : Nat → Bool
  | 0 => blksN ns 2 3
  | 1 => blksN ns 3 2
  | 2 => blksN ns 4 1
  | 3 => blksN ns 5 1
  | 4 => blksN ns 6 1
  | _ => true
noncomputable def lvlTo (ns : List Int) : Nat → Bool
  | 0 => true
  | i + 1 => lvlTo ns i && blksS ns i
theorem cases5 {i : Nat} (h : i < 5) : i = 0 ∨ i = 1 ∨ i = 2 ∨ i = 3 ∨ i = 4 := by (first | lia | omega)
set_option maxHeartbeats 4000000 in
theorem t_letters (w : World) (l : Addr) (ns : List Int) (vs : List Value) : Tel w 302 7 163 [.ref l] (fun h => h.IsList l vs.toArray ∧ IntsAre vs ns ∧ ns.length = 6) (fun h r h' => r = .bool (lvlTo ns 5)) := by
  w_top off
  k_with_none
  k_with "own call ref" => ((k_here; (with_reducible show wpAny _ _ (call (Value.ref 108) _) _ _ _); k_dflt (refine' ap_call (by k_asm) (by k_asm) (by k_asm) (by k_asm) (by decide) ?_; k_whole); intro h9 tk9 t9 F9 N9; (try k_sweep); (try dsimp only); (try k_fold)))
  k_with "own exec For Name Call cons nil" => ((k_here; (first | (with_reducible show wpAny _ _ (exec (Stmt.For (Expr.Name (Str.ofString "size") _) _ _ _ _) _) _ _ _) | (with_reducible show wpAny _ _ (exec (Stmt.For (Expr.Name (Str.ofString "start") _) _ _ _ _) _) _ _ _)); (rename Fr _ _ _ _ => kF'); (with_unfolding_all refine' For_unrF kF' ?_ (by (intro _; with_unfolding_all rfl)))))
  k_with "own k_ne" => (refine neN ?_; (try dsimp only); first | exact Nat.ne_of_gt (by with_reducible assumption) | exact Nat.ne_of_lt (by with_reducible assumption) | exact Nat.ne_of_gt (And.left (by with_reducible assumption)) | exact Nat.ne_of_lt (And.left (by with_reducible assumption)) | exact Nat.ne_of_gt (And.right (by with_reducible assumption)) | exact Nat.ne_of_lt (And.right (by with_reducible assumption)) | exact Nat.ne_of_gt (And.left (And.right (by with_reducible assumption))) | exact Nat.ne_of_lt (And.left (And.right (by with_reducible assumption))) | exact Nat.ne_of_gt (And.right (And.right (by with_reducible assumption))) | exact Nat.ne_of_lt (And.right (And.right (by with_reducible assumption))) | exact Nat.ne_of_gt (And.left (And.right (And.right (by with_reducible assumption)))) | exact Nat.ne_of_lt (And.left (And.right (And.right (by with_reducible assumption)))) | exact Nat.ne_of_gt (And.right (And.right (And.right (by with_reducible assumption)))) | exact Nat.ne_of_lt (And.right (And.right (And.right (by with_reducible assumption)))) | exact Nat.ne_of_gt (And.left (And.right (And.right (And.right (by with_reducible assumption))))) | exact Nat.ne_of_lt (And.left (And.right (And.right (And.right (by with_reducible assumption))))) | exact Nat.ne_of_gt (And.right (And.right (And.right (And.right (by with_reducible assumption))))) | exact Nat.ne_of_lt (And.right (And.right (And.right (And.right (by with_reducible assumption))))) | exact Nat.ne_of_gt (And.left (And.right (And.right (And.right (And.right (by with_reducible assumption)))))) | exact Nat.ne_of_lt (And.left (And.right (And.right (And.right (And.right (by with_reducible assumption)))))) | exact Nat.ne_of_gt (And.right (And.right (And.right (And.right (And.right (by with_reducible assumption)))))) | exact Nat.ne_of_lt (And.right (And.right (And.right (And.right (And.right (by with_reducible assumption)))))) | exact Nat.ne_of_gt (And.left (And.right (And.right (And.right (And.right (And.right (by with_reducible assumption))))))) | exact Nat.ne_of_lt (And.left (And.right (And.right (And.right (And.right (And.right (by with_reducible assumption))))))) | exact Nat.ne_of_gt (And.right (And.right (And.right (And.right (And.right (And.right (by with_reducible assumption))))))) | exact Nat.ne_of_lt (And.right (And.right (And.right (And.right (And.right (And.right (by with_reducible assumption))))))) | exact Nat.ne_of_gt (And.left (And.right (And.right (And.right (And.right (And.right (And.right (by with_reducible assumption)))))))) | exact Nat.ne_of_lt (And.left (And.right (And.right (And.right (And.right (And.right (And.right (by with_reducible assumption)))))))) | exact Nat.ne_of_gt (And.right (And.right (And.right (And.right (And.right (And.right (And.right (by with_reducible assumption)))))))) | exact Nat.ne_of_lt (And.right (And.right (And.right (And.right (And.right (And.right (And.right (by with_reducible assumption)))))))) | exact Nat.ne_of_gt (And.left (And.right (And.right (And.right (And.right (And.right (And.right (And.right (by with_reducible assumption))))))))) | exact Nat.ne_of_lt (And.left (And.right (And.right (And.right (And.right (And.right (And.right (And.right (by with_reducible assumption))))))))) | exact Nat.ne_of_gt (And.right (And.right (And.right (And.right (And.right (And.right (And.right (And.right (by with_reducible assumption))))))))) | exact Nat.ne_of_lt (And.right (And.right (And.right (And.right (And.right (And.right (And.right (And.right (by with_reducible assumption))))))))) | exact Nat.ne_of_gt (And.left (And.right (And.right (And.right (And.right (And.right (And.right (And.right (And.right (by with_reducible assumption)))))))))) | exact Nat.ne_of_lt (And.left (And.right (And.right (And.right (And.right (And.right (And.right (And.right (And.right (by with_reducible assumption)))))))))) | exact Nat.ne_of_gt (And.right (And.right (And.right (And.right (And.right (And.right (And.right (And.right (And.right (by with_reducible assumption)))))))))) | exact Nat.ne_of_lt (And.right (And.right (And.right (And.right (And.right (And.right (And.right (And.right (And.right (by with_reducible assumption)))))))))) | exact Nat.ne_of_gt (And.left (And.right (And.right (And.right (And.right (And.right (And.right (And.right (And.right (And.right (by with_reducible assumption))))))))))) | exact Nat.ne_of_lt (And.left (And.right (And.right (And.right (And.right (And.right (And.right (And.right (And.right (And.right (by with_reducible assumption))))))))))) | exact Nat.ne_of_gt (And.right (And.right (And.right (And.right (And.right (And.right (And.right (And.right (And.right (And.right (by with_reducible assumption))))))))))) | exact Nat.ne_of_lt (And.right (And.right (And.right (And.right (And.right (And.right (And.right (And.right (And.right (And.right (by with_reducible assumption))))))))))) | exact Nat.ne_of_gt (And.left (And.right (And.right (And.right (And.right (And.right (And.right (And.right (And.right (And.right (And.right (by with_reducible assumption)))))))))))) | exact Nat.ne_of_lt (And.left (And.right (And.right (And.right (And.right (And.right (And.right (And.right (And.right (And.right (And.right (by with_reducible assumption)))))))))))) | exact Nat.ne_of_gt (And.right (And.right (And.right (And.right (And.right (And.right (And.right (And.right (And.right (And.right (And.right (by with_reducible assumption)))))))))))) | exact Nat.ne_of_lt (And.right (And.right (And.right (And.right (And.right (And.right (And.right (And.right (And.right (And.right (And.right (by with_reducible assumption)))))))))))) | exact Nat.ne_of_gt (And.left (And.right (And.right (And.right (And.right (And.right (And.right (And.right (And.right (And.right (And.right (And.right (by with_reducible assumption))))))))))))) | exact Nat.ne_of_lt (And.left (And.right (And.right (And.right (And.right (And.right (And.right (And.right (And.right (And.right (And.right (And.right (by with_reducible assumption))))))))))))) | exact Nat.ne_of_gt (And.right (And.right (And.right (And.right (And.right (And.right (And.right (And.right (And.right (And.right (And.right (And.right (by with_reducible assumption))))))))))))) | exact Nat.ne_of_lt (And.right (And.right (And.right (And.right (And.right (And.right (And.right (And.right (And.right (And.right (And.right (And.right (by with_reducible assumption))))))))))))) | exact Nat.ne_of_gt (And.left (And.right (And.right (And.right (And.right (And.right (And.right (And.right (And.right (And.right (And.right (And.right (And.right (by with_reducible assumption)))))))))))))) | exact Nat.ne_of_lt (And.left (And.right (And.right (And.right (And.right (And.right (And.right (And.right (And.right (And.right (And.right (And.right (And.right (by with_reducible assumption)))))))))))))) | exact Nat.ne_of_gt (And.right (And.right (And.right (And.right (And.right (And.right (And.right (And.right (And.right (And.right (And.right (And.right (And.right (by with_reducible assumption)))))))))))))) | exact Nat.ne_of_lt (And.right (And.right (And.right (And.right (And.right (And.right (And.right (And.right (And.right (And.right (And.right (And.right (And.right (by with_reducible assumption)))))))))))))) | exact Nat.ne_of_gt (And.left (And.right (And.right (And.right (And.right (And.right (And.right (And.right (And.right (And.right (And.right (And.right (And.right (And.right (by with_reducible assumption))))))))))))))) | exact Nat.ne_of_lt (And.left (And.right (And.right (And.right (And.right (And.right (And.right (And.right (And.right (And.right (And.right (And.right (And.right (And.right (by with_reducible assumption))))))))))))))) | omega)
  unfold Tel; k_fill
  intro meanZ9 mgZ9 mbZ9 gdZ9 cnZ9 csZ9 aZ9 ccdZ9 clZ9 outerZ9 h₀Z9 LZ9 mZ9 sZ9 QZ9 EZ9 FZ9 XZ9 TZ9 hpre hret
  refine wpAny_call ?_
  k_dflt (refine' enter0C ?k2 ?k3 ?k5 ?k6 ?k7 ?k8 ?k9 ?kB ?kD ?_ ?c2 ?c3 ?c4; (case k2 => k_asm); (case k3 => k_asm); (case k5 => k_asm); (case k6 => k_is); (case k7 => k_is); (case k8 => ktr_room); (case k9 => exact BindsTo.of_eq rfl); (case kB => exact rfl); (case kD => decide +kernel); (case c2 => exact rfl); (case c3 => exact rfl); (case c4 => exact rfl); k_whole)
  clear XZ9 TZ9
  intro LZ9' hZ9' tkZ9' cellsZ9' FZ9' NZ9' YZ9' XZ9' TZ9'
  k_cells YZ9'
  (try simp only [List.cons_append, List.nil_append] at NZ9')
  (try dsimp only)
  (try k_fold)
  obtain ⟨hl, hi, hz⟩ := hpre
  (k_with "pyIter ref" => first
    | ((with_reducible show wpAny _ _ (pyIter (Value.ref _)) (fun it s₂ => UnrAt _ _ _ _ _ (Expr.Name (Str.ofString "start") _) _ _ _ it s₂) _ _); show InnerAt _)
    | ((with_reducible show wpAny _ _ (pyIter (Value.ref _)) (fun it s₂ => UnrAt _ _ _ _ _ (Expr.Name (Str.ofString "size") _) _ _ _ it s₂) _ _); k_here; (rename Fr _ _ _ _ => lF'); (rename News _ _ _ _ => lN'); (rename IsRange _ _ _ _ _ _ _ _ => rgX); (with_unfolding_all refine' range_cell (τ := Bool) (n := 5) (fun _ => []) (fun d => [(Str.ofString "level", .bool d)]) (fun _ => True) [Str.ofString "start", Str.ofString "number", Str.ofString "word", Str.ofString "back", Str.ofString "letter"] (fun pre d => d = lvlTo ns pre.length) true (by rfl) rgX (by decide) (by rfl) (by rfl) (by rfl) (by rfl) lF' lN' ?ko ?kn trivial ?kk ?kp ?_ ?_); (case ko => exact ⟨_, by assumption⟩); (case kn => exact List.forall_mem_nil _); (case kk => kst_all); (case kp => rfl); (all_goals (try clear lF' lN')); (all_goals first
      | (rintro d oc i t u h tk own hin hoff - hp hd F' N'; have hM := kstMark; (try dsimp only [kstB] at F'); (try simp only [List.map_cons, List.map_nil] at hoff); (try simp only [List.nil_append, List.cons_append, List.append_nil] at N'); (try simp only [rng_len] at hp); rcases cases5 hin with rfl | rfl | rfl | rfl | rfl)
      | (rintro d oc u h tk - hp hd F' N'; (try dsimp only [kstB] at F'); (try dsimp only at N'); (try simp only [rng_len] at hp))); (all_goals (try k_fold))))
  k_steps
  · unfold InnerAt
    rename Fr _ _ _ _ => kF; rename News _ _ _ _ => kN; rename IsRange _ _ _ _ _ _ _ _ => kR
    (with_unfolding_all refine' letters_inner (n := 3) ?ze ?zs (by k_asm) (by k_asm) hl hi hz (by decide) hd kR (by decide) (by decide) ?zf kF (lv := d) ?zl ?zd kN ?zq)
    (case ze => with_unfolding_all rfl)
    (case zs => with_unfolding_all rfl)
    (case zf => (intro i9 hi9; omega))
    (case zl => with_unfolding_all rfl)
    (case zd => with_unfolding_all rfl)
    (case zq =>
      intro m9 h9 tk9 hl9 hz9 F9 N9
      k_steps
      (with_unfolding_all refine' kst_end (oc, (d && blksS ns 0)) F9 N9 ?yn ?yo ?ya ?yf ?yk ?yr ?yp)
      (case yn => exact List.forall_mem_cons.mpr ⟨List.Mem.head _, List.forall_mem_nil _⟩)
      (case yo => exact fun p9 hp9 => List.Mem.tail _ hp9)
      (case ya => rfl)
      (case yf => exact ⟨⟨_, hd⟩, trivial⟩)
      (case yk => exact List.forall_mem_cons.mpr ⟨hl9, List.forall_mem_nil _⟩)
      (case yr =>
        intro z h1 h2 h3
        have h4 : z ≠ Str.ofString "level" := h2 _ (List.Mem.head _)
        rw [hz9 z (by rintro rfl; exact absurd h3 (by decide +kernel)) (by rintro rfl; exact absurd h3 (by decide +kernel)) (by rintro rfl; exact absurd h3 (by decide +kernel)) (by rintro rfl; exact absurd h3 (by decide +kernel)) (by rintro rfl; exact absurd h3 (by decide +kernel)) h4]
        simp only [if_neg h4, h3, beq_eq_false_iff_ne.mpr h1, Bool.or_false, Bool.false_eq_true, if_false])
      (case yp => (show (d && blksS ns 0) = lvlTo ns (rng 2 1 (0 + 1)).length; rw [rng_len, hp]; rfl)))
  · unfold InnerAt
    rename Fr _ _ _ _ => kF; rename News _ _ _ _ => kN; rename IsRange _ _ _ _ _ _ _ _ => kR
    (with_unfolding_all refine' letters_inner (n := 2) ?ze ?zs (by k_asm) (by k_asm) hl hi hz (by decide) hd kR (by decide) (by decide) ?zf kF (lv := d) ?zl ?zd kN ?zq)
    (case ze => with_unfolding_all rfl)
    (case zs => with_unfolding_all rfl)
    (case zf => (intro i9 hi9; omega))
    (case zl => with_unfolding_all rfl)
    (case zd => with_unfolding_all rfl)
    (case zq =>
      intro m9 h9 tk9 hl9 hz9 F9 N9
      k_steps
      (with_unfolding_all refine' kst_end (oc, (d && blksS ns 1)) F9 N9 ?yn ?yo ?ya ?yf ?yk ?yr ?yp)
      (case yn => exact List.forall_mem_cons.mpr ⟨List.Mem.head _, List.forall_mem_nil _⟩)
      (case yo => exact fun p9 hp9 => List.Mem.tail _ hp9)
      (case ya => rfl)
      (case yf => exact ⟨⟨_, hd⟩, trivial⟩)
      (case yk => exact List.forall_mem_cons.mpr ⟨hl9, List.forall_mem_nil _⟩)
      (case yr =>
        intro z h1 h2 h3
        have h4 : z ≠ Str.ofString "level" := h2 _ (List.Mem.head _)
        rw [hz9 z (by rintro rfl; exact absurd h3 (by decide +kernel)) (by rintro rfl; exact absurd h3 (by decide +kernel)) (by rintro rfl; exact absurd h3 (by decide +kernel)) (by rintro rfl; exact absurd h3 (by decide +kernel)) (by rintro rfl; exact absurd h3 (by decide +kernel)) h4]
        simp only [if_neg h4, h3, beq_eq_false_iff_ne.mpr h1, Bool.or_false, Bool.false_eq_true, if_false])
      (case yp => (show (d && blksS ns 1) = lvlTo ns (rng 2 1 (1 + 1)).length; rw [rng_len, hp]; rfl)))
  · unfold InnerAt
    rename Fr _ _ _ _ => kF; rename News _ _ _ _ => kN; rename IsRange _ _ _ _ _ _ _ _ => kR
    (with_unfolding_all refine' letters_inner (n := 1) ?ze ?zs (by k_asm) (by k_asm) hl hi hz (by decide) hd kR (by decide) (by decide) ?zf kF (lv := d) ?zl ?zd kN ?zq)
    (case ze => with_unfolding_all rfl)
    (case zs => with_unfolding_all rfl)
    (case zf => (intro i9 hi9; omega))
    (case zl => with_unfolding_all rfl)
    (case zd => with_unfolding_all rfl)
    (case zq =>
      intro m9 h9 tk9 hl9 hz9 F9 N9
      k_steps
      (with_unfolding_all refine' kst_end (oc, (d && blksS ns 2)) F9 N9 ?yn ?yo ?ya ?yf ?yk ?yr ?yp)
      (case yn => exact List.forall_mem_cons.mpr ⟨List.Mem.head _, List.forall_mem_nil _⟩)
      (case yo => exact fun p9 hp9 => List.Mem.tail _ hp9)
      (case ya => rfl)
      (case yf => exact ⟨⟨_, hd⟩, trivial⟩)
      (case yk => exact List.forall_mem_cons.mpr ⟨hl9, List.forall_mem_nil _⟩)
      (case yr =>
        intro z h1 h2 h3
        have h4 : z ≠ Str.ofString "level" := h2 _ (List.Mem.head _)
        rw [hz9 z (by rintro rfl; exact absurd h3 (by decide +kernel)) (by rintro rfl; exact absurd h3 (by decide +kernel)) (by rintro rfl; exact absurd h3 (by decide +kernel)) (by rintro rfl; exact absurd h3 (by decide +kernel)) (by rintro rfl; exact absurd h3 (by decide +kernel)) h4]
        simp only [if_neg h4, h3, beq_eq_false_iff_ne.mpr h1, Bool.or_false, Bool.false_eq_true, if_false])
      (case yp => (show (d && blksS ns 2) = lvlTo ns (rng 2 1 (2 + 1)).length; rw [rng_len, hp]; rfl)))
  · unfold InnerAt
    rename Fr _ _ _ _ => kF; rename News _ _ _ _ => kN; rename IsRange _ _ _ _ _ _ _ _ => kR
    (with_unfolding_all refine' letters_inner (n := 1) ?ze ?zs (by k_asm) (by k_asm) hl hi hz (by decide) hd kR (by decide) (by decide) ?zf kF (lv := d) ?zl ?zd kN ?zq)
    (case ze => with_unfolding_all rfl)
    (case zs => with_unfolding_all rfl)
    (case zf => (intro i9 hi9; omega))
    (case zl => with_unfolding_all rfl)
    (case zd => with_unfolding_all rfl)
    (case zq =>
      intro m9 h9 tk9 hl9 hz9 F9 N9
      k_steps
      (with_unfolding_all refine' kst_end (oc, (d && blksS ns 3)) F9 N9 ?yn ?yo ?ya ?yf ?yk ?yr ?yp)
      (case yn => exact List.forall_mem_cons.mpr ⟨List.Mem.head _, List.forall_mem_nil _⟩)
      (case yo => exact fun p9 hp9 => List.Mem.tail _ hp9)
      (case ya => rfl)
      (case yf => exact ⟨⟨_, hd⟩, trivial⟩)
      (case yk => exact List.forall_mem_cons.mpr ⟨hl9, List.forall_mem_nil _⟩)
      (case yr =>
        intro z h1 h2 h3
        have h4 : z ≠ Str.ofString "level" := h2 _ (List.Mem.head _)
        rw [hz9 z (by rintro rfl; exact absurd h3 (by decide +kernel)) (by rintro rfl; exact absurd h3 (by decide +kernel)) (by rintro rfl; exact absurd h3 (by decide +kernel)) (by rintro rfl; exact absurd h3 (by decide +kernel)) (by rintro rfl; exact absurd h3 (by decide +kernel)) h4]
        simp only [if_neg h4, h3, beq_eq_false_iff_ne.mpr h1, Bool.or_false, Bool.false_eq_true, if_false])
      (case yp => (show (d && blksS ns 3) = lvlTo ns (rng 2 1 (3 + 1)).length; rw [rng_len, hp]; rfl)))
  · unfold InnerAt
    rename Fr _ _ _ _ => kF; rename News _ _ _ _ => kN; rename IsRange _ _ _ _ _ _ _ _ => kR
    (with_unfolding_all refine' letters_inner (n := 1) ?ze ?zs (by k_asm) (by k_asm) hl hi hz (by decide) hd kR (by decide) (by decide) ?zf kF (lv := d) ?zl ?zd kN ?zq)
    (case ze => with_unfolding_all rfl)
    (case zs => with_unfolding_all rfl)
    (case zf => (intro i9 hi9; omega))
    (case zl => with_unfolding_all rfl)
    (case zd => with_unfolding_all rfl)
    (case zq =>
      intro m9 h9 tk9 hl9 hz9 F9 N9
      k_steps
      (with_unfolding_all refine' kst_end (oc, (d && blksS ns 4)) F9 N9 ?yn ?yo ?ya ?yf ?yk ?yr ?yp)
      (case yn => exact List.forall_mem_cons.mpr ⟨List.Mem.head _, List.forall_mem_nil _⟩)
      (case yo => exact fun p9 hp9 => List.Mem.tail _ hp9)
      (case ya => rfl)
      (case yf => exact ⟨⟨_, hd⟩, trivial⟩)
      (case yk => exact List.forall_mem_cons.mpr ⟨hl9, List.forall_mem_nil _⟩)
      (case yr =>
        intro z h1 h2 h3
        have h4 : z ≠ Str.ofString "level" := h2 _ (List.Mem.head _)
        rw [hz9 z (by rintro rfl; exact absurd h3 (by decide +kernel)) (by rintro rfl; exact absurd h3 (by decide +kernel)) (by rintro rfl; exact absurd h3 (by decide +kernel)) (by rintro rfl; exact absurd h3 (by decide +kernel)) (by rintro rfl; exact absurd h3 (by decide +kernel)) h4]
        simp only [if_neg h4, h3, beq_eq_false_iff_ne.mpr h1, Bool.or_false, Bool.false_eq_true, if_false])
      (case yp => (show (d && blksS ns 4) = lvlTo ns (rng 2 1 (4 + 1)).length; rw [rng_len, hp]; rfl)))
  · (show Back _ _ _; unfold Back; dsimp only; refine hret _ _ _ ?_ ?_; (· exact Fr.keep (by k_asm)))
    rw [hp]
end Mine
namespace Mine
section
open Builtin PySem.W.KBd
noncomputable abbrev NB : Array UInt8 := #[66, 67, 68, 69, 70, 71, 72, 73, 74, 75, 76, 77, 78, 79, 80]
noncomputable abbrev NT : Str := Str.ofString "BCDEFGHIJKLMNOP"
variable {t t1 t2 u : Tok} {d : Str}
theorem nb_run : ∀ id, _codecs.runDecoder id _codecs.asciiDecoder none true NB 0 [] = pure (NT.cps, 15) := by intro _; kernel_rfl
theorem nb_road {id : String} : _codecs.decodeRoad id NB (PySem.Str.ofString "ascii") none [] = (_codecs.runDecoder id _codecs.asciiDecoder none true NB 0 [] >>= fun r => mkStr ⟨r.1⟩) := by kernel_rfl
theorem nb_text : Meets («_codecs.decode.text» ⟨[.bytes NB t, .str (PySem.Str.ofString "ascii") t1, .none, .str d t2], []⟩) (fun _ R s => R (.ok (.ret (.str NT s.toks))) { s with toks := s.toks + 1 }) := by
  refine .of_wp fun prog w A R s h => ?_
  show wpAny _ _ (Bytes.bytesLike _ (.bytes NB t) >>= fun r => _) _ _ s
  refine wpAny_bind (wpAny_of_eq like_eq ?_)
  refine wpAny_bind (wpAny_of_eq held_eq ?_)
  show wpAny _ _ (_codecs.decodeRoad _ NB (PySem.Str.ofString "ascii") none [] >>= fun v => _) _ _ s
  rw [nb_road, nb_run]
  refine wpAny_bind (wpAny_bind (wpAny_pure ?_))
  exact wpAny_mkStr (wpAny_pure ⟨_, rfl, h⟩) (by decide +kernel)
theorem nb_entry : «bytes.decode» ⟨[.bytes NB t, .str (PySem.Str.ofString "ascii") u], []⟩ = (mkStr (PySem.Str.ofString "utf-8") >>= fun _ => mkStr (PySem.Str.ofString "ascii") >>= fun e => mkStr (PySem.Str.ofString "bytes.decode") >>= fun d =>
    call (.builtin "_codecs.decode.text") [.bytes NB t, e, .none, d] >>= fun v => ret v) := by kernel_rfl
theorem nb_args (a b : Value) : argsOk "bytes.decode" ⟨[a, b], []⟩ := by
  unfold argsOk; rw [signature?_of (id := "bytes.decode") (n := ['e', 'd', 'o', 'c', 'e', 'd']) (o := ['s', 'e', 't', 'y', 'b']) (by kernel_rfl) FB.owner_bytes]; kernel_rfl
theorem nb_decode : Meets («bytes.decode» ⟨[.bytes NB t, .str (PySem.Str.ofString "ascii") u], []⟩) (fun _ R s => ∀ t' k, R (.ok (.ret (.str NT t'))) { s with toks := k }) := by
  refine .of_wp fun prog w A R s h => ?_
  rw [nb_entry]
  refine wpAny_bind (wpAny_mkStr ?_ (by decide))
  refine wpAny_bind (wpAny_mkStr ?_ (by decide))
  refine wpAny_bind (wpAny_mkStr ?_ (by decide))
  exact wpAny_bind (call_function_meets kind_text plain_text entry_text (args_text _ _ _ _) nb_text (wpAny_pure ⟨_, rfl, h _ _⟩))
theorem call_nb {prog : Program} {w : World} {A : Around} {E : Value → Shared → Prop} {s : Shared} {Q : Value → Shared → Prop} (h : ∀ t' k, Q (.str NT t') { s with toks := k }) :
    wpAny (model prog w) A (call (.builtin "bytes.decode") [.bytes NB t, .str (PySem.Str.ofString "ascii") u]) Q E s :=
  call_meets FB.slot_bytes_decode (typeIs_bytes _ _ _) FB.entry_bytes_decode (nb_args _ _) nb_decode h
end
end Mine
namespace Mine
theorem ap_all : (ap 81985529216486895).toArray = #[66, 67, 68, 69, 70, 71, 72, 73, 74, 75, 76, 77, 78, 79, 80] := by decide +kernel
section
variable {w : World} {mg mb : Str → Option Value} {s : Shared} {h₀ : Heap} {L : Addr} {m : Str → Option Value} {news : List (Addr × Obj)} {E : Value → Shared → Prop} {t u : Tok} {x y : Str}
  {mean : ExcName → Option Value} {gd : Option (List Code)} {cn : Str} {cs : Scope} {a : Addr} {ccd : Value} {cl : List (Str × Addr)} {outer : List Env} {Q : Value → Shared → Prop}
theorem ap_names (F : Fr h₀ L s.heap m) (N : News h₀ L s.heap news) (X : (hd.heap_1 w.params).In h₀) (T : Top hd.view_1 (looseW hd.view_1 [Str.ofString "IPV4_RE"]) mean mg mb h₀)
    (h : ∀ h' tk' t', Fr h₀ L h' m → News h₀ L h' news → Q (.bytes #[66, 67, 68, 69, 70, 71, 72, 73, 74, 75, 76, 77, 78, 79, 80] t') { s with heap := h', toks := tk' }) :
    wpAny (model PySem.Challenge.rw_xj0016_01.row.prog w) (ktrTop 303 10 gd cn cs L a ccd cl outer) (call (.ref 108) [.int 81985529216486895 t]) Q E s :=
  ap_call F N X T (by decide) fun h' tk' t' F' N' => by
    have := h h' tk' t' F' N'
    rw [← ap_all] at this
    exact this
theorem dm_call (F : Fr h₀ L s.heap m) (N : News h₀ L s.heap news) (X : (hd.heap_1 w.params).In h₀) (T : Top hd.view_1 (looseW hd.view_1 [Str.ofString "IPV4_RE"]) mean mg mb h₀)
    (hx : x.length ≤ 300) (hy : y.length ≤ 300) (h : ∀ h' tk', Fr h₀ L h' m → News h₀ L h' news → Q (.bool (dmatch x y)) { s with heap := h', toks := tk' }) :
    wpAny (model PySem.Challenge.rw_xj0016_01.row.prog w) (ktrTop 303 10 gd cn cs L a ccd cl outer) (call (.ref 50) [.str x t, .str y u]) Q E s :=
  t_dmatch w x y t u mean mg mb gd cn cs a ccd cl outer h₀ L m s Q E F X T ⟨hx, hy⟩ fun r h' tk' st e => by
    subst e; exact h h' tk' (fr_stay F st) (news_stay N st)
end
end Mine
namespace Mine
/-- a turn's end: the ledger may have grown -/
noncomputable def StepJ (h₀ : Heap) (L : Addr) (own : List (Addr × Obj)) (wr : List Addr) (J : (Str → Option Value) → List (Addr × Obj) → Prop) (s₁ : Shared) (Q : Flow → Shared → Prop) (f : Flow) (s₂ : Shared) : Prop :=
  match f with
  | .ret v => Q (.ret v) s₂
  | .brk => Q .next s₂
  | _ => ∃ h' tk m' news', s₂ = { s₁ with heap := h', toks := tk } ∧ Fr h₀ L h' m' ∧ News h₀ L h' (own ++ news') ∧ (∀ p ∈ news', p.1 ∉ wr) ∧ J m' news'
/-- the loop as its rule wants it -/
inductive JAt (prog : Program) (w : World) (A : Around) (h₀ : Heap) (env : Env) (target : Expr) (body : List Stmt) (Q : Flow → Shared → Prop) (E : Value → Shared → Prop) (it : Value) (s₂ : Shared) : Prop
  | mk (I : Addr) (fp wr : List Addr) (n : Nat) (P : Nat → Value → Prop) (St : Nat → Heap → Prop) (m : Str → Option Value) (news : List (Addr × Obj)) (J : Nat → (Str → Option Value) → List (Addr × Obj) → Prop)
    (hit : it = .ref I) (W : Walks prog w A I fp wr n P St) (hIf : I ∈ fp) (hIw : I ∈ wr) (hIo : ∀ i h, St i h → ∃ o, h.get? I = some o) (hLf : env.locals ∉ fp) (hwr : ∀ b ∈ wr, h₀.get? b = none) (hnw : ∀ p ∈ news, p.1 ∉ wr)
    (hst : St 0 s₂.heap) (F : Fr h₀ env.locals s₂.heap m) (N : News h₀ env.locals s₂.heap news)
    (hgo : ∀ i (s' : Shared) v (Q' : Unit → Shared → Prop), St i s'.heap → Q' () s' → wpAny (model prog w) A (letOwnedTupleGo target (.ref I) v) Q' E s') (h0 : J 0 m news)
    (turn : ∀ i v m₁ news₁ h tk own, i < n → P i v → (∀ p ∈ own, p.1 ∈ fp) → (∃ o, (I, o) ∈ own) → (∀ p ∈ news₁, p.1 ∉ wr) → J i m₁ news₁ → Fr h₀ env.locals h m₁ → News h₀ env.locals h (own ++ news₁) →
      wpAny (model prog w) A (assign target env v) (fun _ s₃ => wpAny (model prog w) A (execs body env) (StepJ h₀ env.locals own wr (J (i + 1)) { s₂ with heap := h, toks := tk } Q) E s₃) E { s₂ with heap := h, toks := tk })
    (done : ∀ m₁ news₁ h tk, J n m₁ news₁ → Fr h₀ env.locals h m₁ → News h₀ env.locals h news₁ → Q .next { s₂ with heap := h, toks := tk }) : JAt prog w A h₀ env target body Q E it s₂
/-- its invariant -/
inductive JInv (s₂ : Shared) (h₀ : Heap) (L : Addr) (wr : List Addr) (n : Nat) (St : Nat → Heap → Prop) (J : Nat → (Str → Option Value) → List (Addr × Obj) → Prop) (k : Nat) (s' : Shared) : Prop
  | mk (h' : Heap) (tk : Nat) (m' : Str → Option Value) (news' : List (Addr × Obj)) (i : Nat) (e : s' = { s₂ with heap := h', toks := tk }) (st : St i h') (F : Fr h₀ L h' m') (N : News h₀ L h' news') (hw : ∀ p ∈ news', p.1 ∉ wr) (hJ : J i m' news') (hi : i ≤ n) (hk : k = n + 1 - i) : JInv s₂ h₀ L wr n St J k s'
/-- a turn's end, unfolded -/
inductive JEnd (s₂ : Shared) (h₀ : Heap) (L : Addr) (own : List (Addr × Obj)) (wr : List Addr) (J : (Str → Option Value) → List (Addr × Obj) → Prop) (s₃ : Shared) : Prop
  | mk (h' : Heap) (tk : Nat) (m' : Str → Option Value) (news' : List (Addr × Obj)) (e : s₃ = { s₂ with heap := h', toks := tk }) (F : Fr h₀ L h' m') (N : News h₀ L h' (own ++ news')) (hw : ∀ p ∈ news', p.1 ∉ wr) (hJ : J m' news') : JEnd s₂ h₀ L own wr J s₃
theorem JEnd.of {s₂ : Shared} {h₀ : Heap} {L : Addr} {own : List (Addr × Obj)} {wr : List Addr} {J : (Str → Option Value) → List (Addr × Obj) → Prop} {s₃ : Shared} {h₁ : Heap} {tk₁ : Nat} (h : ∃ h' tk m' news', s₃ = { { s₂ with heap := h₁, toks := tk₁ } with heap := h', toks := tk } ∧ Fr h₀ L h' m' ∧ News h₀ L h' (own ++ news') ∧ (∀ p ∈ news', p.1 ∉ wr) ∧ J m' news') : JEnd s₂ h₀ L own wr J s₃ := by
  obtain ⟨h', tk, m', news', e, F, N, hw, hJ⟩ := h
  exact ⟨h', tk, m', news', e, F, N, hw, hJ⟩
section
variable {prog : Program} {w : World} {A : Around} {s : Shared} {env : Env} {h₀ : Heap}
theorem For_J {E : Value → Shared → Prop} {Q : Flow → Shared → Prop} {target iter : Expr} {pos : Pos} {body : List Stmt}
    (h : wpAny (model prog w) A (eval iter env) (fun xv s₁ => wpAny (model prog w) A (pyIter xv) (fun it s₂ => JAt prog w A h₀ env target body Q E it s₂) E s₁) E s)
    (hs : ∀ x, foldedSetIterable iter env x = pure x)
    (hE : PassesOwn (model prog w) A env E := by passes_own) :
    wpAny (model prog w) A (exec (.For target iter body [] pos) env) Q E s := by
  refine wpAny_For (wpAny_mono h (fun xv s₁ h₁ => wpAny_mono h₁ (fun it s₂ h₂ => ?_) fun _ _ e => e) fun _ _ e => e) hs
  obtain ⟨I, fp, wr, n, P, St, m, news, J, rfl, W, hIf, hIw, hIo, hLf, hwr, hnw, hst, F, N, hgo, h0, turn, done⟩ := h₂
  have hLw : env.locals ∉ wr := fun q => hLf (W.sub _ q)
  have old : ∀ b o, h₀.get? b = some o → b ∉ wr := fun b o e hb => by rw [hwr b hb] at e; cases e
  refine codeAny_forLoop_any (fun k s' => JInv s₂ h₀ env.locals wr n St J k s') ?_ (n + 1) (.mk s₂.heap s₂.toks m news 0 rfl hst F N hnw h0 (Nat.zero_le _) rfl)
  rintro k s' ⟨h', tk, m', news', i, rfl, hst', F', N', hw', hJ, hi, rfl⟩
  have next : ∀ h₁ : Heap, (∀ b o, b ∉ wr → h'.get? b = some o → h₁.get? b = some o) → Fr h₀ env.locals h₁ m' ∧ News h₀ env.locals h₁ news' := fun h₁ hk₁ =>
    ⟨⟨F'.ns.at' fun o e => hk₁ _ o hLw e, fun b o e => hk₁ b o (old b o e) (F'.keep b o e), F'.above⟩, fun p hp => ⟨hk₁ _ _ (hw' p hp) (N' p hp).1, (N' p hp).2⟩⟩
  by_cases hlt : i < n
  · refine W.item i _ _ _ hlt hst' fun v h₁ tk₁ hP hst₁ hk₁ => ?_
    obtain ⟨F₁, N₁⟩ := next h₁ hk₁
    refine wpAny_passesOwn hE (hgo (i + 1) _ v _ hst₁ ?_)
    have fin : ∀ s₃, JEnd s₂ h₀ env.locals (ownOf h₀ fp h₁) wr (J (i + 1)) s₃ → ∃ j, j < n + 1 - i ∧ JInv s₂ h₀ env.locals wr n St J j s₃ := by
      rintro _ ⟨h₃, tk₃, m₂, news₂, rfl, F₃, N₃, hw₃, hJ₃⟩
      refine ⟨n + 1 - (i + 1), Nat.sub_lt_sub_left (Nat.lt_succ_of_lt hlt) (Nat.lt_succ_self i), .mk h₃ tk₃ m₂ news₂ (i + 1) rfl ?_ F₃ N₃.right hw₃ hJ₃ hlt rfl⟩
      refine W.frame _ _ _ hst₁ fun b hb o e => ?_
      cases hn : h₀.get? b with
      | some o₀ =>
        have : o₀ = o := by have := F₁.keep b o₀ hn; rw [e] at this; exact (Option.some.inj this).symm
        exact this ▸ F₃.keep b o₀ hn
      | none => exact (N₃ _ (List.mem_append_left _ (mem_ownOf hb hn e))).1
    have hown : ∃ o, (I, o) ∈ ownOf h₀ fp h₁ := by
      obtain ⟨o, ho⟩ := hIo _ _ hst₁
      exact ⟨o, mem_ownOf hIf (hwr I hIw) ho⟩
    refine wpAny_mono (turn i v m' news' h₁ tk₁ (ownOf h₀ fp h₁) hlt hP ownOf_sub hown hw' hJ F₁ ((news_ownOf hLf).append N₁)) (fun _ s₃ h₃ => wpAny_mono (wpAny_passesOwn hE h₃) (fun f s₄ h₄ => ?_) fun _ _ e => e) hE
    cases f with
    | ret v => exact h₄
    | brk => exact h₄
    | cont => exact fin _ (JEnd.of h₄)
    | next => exact fin _ (JEnd.of h₄)
  · have hin : i = n := Nat.le_antisymm hi (Nat.le_of_not_lt hlt)
    subst hin
    refine W.done _ _ _ hst' fun h₁ tk₁ hk₁ => wpAny_execs_nil ?_
    obtain ⟨F₁, N₁⟩ := next h₁ hk₁
    exact done m' news' h₁ tk₁ hJ F₁ N₁
theorem iter_range_J {E : Value → Shared → Prop} {Q : Flow → Shared → Prop} {x : Str} {p : Pos} {body : List Stmt} {m : Str → Option Value} {news : List (Addr × Obj)} {r : Addr} {a₀ b₀ c₀ : Int} {t₀ u₀ v₀ : Tok} {n : Nat}
    (hh : A.handled = none) (hr : IsRange s.heap r a₀ b₀ c₀ t₀ u₀ v₀) (hsmall : Builtin.Range.small a₀ b₀ c₀ = true) (hn : Builtin.Range.rangeSize a₀ b₀ c₀ = (n : Int)) (F : Fr h₀ env.locals s.heap m) (N : News h₀ env.locals s.heap news)
    (J : Nat → (Str → Option Value) → List (Addr × Obj) → Prop) (h0 : J 0 m news)
    (turn : ∀ i t m₁ news₁ h tk own, i < n → (∀ p ∈ own, p.1 = s.heap.objs.size) → (∃ o, (s.heap.objs.size, o) ∈ own) → (∀ p ∈ news₁, p.1 ≠ s.heap.objs.size) → J i m₁ news₁ → Fr h₀ env.locals h m₁ → News h₀ env.locals h (own ++ news₁) →
      wpAny (model prog w) A (assign (.Name x p) env (.int (a₀ + (i : Nat) * c₀) t)) (fun _ s₃ => wpAny (model prog w) A (execs body env) (StepJ h₀ env.locals own [s.heap.objs.size] (J (i + 1)) { s with heap := h, toks := tk } Q) E s₃) E { s with heap := h, toks := tk })
    (done : ∀ m₁ news₁ h tk, J n m₁ news₁ → Fr h₀ env.locals h m₁ → News h₀ env.locals h news₁ → Q .next { s with heap := h, toks := tk }) :
    wpAny (model prog w) A (pyIter (.ref r)) (fun it s₂ => JAt prog w A h₀ env (.Name x p) body Q E it s₂) E s := by
  refine wpAny_pyIter_range hr hsmall ?_
  refine ⟨s.heap.objs.size, [s.heap.objs.size], [s.heap.objs.size], n, _, _, m, news, J, rfl, Walks.range hh _ a₀ c₀ n, List.mem_singleton.mpr rfl, List.mem_singleton.mpr rfl, fun i h st => ⟨_, st⟩, ?_, ?_, ?_, (by show IsRangeIter _ _ _ _ _; rw [hn]; simpa using Heap.get?_push_size _ rfl), F.push _, (fun p hp => ⟨Heap.get?_push_of_some _ (N p hp).1, (N p hp).2⟩), (fun i s' v Q' st hQ' => letGo_name hQ'), h0, ?_, ?_⟩
  · intro hm
    exact absurd F.ns.lt ((List.mem_singleton.mp hm) ▸ Nat.lt_irrefl _)
  · intro b hb
    rw [List.mem_singleton.mp hb]
    exact next_is_new F
  · intro p hp hI
    exact absurd (Heap.lt_size (N p hp).1) ((List.mem_singleton.mp hI) ▸ Nat.lt_irrefl _)
  · rintro i v m₁ news₁ h tk own hi ⟨t, rfl⟩ ho hI hw hJ F₁ N₁
    exact turn i t m₁ news₁ h tk own hi (fun p hp => List.mem_singleton.mp (ho p hp)) hI (fun p hp q => hw p hp (List.mem_singleton.mpr q)) hJ F₁ N₁
  · intro m₁ news₁ h tk hJ F₁ N₁
    exact done m₁ news₁ h tk hJ F₁ N₁
end
end Mine
namespace Mine
section
variable {prog : Program} {w : World} {A : Around} {s : Shared} {env : Env} {h₀ : Heap}
/-- a for over a list of the ledger, any target, by an invariant; the ledger may grow -/
theorem iter_list_J {E : Value → Shared → Prop} {Q : Flow → Shared → Prop} {target : Expr} {body : List Stmt} {m : Str → Option Value} {news : List (Addr × Obj)} {l : Addr} {vs : List Value} {nn : Nat}
    (hh : A.handled = none) (hlm : (l, listOf vs.toArray nn) ∈ news) (F : Fr h₀ env.locals s.heap m) (N : News h₀ env.locals s.heap news)
    (hgo : ∀ (i : Nat) (s' : Shared) v (Q' : Unit → Shared → Prop), s'.heap.IsListIter s.heap.objs.size l i → Q' () s' → wpAny (model prog w) A (letOwnedTupleGo target (.ref s.heap.objs.size) v) Q' E s')
    (J : Nat → (Str → Option Value) → List (Addr × Obj) → Prop) (h0 : J 0 m news)
    (turn : ∀ i v m₁ news₁ h tk own, vs[i]? = some v → (∀ p ∈ own, p.1 = s.heap.objs.size ∨ p.1 = l) → (∃ o, (s.heap.objs.size, o) ∈ own) → (∀ p ∈ news₁, p.1 ≠ s.heap.objs.size) → J i m₁ news₁ → Fr h₀ env.locals h m₁ → News h₀ env.locals h (own ++ news₁) →
      wpAny (model prog w) A (assign target env v) (fun _ s₃ => wpAny (model prog w) A (execs body env) (StepJ h₀ env.locals own [s.heap.objs.size] (J (i + 1)) { s with heap := h, toks := tk } Q) E s₃) E { s with heap := h, toks := tk })
    (done : ∀ m₁ news₁ h tk, J vs.length m₁ news₁ → Fr h₀ env.locals h m₁ → News h₀ env.locals h news₁ → Q .next { s with heap := h, toks := tk }) :
    wpAny (model prog w) A (pyIter (.ref l)) (fun it s₂ => JAt prog w A h₀ env target body Q E it s₂) E s := by
  have hls : s.heap.IsList l vs.toArray := ⟨_, (N _ hlm).1, rfl, nn, rfl⟩
  have hol : s.heap.get? l = some (listOf vs.toArray nn) := (N _ hlm).1
  have hne : l ≠ s.heap.objs.size := Nat.ne_of_lt (Heap.lt_size hol)
  refine wpAny_pyIter_list hls ?_
  have W := Walks.list (prog := prog) (w := w) hh s.heap.objs.size l hne vs.toArray
  rw [List.size_toArray] at W
  refine ⟨s.heap.objs.size, [s.heap.objs.size, l], [s.heap.objs.size], vs.length, _, _, m, news, J, rfl, W, .head _, List.mem_singleton.mpr rfl, fun i h st => ?_, ?_, ?_, ?_, ⟨⟨_, Heap.get?_push_size _ rfl, rfl, rfl⟩, hls.at fun o e => Heap.get?_push_of_some _ e⟩, F.push _, (fun p hp => ⟨Heap.get?_push_of_some _ (N p hp).1, (N p hp).2⟩), (fun i s' v Q' st hQ' => hgo i s' v Q' st.1 hQ'), h0, ?_, ?_⟩
  · obtain ⟨o, ho, _⟩ := st.1
    exact ⟨o, ho⟩
  · intro hm
    rcases List.mem_cons.mp hm with e | hm
    · exact absurd F.ns.lt (e ▸ Nat.lt_irrefl _)
    · exact (N _ hlm).2.1 ((List.mem_singleton.mp hm).symm)
  · intro b hb
    rw [List.mem_singleton.mp hb]
    exact next_is_new F
  · intro p hp hI
    exact absurd (Heap.lt_size (N p hp).1) ((List.mem_singleton.mp hI) ▸ Nat.lt_irrefl _)
  · rintro i v m₁ news₁ h tk own hi hv ho hI hw hJ F₁ N₁
    refine turn i v m₁ news₁ h tk own (by simpa using hv) (fun p hp => ?_) hI (fun p hp q => hw p hp (List.mem_singleton.mpr q)) hJ F₁ N₁
    rcases List.mem_cons.mp (ho p hp) with q | q
    · exact .inl q
    · exact .inr (List.mem_singleton.mp q)
  · intro m₁ news₁ h tk hJ F₁ N₁
    exact done m₁ news₁ h tk hJ F₁ N₁
end
end Mine
namespace Mine
theorem off1_ne {D : Addr} : ∀ {l : List (Addr × Obj)}, LCg.Off1 D l → ∀ p ∈ l, p.1 ≠ D
  | [], _, _, h => nomatch h
  | q :: r, h, p, hp => by
    rcases List.mem_cons.mp hp with rfl | hp
    · exact h.1
    · exact off1_ne h.2 p hp
noncomputable def InnerN (p : Prop) : Prop := p
noncomputable def namesTurn : List Stmt := nth (defBody 23) 3
/-- a name's letter -/
noncomputable def nm (k : Int) : Str := Txt.item (Str.ofString "BCDEFGHIJKLMNOP") k
noncomputable def restsOf (b : Int) (ns : List Int) : List Int := (ns.take b.toNat).map fun k => k.fmod b
theorem names_len : (Str.ofString "BCDEFGHIJKLMNOP").length = 15 := by decide +kernel
theorem nm_len (k : Int) : (nm k).length = 1 := rfl
section
variable {prog : Program} {w : World} {A : Around} {E : Value → Shared → Prop} {s : Shared} {L D : Addr} {h₀ : Heap} {news : List (Addr × Obj)} {t u : Tok} {k b : Int} {ns : List Int} {Q : Value → Shared → Prop} {value slice : PySem.Expr}
theorem item_nm (h0 : 0 ≤ k) (h1 : k < 15) (h : Q (.str (nm k) s.toks) { s with toks := s.toks + 1 })
    (hs : subscripted slice false (.str (Str.ofString "BCDEFGHIJKLMNOP") t) (.int k u) = operate [.str (Str.ofString "BCDEFGHIJKLMNOP") t, .int k u] (getItem (.str (Str.ofString "BCDEFGHIJKLMNOP") t) (.int k u)) := by with_unfolding_all rfl)
    (ht : ∀ r, letTemporaryGo value (.str (Str.ofString "BCDEFGHIJKLMNOP") t) r = pure () := by intro _; with_unfolding_all rfl) :
    wpAny (model prog w) A (subscriptTail value slice (.str (Str.ofString "BCDEFGHIJKLMNOP") t) (.int k u)) Q E s :=
  item_str (fitsSsize_of (N := 9223372036854775808) (by (first | lia | omega)) (by (first | lia | omega)) (Int.le_refl _)) (by rw [names_len]; (first | lia | omega)) (by rw [names_len]; (first | lia | omega)) (fun _ => h) hs ht
theorem rest_bnd {k : Int} (hb : 2 ≤ b ∧ b ≤ 5) (h : k ∈ (ns.take b.toNat).map fun k => k.fmod b) : 0 ≤ k ∧ k < 15 := by
  obtain ⟨c, _, rfl⟩ := List.mem_map.mp h
  have h1 := Int.fmod_nonneg_of_pos c (b := b) (by (first | lia | omega))
  have h2 := Int.fmod_lt_of_pos c (b := b) (by (first | lia | omega))
  (first | lia | omega)
theorem nm_sum : ∀ ks : List Int, ((ks.map nm).map (·.length)).sum = ks.length
  | [] => rfl
  | a :: l => by
    have := nm_sum l
    simp only [List.map_cons, List.sum_cons, List.length_cons, nm_len, this]
    (first | lia | omega)
theorem nm_joinlen (ks : List Int) (hn : ks.length ≤ 10) : (Txt.join (Str.ofString ".") (ks.map nm)).length ≤ 20 := by
  have := StrLaws.join_length_le (Str.ofString ".") (ks.map nm)
  have e1 : (Str.ofString ".").length = 1 := by decide +kernel
  rw [e1, nm_sum, List.length_map] at this
  have e3 : Txt.join (Str.ofString ".") (ks.map nm) = Str.join (Str.ofString ".") (ks.map nm) := StrLaws.glued_eq_join _ _
  rw [e3]; (first | lia | omega)
theorem nm_join {ks : List Int} {ys : List Value} (N : News h₀ L s.heap news) (hm : (D, LCg.lst ys) ∈ news) (hc : CarriedAll ys (ks.map fun k => PyData.str (nm k))) (hn : ks.length ≤ 10)
    (h : ∀ t' k, (Txt.join (Str.ofString ".") (ks.map nm)).length ≤ 20 → Q (.str (Txt.join (Str.ofString ".") (ks.map nm)) t') { s with toks := k }) : wpAny (model prog w) A (call (.builtin "str.join") [.str (Str.ofString ".") t, .ref D]) Q E s :=
  KT.join_B (g := nm) 1 (News.isList N hm) hc (fun a ha => Nat.le_of_eq (nm_len a)) (by (first | lia | omega)) (by decide +kernel) (fun t' k => h t' k (nm_joinlen ks hn))
theorem rests_sz {ys : List Value} (h : IntsAre ys ((ns.take b.toNat).map fun k => k.fmod b)) (hz : ns.length = 6) : ys.toArray.size ≤ sizeLine := by
  have := h.length
  rw [sizeLine_eq, List.size_toArray, this, List.length_map, List.length_take]
  (first | lia | omega)
end
noncomputable def hostT (b : Int) (ns : List Int) : Str := Str.ofString "x." ++ Txt.join (Str.ofString ".") (((ns.take b.toNat).map fun k => k.fmod b).map nm)
/-- a rest is found in a host -/
noncomputable def fnd (b : Int) (ns : List Int) (r : Int) : Bool := if b.fmod 2 = 0 then dmatch (Txt.lower (hostT b ns)) (Str.ofString "." ++ nm r) else dmatch (hostT b ns) (Str.ofString "." ++ Txt.lower (nm r))
noncomputable def lowFrom (b : Int) (ns : List Int) (lv : Int) : Nat → Int
  | 0 => lv
  | j + 1 => if fnd b ns (j : Int) = true then lowFrom b ns lv j else b + 1
theorem low_nil {b lv : Int} {ns : List Int} : lv = lowFrom b ns lv ([] : List Int).length := rfl
theorem low_e1 {b lv k least : Int} {ns pre : List Int} (hp : least = lowFrom b ns lv pre.length) (hk : k = 0 + (pre.length : Int)) (hb : b.fmod 2 = 0) (hd : (dmatch (Txt.lower (Str.ofString "x." ++ Txt.join (Str.ofString ".") (List.map nm (List.map (fun k' => k'.fmod b) (List.take b.toNat ns))))) (Str.ofString "." ++ nm k) == false) = true) : b + 1 = lowFrom b ns lv (pre ++ [k]).length := by
  have e : k = (pre.length : Int) := by (first | lia | omega)
  have hd' : fnd b ns (pre.length : Int) = false := by
    rw [fnd, if_pos hb, ← e]
    show dmatch (Txt.lower (Str.ofString "x." ++ Txt.join (Str.ofString ".") (List.map nm (List.map (fun k' => k'.fmod b) (List.take b.toNat ns))))) (Str.ofString "." ++ nm k) = _
    cases q : dmatch (Txt.lower (Str.ofString "x." ++ Txt.join (Str.ofString ".") (List.map nm (List.map (fun k' => k'.fmod b) (List.take b.toNat ns))))) (Str.ofString "." ++ nm k) with
    | true => rw [q] at hd; cases hd
    | false => rfl
  rw [List.length_append, List.length_singleton, lowFrom, hd']
  simp
theorem low_e2 {b lv k least : Int} {ns pre : List Int} (hp : least = lowFrom b ns lv pre.length) (hk : k = 0 + (pre.length : Int)) (hb : b.fmod 2 = 0) (hd : (dmatch (Txt.lower (Str.ofString "x." ++ Txt.join (Str.ofString ".") (List.map nm (List.map (fun k' => k'.fmod b) (List.take b.toNat ns))))) (Str.ofString "." ++ nm k) == false) = false) : least = lowFrom b ns lv (pre ++ [k]).length := by
  have e : k = (pre.length : Int) := by (first | lia | omega)
  have hd' : fnd b ns (pre.length : Int) = true := by
    rw [fnd, if_pos hb, ← e]
    show dmatch (Txt.lower (Str.ofString "x." ++ Txt.join (Str.ofString ".") (List.map nm (List.map (fun k' => k'.fmod b) (List.take b.toNat ns))))) (Str.ofString "." ++ nm k) = _
    cases q : dmatch (Txt.lower (Str.ofString "x." ++ Txt.join (Str.ofString ".") (List.map nm (List.map (fun k' => k'.fmod b) (List.take b.toNat ns))))) (Str.ofString "." ++ nm k) with
    | true => rfl
    | false => rw [q] at hd; cases hd
  rw [List.length_append, List.length_singleton, lowFrom, hd']
  simp [hp]
theorem low_o1 {b lv k least : Int} {ns pre : List Int} (hp : least = lowFrom b ns lv pre.length) (hk : k = 0 + (pre.length : Int)) (hb : ¬ b.fmod 2 = 0) (hd : (dmatch (Str.ofString "x." ++ Txt.join (Str.ofString ".") (List.map nm (List.map (fun k' => k'.fmod b) (List.take b.toNat ns)))) (Str.ofString "." ++ Txt.lower (nm k)) == false) = true) : b + 1 = lowFrom b ns lv (pre ++ [k]).length := by
  have e : k = (pre.length : Int) := by (first | lia | omega)
  have hd' : fnd b ns (pre.length : Int) = false := by
    rw [fnd, if_neg hb, ← e]
    show dmatch (Str.ofString "x." ++ Txt.join (Str.ofString ".") (List.map nm (List.map (fun k' => k'.fmod b) (List.take b.toNat ns)))) (Str.ofString "." ++ Txt.lower (nm k)) = _
    cases q : dmatch (Str.ofString "x." ++ Txt.join (Str.ofString ".") (List.map nm (List.map (fun k' => k'.fmod b) (List.take b.toNat ns)))) (Str.ofString "." ++ Txt.lower (nm k)) with
    | true => rw [q] at hd; cases hd
    | false => rfl
  rw [List.length_append, List.length_singleton, lowFrom, hd']
  simp
theorem low_o2 {b lv k least : Int} {ns pre : List Int} (hp : least = lowFrom b ns lv pre.length) (hk : k = 0 + (pre.length : Int)) (hb : ¬ b.fmod 2 = 0) (hd : (dmatch (Str.ofString "x." ++ Txt.join (Str.ofString ".") (List.map nm (List.map (fun k' => k'.fmod b) (List.take b.toNat ns)))) (Str.ofString "." ++ Txt.lower (nm k)) == false) = false) : least = lowFrom b ns lv (pre ++ [k]).length := by
  have e : k = (pre.length : Int) := by (first | lia | omega)
  have hd' : fnd b ns (pre.length : Int) = true := by
    rw [fnd, if_neg hb, ← e]
    show dmatch (Str.ofString "x." ++ Txt.join (Str.ofString ".") (List.map nm (List.map (fun k' => k'.fmod b) (List.take b.toNat ns)))) (Str.ofString "." ++ Txt.lower (nm k)) = _
    cases q : dmatch (Str.ofString "x." ++ Txt.join (Str.ofString ".") (List.map nm (List.map (fun k' => k'.fmod b) (List.take b.toNat ns)))) (Str.ofString "." ++ Txt.lower (nm k)) with
    | true => rfl
    | false => rw [q] at hd; cases hd
  rw [List.length_append, List.length_singleton, lowFrom, hd']
  simp [hp]
theorem not_both {d : Bool} (h1 : (d == false) = false) (h2 : (d != true) = true) : False := by cases d <;> simp at h1 h2
section
variable {w : World} {mean : ExcName → Option Value} {mg mb : Str → Option Value} {s : Shared} {g : Heap} {L' l : Addr} {m : Str → Option Value} {news : List (Addr × Obj)} {E : Value → Shared → Prop} {Q : Flow → Shared → Prop} {A : Around}
  {body : List Stmt} {sk : ScopeKind} {names : List (Str × NameKind)} {ig ic : Bool} {more : List (Str × Const)} {on os : Obj} {vs : List Value} {ns : List Int} {b lv : Int} {tn tb tl : Tok}
  {gd : Option (List Code)} {cn : Str} {cs : Scope} {L a : Addr} {ccd : Value} {cl : List (Str × Addr)} {outer : List Env}
set_option maxHeartbeats 1000000 in
theorem names_turn {s0 : Stmt} (e : namesTurn = s0 :: body) (es' : defScope 23 = Scope.mk sk names ig ic more) (X : (hd.heap_1 w.params).In g) (TT : Top hd.view_1 (looseW hd.view_1 [Str.ofString "IPV4_RE"]) mean mg mb g)
    (hl : g.IsList l vs.toArray) (hi : IntsAre vs ns) (hz : ns.length = 6) (hb : 2 ≤ b ∧ b ≤ 5) (hon : on.data = .cell (some (.str (Str.ofString "BCDEFGHIJKLMNOP") tn))) (hos : os.data = .cell (some (.int b tb)))
    (F : Fr g L' s.heap (kstB m [(Str.ofString "least", .int lv tl), (Str.ofString "deck", .ref l)]))
    (N : News g L' s.heap ((L' + 1, on) :: (L' + 2, os) :: news))
    (hQ : ∀ h' tk' D rv (m' : Str → Option Value), (∀ z, z ≠ Str.ofString "rests" → z ≠ Str.ofString "host" → z ≠ Str.ofString "rest" → z ≠ Str.ofString "found" → z ≠ Str.ofString "least" → m' z = kstB m [(Str.ofString "least", .int lv tl), (Str.ofString "deck", .ref l)] z) →
      (∃ n t, m' (Str.ofString "least") = some (.int n t) ∧ n = lowFrom b ns lv b.toNat) → m' (Str.ofString "rests") = some (.ref D) → (∃ t, m' (Str.ofString "host") = some (.str (hostT b ns) t)) → IntsAre rv ((ns.take b.toNat).map fun k => k.fmod b) →
      (∀ p ∈ news, p.1 ≠ D) → (L' + 1 ≠ D ∧ L' + 2 ≠ D) → Fr g L' h' m' → News g L' h' ((D, LCg.lst rv) :: (L' + 1, on) :: (L' + 2, os) :: news) → Q .next { s with heap := h', toks := tk' }) :
    wpAny (model PySem.Challenge.rw_xj0016_01.row.prog w) ((ktrTop 302 7 gd cn cs L a ccd cl outer).deeper (envOfC (Str.ofString "_law_by_names") (Scope.mk sk names ig ic more) L' 158 (.ref 157))) (execs (s0 :: body) (envOfC (Str.ofString "_law_by_names") (Scope.mk sk names ig ic more) L' 158 (.ref 157))) Q (fun _ _ => False) s := by
  w_top off
  k_with_none
  k_with "own call ref" => ((k_here; (with_reducible show wpAny _ _ (call (Value.ref 50) _) _ _ _); k_dflt (refine' dm_call (by k_asm) (by k_asm) (by k_asm) (by k_asm) (by with_reducible first | assumption | omega) (by with_reducible first | assumption | omega) ?_; k_whole); intro h9 tk9 F9 N9; (try k_sweep); (try dsimp only); (try k_fold)))
  k_with "own subscriptTail" => ((k_here; (with_reducible show wpAny _ _ (subscriptTail _ _ (Value.str (Str.ofString "BCDEFGHIJKLMNOP") _) (Value.int _ _)) _ _ _); (first | ((rename _ ∈ List.map _ (List.take _ _) => km); (refine item_nm (rest_bnd (by assumption) km).1 (rest_bnd (by assumption) km).2 ?_)) | (refine item_nm (by omega) (by omega) ?_))))
  k_with "own subscriptTail Name Name str int" => ((k_here; (with_reducible show wpAny _ _ (subscriptTail _ _ (Value.str (Str.ofString "BCDEFGHIJKLMNOP") _) (Value.int _ _)) _ _ _); (first | ((rename _ ∈ List.map _ (List.take _ _) => km); (refine item_nm (rest_bnd (by assumption) km).1 (rest_bnd (by assumption) km).2 ?_)) | (refine item_nm (by omega) (by omega) ?_))))
  k_with "own call builtin:str.join" => ((k_here; (with_reducible show wpAny _ _ (call (Value.builtin "str.join") [Value.str _ _, Value.ref _]) _ _ _); k_dflt (refine' nm_join (by k_asm) (by k_mem) (by assumption) (by (simp only [List.length_map, List.length_take]; omega)) ?_); intro t9 k9 hj9))
  k_with "own m_b" => (first | with_reducible assumption | exact Nat.le_of_eq (nm_len _) | exact (show PySem.Str.length _ ≤ 30 by decide +kernel))
  k_with "own binaryOp Add str str" => ((k_here; (with_reducible show wpAny _ _ (binaryOp Operator.Add (Value.str _ _) (Value.str _ _)) _ _ _); (refine' add_le (by walk_at "m_b") (by walk_at "m_b") (by omega) ?_); intro _ _ _))
  k_with "own last binaryOp Add str str" => ((k_here; (with_reducible show wpAny _ _ (binaryOp Operator.Add (Value.str _ _) (Value.str _ _)) _ _ _); (refine' add_le (by walk_at "m_b") (by walk_at "m_b") (by omega) ?_); intro _ _ _))
  k_with "own CompEnd" => ((refine' LCg.CompEnd.intro (by assumption) (by assumption) ?nn (by kcf_all) (by first | assumption | (simp only [LCg.Off3, and_true]; done) | (simp only [LCg.Off3, and_true]; assumption)) (by first | lcg_src | assumption) (by ((show KCtEl _ _ _ _); refine' kct_el (r' := nm _) rfl rfl rfl))))
  k_with "own pyIter ref" => ((k_here; (with_reducible show wpAny _ _ (pyIter (Value.ref _)) (fun it s₂ => LoopAtV _ _ _ _ _ (Str.ofString "rest") _ _ _ it s₂) _ _); k_extra "rest"))
  k_with "own call builtin:str.lower" => ((k_here; (try dsimp only); (with_reducible show wpAny _ _ (call (Value.builtin "str.lower") [Value.str _ _]) _ _ _); (refine SCL.lower (by first | with_reducible omega | (rw [nm_len]; decide)) ?_); intro hlo9; (try rw [nm_len] at hlo9)))
  k_with "own KCtEl" => (first | exact kct_el rfl rfl rfl | exact kct_el (f := nm) rfl rfl rfl)
  k_with "own CompSrc" => ((k_here; (with_reducible show LCg.CompSrc _ _ _ _ _ _ _ (Expr.Subscript (Expr.Name (Str.ofString "names") _) _ _) _ _ _ _ _ _); k_dflt (refine LCg.CompSrc.ledger (by rfl) (by k_asm) (by k_asm) (by k_mem) (by exact rests_sz (by assumption) (by assumption)) ?_; intro g'; (refine' kct_list nm (by assumption) (fun k' t' I' oI' C' oC' D' m' ys' h' tk' E' hk' hC' hx' F' N' off' ne' hMark' => ?_) ?_); (all_goals (try (simp only [LCg.Off3, and_true] at off'))); (all_goals (try k_fold)))))
  k_with "own k_ne" => (refine neN ?_; (try dsimp only); first | exact Nat.ne_of_gt (by with_reducible assumption) | exact Nat.ne_of_lt (by with_reducible assumption) | exact Nat.ne_of_gt (And.left (by with_reducible assumption)) | exact Nat.ne_of_lt (And.left (by with_reducible assumption)) | exact Nat.ne_of_gt (And.right (by with_reducible assumption)) | exact Nat.ne_of_lt (And.right (by with_reducible assumption)) | exact Nat.ne_of_gt (And.left (And.right (by with_reducible assumption))) | exact Nat.ne_of_lt (And.left (And.right (by with_reducible assumption))) | exact Nat.ne_of_gt (And.right (And.right (by with_reducible assumption))) | exact Nat.ne_of_lt (And.right (And.right (by with_reducible assumption))) | exact Nat.ne_of_gt (And.left (And.right (And.right (by with_reducible assumption)))) | exact Nat.ne_of_lt (And.left (And.right (And.right (by with_reducible assumption)))) | exact Nat.ne_of_gt (And.right (And.right (And.right (by with_reducible assumption)))) | exact Nat.ne_of_lt (And.right (And.right (And.right (by with_reducible assumption)))) | exact Nat.ne_of_gt (And.left (And.right (And.right (And.right (by with_reducible assumption))))) | exact Nat.ne_of_lt (And.left (And.right (And.right (And.right (by with_reducible assumption))))) | exact Nat.ne_of_gt (And.right (And.right (And.right (And.right (by with_reducible assumption))))) | exact Nat.ne_of_lt (And.right (And.right (And.right (And.right (by with_reducible assumption))))) | exact Nat.ne_of_gt (And.left (And.right (And.right (And.right (And.right (by with_reducible assumption)))))) | exact Nat.ne_of_lt (And.left (And.right (And.right (And.right (And.right (by with_reducible assumption)))))) | exact Nat.ne_of_gt (And.right (And.right (And.right (And.right (And.right (by with_reducible assumption)))))) | exact Nat.ne_of_lt (And.right (And.right (And.right (And.right (And.right (by with_reducible assumption)))))) | exact Nat.ne_of_gt (And.left (And.right (And.right (And.right (And.right (And.right (by with_reducible assumption))))))) | exact Nat.ne_of_lt (And.left (And.right (And.right (And.right (And.right (And.right (by with_reducible assumption))))))) | exact Nat.ne_of_gt (And.right (And.right (And.right (And.right (And.right (And.right (by with_reducible assumption))))))) | exact Nat.ne_of_lt (And.right (And.right (And.right (And.right (And.right (And.right (by with_reducible assumption))))))) | exact Nat.ne_of_gt (And.left (And.right (And.right (And.right (And.right (And.right (And.right (by with_reducible assumption)))))))) | exact Nat.ne_of_lt (And.left (And.right (And.right (And.right (And.right (And.right (And.right (by with_reducible assumption)))))))) | exact Nat.ne_of_gt (And.right (And.right (And.right (And.right (And.right (And.right (And.right (by with_reducible assumption)))))))) | exact Nat.ne_of_lt (And.right (And.right (And.right (And.right (And.right (And.right (And.right (by with_reducible assumption)))))))) | exact Nat.ne_of_gt (And.left (And.right (And.right (And.right (And.right (And.right (And.right (And.right (by with_reducible assumption))))))))) | exact Nat.ne_of_lt (And.left (And.right (And.right (And.right (And.right (And.right (And.right (And.right (by with_reducible assumption))))))))) | exact Nat.ne_of_gt (And.right (And.right (And.right (And.right (And.right (And.right (And.right (And.right (by with_reducible assumption))))))))) | exact Nat.ne_of_lt (And.right (And.right (And.right (And.right (And.right (And.right (And.right (And.right (by with_reducible assumption))))))))) | exact Nat.ne_of_gt (And.left (And.right (And.right (And.right (And.right (And.right (And.right (And.right (And.right (by with_reducible assumption)))))))))) | exact Nat.ne_of_lt (And.left (And.right (And.right (And.right (And.right (And.right (And.right (And.right (And.right (by with_reducible assumption)))))))))) | exact Nat.ne_of_gt (And.right (And.right (And.right (And.right (And.right (And.right (And.right (And.right (And.right (by with_reducible assumption)))))))))) | exact Nat.ne_of_lt (And.right (And.right (And.right (And.right (And.right (And.right (And.right (And.right (And.right (by with_reducible assumption)))))))))) | exact Nat.ne_of_gt (And.left (And.right (And.right (And.right (And.right (And.right (And.right (And.right (And.right (And.right (by with_reducible assumption))))))))))) | exact Nat.ne_of_lt (And.left (And.right (And.right (And.right (And.right (And.right (And.right (And.right (And.right (And.right (by with_reducible assumption))))))))))) | exact Nat.ne_of_gt (And.right (And.right (And.right (And.right (And.right (And.right (And.right (And.right (And.right (And.right (by with_reducible assumption))))))))))) | exact Nat.ne_of_lt (And.right (And.right (And.right (And.right (And.right (And.right (And.right (And.right (And.right (And.right (by with_reducible assumption))))))))))) | exact Nat.ne_of_gt (And.left (And.right (And.right (And.right (And.right (And.right (And.right (And.right (And.right (And.right (And.right (by with_reducible assumption)))))))))))) | exact Nat.ne_of_lt (And.left (And.right (And.right (And.right (And.right (And.right (And.right (And.right (And.right (And.right (And.right (by with_reducible assumption)))))))))))) | exact Nat.ne_of_gt (And.right (And.right (And.right (And.right (And.right (And.right (And.right (And.right (And.right (And.right (And.right (by with_reducible assumption)))))))))))) | exact Nat.ne_of_lt (And.right (And.right (And.right (And.right (And.right (And.right (And.right (And.right (And.right (And.right (And.right (by with_reducible assumption)))))))))))) | exact Nat.ne_of_gt (And.left (And.right (And.right (And.right (And.right (And.right (And.right (And.right (And.right (And.right (And.right (And.right (by with_reducible assumption))))))))))))) | exact Nat.ne_of_lt (And.left (And.right (And.right (And.right (And.right (And.right (And.right (And.right (And.right (And.right (And.right (And.right (by with_reducible assumption))))))))))))) | exact Nat.ne_of_gt (And.right (And.right (And.right (And.right (And.right (And.right (And.right (And.right (And.right (And.right (And.right (And.right (by with_reducible assumption))))))))))))) | exact Nat.ne_of_lt (And.right (And.right (And.right (And.right (And.right (And.right (And.right (And.right (And.right (And.right (And.right (And.right (by with_reducible assumption))))))))))))) | exact Nat.ne_of_gt (And.left (And.right (And.right (And.right (And.right (And.right (And.right (And.right (And.right (And.right (And.right (And.right (And.right (by with_reducible assumption)))))))))))))) | exact Nat.ne_of_lt (And.left (And.right (And.right (And.right (And.right (And.right (And.right (And.right (And.right (And.right (And.right (And.right (And.right (by with_reducible assumption)))))))))))))) | exact Nat.ne_of_gt (And.right (And.right (And.right (And.right (And.right (And.right (And.right (And.right (And.right (And.right (And.right (And.right (And.right (by with_reducible assumption)))))))))))))) | exact Nat.ne_of_lt (And.right (And.right (And.right (And.right (And.right (And.right (And.right (And.right (And.right (And.right (And.right (And.right (And.right (by with_reducible assumption)))))))))))))) | exact Nat.ne_of_gt (And.left (And.right (And.right (And.right (And.right (And.right (And.right (And.right (And.right (And.right (And.right (And.right (And.right (And.right (by with_reducible assumption))))))))))))))) | exact Nat.ne_of_lt (And.left (And.right (And.right (And.right (And.right (And.right (And.right (And.right (And.right (And.right (And.right (And.right (And.right (And.right (by with_reducible assumption))))))))))))))) | omega)
  injection e with e0 e
  subst e0 e
  injection es' with f0 f1 f2 f3 f4
  subst f0 f1 f2 f3 f4
  (try dsimp only [kstB] at F)
  have hM := kstMark
  revert X TT
  k_fill
  intro X TT
  (try k_fold)
  (k_with "state" => with_reducible first | exact low_nil | exact low_e1 (by assumption) (by assumption) (by assumption) (by assumption) | exact low_e2 (by assumption) (by assumption) (by assumption) (by assumption) | exact low_o1 (by assumption) (by assumption) (by assumption) (by assumption) | exact low_o2 (by assumption) (by assumption) (by assumption) (by assumption))
  (k_with "rest" => k_state_short (fun pre least => least = lowFrom b ns lv pre.length) "least")
  k_steps
  all_goals try (exfalso; with_reducible exact not_both (by assumption) (by assumption))
  · rename Fr _ _ _ _ => kF; rename News _ _ _ _ => kN
    refine' hQ _ _ _ _ _ ?za ⟨_, _, by with_unfolding_all rfl, ?zl⟩ ?zr ⟨_, by with_unfolding_all rfl⟩ ?zi ?zo ?zc kF (kst_newsOf kN ?zn)
    case zr => with_unfolding_all rfl
    case zi => assumption
    case zo => ((rename _ ≠ _ ∧ _ ≠ _ ∧ _ ≠ _ ∧ LCg.Off1 _ _ => ho9); exact off1_ne ho9.2.2.2)
    case zc => ((rename _ ≠ _ ∧ _ ≠ _ ∧ _ ≠ _ ∧ LCg.Off1 _ _ => ho9); exact ⟨ho9.2.1, ho9.2.2.1⟩)
    case zl => (rename _ = lowFrom _ _ _ _ => kh); (rw [kh, rangeKs_length]); congr 1; omega
    case zn =>
      refine List.forall_mem_cons.mpr ⟨?_, ?_⟩
      · repeat (first | exact List.Mem.head _ | refine List.Mem.tail _ ?_)
      · intro p hp
        repeat (first | exact hp | refine List.Mem.tail _ ?_)
    case za => intro z h1 h2 h3 h4 h5; simp [kstB, h1, h2, h3, h4, h5]
end
end Mine
namespace Mine
theorem kst_here2' {m : Str → Option Value} {ps : List (Str × Value)} (hp : ∀ p ∈ ps, m p.1 = some p.2) : kstB m ps = m := by funext z; exact kstB_eq hp fun _ => rfl
/-- by_names' answer, size by size -/
noncomputable def leastN (ns : List Int) : Nat → Int
  | 0 => 1
  | i + 1 => lowFrom (2 + (i : Int) * 1) ns (leastN ns i) (2 + (i : Int) * 1).toNat
section
variable {w : World} {mean : ExcName → Option Value} {mg mb : Str → Option Value} {s : Shared} {g : Heap} {L' l r : Addr} {m₀ : Str → Option Value} {rest₀ : List (Addr × Obj)} {E : Value → Shared → Prop} {Q : Flow → Shared → Prop}
  {body : List Stmt} {sk : ScopeKind} {names : List (Str × NameKind)} {ig ic : Bool} {more : List (Str × Const)} {on os : Obj} {vs : List Value} {ns : List Int} {tn t₀ u₀ v₀ tl : Tok} {px : Pos} {ov : Option Value}
  {gd : Option (List Code)} {cn : Str} {cs : Scope} {L a : Addr} {ccd : Value} {cl : List (Str × Addr)} {outer : List Env}
noncomputable abbrev envN (sk : ScopeKind) (names : List (Str × NameKind)) (ig ic : Bool) (more : List (Str × Const)) (L' : Addr) : Env := envOfC (Str.ofString "_law_by_names") (Scope.mk sk names ig ic more) L' 158 (.ref 157)
theorem names_loop {s0 : Stmt} (e : namesTurn = s0 :: body) (es' : defScope 23 = Scope.mk sk names ig ic more) (X : (hd.heap_1 w.params).In g) (TT : Top hd.view_1 (looseW hd.view_1 [Str.ofString "IPV4_RE"]) mean mg mb g)
    (hl : g.IsList l vs.toArray) (hi : IntsAre vs ns) (hz : ns.length = 6) (hon : on.data = .cell (some (.str (Str.ofString "BCDEFGHIJKLMNOP") tn))) (hos : os.data = .cell ov)
    (hr : IsRange s.heap r 2 6 1 t₀ u₀ v₀)
    (F : Fr g L' s.heap m₀) (hlv : m₀ (Str.ofString "least") = some (.int 1 tl)) (hdk : m₀ (Str.ofString "deck") = some (.ref l)) (N : News g L' s.heap ((L' + 1, on) :: (L' + 2, os) :: rest₀)) (hoff : ∀ p ∈ rest₀, p.1 ≠ L' + 2)
    (done : ∀ m₁ h tk os' rest D rv, (∃ n t, m₁ (Str.ofString "least") = some (.int n t) ∧ n = leastN ns 4) → m₁ (Str.ofString "rests") = some (.ref D) → (∃ t, m₁ (Str.ofString "host") = some (.str (hostT 5 ns) t)) → IntsAre rv ((ns.take (5 : Int).toNat).map fun k => k.fmod 5) →
      (∀ z, z ≠ Str.ofString "rests" → z ≠ Str.ofString "host" → z ≠ Str.ofString "rest" → z ≠ Str.ofString "found" → z ≠ Str.ofString "least" → m₁ z = m₀ z) →
      Fr g L' h m₁ → News g L' h ((D, LCg.lst rv) :: (L' + 1, on) :: (L' + 2, os') :: rest) → (∃ v, os'.data = .cell v) → Q .next { s with heap := h, toks := tk }) :
    wpAny (model PySem.Challenge.rw_xj0016_01.row.prog w) ((ktrTop 302 7 gd cn cs L a ccd cl outer).deeper (envN sk names ig ic more L')) (pyIter (.ref r))
      (fun it s₂ => JAt PySem.Challenge.rw_xj0016_01.row.prog w ((ktrTop 302 7 gd cn cs L a ccd cl outer).deeper (envN sk names ig ic more L')) g (envN sk names ig ic more L') (.Name (Str.ofString "size") px) (s0 :: body) Q E it s₂) E s := by
  have es2 := es'
  injection es' with f0 f1 f2 f3 f4
  subst f0 f1 f2 f3 f4
  have hI1 : L' + 1 < s.heap.objs.size := Heap.lt_size (N _ (.head _)).1
  have hI2 : L' + 2 < s.heap.objs.size := Heap.lt_size (N _ (.tail _ (.head _))).1
  refine iter_range_J (n := 4) rfl hr (by decide) (by decide) F N (fun i m₁ news₁ => ∃ os' rest, news₁ = (L' + 1, on) :: (L' + 2, os') :: rest ∧ (∃ v, os'.data = .cell v) ∧ (∀ p ∈ rest, p.1 ≠ L' + 2) ∧ (∃ n t, m₁ (Str.ofString "least") = some (.int n t) ∧ n = leastN ns i) ∧
    (∀ z, z ≠ Str.ofString "rests" → z ≠ Str.ofString "host" → z ≠ Str.ofString "rest" → z ≠ Str.ofString "found" → z ≠ Str.ofString "least" → m₁ z = m₀ z) ∧
    (i = 4 → ∃ D rv, m₁ (Str.ofString "rests") = some (.ref D) ∧ (∃ t, m₁ (Str.ofString "host") = some (.str (hostT 5 ns) t)) ∧ IntsAre rv ((ns.take (5 : Int).toNat).map fun k => k.fmod 5) ∧ (D, LCg.lst rv) ∈ rest)) ?_ ?_ ?_
  · exact ⟨os, rest₀, rfl, ⟨_, hos⟩, hoff, ⟨_, _, hlv, rfl⟩, fun _ _ _ _ _ _ => rfl, fun q => absurd q (by decide)⟩
  · rintro i t m₁ _ h tk own hi' ho ⟨io, hio⟩ hw ⟨os', rest, rfl, ⟨v', hv'⟩, hoff', ⟨n', t', hlv', rfl⟩, hz', -⟩ F₁ N₁
    have N₂ : News g L' h ((L' + 2, os') :: ((L' + 1, on) :: (rest ++ own))) := kst_newsOf N₁ (by
      intro p hp
      rcases List.mem_cons.mp hp with rfl | hp
      · exact List.mem_append.mpr (.inr (.tail _ (.head _)))
      rcases List.mem_cons.mp hp with rfl | hp
      · exact List.mem_append.mpr (.inr (.head _))
      rcases List.mem_append.mp hp with q | q
      · exact List.mem_append.mpr (.inr (.tail _ (.tail _ q)))
      · exact List.mem_append.mpr (.inl q))
    have U : UpdF (L' + 2) os' ((L' + 2, os') :: ((L' + 1, on) :: (rest ++ own))) (fun o' => (L' + 2, o') :: ((L' + 1, on) :: (rest ++ own))) := .head fun p hp => by
      rcases List.mem_cons.mp hp with rfl | hp
      · show L' + 1 ≠ L' + 2
        exact Nat.ne_of_lt (Nat.lt_succ_self _)
      rcases List.mem_append.mp hp with q | q
      · exact hoff' p q
      · rw [ho p q]; exact Nat.ne_of_gt hI2
    refine assign_Name (storeX_C F₁ N₂ rfl U hv' (fun h' o' F₂ N₃ hd => ?_) rfl rfl)
    have hdk' : m₁ (Str.ofString "deck") = some (.ref l) := (hz' _ (by decide +kernel) (by decide +kernel) (by decide +kernel) (by decide +kernel) (by decide +kernel)).trans hdk
    have hps : ∀ p ∈ [(Str.ofString "least", Value.int (leastN ns i) t'), (Str.ofString "deck", .ref l)], m₁ p.1 = some p.2 :=
      List.forall_mem_cons.mpr ⟨hlv', List.forall_mem_cons.mpr ⟨hdk', List.forall_mem_nil _⟩⟩
    refine wpAny_noRaise ?_
    refine names_turn e es2 X TT hl hi hz (b := 2 + (i : Int) * 1) (by (first | lia | omega)) hon hd (fr_kst _ F₂ hps) (kst_newsOf N₃ (l' := (L' + 1, on) :: (L' + 2, o') :: (rest ++ own)) ?_) ?_
    · intro p hp
      rcases List.mem_cons.mp hp with rfl | hp
      · exact .tail _ (.head _)
      rcases List.mem_cons.mp hp with rfl | hp
      · exact .head _
      · exact .tail _ (.tail _ hp)
    · rintro h2 tk2 D rv m2 hz2 ⟨n2, t2, hl2, hn2⟩ hr2 ⟨t3, hh2⟩ hI hD1 hD2 F3 N3
      refine ⟨h2, tk2, m2, (L' + 1, on) :: (L' + 2, o') :: (D, LCg.lst rv) :: rest, rfl, F3, kst_newsOf N3 ?_, ?_, o', _, rfl, ⟨_, hd⟩, ?_, ⟨n2, t2, hl2, hn2⟩, ?_, ?_⟩
      · intro p hp
        rcases List.mem_append.mp hp with q | q
        · exact .tail _ (.tail _ (.tail _ (List.mem_append.mpr (.inr q))))
        rcases List.mem_cons.mp q with rfl | q
        · exact .tail _ (.head _)
        rcases List.mem_cons.mp q with rfl | q
        · exact .tail _ (.tail _ (.head _))
        rcases List.mem_cons.mp q with rfl | q
        · exact .head _
        · exact .tail _ (.tail _ (.tail _ (List.mem_append.mpr (.inl q))))
      · intro p hp hI'
        have hI'' := List.mem_singleton.mp hI'
        rcases List.mem_cons.mp hp with rfl | hp
        · exact absurd hI'' (Nat.ne_of_lt hI1)
        rcases List.mem_cons.mp hp with rfl | hp
        · exact absurd hI'' (Nat.ne_of_lt hI2)
        rcases List.mem_cons.mp hp with rfl | hp
        · exact hD1 _ (List.mem_append.mpr (.inr hio)) hI''.symm
        · exact hw p (.tail _ (.tail _ hp)) hI''
      · intro p hp
        rcases List.mem_cons.mp hp with rfl | hp
        · exact fun q => hD2.2 q.symm
        · exact hoff' p hp
      · intro z h1 h2 h3 h4 h5
        rw [hz2 z h1 h2 h3 h4 h5, kst_here2' hps]
        exact hz' z h1 h2 h3 h4 h5
      · intro q
        have : i = 3 := by (first | lia | omega)
        subst this
        exact ⟨D, rv, hr2, ⟨t3, hh2⟩, hI, .head _⟩
  · rintro m₁ _ h tk ⟨os', rest, rfl, hv', hoff', hlv', hz', h4⟩ F₁ N₁
    obtain ⟨D, rv, h1, h2, h3, h5⟩ := h4 rfl
    refine done m₁ h tk os' rest D rv hlv' h1 h2 h3 hz' F₁ (kst_newsOf N₁ ?_) hv'
    intro p hp
    rcases List.mem_cons.mp hp with rfl | hp
    · exact .tail _ (.tail _ h5)
    · exact hp
end
end Mine
namespace Mine
noncomputable def asksFor : List Stmt := (defBody 23).drop 10
noncomputable def asksBody : List Stmt := match asksFor with | s :: _ => bodyOf s | [] => []
noncomputable def targetOf : List Stmt → Expr
  | .For t _ _ _ _ :: _ => t
  | _ => .Name (Str.ofString "") ⟨0, 0, 0, 0⟩
section
variable {w : World} {mean : ExcName → Option Value} {mg mb : Str → Option Value} {s : Shared} {g : Heap} {L' D : Addr} {m : Str → Option Value} {news : List (Addr × Obj)} {Q : Flow → Shared → Prop}
  {body : List Stmt} {ts : List PySem.Expr} {kk : Nat} {pp : Pos} {sk : ScopeKind} {names : List (Str × NameKind)} {ig ic : Bool} {more : List (Str × Const)} {x y : Str} {d : Bool} {tx ty : Tok}
  {gd : Option (List Code)} {cn : Str} {cs : Scope} {L a : Addr} {ccd : Value} {cl : List (Str × Addr)} {outer : List Env}
set_option maxHeartbeats 1000000 in
theorem asks_turn {s0 : Stmt} (e : asksBody = s0 :: body) (et : targetOf asksFor = .Tuple ts kk pp) (es' : defScope 23 = Scope.mk sk names ig ic more) (X : (hd.heap_1 w.params).In g) (TT : Top hd.view_1 (looseW hd.view_1 [Str.ofString "IPV4_RE"]) mean mg mb g)
    (hx : x.length ≤ 300) (hy : y.length ≤ 300) (hd' : dmatch x y = d)
    (F : Fr g L' s.heap (kstB m [])) (N : News g L' s.heap ((D, ⟨.type "tuple", none, .seq [(.str x tx : Value), .str y ty, .bool d].toArray 0, #[]⟩) :: news))
    (hQ : ∀ h' tk' (m' : Str → Option Value), (∀ z, z ≠ Str.ofString "one" → z ≠ Str.ofString "other" → z ≠ Str.ofString "due" → m' z = m z) → Fr g L' h' m' → News g L' h' ((D, ⟨.type "tuple", none, .seq [(.str x tx : Value), .str y ty, .bool d].toArray 0, #[]⟩) :: news) → Q .next { s with heap := h', toks := tk' }) :
    wpAny (model PySem.Challenge.rw_xj0016_01.row.prog w) ((ktrTop 302 7 gd cn cs L a ccd cl outer).deeper (envN sk names ig ic more L')) (assign (.Tuple ts kk pp) (envN sk names ig ic more L') (.ref D)) (fun _ s₃ => wpAny (model PySem.Challenge.rw_xj0016_01.row.prog w) ((ktrTop 302 7 gd cn cs L a ccd cl outer).deeper (envN sk names ig ic more L')) (execs (s0 :: body) (envN sk names ig ic more L')) Q (fun _ _ => False) s₃) (fun _ _ => False) s := by
  w_top off
  k_with_none
  k_with "own call ref" => ((k_here; (with_reducible show wpAny _ _ (call (Value.ref 50) _) _ _ _); k_dflt (refine' dm_call (by k_asm) (by k_asm) (by k_asm) (by k_asm) (by with_reducible assumption) (by with_reducible assumption) ?_; k_whole); intro h9 tk9 F9 N9; (try k_sweep); (try dsimp only); (try k_fold)))
  k_with "own k_ne" => (refine neN ?_; (try dsimp only); first | exact Nat.ne_of_gt (by with_reducible assumption) | exact Nat.ne_of_lt (by with_reducible assumption) | exact Nat.ne_of_gt (And.left (by with_reducible assumption)) | exact Nat.ne_of_lt (And.left (by with_reducible assumption)) | exact Nat.ne_of_gt (And.right (by with_reducible assumption)) | exact Nat.ne_of_lt (And.right (by with_reducible assumption)) | exact Nat.ne_of_gt (And.left (And.right (by with_reducible assumption))) | exact Nat.ne_of_lt (And.left (And.right (by with_reducible assumption))) | exact Nat.ne_of_gt (And.right (And.right (by with_reducible assumption))) | exact Nat.ne_of_lt (And.right (And.right (by with_reducible assumption))) | exact Nat.ne_of_gt (And.left (And.right (And.right (by with_reducible assumption)))) | exact Nat.ne_of_lt (And.left (And.right (And.right (by with_reducible assumption)))) | exact Nat.ne_of_gt (And.right (And.right (And.right (by with_reducible assumption)))) | exact Nat.ne_of_lt (And.right (And.right (And.right (by with_reducible assumption)))) | exact Nat.ne_of_gt (And.left (And.right (And.right (And.right (by with_reducible assumption))))) | exact Nat.ne_of_lt (And.left (And.right (And.right (And.right (by with_reducible assumption))))) | exact Nat.ne_of_gt (And.right (And.right (And.right (And.right (by with_reducible assumption))))) | exact Nat.ne_of_lt (And.right (And.right (And.right (And.right (by with_reducible assumption))))) | exact Nat.ne_of_gt (And.left (And.right (And.right (And.right (And.right (by with_reducible assumption)))))) | exact Nat.ne_of_lt (And.left (And.right (And.right (And.right (And.right (by with_reducible assumption)))))) | exact Nat.ne_of_gt (And.right (And.right (And.right (And.right (And.right (by with_reducible assumption)))))) | exact Nat.ne_of_lt (And.right (And.right (And.right (And.right (And.right (by with_reducible assumption)))))) | exact Nat.ne_of_gt (And.left (And.right (And.right (And.right (And.right (And.right (by with_reducible assumption))))))) | exact Nat.ne_of_lt (And.left (And.right (And.right (And.right (And.right (And.right (by with_reducible assumption))))))) | exact Nat.ne_of_gt (And.right (And.right (And.right (And.right (And.right (And.right (by with_reducible assumption))))))) | exact Nat.ne_of_lt (And.right (And.right (And.right (And.right (And.right (And.right (by with_reducible assumption))))))) | exact Nat.ne_of_gt (And.left (And.right (And.right (And.right (And.right (And.right (And.right (by with_reducible assumption)))))))) | exact Nat.ne_of_lt (And.left (And.right (And.right (And.right (And.right (And.right (And.right (by with_reducible assumption)))))))) | exact Nat.ne_of_gt (And.right (And.right (And.right (And.right (And.right (And.right (And.right (by with_reducible assumption)))))))) | exact Nat.ne_of_lt (And.right (And.right (And.right (And.right (And.right (And.right (And.right (by with_reducible assumption)))))))) | exact Nat.ne_of_gt (And.left (And.right (And.right (And.right (And.right (And.right (And.right (And.right (by with_reducible assumption))))))))) | exact Nat.ne_of_lt (And.left (And.right (And.right (And.right (And.right (And.right (And.right (And.right (by with_reducible assumption))))))))) | exact Nat.ne_of_gt (And.right (And.right (And.right (And.right (And.right (And.right (And.right (And.right (by with_reducible assumption))))))))) | exact Nat.ne_of_lt (And.right (And.right (And.right (And.right (And.right (And.right (And.right (And.right (by with_reducible assumption))))))))) | exact Nat.ne_of_gt (And.left (And.right (And.right (And.right (And.right (And.right (And.right (And.right (And.right (by with_reducible assumption)))))))))) | exact Nat.ne_of_lt (And.left (And.right (And.right (And.right (And.right (And.right (And.right (And.right (And.right (by with_reducible assumption)))))))))) | exact Nat.ne_of_gt (And.right (And.right (And.right (And.right (And.right (And.right (And.right (And.right (And.right (by with_reducible assumption)))))))))) | exact Nat.ne_of_lt (And.right (And.right (And.right (And.right (And.right (And.right (And.right (And.right (And.right (by with_reducible assumption)))))))))) | exact Nat.ne_of_gt (And.left (And.right (And.right (And.right (And.right (And.right (And.right (And.right (And.right (And.right (by with_reducible assumption))))))))))) | exact Nat.ne_of_lt (And.left (And.right (And.right (And.right (And.right (And.right (And.right (And.right (And.right (And.right (by with_reducible assumption))))))))))) | exact Nat.ne_of_gt (And.right (And.right (And.right (And.right (And.right (And.right (And.right (And.right (And.right (And.right (by with_reducible assumption))))))))))) | exact Nat.ne_of_lt (And.right (And.right (And.right (And.right (And.right (And.right (And.right (And.right (And.right (And.right (by with_reducible assumption))))))))))) | exact Nat.ne_of_gt (And.left (And.right (And.right (And.right (And.right (And.right (And.right (And.right (And.right (And.right (And.right (by with_reducible assumption)))))))))))) | exact Nat.ne_of_lt (And.left (And.right (And.right (And.right (And.right (And.right (And.right (And.right (And.right (And.right (And.right (by with_reducible assumption)))))))))))) | exact Nat.ne_of_gt (And.right (And.right (And.right (And.right (And.right (And.right (And.right (And.right (And.right (And.right (And.right (by with_reducible assumption)))))))))))) | exact Nat.ne_of_lt (And.right (And.right (And.right (And.right (And.right (And.right (And.right (And.right (And.right (And.right (And.right (by with_reducible assumption)))))))))))) | exact Nat.ne_of_gt (And.left (And.right (And.right (And.right (And.right (And.right (And.right (And.right (And.right (And.right (And.right (And.right (by with_reducible assumption))))))))))))) | exact Nat.ne_of_lt (And.left (And.right (And.right (And.right (And.right (And.right (And.right (And.right (And.right (And.right (And.right (And.right (by with_reducible assumption))))))))))))) | exact Nat.ne_of_gt (And.right (And.right (And.right (And.right (And.right (And.right (And.right (And.right (And.right (And.right (And.right (And.right (by with_reducible assumption))))))))))))) | exact Nat.ne_of_lt (And.right (And.right (And.right (And.right (And.right (And.right (And.right (And.right (And.right (And.right (And.right (And.right (by with_reducible assumption))))))))))))) | exact Nat.ne_of_gt (And.left (And.right (And.right (And.right (And.right (And.right (And.right (And.right (And.right (And.right (And.right (And.right (And.right (by with_reducible assumption)))))))))))))) | exact Nat.ne_of_lt (And.left (And.right (And.right (And.right (And.right (And.right (And.right (And.right (And.right (And.right (And.right (And.right (And.right (by with_reducible assumption)))))))))))))) | exact Nat.ne_of_gt (And.right (And.right (And.right (And.right (And.right (And.right (And.right (And.right (And.right (And.right (And.right (And.right (And.right (by with_reducible assumption)))))))))))))) | exact Nat.ne_of_lt (And.right (And.right (And.right (And.right (And.right (And.right (And.right (And.right (And.right (And.right (And.right (And.right (And.right (by with_reducible assumption)))))))))))))) | exact Nat.ne_of_gt (And.left (And.right (And.right (And.right (And.right (And.right (And.right (And.right (And.right (And.right (And.right (And.right (And.right (And.right (by with_reducible assumption))))))))))))))) | exact Nat.ne_of_lt (And.left (And.right (And.right (And.right (And.right (And.right (And.right (And.right (And.right (And.right (And.right (And.right (And.right (And.right (by with_reducible assumption))))))))))))))) | omega)
  injection e with e0 e
  subst e0 e
  injection et with t0 t1 t2
  subst t0 t1 t2
  injection es' with f0 f1 f2 f3 f4
  subst f0 f1 f2 f3 f4
  (try dsimp only [kstB] at F)
  have hM := kstMark
  revert X TT
  k_fill
  intro X TT
  (try k_fold)
  k_steps
  · exfalso
    rename (_ != _) = true => kb
    rw [hd'] at kb
    simp at kb
  · rename Fr _ _ _ _ => kF; rename News _ _ _ _ => kN
    refine hQ _ _ _ ?_ kF kN
    intro z h1 h2 h3
    simp [h1, h2, h3]
/-- what a place of the asks holds -/
noncomputable def AskAt (news : List (Addr × Obj)) (v : Value) : Prop := ∃ D x y d tx ty, v = .ref D ∧ (D, (⟨.type "tuple", none, .seq [(.str x tx : Value), .str y ty, .bool d].toArray 0, #[]⟩ : Obj)) ∈ news ∧ dmatch x y = d ∧ x.length ≤ 300 ∧ y.length ≤ 300
theorem asks_loop {s0 : Stmt} {l : Addr} {vs : List Value} {nn : Nat} {m₀ : Str → Option Value} (e : asksBody = s0 :: body) (et : targetOf asksFor = .Tuple ts kk pp) (es' : defScope 23 = Scope.mk sk names ig ic more) (X : (hd.heap_1 w.params).In g) (TT : Top hd.view_1 (looseW hd.view_1 [Str.ofString "IPV4_RE"]) mean mg mb g)
    (hl : (l, listOf vs.toArray nn) ∈ news) (ha : ∀ v ∈ vs, AskAt news v) (F : Fr g L' s.heap m₀) (N : News g L' s.heap news)
    (hgo : ∀ (i : Nat) (s' : Shared) v (Q' : Unit → Shared → Prop), s'.heap.IsListIter s.heap.objs.size l i → Q' () s' → wpAny (model PySem.Challenge.rw_xj0016_01.row.prog w) ((ktrTop 302 7 gd cn cs L a ccd cl outer).deeper (envN sk names ig ic more L')) (letOwnedTupleGo (.Tuple ts kk pp) (.ref s.heap.objs.size) v) Q' (fun _ _ => False) s')
    (hQ : ∀ h' tk' (m' : Str → Option Value), (∀ z, z ≠ Str.ofString "one" → z ≠ Str.ofString "other" → z ≠ Str.ofString "due" → m' z = m₀ z) → Fr g L' h' m' → News g L' h' news → Q .next { s with heap := h', toks := tk' }) :
    wpAny (model PySem.Challenge.rw_xj0016_01.row.prog w) ((ktrTop 302 7 gd cn cs L a ccd cl outer).deeper (envN sk names ig ic more L')) (pyIter (.ref l))
      (fun it s₂ => JAt PySem.Challenge.rw_xj0016_01.row.prog w ((ktrTop 302 7 gd cn cs L a ccd cl outer).deeper (envN sk names ig ic more L')) g (envN sk names ig ic more L') (.Tuple ts kk pp) (s0 :: body) Q (fun _ _ => False) it s₂) (fun _ _ => False) s := by
  refine iter_list_J rfl hl F N hgo (fun _ m₁ news₁ => news₁ = news ∧ ∀ z, z ≠ Str.ofString "one" → z ≠ Str.ofString "other" → z ≠ Str.ofString "due" → m₁ z = m₀ z) ⟨rfl, fun _ _ _ _ => rfl⟩ ?_ ?_
  · rintro i v m₁ news₁ h tk own hv ho hI hw ⟨rfl, hz⟩ F₁ N₁
    obtain ⟨D, x, y, d, tx, ty, rfl, hD, hd', hx, hy⟩ := ha v (List.mem_of_getElem? hv)
    refine asks_turn (s := { s with heap := h, toks := tk }) (m := m₁) (news := own ++ news₁) (tx := tx) (ty := ty) e et es' X TT hx hy hd' F₁ (kst_newsOf N₁ ?_) ?_
    · intro p hp
      rcases List.mem_cons.mp hp with rfl | hp
      · exact List.mem_append.mpr (.inr hD)
      · exact hp
    · intro h' tk' m' hz' F2 N2
      refine ⟨h', tk', m', news₁, rfl, F2, kst_newsOf N2 (fun p hp => .tail _ hp), (fun p hp q => hw p hp (List.mem_singleton.mp q)), rfl, fun z h1 h2 h3 => ?_⟩
      exact (hz' z h1 h2 h3).trans (hz z h1 h2 h3)
  · rintro m₁ _ h tk ⟨rfl, hz⟩ F₁ N₁
    exact hQ h tk m₁ hz F₁ N₁
end
end Mine
namespace Mine
/-- an object that is this one: the ledger names it, no more -/
structure IsObj (o o' : Obj) : Prop where
  eq : o = o'
noncomputable abbrev tupO (vs : List Value) : Obj := ⟨.type "tuple", none, .seq vs.toArray 0, #[]⟩
section
variable {prog : Program} {w : World} {A : Around} {E : Value → Shared → Prop} {s : Shared} {g : Heap} {L : Addr} {m : Str → Option Value} {news : List (Addr × Obj)} {Q : Value → Shared → Prop} {vs : List Value}
theorem tup_abs (F : Fr g L s.heap m) (N : News g L s.heap news) (h : ∀ D h' o, IsObj o (tupO vs) → Fr g L h' m → News g L h' ((D, o) :: news) → (∀ p ∈ news, p.1 < D) → Q (.ref D) { s with heap := h' })
    (hz : vs.length ≤ sizeLine) : wpAny (model prog w) A (newTuple vs) Q E s := kup_newTuple F N (fun D h' F' N' l => h D h' _ ⟨rfl⟩ F' N' l) hz
end
end Mine
namespace Mine
theorem get50 {a b c d e x : Int} : [a, b, c, d, e].getD (Int.toNat 0) x = a := rfl
theorem get54 {a b c d e x : Int} : [a, b, c, d, e].getD (Int.toNat 4) x = e := rfl
noncomputable def asksL (H : Str) (r0 r4 : Int) : List (Str × Str × Bool) :=
  [(H, Txt.lower H, true), (H ++ Str.ofString ".", Txt.lower H ++ Str.ofString ".", true), (H ++ Str.ofString "xy", Txt.slice H (some (-4)) none, true), (H ++ Str.ofString ".7x", Str.ofString "." ++ nm r0, true),
   (H ++ Str.ofString ".7x", Str.ofString "." ++ nm r4 ++ Str.ofString ".7", false), (H ++ Str.ofString ".77", Str.ofString "." ++ nm r0, false), (H ++ Str.ofString ".", Str.ofString "." ++ nm r0, false),
   (Txt.slice H (some 1) none, Str.ofString "." ++ nm r4, false), (H ++ Str.ofString "xy", Str.ofString "xy", false), (H, Str.ofString "." ++ H, false), (H, Str.ofString "." ++ nm r0 ++ Str.ofString ".", false),
   (Str.ofString "x." ++ Txt.slice H (some 1) none, Str.ofString "." ++ (Str.ofString "." ++ nm r0), false), (H, Str.ofString ".", false)]
structure AskList (l : List (Str × Str × Bool)) : Prop where
  all : ∀ x y d, (x, y, d) ∈ l → dmatch x y = d ∧ x.length ≤ 300 ∧ y.length ≤ 300
noncomputable def AsksOk (H : Str) (r0 r4 : Int) : Prop := AskList (asksL H r0 r4)
theorem ask_at {x y : Str} {lst : List (Str × Str × Bool)} {d : Bool} {D : Addr} {o : Obj} {tx ty : Tok} {news : List (Addr × Obj)} (h : AskList lst) (hm : (D, o) ∈ news) (ho : IsObj o (tupO [(.str x tx : Value), .str y ty, .bool d])) (hq : (x, y, d) ∈ lst) : AskAt news (.ref D) := by
  obtain ⟨rfl⟩ := ho
  exact ⟨D, x, y, d, tx, ty, rfl, hm, (h.all x y d hq).1, (h.all x y d hq).2.1, (h.all x y d hq).2.2⟩
noncomputable def AsksGoal (p : Prop) : Prop := p
noncomputable def namesAll : List Stmt := defBody 23
section
variable {w : World} {mean : ExcName → Option Value} {mg mb : Str → Option Value} {s : Shared} {g : Heap} {L' D : Addr} {m : Str → Option Value} {E : Value → Shared → Prop} {Q : Flow → Shared → Prop}
  {tail : List Stmt} {s0 s1 s2 s3 : Stmt} {sk : ScopeKind} {names : List (Str × NameKind)} {ig ic : Bool} {more : List (Str × Const)} {on os : Obj} {rv : List Value} {H : Str} {r0 r1 r2 r3 r4 least : Int} {tn th tl u0 u1 u2 u3 u4 : Tok} {ov : Option Value}
  {gd : Option (List Code)} {cn : Str} {cs : Scope} {L a : Addr} {ccd : Value} {cl : List (Str × Addr)} {outer : List Env}
set_option maxHeartbeats 2000000 in
theorem names_tail (e : namesAll = s0 :: s1 :: s2 :: s3 :: tail) (es' : defScope 23 = Scope.mk sk names ig ic more) (X : (hd.heap_1 w.params).In g) (TT : Top hd.view_1 (looseW hd.view_1 [Str.ofString "IPV4_RE"]) mean mg mb g)
    (hon : on.data = .cell (some (.str (Str.ofString "BCDEFGHIJKLMNOP") tn))) (hos : os.data = .cell ov) (hH : H.length ≤ 60) (hask : AsksOk H r0 r4) (h0 : 0 ≤ r0 ∧ r0 < 15) (h4 : 0 ≤ r4 ∧ r4 < 15)
    (F : Fr g L' s.heap (kstB m [(Str.ofString "rests", .ref D), (Str.ofString "host", .str H th), (Str.ofString "least", .int least tl)]))
    (N : News g L' s.heap ((D, listOf [Value.int r0 u0, .int r1 u1, .int r2 u2, .int r3 u3, .int r4 u4].toArray 5) :: (L' + 1, on) :: (L' + 2, os) :: []))
    (hQ : ∀ h' tk' m', Fr g L' h' m' → Q (.ret (.int least tl)) { s with heap := h', toks := tk' }) :
    wpAny (model PySem.Challenge.rw_xj0016_01.row.prog w) ((ktrTop 302 7 gd cn cs L a ccd cl outer).deeper (envN sk names ig ic more L')) (execs tail (envN sk names ig ic more L')) Q (fun _ _ => False) s := by
  w_top off
  k_with_none
  k_with "own exec For Tuple Name cons nil" => ((show AsksGoal _))
  k_with "own call ref" => ((k_here; (with_reducible show wpAny _ _ (call (Value.ref 50) _) _ _ _); k_dflt (refine' dm_call (by k_asm) (by k_asm) (by k_asm) (by k_asm) (by with_reducible first | assumption | omega) (by first | with_reducible assumption | with_reducible omega | exact (show PySem.Str.length _ ≤ 300 by decide +kernel)) ?_; k_whole); intro h9 tk9 F9 N9; (try k_sweep); (try dsimp only); (try k_fold)))
  k_with "own subscriptTail Name Subscript str int" => ((k_here; (with_reducible show wpAny _ _ (subscriptTail _ _ (Value.str (Str.ofString "BCDEFGHIJKLMNOP") _) (Value.int _ _)) _ _ _); (simp only [get50, get54]); (refine item_nm (by omega) (by omega) ?_)))
  k_with "own subscriptTail" => ((k_here; (with_reducible show wpAny _ _ (subscriptTail _ _ (Value.str (Str.ofString "BCDEFGHIJKLMNOP") _) (Value.int _ _)) _ _ _); (simp only [get50, get54]); (refine item_nm (by omega) (by omega) ?_)))
  k_with "own m_b" => (first | with_reducible assumption | exact Nat.le_of_eq (nm_len _) | exact (show PySem.Str.length _ ≤ 30 by decide +kernel))
  k_with "own binaryOp Add str str" => ((k_here; (with_reducible show wpAny _ _ (binaryOp Operator.Add (Value.str _ _) (Value.str _ _)) _ _ _); (refine' add_le (by walk_at "m_b") (by walk_at "m_b") (by omega) ?_); intro _ _ _))
  k_with "own last binaryOp Add str str" => ((k_here; (with_reducible show wpAny _ _ (binaryOp Operator.Add (Value.str _ _) (Value.str _ _)) _ _ _); (refine' add_le (by walk_at "m_b") (by walk_at "m_b") (by omega) ?_); intro _ _ _))
  k_with "own call builtin:str.lower" => ((k_here; (try dsimp only); (with_reducible show wpAny _ _ (call (Value.builtin "str.lower") [Value.str _ _]) _ _ _); (refine SCL.lower (by first | with_reducible omega | (rw [nm_len]; decide)) ?_); intro hlo9; (try rw [nm_len] at hlo9)))
  k_with "own newTuple" => ((k_here; k_dflt (refine' tup_abs (by k_asm) (by k_asm) ?_ (by kmk_size)); intro D' h' o' ho' F' N' l1; (try k_lt l1); (try k_sweep)))
  k_with "own k_ne" => (refine neN ?_; (try dsimp only); first | exact Nat.ne_of_gt (by with_reducible assumption) | exact Nat.ne_of_lt (by with_reducible assumption) | exact Nat.ne_of_gt (And.left (by with_reducible assumption)) | exact Nat.ne_of_lt (And.left (by with_reducible assumption)) | exact Nat.ne_of_gt (And.right (by with_reducible assumption)) | exact Nat.ne_of_lt (And.right (by with_reducible assumption)) | exact Nat.ne_of_gt (And.left (And.right (by with_reducible assumption))) | exact Nat.ne_of_lt (And.left (And.right (by with_reducible assumption))) | exact Nat.ne_of_gt (And.right (And.right (by with_reducible assumption))) | exact Nat.ne_of_lt (And.right (And.right (by with_reducible assumption))) | exact Nat.ne_of_gt (And.left (And.right (And.right (by with_reducible assumption)))) | exact Nat.ne_of_lt (And.left (And.right (And.right (by with_reducible assumption)))) | exact Nat.ne_of_gt (And.right (And.right (And.right (by with_reducible assumption)))) | exact Nat.ne_of_lt (And.right (And.right (And.right (by with_reducible assumption)))) | exact Nat.ne_of_gt (And.left (And.right (And.right (And.right (by with_reducible assumption))))) | exact Nat.ne_of_lt (And.left (And.right (And.right (And.right (by with_reducible assumption))))) | exact Nat.ne_of_gt (And.right (And.right (And.right (And.right (by with_reducible assumption))))) | exact Nat.ne_of_lt (And.right (And.right (And.right (And.right (by with_reducible assumption))))) | exact Nat.ne_of_gt (And.left (And.right (And.right (And.right (And.right (by with_reducible assumption)))))) | exact Nat.ne_of_lt (And.left (And.right (And.right (And.right (And.right (by with_reducible assumption)))))) | exact Nat.ne_of_gt (And.right (And.right (And.right (And.right (And.right (by with_reducible assumption)))))) | exact Nat.ne_of_lt (And.right (And.right (And.right (And.right (And.right (by with_reducible assumption)))))) | exact Nat.ne_of_gt (And.left (And.right (And.right (And.right (And.right (And.right (by with_reducible assumption))))))) | exact Nat.ne_of_lt (And.left (And.right (And.right (And.right (And.right (And.right (by with_reducible assumption))))))) | exact Nat.ne_of_gt (And.right (And.right (And.right (And.right (And.right (And.right (by with_reducible assumption))))))) | exact Nat.ne_of_lt (And.right (And.right (And.right (And.right (And.right (And.right (by with_reducible assumption))))))) | exact Nat.ne_of_gt (And.left (And.right (And.right (And.right (And.right (And.right (And.right (by with_reducible assumption)))))))) | exact Nat.ne_of_lt (And.left (And.right (And.right (And.right (And.right (And.right (And.right (by with_reducible assumption)))))))) | exact Nat.ne_of_gt (And.right (And.right (And.right (And.right (And.right (And.right (And.right (by with_reducible assumption)))))))) | exact Nat.ne_of_lt (And.right (And.right (And.right (And.right (And.right (And.right (And.right (by with_reducible assumption)))))))) | exact Nat.ne_of_gt (And.left (And.right (And.right (And.right (And.right (And.right (And.right (And.right (by with_reducible assumption))))))))) | exact Nat.ne_of_lt (And.left (And.right (And.right (And.right (And.right (And.right (And.right (And.right (by with_reducible assumption))))))))) | exact Nat.ne_of_gt (And.right (And.right (And.right (And.right (And.right (And.right (And.right (And.right (by with_reducible assumption))))))))) | exact Nat.ne_of_lt (And.right (And.right (And.right (And.right (And.right (And.right (And.right (And.right (by with_reducible assumption))))))))) | exact Nat.ne_of_gt (And.left (And.right (And.right (And.right (And.right (And.right (And.right (And.right (And.right (by with_reducible assumption)))))))))) | exact Nat.ne_of_lt (And.left (And.right (And.right (And.right (And.right (And.right (And.right (And.right (And.right (by with_reducible assumption)))))))))) | exact Nat.ne_of_gt (And.right (And.right (And.right (And.right (And.right (And.right (And.right (And.right (And.right (by with_reducible assumption)))))))))) | exact Nat.ne_of_lt (And.right (And.right (And.right (And.right (And.right (And.right (And.right (And.right (And.right (by with_reducible assumption)))))))))) | exact Nat.ne_of_gt (And.left (And.right (And.right (And.right (And.right (And.right (And.right (And.right (And.right (And.right (by with_reducible assumption))))))))))) | exact Nat.ne_of_lt (And.left (And.right (And.right (And.right (And.right (And.right (And.right (And.right (And.right (And.right (by with_reducible assumption))))))))))) | exact Nat.ne_of_gt (And.right (And.right (And.right (And.right (And.right (And.right (And.right (And.right (And.right (And.right (by with_reducible assumption))))))))))) | exact Nat.ne_of_lt (And.right (And.right (And.right (And.right (And.right (And.right (And.right (And.right (And.right (And.right (by with_reducible assumption))))))))))) | exact Nat.ne_of_gt (And.left (And.right (And.right (And.right (And.right (And.right (And.right (And.right (And.right (And.right (And.right (by with_reducible assumption)))))))))))) | exact Nat.ne_of_lt (And.left (And.right (And.right (And.right (And.right (And.right (And.right (And.right (And.right (And.right (And.right (by with_reducible assumption)))))))))))) | exact Nat.ne_of_gt (And.right (And.right (And.right (And.right (And.right (And.right (And.right (And.right (And.right (And.right (And.right (by with_reducible assumption)))))))))))) | exact Nat.ne_of_lt (And.right (And.right (And.right (And.right (And.right (And.right (And.right (And.right (And.right (And.right (And.right (by with_reducible assumption)))))))))))) | exact Nat.ne_of_gt (And.left (And.right (And.right (And.right (And.right (And.right (And.right (And.right (And.right (And.right (And.right (And.right (by with_reducible assumption))))))))))))) | exact Nat.ne_of_lt (And.left (And.right (And.right (And.right (And.right (And.right (And.right (And.right (And.right (And.right (And.right (And.right (by with_reducible assumption))))))))))))) | exact Nat.ne_of_gt (And.right (And.right (And.right (And.right (And.right (And.right (And.right (And.right (And.right (And.right (And.right (And.right (by with_reducible assumption))))))))))))) | exact Nat.ne_of_lt (And.right (And.right (And.right (And.right (And.right (And.right (And.right (And.right (And.right (And.right (And.right (And.right (by with_reducible assumption))))))))))))) | exact Nat.ne_of_gt (And.left (And.right (And.right (And.right (And.right (And.right (And.right (And.right (And.right (And.right (And.right (And.right (And.right (by with_reducible assumption)))))))))))))) | exact Nat.ne_of_lt (And.left (And.right (And.right (And.right (And.right (And.right (And.right (And.right (And.right (And.right (And.right (And.right (And.right (by with_reducible assumption)))))))))))))) | exact Nat.ne_of_gt (And.right (And.right (And.right (And.right (And.right (And.right (And.right (And.right (And.right (And.right (And.right (And.right (And.right (by with_reducible assumption)))))))))))))) | exact Nat.ne_of_lt (And.right (And.right (And.right (And.right (And.right (And.right (And.right (And.right (And.right (And.right (And.right (And.right (And.right (by with_reducible assumption)))))))))))))) | exact Nat.ne_of_gt (And.left (And.right (And.right (And.right (And.right (And.right (And.right (And.right (And.right (And.right (And.right (And.right (And.right (And.right (by with_reducible assumption))))))))))))))) | exact Nat.ne_of_lt (And.left (And.right (And.right (And.right (And.right (And.right (And.right (And.right (And.right (And.right (And.right (And.right (And.right (And.right (by with_reducible assumption))))))))))))))) | omega)
  injection e with e0 e
  injection e with e1 e
  injection e with e2 e
  injection e with e3 e
  subst e
  injection es' with f0 f1 f2 f3 f4
  subst f0 f1 f2 f3 f4
  clear e0 e1 e2 e3
  (try dsimp only [kstB] at F)
  have hM := kstMark
  revert X TT
  k_fill
  intro X TT
  (try k_fold)
  k_steps
  · unfold AsksGoal
    rename Fr _ _ _ _ => kF; rename News _ _ _ _ => kN
    (with_unfolding_all refine' For_J (h₀ := g) ?zh ?zs .never)
    case zs => (intro _; with_unfolding_all rfl)
    case zh =>
      k_steps
      (rename News _ _ _ _ => kN)
      (with_unfolding_all refine' asks_loop ?ye ?yt ?ys X TT ?yl ?ya (by k_asm) kN ?yg ?yq)
      (case ye => with_unfolding_all rfl)
      (case yt => with_unfolding_all rfl)
      (case ys => with_unfolding_all rfl)
      case yl => with_reducible (repeat (first | exact List.mem_cons_self | refine List.mem_cons_of_mem _ ?_))
      case ya =>
        unfold AsksOk asksL at hask
        repeat (first
          | exact List.forall_mem_nil _
          | (refine List.forall_mem_cons.mpr ⟨?_, ?_⟩
             (with_reducible refine' ask_at hask ?xm ?xo ?xq)
             case xm => with_reducible (repeat (first | exact List.mem_cons_self | refine List.mem_cons_of_mem _ ?_))
             case xo => with_reducible assumption
             case xq => with_reducible (repeat (first | exact List.mem_cons_self | refine List.mem_cons_of_mem _ ?_))))
      (case yg => (intro i9 s9 v9 Q9 hi9 hq9; exact letGo_listiter hi9 hq9))
      case yq =>
        intro h2 tk2 m2 hz2 F2 N2
        have hps : ∀ p ∈ [(Str.ofString "least", Value.int least tl)], m2 p.1 = some p.2 := List.forall_mem_cons.mpr ⟨(hz2 (Str.ofString "least") (by decide +kernel) (by decide +kernel) (by decide +kernel)).trans (by with_unfolding_all rfl), List.forall_mem_nil _⟩
        have F3 := fr_kst _ F2 hps
        clear F2 hz2 hps kN kF
        (try dsimp only [kstB] at F3)
        (try k_fold)
        k_steps
        rename Fr _ _ _ _ => kF
        exact hQ _ _ _ kF
end
end Mine
namespace Mine
noncomputable def SizesGoal (p : Prop) : Prop := p
theorem ints5 {rv : List Value} {ks : List Int} (h : IntsAre rv ks) (hk : ks.length = 5) : ∃ r0 r1 r2 r3 r4 u0 u1 u2 u3 u4, rv = [.int r0 u0, .int r1 u1, .int r2 u2, .int r3 u3, .int r4 u4] ∧ ks = [r0, r1, r2, r3, r4] := by
  have hl := h.length
  rw [hk] at hl
  rcases rv with _ | ⟨a, _ | ⟨b, _ | ⟨c, _ | ⟨d, _ | ⟨e, _ | ⟨f, r⟩⟩⟩⟩⟩⟩ <;> try (simp only [List.length_cons, List.length_nil] at hl; (first | lia | omega))
  rcases ks with _ | ⟨r0, _ | ⟨r1, _ | ⟨r2, _ | ⟨r3, _ | ⟨r4, _ | ⟨f, r⟩⟩⟩⟩⟩⟩ <;> try (simp only [List.length_cons, List.length_nil] at hk; (first | lia | omega))
  obtain ⟨k0, t0, rfl, e0⟩ := h.at 0 a rfl
  obtain ⟨k1, t1, rfl, e1⟩ := h.at 1 b rfl
  obtain ⟨k2, t2, rfl, e2⟩ := h.at 2 c rfl
  obtain ⟨k3, t3, rfl, e3⟩ := h.at 3 d rfl
  obtain ⟨k4, t4, rfl, e4⟩ := h.at 4 e rfl
  cases e0; cases e1; cases e2; cases e3; cases e4
  exact ⟨_, _, _, _, _, _, _, _, _, _, rfl, rfl⟩
theorem hostT_len (ns : List Int) (hz : ns.length = 6) : (hostT 5 ns).length ≤ 60 := by
  unfold hostT
  rw [Str.length_append]
  have h := nm_joinlen ((ns.take (5 : Int).toNat).map fun k => k.fmod 5) (by rw [List.length_map, List.length_take]; (first | lia | omega))
  have e1 : (Str.ofString "x.").length = 2 := by decide +kernel
  (first | lia | omega)
set_option maxHeartbeats 2000000 in
theorem t_names (w : World) (l : Addr) (ns : List Int) (vs : List Value) : Tel w 302 7 158 [.ref l] (fun h => h.IsList l vs.toArray ∧ IntsAre vs ns ∧ ns.length = 6 ∧ AsksOk (hostT 5 ns) (((ns.take (5 : Int).toNat).map fun k => k.fmod 5).getD 0 0) (((ns.take (5 : Int).toNat).map fun k => k.fmod 5).getD 4 0)) (fun h r h' => ∃ t, r = .int (leastN ns 4) t) := by
  w_top off
  k_with_none
  k_with "own exec For Name Call cons nil" => ((show SizesGoal _))
  k_with "own call ref" => ((k_here; (with_reducible show wpAny _ _ (call (Value.ref 108) _) _ _ _); k_dflt (refine' ap_names (by k_asm) (by k_asm) (by k_asm) (by k_asm) ?_; k_whole); intro h9 tk9 t9 F9 N9; (try k_sweep); (try dsimp only); (try k_fold)))
  k_with "own call builtin:bytes.decode" => ((k_here; (with_reducible show wpAny _ _ (call (Value.builtin "bytes.decode") _) _ _ _); (refine call_nb ?_)))
  k_with "own k_ne" => (refine neN ?_; (try dsimp only); first | exact Nat.ne_of_gt (by with_reducible assumption) | exact Nat.ne_of_lt (by with_reducible assumption) | exact Nat.ne_of_gt (And.left (by with_reducible assumption)) | exact Nat.ne_of_lt (And.left (by with_reducible assumption)) | exact Nat.ne_of_gt (And.right (by with_reducible assumption)) | exact Nat.ne_of_lt (And.right (by with_reducible assumption)) | exact Nat.ne_of_gt (And.left (And.right (by with_reducible assumption))) | exact Nat.ne_of_lt (And.left (And.right (by with_reducible assumption))) | exact Nat.ne_of_gt (And.right (And.right (by with_reducible assumption))) | exact Nat.ne_of_lt (And.right (And.right (by with_reducible assumption))) | exact Nat.ne_of_gt (And.left (And.right (And.right (by with_reducible assumption)))) | exact Nat.ne_of_lt (And.left (And.right (And.right (by with_reducible assumption)))) | exact Nat.ne_of_gt (And.right (And.right (And.right (by with_reducible assumption)))) | exact Nat.ne_of_lt (And.right (And.right (And.right (by with_reducible assumption)))) | exact Nat.ne_of_gt (And.left (And.right (And.right (And.right (by with_reducible assumption))))) | exact Nat.ne_of_lt (And.left (And.right (And.right (And.right (by with_reducible assumption))))) | exact Nat.ne_of_gt (And.right (And.right (And.right (And.right (by with_reducible assumption))))) | exact Nat.ne_of_lt (And.right (And.right (And.right (And.right (by with_reducible assumption))))) | exact Nat.ne_of_gt (And.left (And.right (And.right (And.right (And.right (by with_reducible assumption)))))) | exact Nat.ne_of_lt (And.left (And.right (And.right (And.right (And.right (by with_reducible assumption)))))) | exact Nat.ne_of_gt (And.right (And.right (And.right (And.right (And.right (by with_reducible assumption)))))) | exact Nat.ne_of_lt (And.right (And.right (And.right (And.right (And.right (by with_reducible assumption)))))) | exact Nat.ne_of_gt (And.left (And.right (And.right (And.right (And.right (And.right (by with_reducible assumption))))))) | exact Nat.ne_of_lt (And.left (And.right (And.right (And.right (And.right (And.right (by with_reducible assumption))))))) | exact Nat.ne_of_gt (And.right (And.right (And.right (And.right (And.right (And.right (by with_reducible assumption))))))) | exact Nat.ne_of_lt (And.right (And.right (And.right (And.right (And.right (And.right (by with_reducible assumption))))))) | exact Nat.ne_of_gt (And.left (And.right (And.right (And.right (And.right (And.right (And.right (by with_reducible assumption)))))))) | exact Nat.ne_of_lt (And.left (And.right (And.right (And.right (And.right (And.right (And.right (by with_reducible assumption)))))))) | exact Nat.ne_of_gt (And.right (And.right (And.right (And.right (And.right (And.right (And.right (by with_reducible assumption)))))))) | exact Nat.ne_of_lt (And.right (And.right (And.right (And.right (And.right (And.right (And.right (by with_reducible assumption)))))))) | exact Nat.ne_of_gt (And.left (And.right (And.right (And.right (And.right (And.right (And.right (And.right (by with_reducible assumption))))))))) | exact Nat.ne_of_lt (And.left (And.right (And.right (And.right (And.right (And.right (And.right (And.right (by with_reducible assumption))))))))) | exact Nat.ne_of_gt (And.right (And.right (And.right (And.right (And.right (And.right (And.right (And.right (by with_reducible assumption))))))))) | exact Nat.ne_of_lt (And.right (And.right (And.right (And.right (And.right (And.right (And.right (And.right (by with_reducible assumption))))))))) | exact Nat.ne_of_gt (And.left (And.right (And.right (And.right (And.right (And.right (And.right (And.right (And.right (by with_reducible assumption)))))))))) | exact Nat.ne_of_lt (And.left (And.right (And.right (And.right (And.right (And.right (And.right (And.right (And.right (by with_reducible assumption)))))))))) | exact Nat.ne_of_gt (And.right (And.right (And.right (And.right (And.right (And.right (And.right (And.right (And.right (by with_reducible assumption)))))))))) | exact Nat.ne_of_lt (And.right (And.right (And.right (And.right (And.right (And.right (And.right (And.right (And.right (by with_reducible assumption)))))))))) | exact Nat.ne_of_gt (And.left (And.right (And.right (And.right (And.right (And.right (And.right (And.right (And.right (And.right (by with_reducible assumption))))))))))) | exact Nat.ne_of_lt (And.left (And.right (And.right (And.right (And.right (And.right (And.right (And.right (And.right (And.right (by with_reducible assumption))))))))))) | exact Nat.ne_of_gt (And.right (And.right (And.right (And.right (And.right (And.right (And.right (And.right (And.right (And.right (by with_reducible assumption))))))))))) | exact Nat.ne_of_lt (And.right (And.right (And.right (And.right (And.right (And.right (And.right (And.right (And.right (And.right (by with_reducible assumption))))))))))) | exact Nat.ne_of_gt (And.left (And.right (And.right (And.right (And.right (And.right (And.right (And.right (And.right (And.right (And.right (by with_reducible assumption)))))))))))) | exact Nat.ne_of_lt (And.left (And.right (And.right (And.right (And.right (And.right (And.right (And.right (And.right (And.right (And.right (by with_reducible assumption)))))))))))) | exact Nat.ne_of_gt (And.right (And.right (And.right (And.right (And.right (And.right (And.right (And.right (And.right (And.right (And.right (by with_reducible assumption)))))))))))) | exact Nat.ne_of_lt (And.right (And.right (And.right (And.right (And.right (And.right (And.right (And.right (And.right (And.right (And.right (by with_reducible assumption)))))))))))) | exact Nat.ne_of_gt (And.left (And.right (And.right (And.right (And.right (And.right (And.right (And.right (And.right (And.right (And.right (And.right (by with_reducible assumption))))))))))))) | exact Nat.ne_of_lt (And.left (And.right (And.right (And.right (And.right (And.right (And.right (And.right (And.right (And.right (And.right (And.right (by with_reducible assumption))))))))))))) | exact Nat.ne_of_gt (And.right (And.right (And.right (And.right (And.right (And.right (And.right (And.right (And.right (And.right (And.right (And.right (by with_reducible assumption))))))))))))) | exact Nat.ne_of_lt (And.right (And.right (And.right (And.right (And.right (And.right (And.right (And.right (And.right (And.right (And.right (And.right (by with_reducible assumption))))))))))))) | exact Nat.ne_of_gt (And.left (And.right (And.right (And.right (And.right (And.right (And.right (And.right (And.right (And.right (And.right (And.right (And.right (by with_reducible assumption)))))))))))))) | exact Nat.ne_of_lt (And.left (And.right (And.right (And.right (And.right (And.right (And.right (And.right (And.right (And.right (And.right (And.right (And.right (by with_reducible assumption)))))))))))))) | exact Nat.ne_of_gt (And.right (And.right (And.right (And.right (And.right (And.right (And.right (And.right (And.right (And.right (And.right (And.right (And.right (by with_reducible assumption)))))))))))))) | exact Nat.ne_of_lt (And.right (And.right (And.right (And.right (And.right (And.right (And.right (And.right (And.right (And.right (And.right (And.right (And.right (by with_reducible assumption)))))))))))))) | exact Nat.ne_of_gt (And.left (And.right (And.right (And.right (And.right (And.right (And.right (And.right (And.right (And.right (And.right (And.right (And.right (And.right (by with_reducible assumption))))))))))))))) | exact Nat.ne_of_lt (And.left (And.right (And.right (And.right (And.right (And.right (And.right (And.right (And.right (And.right (And.right (And.right (And.right (And.right (by with_reducible assumption))))))))))))))) | omega)
  unfold Tel; k_fill
  intro meanZ9 mgZ9 mbZ9 gdZ9 cnZ9 csZ9 aZ9 ccdZ9 clZ9 outerZ9 h₀Z9 LZ9 mZ9 sZ9 QZ9 EZ9 FZ9 XZ9 TZ9 hpre hret
  refine wpAny_call ?_
  k_dflt (refine' enter0C ?k2 ?k3 ?k5 ?k6 ?k7 ?k8 ?k9 ?kB ?kD ?_ ?c2 ?c3 ?c4; (case k2 => k_asm); (case k3 => k_asm); (case k5 => k_asm); (case k6 => k_is); (case k7 => k_is); (case k8 => ktr_room); (case k9 => exact BindsTo.of_eq rfl); (case kB => exact rfl); (case kD => decide +kernel); (case c2 => exact rfl); (case c3 => exact rfl); (case c4 => exact rfl); k_whole)
  clear XZ9 TZ9
  intro LZ9' hZ9' tkZ9' cellsZ9' FZ9' NZ9' YZ9' XZ9' TZ9'
  k_cells YZ9'
  (try simp only [List.cons_append, List.nil_append] at NZ9')
  (try dsimp only)
  (try k_fold)
  rename Shared => s
  obtain ⟨hl, hi, hz, hask⟩ := hpre
  k_steps
  unfold SizesGoal
  rename Fr _ _ _ _ => kF
  refine wpAny_noRaise ?_
  (with_unfolding_all refine' For_J (h₀ := s.heap) ?zh ?zs .never)
  case zs => (intro _; with_unfolding_all rfl)
  case zh =>
    k_steps
    rename News _ _ _ _ => kN
    rename Fr _ _ _ _ => kF
    rename IsRange _ _ _ _ _ _ _ _ => kR
    (with_unfolding_all refine' names_loop (rest₀ := []) ?ye ?ys (by k_asm) (by k_asm) hl hi hz ?yon ?yos kR kF ?ylv ?ydk (kst_newsOf kN ?yn) (List.forall_mem_nil _) ?yd)
    case ye => with_unfolding_all rfl
    case ys => with_unfolding_all rfl
    case yn => exact List.forall_mem_cons.mpr ⟨.tail _ (.head _), List.forall_mem_cons.mpr ⟨.head _, List.forall_mem_nil _⟩⟩
    case yon => assumption
    case yos => with_reducible assumption
    case ylv => with_unfolding_all rfl
    case ydk => with_unfolding_all rfl
    case yd =>
      intro m1 h1 tk1 os1 rest D rv ⟨n1, t1, hlv, hn⟩ hr ⟨th, hh⟩ hI hz1 F1 N1 ⟨v1, hv1⟩
      obtain ⟨r0, r1, r2, r3, r4, u0, u1, u2, u3, u4, rfl, hk⟩ := ints5 hI (by rw [List.length_map, List.length_take, hz]; rfl)
      have hps : ∀ p ∈ [(Str.ofString "rests", Value.ref D), (Str.ofString "host", .str (hostT 5 ns) th), (Str.ofString "least", .int n1 t1)], m1 p.1 = some p.2 := List.forall_mem_cons.mpr ⟨hr, List.forall_mem_cons.mpr ⟨hh, List.forall_mem_cons.mpr ⟨hlv, List.forall_mem_nil _⟩⟩⟩
      have hb := fun k (hk' : k ∈ (ns.take (5 : Int).toNat).map fun k => k.fmod 5) => rest_bnd (b := 5) (by decide) hk'
      rw [hk] at hb
      have hask' : AsksOk (hostT 5 ns) r0 r4 := by
        have e0 : (((ns.take (5 : Int).toNat).map fun k => k.fmod 5).getD 0 0) = r0 := by rw [hk]; rfl
        have e4 : (((ns.take (5 : Int).toNat).map fun k => k.fmod 5).getD 4 0) = r4 := by rw [hk]; rfl
        rw [e0, e4] at hask
        exact hask
      subst hn
      dsimp only
      refine wpAny_noRaise ?_
      (with_unfolding_all refine' names_tail (D := D) (r1 := r1) (r2 := r2) (r3 := r3) (u0 := u0) (u1 := u1) (u2 := u2) (u3 := u3) (u4 := u4) ?xe ?xs (by k_asm) (by k_asm) ?xon hv1 (hostT_len ns hz) hask' (hb _ ?xm0) (hb _ ?xm4) ?xF ?xN ?xq)
      case xe => with_unfolding_all rfl
      case xs => with_unfolding_all rfl
      case xon => with_reducible assumption
      case xm0 => exact .head _
      case xm4 => exact .tail _ (.tail _ (.tail _ (.tail _ (.head _))))
      case xF => exact fr_kst _ F1 hps
      case xN => refine kst_newsOf N1 ?_; exact List.forall_mem_cons.mpr ⟨.head _, List.forall_mem_cons.mpr ⟨.tail _ (.head _), List.forall_mem_cons.mpr ⟨.tail _ (.tail _ (.head _)), List.forall_mem_nil _⟩⟩⟩
      case xq =>
        intro h3 tk3 m3 F3
        (show Back _ _ _; unfold Back; dsimp only; refine hret _ _ _ ?_ ?_; (· exact Fr.keep (by k_asm)))
        exact ⟨_, rfl⟩
end Mine
namespace Mine
section
variable {f : Nat → Nat}
theorem beq_map (hf : ∀ a b, f a = f b → a = b) (a b : Nat) : Nat.beq (f a) (f b) = Nat.beq a b := by
  by_cases h : a = b
  · subst h; rw [Nat.beq_refl, Nat.beq_refl]
  · have h' : ¬ f a = f b := fun e => h (hf _ _ e)
    have k : ∀ {x y : Nat}, ¬ x = y → Nat.beq x y = false := fun {x y} q => by
      cases r : Nat.beq x y with
      | false => rfl
      | true => exact absurd (Nat.eq_of_beq_eq_true r) q
    rw [k h, k h']
theorem prefF_map (hf : ∀ a b, f a = f b → a = b) : ∀ y g, prefF (y.map f) (g.map f) = prefF y g
  | [], _ => rfl
  | _ :: _, [] => rfl
  | a :: y, b :: g => by
    show (match Nat.beq (f a) (f b) with | true => prefF (y.map f) (g.map f) | false => false) = (match Nat.beq a b with | true => prefF y g | false => false)
    rw [beq_map hf, prefF_map hf y g]
theorem occF_map (hf : ∀ a b, f a = f b → a = b) (y : List Nat) (w hi lim : Nat) : ∀ n i free c g, occF (y.map f) w hi lim n i free c (g.map f) = occF y w hi lim n i free c g
  | 0, _, _, _, _ => rfl
  | n + 1, i, free, c, g => by
    unfold occF
    rw [prefF_map hf, ← List.map_tail, occF_map hf y w hi lim n, occF_map hf y w hi lim n]
theorem occL_map (hf : ∀ a b, f a = f b → a = b) (x y : List Nat) (lo hi lim : Nat) : occL (x.map f) (y.map f) lo hi lim = occL x y lo hi lim := by
  unfold occL
  rw [List.length_map, ← List.map_drop, occF_map hf]
theorem splitF_map (hf : ∀ a b, f a = f b → a = b) (x y : List Nat) : splitF (x.map f) (y.map f) = (splitF x y).map (·.map f) := by
  unfold splitF
  rw [occL_map hf, List.length_map, List.length_map]
  by_cases h : x.length < y.length
  · rw [if_pos h, if_pos h]; rfl
  · rw [if_neg h, if_neg h]
    cases occL x y 0 x.length (x.length + 1) with
    | nil => rfl
    | cons a r =>
      dsimp only
      rw [List.map_map]
      refine List.map_congr_left fun p _ => ?_
      show ((x.map f).drop p.1).take (p.2 - p.1) = ((x.drop p.1).take (p.2 - p.1)).map f
      rw [List.map_take, List.map_drop]
theorem find4F_map (hf : ∀ a b, f a = f b → a = b) (x y : List Nat) (i j : Int) : find4F (x.map f) (y.map f) i j = find4F x y i j := by
  unfold find4F
  rw [occL_map hf, List.length_map]
theorem emGoF_map (hf : ∀ a b, f a = f b → a = b) (g : List Nat) (e : Int) : ∀ l p, emGoF (g.map f) e (l.map (·.map f)) p = emGoF g e l p
  | [], _ => rfl
  | y :: r, p => by
    show (if find4F (g.map f) (y.map f) p e < 0 then false else emGoF (g.map f) e (r.map (·.map f)) (find4F (g.map f) (y.map f) p e + (y.map f).length)) = _
    rw [find4F_map hf, emGoF_map hf g e r, List.length_map]
    rfl
theorem starts_map (hf : ∀ a b, f a = f b → a = b) (x y : List Nat) : starts (x.map f) (y.map f) = starts x y := by unfold starts; rw [prefF_map hf, List.length_map, List.length_map]
theorem ends_map (hf : ∀ a b, f a = f b → a = b) (x y : List Nat) : ends (x.map f) (y.map f) = ends x y := by unfold ends; rw [List.length_map, List.length_map, ← List.map_drop, prefF_map hf]
theorem nil_map (a : List Nat) : (a.map f = []) = (a = []) := by simp
theorem emPartsF_map (hf : ∀ a b, f a = f b → a = b) (g a z : List Nat) (mid : List (List Nat)) : emPartsF (g.map f) (a.map f) (mid.map (·.map f)) (z.map f) = emPartsF g a mid z := by
  unfold emPartsF
  have e : ((if a.map f = [] then [a.map f] else []) ++ (mid.map (·.map f) ++ (if z.map f = [] then [z.map f] else []))) = ((if a = [] then [a] else []) ++ (mid ++ (if z = [] then [z] else []))).map (·.map f) := by
    simp only [nil_map, List.map_append]
    congr 1
    · split <;> rfl
    · congr 1
      split <;> rfl
  rw [e, starts_map hf, ends_map hf, emGoF_map hf]
  simp only [ne_eq, nil_map, List.length_map]
theorem map_inj (hf : ∀ a b, f a = f b → a = b) : ∀ x y : List Nat, x.map f = y.map f → x = y
  | [], [], _ => rfl
  | [], _ :: _, h => nomatch h
  | _ :: _, [], h => nomatch h
  | a :: x, b :: y, h => by
    rw [List.map_cons, List.map_cons] at h
    injection h with h1 h2
    rw [hf _ _ h1, map_inj hf x y h2]
theorem map_beq (hf : ∀ a b, f a = f b → a = b) (x y : List Nat) : (x.map f == y.map f) = (x == y) := by
  by_cases h : x = y
  · subst h; simp
  · have h' : ¬ x.map f = y.map f := fun e => h (map_inj hf x y e)
    rw [beq_eq_false_iff_ne.mpr h, beq_eq_false_iff_ne.mpr h']
/-- em sees signs only by their likeness -/
theorem emF_map (hf : ∀ a b, f a = f b → a = b) (h46 : f 46 = 46) (x y : List Nat) : emF (x.map f) (y.map f) = emF x y := by
  have e : ([46, 46, 46] : List Nat) = ([46, 46, 46] : List Nat).map f := by simp [h46]
  unfold emF
  rw [show occL (x.map f) [46, 46, 46] 0 (x.map f).length 1 = occL x [46, 46, 46] 0 x.length 1 from by
    rw [List.length_map]
    conv => lhs; rw [e]
    exact occL_map hf _ _ _ _ _]
  cases occL x [46, 46, 46] 0 x.length 1 with
  | nil => exact map_beq hf x y
  | cons a r =>
    dsimp only
    rw [show splitF (x.map f) [46, 46, 46] = (splitF x [46, 46, 46]).map (·.map f) from by
      conv => lhs; rw [e]
      exact splitF_map hf _ _]
    cases splitF x [46, 46, 46] with
    | nil => rfl
    | cons b t =>
      show emPartsF (y.map f) (b.map f) (t.map (·.map f)).dropLast ((t.map (·.map f)).getLastD []) = emPartsF y b t.dropLast (t.getLastD [])
      rw [← List.map_dropLast]
      rw [← emPartsF_map hf y b (t.getLastD []) t.dropLast]
      congr 1
      cases t with
      | nil => rfl
      | cons c t =>
        rw [List.getLastD_eq_getLast?, List.getLastD_eq_getLast?, List.getLast?_map]
        cases q : (c :: t).getLast? with
        | none => rfl
        | some z => rfl
end
/-- the signs' renaming that takes 1..6 to the deck -/
noncomputable def ren (ns : List Int) (c : Nat) : Nat := if 49 ≤ c ∧ c ≤ 54 then dgF (ns.getD (c - 49) 0) else c
end Mine
namespace Mine
theorem shaped_ints (ns : List Int) : SeqAt.shaped (.list (ns.map .int)) = true := by
  have h0 : ∀ ns : List Int, PyData.canLayAll0 (ns.map .int) = true := by
    intro ns
    induction ns with
    | nil => rfl
    | cons a l ih => simp [PyData.canLayAll0, PyData.canLay0, ih]
  have h1 : ∀ ns : List Int, PyData.depthAll (ns.map .int) ≤ 1 := by
    intro ns
    induction ns with
    | nil => simp [PyData.depthAll]
    | cons a l ih => simp [PyData.depthAll, PyData.depth]; exact ih
  have h2 := h1 ns
  simp [SeqAt.shaped, PyData.canLay0, h0, PyData.depth]
  (first | lia | omega)
theorem eqv_ints : ∀ ns ms : List Int, PyData.eqvAll (ns.map .int) (ms.map .int) = (ns == ms)
  | [], [] => rfl
  | [], _ :: _ => rfl
  | _ :: _, [] => rfl
  | a :: l, b :: r => by
    show (PyData.eqv (.int a) (.int b) && PyData.eqvAll (l.map .int) (r.map .int)) = _
    rw [eqv_ints l r]; rfl
section
variable {prog : Program} {w : World} {A : Around} {E : Value → Shared → Prop} {s : Shared} {a b : Addr} {vs us : List Value} {ns ms : List Int} {Q : Value → Shared → Prop}
theorem reads_ints {h : Heap} (hl : h.IsList a vs.toArray) (hi : IntsAre vs ns) : ∃ as, Reads h (.ref a) (.list (ns.map .int)) as := by
  obtain ⟨o, h1, h2, n, h3⟩ := hl
  exact ⟨_, reads_list_at h1 h2 h3 (ints_readAll _ hi)⟩
theorem eq_ints (ha : s.heap.IsList a vs.toArray) (hi : IntsAre vs ns) (hb : s.heap.IsList b us.toArray) (hj : IntsAre us ms) (hu : A.units + 64 < cLine)
    (h : Q (.bool (ns == ms)) s) : wpAny (model prog w) A (compareOp .Eq (.ref a) (.ref b)) Q E s := by
  obtain ⟨_, ra⟩ := reads_ints ha hi
  obtain ⟨_, rb⟩ := reads_ints hb hj
  refine eq_dataH ra rb (shaped_ints _) (shaped_ints _) hu ?_
  rw [PyData.eqv, eqv_ints]
  exact h
end
end Mine
namespace Mine
/-- a deck's text -/
structure IsTxt (T : Str) (ns : List Int) : Prop where
  eq : T = txt ns
  len : T.length = 6
section
variable {w : World} {mg mb : Str → Option Value} {s : Shared} {h₀ : Heap} {L l : Addr} {m : Str → Option Value} {news : List (Addr × Obj)} {E : Value → Shared → Prop} {ns : List Int} {vs : List Value}
  {mean : ExcName → Option Value} {gd : Option (List Code)} {cn : Str} {cs : Scope} {ca : Addr} {ccd : Value} {cl : List (Str × Addr)} {outer : List Env} {Q : Value → Shared → Prop}
theorem text_callG (F : Fr h₀ L s.heap m) (N : News h₀ L s.heap news) (X : (hd.heap_1 w.params).In h₀) (T : Top hd.view_1 (looseW hd.view_1 [Str.ofString "IPV4_RE"]) mean mg mb h₀)
    (hl : s.heap.IsList l vs.toArray) (hi : IntsAre vs ns) (hz : ns.length = 6) (hb : ∀ k ∈ ns, 0 ≤ k ∧ k ≤ 9) (h : ∀ h' tk' t' x, IsTxt x ns → Fr h₀ L h' m → News h₀ L h' news → Q (.str x t') { s with heap := h', toks := tk' }) :
    wpAny (model PySem.Challenge.rw_xj0016_01.row.prog w) (ktrTop 303 10 gd cn cs L ca ccd cl outer) (call (.ref 134) [.ref l]) Q E s :=
  text_call F N X T hl hi (by (first | lia | omega)) hb fun h' tk' t' F' N' => h h' tk' t' _ ⟨rfl, (txt_len hb).trans hz⟩ F' N'
end
theorem b7 (d : Int) : 0 ≤ d.fmod 7 ∧ d.fmod 7 < 7 := ⟨Int.fmod_nonneg_of_pos d (by decide), Int.fmod_lt_of_pos d (by decide)⟩
theorem b6 (d : Int) : 0 ≤ d.fmod 6 ∧ d.fmod 6 < 6 := ⟨Int.fmod_nonneg_of_pos d (by decide), Int.fmod_lt_of_pos d (by decide)⟩
section
variable {prog : Program} {w : World} {A : Around} {E : Value → Shared → Prop} {s : Shared} {t u : Tok} {k : Int} {x : Str} {ns : List Int} {Q : Value → Shared → Prop} {value slice : PySem.Expr}
theorem item6 (hx : IsTxt x ns) (h0 : 0 ≤ k ∧ k < 6) (h : Q (.str (Txt.item x k) s.toks) { s with toks := s.toks + 1 })
    (hs : subscripted slice false (.str x t) (.int k u) = operate [.str x t, .int k u] (getItem (.str x t) (.int k u)) := by with_unfolding_all rfl)
    (ht : ∀ r, letTemporaryGo value (.str x t) r = pure () := by intro _; with_unfolding_all rfl) :
    wpAny (model prog w) A (subscriptTail value slice (.str x t) (.int k u)) Q E s :=
  item_str (fitsSsize_of (N := 9223372036854775808) (by (first | lia | omega)) (by (first | lia | omega)) (Int.le_refl _)) (by rw [hx.len]; (first | lia | omega)) (by rw [hx.len]; (first | lia | omega)) (fun _ => h) hs ht
end
section
variable {prog : Program} {w : World} {A : Around} {E : Value → Shared → Prop} {s : Shared} {env : Env} {Q : Value → Shared → Prop} {e₁ e₂ : Expr} {pos : Pos} {b1 b2 : Bool}
theorem and_two (h1 : ∀ Q' : Value → Shared → Prop, Q' (.bool b1) s → wpAny (model prog w) A (eval e₁ env) Q' E s) (h2 : ∀ Q' : Value → Shared → Prop, Q' (.bool b2) s → wpAny (model prog w) A (eval e₂ env) Q' E s) (h : Q (.bool (b1 && b2)) s) :
    wpAny (model prog w) A (eval (.BoolOp .And [e₁, e₂] pos) env) Q E s := by
  refine BoolOp_and (h1 _ ?_)
  cases b1 with
  | true =>
    refine wpAny_truthy_bool ?_
    refine BoolOp_one (h2 _ h)
  | false => exact wpAny_truthy_bool h
end
structure LenLe (x : Str) (n : Nat) : Prop where
  le : x.length ≤ n
theorem d3_len : LenLe (Str.ofString "...") 3 := ⟨by decide +kernel⟩
theorem sl6 {x : Str} {ns : List Int} (h : IsTxt x ns) (l u : Option Int) : LenLe (Txt.slice x l u) 6 := ⟨h.len ▸ PyProof.Txt.length_slice_le x l u⟩
theorem tx6 {x : Str} {ns : List Int} (h : IsTxt x ns) : LenLe x 6 := ⟨Nat.le_of_eq h.len⟩
theorem item1 (x : Str) (i : Int) : LenLe (Txt.item x i) 1 := ⟨Nat.le_refl 1⟩
theorem addH {prog : Program} {w : World} {A : Around} {E : Value → Shared → Prop} {s : Shared} {Q : Value → Shared → Prop} {x y : Str} {t u : Tok} {m n : Nat} (hx : LenLe x m) (hy : LenLe y n) (hz : m + n ≤ 500) (h : ∀ t' c, LenLe (x ++ y) (m + n) → Q (.str (x ++ y) t') { s with toks := c }) :
    wpAny (model prog w) A (binaryOp .Add (.str x t) (.str y u)) Q E s :=
  add_le hx.le hy.le (by (first | lia | omega)) fun t' c g => h t' c ⟨g⟩
section
variable {w : World} {mg mb : Str → Option Value} {s : Shared} {h₀ : Heap} {L l : Addr} {m : Str → Option Value} {news : List (Addr × Obj)} {E : Value → Shared → Prop} {x y : Str} {t u : Tok} {n k : Nat}
  {mean : ExcName → Option Value} {gd : Option (List Code)} {cn : Str} {cs : Scope} {ca : Addr} {ccd : Value} {cl : List (Str × Addr)} {outer : List Env} {Q : Value → Shared → Prop}
theorem dots_callH (F : Fr h₀ L s.heap m) (N : News h₀ L s.heap news) (X : (hd.heap_1 w.params).In h₀) (T : Top hd.view_1 (looseW hd.view_1 [Str.ofString "IPV4_RE"]) mean mg mb h₀)
    (hx : LenLe x n) (hn : n ≤ 100) (h : ∀ h' tk' t', LenLe (dots x) (4 * n + 6) → Fr h₀ L h' m → News h₀ L h' news → Q (.str (dots x) t') { s with heap := h', toks := tk' }) :
    wpAny (model PySem.Challenge.rw_xj0016_01.row.prog w) (ktrTop 303 10 gd cn cs L ca ccd cl outer) (call (.ref 141) [.str x t]) Q E s :=
  dots_call F N X T (Nat.le_trans hx.le (by (first | lia | omega))) fun h' tk' t' F' N' => h h' tk' t' ⟨Nat.le_trans (dots_len x) (by have := hx.le; (first | lia | omega))⟩ F' N'
theorem em_callH (F : Fr h₀ L s.heap m) (N : News h₀ L s.heap news) (X : (hd.heap_1 w.params).In h₀) (T : Top hd.view_1 (looseW hd.view_1 [Str.ofString "IPV4_RE"]) mean mg mb h₀)
    (hx : LenLe x n) (hy : LenLe y k) (hn : n ≤ 500) (hk : k ≤ 500) (h : ∀ h' tk', Fr h₀ L h' m → News h₀ L h' news → Q (.bool (em x y)) { s with heap := h', toks := tk' }) :
    wpAny (model PySem.Challenge.rw_xj0016_01.row.prog w) (ktrTop 303 10 gd cn cs L ca ccd cl outer) (call (.ref 57) [.str x t, .str y u]) Q E s :=
  em_call F N X T (Nat.le_trans hx.le hn) (Nat.le_trans hy.le hk) h
end
theorem sz6 {x : Str} {ns : List Int} (h : IsTxt x ns) : x.length ≤ sizeLine := by rw [h.len, sizeLine_eq]; decide
end Mine
namespace Mine
noncomputable def askdFor : List Stmt := (defBody 25).drop 12
noncomputable def askdBody : List Stmt := match askdFor with | s :: _ => bodyOf s | [] => []
noncomputable def targetOf2 : List Stmt → Expr
  | .For t _ _ _ _ :: _ => t
  | _ => .Name (Str.ofString "") ⟨0, 0, 0, 0⟩
noncomputable abbrev envD (sk : ScopeKind) (names : List (Str × NameKind)) (ig ic : Bool) (more : List (Str × Const)) (L' : Addr) : Env := envOf (Str.ofString "_law_by_dots") (Scope.mk sk names ig ic more) L' 170 (.ref 169)
section
variable {w : World} {mean : ExcName → Option Value} {mg mb : Str → Option Value} {s : Shared} {g : Heap} {L' D : Addr} {m : Str → Option Value} {news : List (Addr × Obj)} {Q : Flow → Shared → Prop}
  {body : List Stmt} {ts : List PySem.Expr} {kk : Nat} {pp : Pos} {sk : ScopeKind} {names : List (Str × NameKind)} {ig ic : Bool} {more : List (Str × Const)} {x y : Str} {d : Bool} {tx ty : Tok}
  {gd : Option (List Code)} {cn : Str} {cs : Scope} {L a : Addr} {ccd : Value} {cl : List (Str × Addr)} {outer : List Env}
set_option maxHeartbeats 1000000 in
theorem askd_turn {s0 : Stmt} (e : askdBody = s0 :: body) (et : targetOf2 askdFor = .Tuple ts kk pp) (es' : defScope 25 = Scope.mk sk names ig ic more) (X : (hd.heap_1 w.params).In g) (TT : Top hd.view_1 (looseW hd.view_1 [Str.ofString "IPV4_RE"]) mean mg mb g)
    (hx : x.length ≤ 500) (hy : y.length ≤ 500) (hd' : em x y = d)
    (F : Fr g L' s.heap (kstB m [])) (N : News g L' s.heap ((D, ⟨.type "tuple", none, .seq [(.str x tx : Value), .str y ty, .bool d].toArray 0, #[]⟩) :: news))
    (hQ : ∀ h' tk' (m' : Str → Option Value), (∀ z, z ≠ Str.ofString "want" → z ≠ Str.ofString "got" → z ≠ Str.ofString "due" → m' z = m z) → Fr g L' h' m' → News g L' h' ((D, ⟨.type "tuple", none, .seq [(.str x tx : Value), .str y ty, .bool d].toArray 0, #[]⟩) :: news) → Q .next { s with heap := h', toks := tk' }) :
    wpAny (model PySem.Challenge.rw_xj0016_01.row.prog w) ((ktrTop 302 7 gd cn cs L a ccd cl outer).deeper (envD sk names ig ic more L')) (assign (.Tuple ts kk pp) (envD sk names ig ic more L') (.ref D)) (fun _ s₃ => wpAny (model PySem.Challenge.rw_xj0016_01.row.prog w) ((ktrTop 302 7 gd cn cs L a ccd cl outer).deeper (envD sk names ig ic more L')) (execs (s0 :: body) (envD sk names ig ic more L')) Q (fun _ _ => False) s₃) (fun _ _ => False) s := by
  w_top off
  k_with_none
  k_with "own call ref" => ((k_here; (with_reducible show wpAny _ _ (call (Value.ref 57) _) _ _ _); k_dflt (refine' em_call (by k_asm) (by k_asm) (by k_asm) (by k_asm) (by with_reducible assumption) (by with_reducible assumption) ?_; k_whole); intro h9 tk9 F9 N9; (try k_sweep); (try dsimp only); (try k_fold)))
  k_with "own k_ne" => (refine neN ?_; (try dsimp only); first | exact Nat.ne_of_gt (by with_reducible assumption) | exact Nat.ne_of_lt (by with_reducible assumption) | exact Nat.ne_of_gt (And.left (by with_reducible assumption)) | exact Nat.ne_of_lt (And.left (by with_reducible assumption)) | exact Nat.ne_of_gt (And.right (by with_reducible assumption)) | exact Nat.ne_of_lt (And.right (by with_reducible assumption)) | exact Nat.ne_of_gt (And.left (And.right (by with_reducible assumption))) | exact Nat.ne_of_lt (And.left (And.right (by with_reducible assumption))) | exact Nat.ne_of_gt (And.right (And.right (by with_reducible assumption))) | exact Nat.ne_of_lt (And.right (And.right (by with_reducible assumption))) | exact Nat.ne_of_gt (And.left (And.right (And.right (by with_reducible assumption)))) | exact Nat.ne_of_lt (And.left (And.right (And.right (by with_reducible assumption)))) | exact Nat.ne_of_gt (And.right (And.right (And.right (by with_reducible assumption)))) | exact Nat.ne_of_lt (And.right (And.right (And.right (by with_reducible assumption)))) | exact Nat.ne_of_gt (And.left (And.right (And.right (And.right (by with_reducible assumption))))) | exact Nat.ne_of_lt (And.left (And.right (And.right (And.right (by with_reducible assumption))))) | exact Nat.ne_of_gt (And.right (And.right (And.right (And.right (by with_reducible assumption))))) | exact Nat.ne_of_lt (And.right (And.right (And.right (And.right (by with_reducible assumption))))) | exact Nat.ne_of_gt (And.left (And.right (And.right (And.right (And.right (by with_reducible assumption)))))) | exact Nat.ne_of_lt (And.left (And.right (And.right (And.right (And.right (by with_reducible assumption)))))) | exact Nat.ne_of_gt (And.right (And.right (And.right (And.right (And.right (by with_reducible assumption)))))) | exact Nat.ne_of_lt (And.right (And.right (And.right (And.right (And.right (by with_reducible assumption)))))) | exact Nat.ne_of_gt (And.left (And.right (And.right (And.right (And.right (And.right (by with_reducible assumption))))))) | exact Nat.ne_of_lt (And.left (And.right (And.right (And.right (And.right (And.right (by with_reducible assumption))))))) | exact Nat.ne_of_gt (And.right (And.right (And.right (And.right (And.right (And.right (by with_reducible assumption))))))) | exact Nat.ne_of_lt (And.right (And.right (And.right (And.right (And.right (And.right (by with_reducible assumption))))))) | exact Nat.ne_of_gt (And.left (And.right (And.right (And.right (And.right (And.right (And.right (by with_reducible assumption)))))))) | exact Nat.ne_of_lt (And.left (And.right (And.right (And.right (And.right (And.right (And.right (by with_reducible assumption)))))))) | exact Nat.ne_of_gt (And.right (And.right (And.right (And.right (And.right (And.right (And.right (by with_reducible assumption)))))))) | exact Nat.ne_of_lt (And.right (And.right (And.right (And.right (And.right (And.right (And.right (by with_reducible assumption)))))))) | exact Nat.ne_of_gt (And.left (And.right (And.right (And.right (And.right (And.right (And.right (And.right (by with_reducible assumption))))))))) | exact Nat.ne_of_lt (And.left (And.right (And.right (And.right (And.right (And.right (And.right (And.right (by with_reducible assumption))))))))) | exact Nat.ne_of_gt (And.right (And.right (And.right (And.right (And.right (And.right (And.right (And.right (by with_reducible assumption))))))))) | exact Nat.ne_of_lt (And.right (And.right (And.right (And.right (And.right (And.right (And.right (And.right (by with_reducible assumption))))))))) | exact Nat.ne_of_gt (And.left (And.right (And.right (And.right (And.right (And.right (And.right (And.right (And.right (by with_reducible assumption)))))))))) | exact Nat.ne_of_lt (And.left (And.right (And.right (And.right (And.right (And.right (And.right (And.right (And.right (by with_reducible assumption)))))))))) | exact Nat.ne_of_gt (And.right (And.right (And.right (And.right (And.right (And.right (And.right (And.right (And.right (by with_reducible assumption)))))))))) | exact Nat.ne_of_lt (And.right (And.right (And.right (And.right (And.right (And.right (And.right (And.right (And.right (by with_reducible assumption)))))))))) | exact Nat.ne_of_gt (And.left (And.right (And.right (And.right (And.right (And.right (And.right (And.right (And.right (And.right (by with_reducible assumption))))))))))) | exact Nat.ne_of_lt (And.left (And.right (And.right (And.right (And.right (And.right (And.right (And.right (And.right (And.right (by with_reducible assumption))))))))))) | exact Nat.ne_of_gt (And.right (And.right (And.right (And.right (And.right (And.right (And.right (And.right (And.right (And.right (by with_reducible assumption))))))))))) | exact Nat.ne_of_lt (And.right (And.right (And.right (And.right (And.right (And.right (And.right (And.right (And.right (And.right (by with_reducible assumption))))))))))) | exact Nat.ne_of_gt (And.left (And.right (And.right (And.right (And.right (And.right (And.right (And.right (And.right (And.right (And.right (by with_reducible assumption)))))))))))) | exact Nat.ne_of_lt (And.left (And.right (And.right (And.right (And.right (And.right (And.right (And.right (And.right (And.right (And.right (by with_reducible assumption)))))))))))) | exact Nat.ne_of_gt (And.right (And.right (And.right (And.right (And.right (And.right (And.right (And.right (And.right (And.right (And.right (by with_reducible assumption)))))))))))) | exact Nat.ne_of_lt (And.right (And.right (And.right (And.right (And.right (And.right (And.right (And.right (And.right (And.right (And.right (by with_reducible assumption)))))))))))) | exact Nat.ne_of_gt (And.left (And.right (And.right (And.right (And.right (And.right (And.right (And.right (And.right (And.right (And.right (And.right (by with_reducible assumption))))))))))))) | exact Nat.ne_of_lt (And.left (And.right (And.right (And.right (And.right (And.right (And.right (And.right (And.right (And.right (And.right (And.right (by with_reducible assumption))))))))))))) | exact Nat.ne_of_gt (And.right (And.right (And.right (And.right (And.right (And.right (And.right (And.right (And.right (And.right (And.right (And.right (by with_reducible assumption))))))))))))) | exact Nat.ne_of_lt (And.right (And.right (And.right (And.right (And.right (And.right (And.right (And.right (And.right (And.right (And.right (And.right (by with_reducible assumption))))))))))))) | exact Nat.ne_of_gt (And.left (And.right (And.right (And.right (And.right (And.right (And.right (And.right (And.right (And.right (And.right (And.right (And.right (by with_reducible assumption)))))))))))))) | exact Nat.ne_of_lt (And.left (And.right (And.right (And.right (And.right (And.right (And.right (And.right (And.right (And.right (And.right (And.right (And.right (by with_reducible assumption)))))))))))))) | exact Nat.ne_of_gt (And.right (And.right (And.right (And.right (And.right (And.right (And.right (And.right (And.right (And.right (And.right (And.right (And.right (by with_reducible assumption)))))))))))))) | exact Nat.ne_of_lt (And.right (And.right (And.right (And.right (And.right (And.right (And.right (And.right (And.right (And.right (And.right (And.right (And.right (by with_reducible assumption)))))))))))))) | exact Nat.ne_of_gt (And.left (And.right (And.right (And.right (And.right (And.right (And.right (And.right (And.right (And.right (And.right (And.right (And.right (And.right (by with_reducible assumption))))))))))))))) | exact Nat.ne_of_lt (And.left (And.right (And.right (And.right (And.right (And.right (And.right (And.right (And.right (And.right (And.right (And.right (And.right (And.right (by with_reducible assumption))))))))))))))) | omega)
  injection e with e0 e
  subst e0 e
  injection et with t0 t1 t2
  subst t0 t1 t2
  injection es' with f0 f1 f2 f3 f4
  subst f0 f1 f2 f3 f4
  (try dsimp only [kstB] at F)
  have hM := kstMark
  revert X TT
  k_fill
  intro X TT
  (try k_fold)
  k_steps
  · exfalso
    rename (_ != _) = true => kb
    rw [hd'] at kb
    simp at kb
  · rename Fr _ _ _ _ => kF; rename News _ _ _ _ => kN
    refine hQ _ _ _ ?_ kF kN
    intro z h1 h2 h3
    simp [h1, h2, h3]
/-- what a place of the asks holds -/
noncomputable def AskdAt (news : List (Addr × Obj)) (v : Value) : Prop := ∃ D x y d tx ty, v = .ref D ∧ (D, (⟨.type "tuple", none, .seq [(.str x tx : Value), .str y ty, .bool d].toArray 0, #[]⟩ : Obj)) ∈ news ∧ em x y = d ∧ x.length ≤ 500 ∧ y.length ≤ 500
theorem askd_loop {s0 : Stmt} {l : Addr} {vs : List Value} {nn : Nat} {m₀ : Str → Option Value} (e : askdBody = s0 :: body) (et : targetOf2 askdFor = .Tuple ts kk pp) (es' : defScope 25 = Scope.mk sk names ig ic more) (X : (hd.heap_1 w.params).In g) (TT : Top hd.view_1 (looseW hd.view_1 [Str.ofString "IPV4_RE"]) mean mg mb g)
    (hl : (l, listOf vs.toArray nn) ∈ news) (ha : ∀ v ∈ vs, AskdAt news v) (F : Fr g L' s.heap m₀) (N : News g L' s.heap news)
    (hgo : ∀ (i : Nat) (s' : Shared) v (Q' : Unit → Shared → Prop), s'.heap.IsListIter s.heap.objs.size l i → Q' () s' → wpAny (model PySem.Challenge.rw_xj0016_01.row.prog w) ((ktrTop 302 7 gd cn cs L a ccd cl outer).deeper (envD sk names ig ic more L')) (letOwnedTupleGo (.Tuple ts kk pp) (.ref s.heap.objs.size) v) Q' (fun _ _ => False) s')
    (hQ : ∀ h' tk' (m' : Str → Option Value), (∀ z, z ≠ Str.ofString "want" → z ≠ Str.ofString "got" → z ≠ Str.ofString "due" → m' z = m₀ z) → Fr g L' h' m' → News g L' h' news → Q .next { s with heap := h', toks := tk' }) :
    wpAny (model PySem.Challenge.rw_xj0016_01.row.prog w) ((ktrTop 302 7 gd cn cs L a ccd cl outer).deeper (envD sk names ig ic more L')) (pyIter (.ref l))
      (fun it s₂ => JAt PySem.Challenge.rw_xj0016_01.row.prog w ((ktrTop 302 7 gd cn cs L a ccd cl outer).deeper (envD sk names ig ic more L')) g (envD sk names ig ic more L') (.Tuple ts kk pp) (s0 :: body) Q (fun _ _ => False) it s₂) (fun _ _ => False) s := by
  refine iter_list_J rfl hl F N hgo (fun _ m₁ news₁ => news₁ = news ∧ ∀ z, z ≠ Str.ofString "want" → z ≠ Str.ofString "got" → z ≠ Str.ofString "due" → m₁ z = m₀ z) ⟨rfl, fun _ _ _ _ => rfl⟩ ?_ ?_
  · rintro i v m₁ news₁ h tk own hv ho hI hw ⟨rfl, hz⟩ F₁ N₁
    obtain ⟨D, x, y, d, tx, ty, rfl, hD, hd', hx, hy⟩ := ha v (List.mem_of_getElem? hv)
    refine askd_turn (s := { s with heap := h, toks := tk }) (m := m₁) (news := own ++ news₁) (tx := tx) (ty := ty) e et es' X TT hx hy hd' F₁ (kst_newsOf N₁ ?_) ?_
    · intro p hp
      rcases List.mem_cons.mp hp with rfl | hp
      · exact List.mem_append.mpr (.inr hD)
      · exact hp
    · intro h' tk' m' hz' F2 N2
      refine ⟨h', tk', m', news₁, rfl, F2, kst_newsOf N2 (fun p hp => .tail _ hp), (fun p hp q => hw p hp (List.mem_singleton.mp q)), rfl, fun z h1 h2 h3 => ?_⟩
      exact (hz' z h1 h2 h3).trans (hz z h1 h2 h3)
  · rintro m₁ _ h tk ⟨rfl, hz⟩ F₁ N₁
    exact hQ h tk m₁ hz F₁ N₁
end
end Mine
namespace Mine
noncomputable def cutsTurn : List Stmt := nth (defBody 25) 15
noncomputable def fallT (k : Int) : Str := Str.ofString "[" ++ dots (txt (rng k (-1) k.toNat)) ++ Str.ofString "]"
noncomputable def riseT (k : Int) : Str := dots (txt (rng (k + 1) 1 (6 - k).toNat))
/-- a cut's two patterns are taken -/
noncomputable def cutOk (R x : Str) (k : Int) : Bool := em (fallT k) R && em (riseT k) x
theorem beq_tt {b : Bool} (h : (b == true) = true) : b = true := by cases b <;> simp_all
theorem beq_tf {b : Bool} (h : (b == true) = false) : b = false := by cases b <;> simp_all
theorem cut_yes {R x x1 x2 : Str} {k : Int} (h1 : x1 = txt (rng k (-1) k.toNat)) (h2 : x2 = txt (rng (k + 1) 1 (6 - k).toNat)) (b1 : (em (Str.ofString "[" ++ dots x1 ++ Str.ofString "]") R == true) = true) (b2 : (em (dots x2) x == true) = true) : cutOk R x k = true := by
  subst h1 h2
  have e1 : em (fallT k) R = true := beq_tt b1
  have e2 : em (riseT k) x = true := beq_tt b2
  unfold cutOk
  rw [e1, e2]; rfl
theorem cut_no1 {R x x1 : Str} {k : Int} (h1 : x1 = txt (rng k (-1) k.toNat)) (b1 : (em (Str.ofString "[" ++ dots x1 ++ Str.ofString "]") R == true) = false) : ¬ cutOk R x k = true := by
  subst h1
  have e1 : em (fallT k) R = false := beq_tf b1
  unfold cutOk
  rw [e1]; simp
theorem cut_no2 {R x x2 : Str} {k : Int} (h2 : x2 = txt (rng (k + 1) 1 (6 - k).toNat)) (b2 : (em (dots x2) x == true) = false) : ¬ cutOk R x k = true := by
  subst h2
  have e2 : em (riseT k) x = false := beq_tf b2
  unfold cutOk
  rw [e2]; simp
theorem b1_len : LenLe (Str.ofString "[") 1 := ⟨by decide +kernel⟩
theorem b2_len : LenLe (Str.ofString "]") 1 := ⟨by decide +kernel⟩
theorem dl_bnd {x : Str} (h : LenLe x 10) : (Str.ofString "[" ++ dots x ++ Str.ofString "]").length ≤ 500 ∧ (dots x).length ≤ 500 := by
  have h1 := dots_len x
  have h2 := h.le
  refine ⟨?_, by (first | lia | omega)⟩
  rw [Str.length_append, Str.length_append]
  have e1 := b1_len.le
  have e2 := b2_len.le
  (first | lia | omega)
section
variable {w : World} {mg mb : Str → Option Value} {s : Shared} {h₀ : Heap} {L l : Addr} {m : Str → Option Value} {news : List (Addr × Obj)} {E : Value → Shared → Prop} {a b c : Int} {t u v : Tok} {n : Nat}
  {mean : ExcName → Option Value} {gd : Option (List Code)} {cn : Str} {cs : Scope} {ca : Addr} {ccd : Value} {cl : List (Str × Addr)} {outer : List Env} {Q : Value → Shared → Prop}
theorem textR_callG (F : Fr h₀ L s.heap m) (N : News h₀ L s.heap news) (X : (hd.heap_1 w.params).In h₀) (T : Top hd.view_1 (looseW hd.view_1 [Str.ofString "IPV4_RE"]) mean mg mb h₀)
    (hl : IsRange s.heap l a b c t u v) (hi : RngOf a b c n) (h : ∀ h' tk' t' x, x = txt (rng a c n) → LenLe x 10 → Fr h₀ L h' m → News h₀ L h' news → Q (.str x t') { s with heap := h', toks := tk' }) :
    wpAny (model PySem.Challenge.rw_xj0016_01.row.prog w) (ktrTop 303 10 gd cn cs L ca ccd cl outer) (call (.ref 134) [.ref l]) Q E s :=
  textR_call F N X T hl hi fun h' tk' t' F' N' => h h' tk' t' _ rfl ⟨by rw [txt_len hi.cards, rng_len]; exact hi.few⟩ F' N'
end
section
variable {w : World} {mean : ExcName → Option Value} {mg mb : Str → Option Value} {s : Shared} {g : Heap} {L' C : Addr} {m : Str → Option Value} {news : List (Addr × Obj)} {Q : Flow → Shared → Prop}
  {body : List Stmt} {sk : ScopeKind} {names : List (Str × NameKind)} {ig ic : Bool} {more : List (Str × Const)} {x R : Str} {k : Int} {vs : List Value} {nn : Nat} {tx tr tk₀ : Tok}
  {gd : Option (List Code)} {cn : Str} {cs : Scope} {L a : Addr} {ccd : Value} {cl : List (Str × Addr)} {outer : List Env}
set_option maxHeartbeats 1000000 in
theorem cuts_turn {s0 : Stmt} (e : cutsTurn = s0 :: body) (es' : defScope 25 = Scope.mk sk names ig ic more) (X : (hd.heap_1 w.params).In g) (TT : Top hd.view_1 (looseW hd.view_1 [Str.ofString "IPV4_RE"]) mean mg mb g)
    (hx : LenLe x 10) (hR : LenLe R 50) (h0 : 0 ≤ k) (h7 : k < 7) (hv : vs.toArray.size ≤ sizeLine) (hoff : ∀ p ∈ news, p.1 ≠ C)
    (F : Fr g L' s.heap (kstB m [(Str.ofString "cuts", .ref C), (Str.ofString "rows", .str R tr), (Str.ofString "text", .str x tx), (Str.ofString "cut", .int k tk₀)])) (N : News g L' s.heap ((C, listOf vs.toArray nn) :: news))
    (hQ : ∀ h' tk' (m' : Str → Option Value) vs' nn', (vs' = if cutOk R x k = true then vs ++ [.int k tk₀] else vs) → (∀ z, z ≠ Str.ofString "falls" → z ≠ Str.ofString "rises" → m' z = kstB m [(Str.ofString "cuts", .ref C), (Str.ofString "rows", .str R tr), (Str.ofString "text", .str x tx), (Str.ofString "cut", .int k tk₀)] z) → Fr g L' h' m' → News g L' h' ((C, listOf vs'.toArray nn') :: news) → Q .next { s with heap := h', toks := tk' }) :
    wpAny (model PySem.Challenge.rw_xj0016_01.row.prog w) ((ktrTop 302 7 gd cn cs L a ccd cl outer).deeper (envD sk names ig ic more L')) (execs (s0 :: body) (envD sk names ig ic more L')) Q (fun _ _ => False) s := by
  w_top off
  k_with_none
  k_with "own call ref" => ((k_here; (with_reducible show wpAny _ _ (call (Value.ref 134) _) _ _ _); k_dflt (refine' textR_callG (by k_asm) (by k_asm) (by k_asm) (by k_asm) (by with_reducible assumption) (by with_reducible first | exact rngDown _ (by assumption) (by assumption) | exact rngUp _ (by assumption) (by assumption)) ?_; k_whole); intro h9 tk9 t9 x9 hx9 xl9 F9 N9; (try k_sweep); (try dsimp only); (try k_fold)))
  k_with "own m_b" => (first | with_reducible assumption | with_reducible exact d3_len | with_reducible exact b1_len | with_reducible exact b2_len)
  k_with "own binaryOp Add str str" => ((k_here; (with_reducible show wpAny _ _ (binaryOp Operator.Add (Value.str _ _) (Value.str _ _)) _ _ _); (refine' addH (by walk_at "m_b") (by walk_at "m_b") (by decide) ?_); intro _ _ _))
  k_with "own last binaryOp Add str str" => ((k_here; (with_reducible show wpAny _ _ (binaryOp Operator.Add (Value.str _ _) (Value.str _ _)) _ _ _); (refine' addH (by walk_at "m_b") (by walk_at "m_b") (by decide) ?_); intro _ _ _))
  k_with "own call ref" => ((k_here; (with_reducible show wpAny _ _ (call (Value.ref 141) _) _ _ _); k_dflt (refine' dots_callH (by k_asm) (by k_asm) (by k_asm) (by k_asm) (by walk_at "m_b") (by decide) ?_; k_whole); intro h9 tk9 t9 dl9 F9 N9; (try k_sweep); (try dsimp only); (try k_fold)))
  k_with "own call ref" => ((k_here; (with_reducible show wpAny _ _ (call (Value.ref 57) _) _ _ _); k_dflt (refine' em_callH (by k_asm) (by k_asm) (by k_asm) (by k_asm) (by walk_at "m_b") (by walk_at "m_b") (by decide) (by decide) ?_; k_whole); intro h9 tk9 F9 N9; (try k_sweep); (try dsimp only); (try k_fold)))
  k_with "own getMethod ref" => ((k_here; (with_reducible show wpAny _ _ (getMethod (Value.ref _) (PySem.Str.ofString "append") _) _ _ _); k_dflt (refine' listMethod_K (by k_asm) (by k_mem) PySem.F.slot_list_append PySem.F.type_list_append ?_)))
  k_with "own call builtin:list.append" => ((k_here; (with_reducible show wpAny _ _ (call (Value.builtin _) [Value.ref _, _]) _ _ _); k_dflt (refine' append_K (by k_asm) (by k_asm) (by exact Upd.head (by with_reducible assumption)) ?_ (by with_reducible assumption); k_whole); intro h' F' N'; (try k_sweep)))
  k_with "own k_ne" => (refine neN ?_; (try dsimp only); first | exact Nat.ne_of_gt (by with_reducible assumption) | exact Nat.ne_of_lt (by with_reducible assumption) | exact Nat.ne_of_gt (And.left (by with_reducible assumption)) | exact Nat.ne_of_lt (And.left (by with_reducible assumption)) | exact Nat.ne_of_gt (And.right (by with_reducible assumption)) | exact Nat.ne_of_lt (And.right (by with_reducible assumption)) | exact Nat.ne_of_gt (And.left (And.right (by with_reducible assumption))) | exact Nat.ne_of_lt (And.left (And.right (by with_reducible assumption))) | exact Nat.ne_of_gt (And.right (And.right (by with_reducible assumption))) | exact Nat.ne_of_lt (And.right (And.right (by with_reducible assumption))) | exact Nat.ne_of_gt (And.left (And.right (And.right (by with_reducible assumption)))) | exact Nat.ne_of_lt (And.left (And.right (And.right (by with_reducible assumption)))) | exact Nat.ne_of_gt (And.right (And.right (And.right (by with_reducible assumption)))) | exact Nat.ne_of_lt (And.right (And.right (And.right (by with_reducible assumption)))) | exact Nat.ne_of_gt (And.left (And.right (And.right (And.right (by with_reducible assumption))))) | exact Nat.ne_of_lt (And.left (And.right (And.right (And.right (by with_reducible assumption))))) | exact Nat.ne_of_gt (And.right (And.right (And.right (And.right (by with_reducible assumption))))) | exact Nat.ne_of_lt (And.right (And.right (And.right (And.right (by with_reducible assumption))))) | exact Nat.ne_of_gt (And.left (And.right (And.right (And.right (And.right (by with_reducible assumption)))))) | exact Nat.ne_of_lt (And.left (And.right (And.right (And.right (And.right (by with_reducible assumption)))))) | exact Nat.ne_of_gt (And.right (And.right (And.right (And.right (And.right (by with_reducible assumption)))))) | exact Nat.ne_of_lt (And.right (And.right (And.right (And.right (And.right (by with_reducible assumption)))))) | exact Nat.ne_of_gt (And.left (And.right (And.right (And.right (And.right (And.right (by with_reducible assumption))))))) | exact Nat.ne_of_lt (And.left (And.right (And.right (And.right (And.right (And.right (by with_reducible assumption))))))) | exact Nat.ne_of_gt (And.right (And.right (And.right (And.right (And.right (And.right (by with_reducible assumption))))))) | exact Nat.ne_of_lt (And.right (And.right (And.right (And.right (And.right (And.right (by with_reducible assumption))))))) | exact Nat.ne_of_gt (And.left (And.right (And.right (And.right (And.right (And.right (And.right (by with_reducible assumption)))))))) | exact Nat.ne_of_lt (And.left (And.right (And.right (And.right (And.right (And.right (And.right (by with_reducible assumption)))))))) | exact Nat.ne_of_gt (And.right (And.right (And.right (And.right (And.right (And.right (And.right (by with_reducible assumption)))))))) | exact Nat.ne_of_lt (And.right (And.right (And.right (And.right (And.right (And.right (And.right (by with_reducible assumption)))))))) | exact Nat.ne_of_gt (And.left (And.right (And.right (And.right (And.right (And.right (And.right (And.right (by with_reducible assumption))))))))) | exact Nat.ne_of_lt (And.left (And.right (And.right (And.right (And.right (And.right (And.right (And.right (by with_reducible assumption))))))))) | exact Nat.ne_of_gt (And.right (And.right (And.right (And.right (And.right (And.right (And.right (And.right (by with_reducible assumption))))))))) | exact Nat.ne_of_lt (And.right (And.right (And.right (And.right (And.right (And.right (And.right (And.right (by with_reducible assumption))))))))) | exact Nat.ne_of_gt (And.left (And.right (And.right (And.right (And.right (And.right (And.right (And.right (And.right (by with_reducible assumption)))))))))) | exact Nat.ne_of_lt (And.left (And.right (And.right (And.right (And.right (And.right (And.right (And.right (And.right (by with_reducible assumption)))))))))) | exact Nat.ne_of_gt (And.right (And.right (And.right (And.right (And.right (And.right (And.right (And.right (And.right (by with_reducible assumption)))))))))) | exact Nat.ne_of_lt (And.right (And.right (And.right (And.right (And.right (And.right (And.right (And.right (And.right (by with_reducible assumption)))))))))) | exact Nat.ne_of_gt (And.left (And.right (And.right (And.right (And.right (And.right (And.right (And.right (And.right (And.right (by with_reducible assumption))))))))))) | exact Nat.ne_of_lt (And.left (And.right (And.right (And.right (And.right (And.right (And.right (And.right (And.right (And.right (by with_reducible assumption))))))))))) | exact Nat.ne_of_gt (And.right (And.right (And.right (And.right (And.right (And.right (And.right (And.right (And.right (And.right (by with_reducible assumption))))))))))) | exact Nat.ne_of_lt (And.right (And.right (And.right (And.right (And.right (And.right (And.right (And.right (And.right (And.right (by with_reducible assumption))))))))))) | exact Nat.ne_of_gt (And.left (And.right (And.right (And.right (And.right (And.right (And.right (And.right (And.right (And.right (And.right (by with_reducible assumption)))))))))))) | exact Nat.ne_of_lt (And.left (And.right (And.right (And.right (And.right (And.right (And.right (And.right (And.right (And.right (And.right (by with_reducible assumption)))))))))))) | exact Nat.ne_of_gt (And.right (And.right (And.right (And.right (And.right (And.right (And.right (And.right (And.right (And.right (And.right (by with_reducible assumption)))))))))))) | exact Nat.ne_of_lt (And.right (And.right (And.right (And.right (And.right (And.right (And.right (And.right (And.right (And.right (And.right (by with_reducible assumption)))))))))))) | exact Nat.ne_of_gt (And.left (And.right (And.right (And.right (And.right (And.right (And.right (And.right (And.right (And.right (And.right (And.right (by with_reducible assumption))))))))))))) | exact Nat.ne_of_lt (And.left (And.right (And.right (And.right (And.right (And.right (And.right (And.right (And.right (And.right (And.right (And.right (by with_reducible assumption))))))))))))) | exact Nat.ne_of_gt (And.right (And.right (And.right (And.right (And.right (And.right (And.right (And.right (And.right (And.right (And.right (And.right (by with_reducible assumption))))))))))))) | exact Nat.ne_of_lt (And.right (And.right (And.right (And.right (And.right (And.right (And.right (And.right (And.right (And.right (And.right (And.right (by with_reducible assumption))))))))))))) | exact Nat.ne_of_gt (And.left (And.right (And.right (And.right (And.right (And.right (And.right (And.right (And.right (And.right (And.right (And.right (And.right (by with_reducible assumption)))))))))))))) | exact Nat.ne_of_lt (And.left (And.right (And.right (And.right (And.right (And.right (And.right (And.right (And.right (And.right (And.right (And.right (And.right (by with_reducible assumption)))))))))))))) | exact Nat.ne_of_gt (And.right (And.right (And.right (And.right (And.right (And.right (And.right (And.right (And.right (And.right (And.right (And.right (And.right (by with_reducible assumption)))))))))))))) | exact Nat.ne_of_lt (And.right (And.right (And.right (And.right (And.right (And.right (And.right (And.right (And.right (And.right (And.right (And.right (And.right (by with_reducible assumption)))))))))))))) | exact Nat.ne_of_gt (And.left (And.right (And.right (And.right (And.right (And.right (And.right (And.right (And.right (And.right (And.right (And.right (And.right (And.right (by with_reducible assumption))))))))))))))) | exact Nat.ne_of_lt (And.left (And.right (And.right (And.right (And.right (And.right (And.right (And.right (And.right (And.right (And.right (And.right (And.right (And.right (by with_reducible assumption))))))))))))))) | omega)
  injection e with e0 e
  subst e0 e
  injection es' with f0 f1 f2 f3 f4
  subst f0 f1 f2 f3 f4
  (try dsimp only [kstB] at F)
  have hM := kstMark
  revert X TT
  k_fill
  intro X TT
  (try k_fold)
  k_steps
  · rename Fr _ _ _ _ => kF; rename News _ _ _ _ => kN
    simp only [List.push_toArray] at kN
    refine' hQ _ _ _ (vs ++ [.int k tk₀]) _ ?za ?zb kF (kst_newsOf kN ?zc)
    case za => with_reducible exact (if_pos (cut_yes (by assumption) (by assumption) (by assumption) (by assumption))).symm
    case zb => intro z h1 h2; simp [kstB, h1, h2]
    case zc =>
      intro p hp
      repeat (first | exact hp | refine List.Mem.tail _ ?_)
  · rename Fr _ _ _ _ => kF; rename News _ _ _ _ => kN
    refine' hQ _ _ _ vs _ ?za ?zb kF (kst_newsOf kN ?zc)
    case za => with_reducible exact (if_neg (cut_no2 (by assumption) (by assumption))).symm
    case zb => intro z h1 h2; simp [kstB, h1, h2]
    case zc =>
      intro p hp
      repeat (first | exact hp | refine List.Mem.tail _ ?_)
  · rename Fr _ _ _ _ => kF; rename News _ _ _ _ => kN
    refine' hQ _ _ _ vs _ ?za ?zb kF (kst_newsOf kN ?zc)
    case za => with_reducible exact (if_neg (cut_no1 (by assumption) (by assumption))).symm
    case zb => intro z h1 h2; simp [kstB, h1, h2]
    case zc =>
      intro p hp
      repeat (first | exact hp | refine List.Mem.tail _ ?_)
end
end Mine
namespace Mine
/-- the cuts taken, up to one -/
noncomputable def cutsTo (R x : Str) : Nat → List Int
  | 0 => []
  | i + 1 => if cutOk R x (0 + (i : Int) * 1) = true then cutsTo R x i ++ [0 + (i : Int) * 1] else cutsTo R x i
theorem cuts_ints {R x : Str} {vs vs' : List Value} {i : Nat} {t : Tok} (h : IntsAre vs (cutsTo R x i)) (e : vs' = if cutOk R x (0 + (i : Int) * 1) = true then vs ++ [.int (0 + (i : Int) * 1) t] else vs) : IntsAre vs' (cutsTo R x (i + 1)) := by
  subst e
  rw [cutsTo]
  split
  · exact ksk_snoc h
  · exact h
theorem cuts_len (R x : Str) : ∀ i, (cutsTo R x i).length ≤ i
  | 0 => Nat.le_refl 0
  | i + 1 => by
    have := cuts_len R x i
    rw [cutsTo]
    split
    · rw [List.length_append, List.length_singleton]; (first | lia | omega)
    · (first | lia | omega)
section
variable {w : World} {mean : ExcName → Option Value} {mg mb : Str → Option Value} {s : Shared} {g : Heap} {L' C r : Addr} {m₀ : Str → Option Value} {rest₀ : List (Addr × Obj)} {Q : Flow → Shared → Prop}
  {body : List Stmt} {sk : ScopeKind} {names : List (Str × NameKind)} {ig ic : Bool} {more : List (Str × Const)} {x R : Str} {nn : Nat} {tx tr t₀ u₀ v₀ : Tok} {px : Pos}
  {gd : Option (List Code)} {cn : Str} {cs : Scope} {L a : Addr} {ccd : Value} {cl : List (Str × Addr)} {outer : List Env}
theorem cuts_loop {s0 : Stmt} (e : cutsTurn = s0 :: body) (es' : defScope 25 = Scope.mk sk names ig ic more) (X : (hd.heap_1 w.params).In g) (TT : Top hd.view_1 (looseW hd.view_1 [Str.ofString "IPV4_RE"]) mean mg mb g)
    (hx : LenLe x 10) (hR : LenLe R 50) (hr : IsRange s.heap r 0 7 1 t₀ u₀ v₀) (hoff : ∀ p ∈ rest₀, p.1 ≠ C)
    (F : Fr g L' s.heap m₀) (hc : m₀ (Str.ofString "cuts") = some (.ref C)) (hrw : m₀ (Str.ofString "rows") = some (.str R tr)) (htx : m₀ (Str.ofString "text") = some (.str x tx)) (N : News g L' s.heap ((C, listOf ([] : List Value).toArray nn) :: rest₀))
    (done : ∀ m₁ h tk vs nn', m₁ (Str.ofString "cuts") = some (.ref C) → IntsAre vs (cutsTo R x 7) → Fr g L' h m₁ → News g L' h [(C, listOf vs.toArray nn')] → Q .next { s with heap := h, toks := tk }) :
    wpAny (model PySem.Challenge.rw_xj0016_01.row.prog w) ((ktrTop 302 7 gd cn cs L a ccd cl outer).deeper (envD sk names ig ic more L')) (pyIter (.ref r))
      (fun it s₂ => JAt PySem.Challenge.rw_xj0016_01.row.prog w ((ktrTop 302 7 gd cn cs L a ccd cl outer).deeper (envD sk names ig ic more L')) g (envD sk names ig ic more L') (.Name (Str.ofString "cut") px) (s0 :: body) Q (fun _ _ => False) it s₂) (fun _ _ => False) s := by
  have hkind : sk = .function := by injection es' with f0; exact f0.symm
  have hloc : ∀ x, names.lookup x = some .local → (envD sk names ig ic more L').kindOf x = some .local := fun x h => h
  have hst : names.lookup (Str.ofString "cut") = some .local := by
    injection es' with f0 f1; subst f1; decide +kernel
  have hI1 : C < s.heap.objs.size := Heap.lt_size (N _ (.head _)).1
  refine iter_range_J (n := 7) rfl hr (by decide) (by decide) F N (fun i m₁ news₁ => ∃ vs nn rest, news₁ = (C, listOf vs.toArray nn) :: rest ∧ IntsAre vs (cutsTo R x i) ∧ (∀ p ∈ rest, p.1 ≠ C) ∧ m₁ (Str.ofString "cuts") = some (.ref C) ∧ m₁ (Str.ofString "rows") = some (.str R tr) ∧ m₁ (Str.ofString "text") = some (.str x tx)) ?_ ?_ ?_
  · exact ⟨[], nn, rest₀, rfl, .nil, hoff, hc, hrw, htx⟩
  · rintro i t m₁ _ h tk own hi' ho ⟨io, hio⟩ hw ⟨vs, nn', rest, rfl, hI, hoff', h1, h2, h3⟩ F₁ N₁
    refine assign_Name (storeX_L F₁ N₁ (fun h' F₂ N₂ => ?_) hkind (hloc _ hst))
    have hps : ∀ p ∈ [(Str.ofString "cuts", Value.ref C), (Str.ofString "rows", .str R tr), (Str.ofString "text", .str x tx), (Str.ofString "cut", .int (0 + (i : Int) * 1) t)], (fun y => if y = Str.ofString "cut" then some (Value.int (0 + (i : Int) * 1) t) else m₁ y) p.1 = some p.2 := by
      refine List.forall_mem_cons.mpr ⟨?_, List.forall_mem_cons.mpr ⟨?_, List.forall_mem_cons.mpr ⟨?_, List.forall_mem_cons.mpr ⟨?_, List.forall_mem_nil _⟩⟩⟩⟩
      · dsimp only; rw [if_neg (by decide +kernel)]; exact h1
      · dsimp only; rw [if_neg (by decide +kernel)]; exact h2
      · dsimp only; rw [if_neg (by decide +kernel)]; exact h3
      · dsimp only; rw [if_pos rfl]
    have hsz : vs.toArray.size ≤ sizeLine := by
      have h4 := cuts_len R x i
      have h5 := hI.length
      rw [List.size_toArray, sizeLine_eq, h5]
      (first | lia | omega)
    refine cuts_turn (news := rest ++ own) e es' X TT hx hR (by (first | lia | omega)) (by (first | lia | omega)) hsz ?_ (fr_kst _ F₂ hps) (kst_newsOf N₂ (l' := (C, listOf vs.toArray nn') :: (rest ++ own)) ?_) ?_
    · intro p hp
      rcases List.mem_append.mp hp with q | q
      · exact hoff' p q
      · rw [ho p q]; exact Nat.ne_of_gt hI1
    · intro p hp
      rcases List.mem_cons.mp hp with rfl | hp
      · exact List.mem_append.mpr (.inr (.head _))
      rcases List.mem_append.mp hp with q | q
      · exact List.mem_append.mpr (.inr (.tail _ q))
      · exact List.mem_append.mpr (.inl q)
    · rintro h2' tk2 m2 vs' nn2 hv' hz2 F3 N3
      refine ⟨h2', tk2, m2, (C, listOf vs'.toArray nn2) :: rest, rfl, F3, kst_newsOf N3 ?_, ?_, vs', nn2, rest, rfl, cuts_ints hI hv', hoff', ?_, ?_, ?_⟩
      · intro p hp
        rcases List.mem_append.mp hp with q | q
        · exact .tail _ (List.mem_append.mpr (.inr q))
        rcases List.mem_cons.mp q with rfl | q
        · exact .head _
        · exact .tail _ (List.mem_append.mpr (.inl q))
      · intro p hp hI'
        have hI'' := List.mem_singleton.mp hI'
        rcases List.mem_cons.mp hp with rfl | hp
        · exact absurd hI'' (Nat.ne_of_lt hI1)
        · exact hw p (.tail _ hp) hI''
      · rw [hz2 _ (by decide +kernel) (by decide +kernel)]; rfl
      · rw [hz2 _ (by decide +kernel) (by decide +kernel)]; rfl
      · rw [hz2 _ (by decide +kernel) (by decide +kernel)]; rfl
  · rintro m₁ _ h tk ⟨vs, nn', rest, rfl, hI, -, h1, -, -⟩ F₁ N₁
    refine done m₁ h tk vs nn' h1 hI F₁ (kst_newsOf N₁ ?_)
    intro p hp
    rw [List.mem_singleton.mp hp]
    exact .head _
end
end Mine
namespace Mine
noncomputable def dotsRest : List Stmt := (defBody 25).drop 13
noncomputable def nlJ (y : Str) : Str := Txt.join (Str.ofString "\n") (PyProof.Rows.signs y)
/-- the deck, a card a row -/
noncomputable def rowsT (y : Str) : Str := Str.ofString "[" ++ nlJ y ++ Str.ofString "]"
theorem nlJ_len {y : Str} (h : LenLe y 10) : LenLe (nlJ y) 20 := by
  have h1 := StrLaws.join_length_le (Str.ofString "\n") (PyProof.Rows.signs y)
  have e : nlJ y = Str.join (Str.ofString "\n") (PyProof.Rows.signs y) := StrLaws.glued_eq_join _ _
  have h2 := h.le
  refine ⟨?_⟩
  rw [e]
  rw [signs_sum, signs_len, show (Str.ofString "\n").length = 1 from by decide +kernel] at h1
  (first | lia | omega)
theorem rowsT_len {y : Str} (h : LenLe y 10) : LenLe (rowsT y) 50 := by
  have h1 := (nlJ_len h).le
  have e1 := b1_len.le
  have e2 := b2_len.le
  refine ⟨?_⟩
  unfold rowsT
  rw [Str.length_append, Str.length_append]
  (first | lia | omega)
section
variable {prog : Program} {w : World} {A : Around} {E : Value → Shared → Prop} {s : Shared} {L : Addr} {h₀ : Heap} {m : Str → Option Value} {news : List (Addr × Obj)} {y : Str} {t u : Tok}
theorem nl_join {Q : Value → Shared → Prop} (hh : A.handled = none) (F : Fr h₀ L s.heap m) (N : News h₀ L s.heap news) (hy : LenLe y 10)
    (h : ∀ h' k t', LenLe (nlJ y) 20 → Fr h₀ L h' m → News h₀ L h' news → Q (.str (nlJ y) t') { s with heap := h', toks := k }) :
    wpAny (model prog w) A (call (.builtin "str.join") [.str (Str.ofString "\n") t, .str y u]) Q E s :=
  SC.joinStr hh (by
    have := hy.le
    unfold JoinOk
    rw [StrLaws.joinTotal, signs_sum, signs_len, show (Str.ofString "\n").length = 1 from by decide +kernel]
    unfold Builtin.Str.tooLong
    rw [sizeLine_eq]
    simp; (first | lia | omega)) fun h' k t' st => h h' k t' (nlJ_len hy) (fr_stay F st) (news_stay N st)
end
section
variable {w : World} {mean : ExcName → Option Value} {mg mb : Str → Option Value} {s : Shared} {g : Heap} {L' : Addr} {m : Str → Option Value} {Q : Flow → Shared → Prop}
  {tail : List Stmt} {sk : ScopeKind} {names : List (Str × NameKind)} {ig ic : Bool} {more : List (Str × Const)} {x : Str} {tx : Tok}
  {gd : Option (List Code)} {cn : Str} {cs : Scope} {L a : Addr} {ccd : Value} {cl : List (Str × Addr)} {outer : List Env}
set_option maxHeartbeats 1000000 in
theorem dots_tail {s0 : Stmt} (e : dotsRest = s0 :: tail) (es' : defScope 25 = Scope.mk sk names ig ic more) (X : (hd.heap_1 w.params).In g) (TT : Top hd.view_1 (looseW hd.view_1 [Str.ofString "IPV4_RE"]) mean mg mb g)
    (hx : LenLe x 10) (F : Fr g L' s.heap (kstB m [(Str.ofString "text", .str x tx)])) (N : News g L' s.heap [])
    (hQ : ∀ h' tk' m' C vs nn', IntsAre vs (cutsTo (rowsT x) x 7) → Fr g L' h' m' → News g L' h' [(C, listOf vs.toArray nn')] → Q (.ret (.ref C)) { s with heap := h', toks := tk' }) :
    wpAny (model PySem.Challenge.rw_xj0016_01.row.prog w) ((ktrTop 302 7 gd cn cs L a ccd cl outer).deeper (envD sk names ig ic more L')) (execs (s0 :: tail) (envD sk names ig ic more L')) Q (fun _ _ => False) s := by
  w_top off
  k_with_none
  k_with "own call builtin:str.join" => ((k_here; (with_reducible show wpAny _ _ (call (Value.builtin "str.join") [Value.str _ _, Value.str _ _]) _ _ _); k_dflt (refine' nl_join (by rfl) (by k_asm) (by k_asm) (by with_reducible assumption) ?_); intro h9 k9 t9 hl9 F9 N9; (try k_sweep)))
  k_with "own m_b" => (first | with_reducible assumption | with_reducible exact d3_len | with_reducible exact b1_len | with_reducible exact b2_len)
  k_with "own binaryOp Add str str" => ((k_here; (with_reducible show wpAny _ _ (binaryOp Operator.Add (Value.str _ _) (Value.str _ _)) _ _ _); (refine' addH (by walk_at "m_b") (by walk_at "m_b") (by decide) ?_); intro _ _ _))
  k_with "own last binaryOp Add str str" => ((k_here; (with_reducible show wpAny _ _ (binaryOp Operator.Add (Value.str _ _) (Value.str _ _)) _ _ _); (refine' addH (by walk_at "m_b") (by walk_at "m_b") (by decide) ?_); intro _ _ _))
  k_with "own exec For Name Call cons nil" => ((k_dflt (show SizesGoal _)))
  k_with "own k_ne" => (refine neN ?_; (try dsimp only); first | exact Nat.ne_of_gt (by with_reducible assumption) | exact Nat.ne_of_lt (by with_reducible assumption) | exact Nat.ne_of_gt (And.left (by with_reducible assumption)) | exact Nat.ne_of_lt (And.left (by with_reducible assumption)) | exact Nat.ne_of_gt (And.right (by with_reducible assumption)) | exact Nat.ne_of_lt (And.right (by with_reducible assumption)) | exact Nat.ne_of_gt (And.left (And.right (by with_reducible assumption))) | exact Nat.ne_of_lt (And.left (And.right (by with_reducible assumption))) | exact Nat.ne_of_gt (And.right (And.right (by with_reducible assumption))) | exact Nat.ne_of_lt (And.right (And.right (by with_reducible assumption))) | exact Nat.ne_of_gt (And.left (And.right (And.right (by with_reducible assumption)))) | exact Nat.ne_of_lt (And.left (And.right (And.right (by with_reducible assumption)))) | exact Nat.ne_of_gt (And.right (And.right (And.right (by with_reducible assumption)))) | exact Nat.ne_of_lt (And.right (And.right (And.right (by with_reducible assumption)))) | exact Nat.ne_of_gt (And.left (And.right (And.right (And.right (by with_reducible assumption))))) | exact Nat.ne_of_lt (And.left (And.right (And.right (And.right (by with_reducible assumption))))) | exact Nat.ne_of_gt (And.right (And.right (And.right (And.right (by with_reducible assumption))))) | exact Nat.ne_of_lt (And.right (And.right (And.right (And.right (by with_reducible assumption))))) | exact Nat.ne_of_gt (And.left (And.right (And.right (And.right (And.right (by with_reducible assumption)))))) | exact Nat.ne_of_lt (And.left (And.right (And.right (And.right (And.right (by with_reducible assumption)))))) | exact Nat.ne_of_gt (And.right (And.right (And.right (And.right (And.right (by with_reducible assumption)))))) | exact Nat.ne_of_lt (And.right (And.right (And.right (And.right (And.right (by with_reducible assumption)))))) | exact Nat.ne_of_gt (And.left (And.right (And.right (And.right (And.right (And.right (by with_reducible assumption))))))) | exact Nat.ne_of_lt (And.left (And.right (And.right (And.right (And.right (And.right (by with_reducible assumption))))))) | exact Nat.ne_of_gt (And.right (And.right (And.right (And.right (And.right (And.right (by with_reducible assumption))))))) | exact Nat.ne_of_lt (And.right (And.right (And.right (And.right (And.right (And.right (by with_reducible assumption))))))) | exact Nat.ne_of_gt (And.left (And.right (And.right (And.right (And.right (And.right (And.right (by with_reducible assumption)))))))) | exact Nat.ne_of_lt (And.left (And.right (And.right (And.right (And.right (And.right (And.right (by with_reducible assumption)))))))) | exact Nat.ne_of_gt (And.right (And.right (And.right (And.right (And.right (And.right (And.right (by with_reducible assumption)))))))) | exact Nat.ne_of_lt (And.right (And.right (And.right (And.right (And.right (And.right (And.right (by with_reducible assumption)))))))) | exact Nat.ne_of_gt (And.left (And.right (And.right (And.right (And.right (And.right (And.right (And.right (by with_reducible assumption))))))))) | exact Nat.ne_of_lt (And.left (And.right (And.right (And.right (And.right (And.right (And.right (And.right (by with_reducible assumption))))))))) | exact Nat.ne_of_gt (And.right (And.right (And.right (And.right (And.right (And.right (And.right (And.right (by with_reducible assumption))))))))) | exact Nat.ne_of_lt (And.right (And.right (And.right (And.right (And.right (And.right (And.right (And.right (by with_reducible assumption))))))))) | exact Nat.ne_of_gt (And.left (And.right (And.right (And.right (And.right (And.right (And.right (And.right (And.right (by with_reducible assumption)))))))))) | exact Nat.ne_of_lt (And.left (And.right (And.right (And.right (And.right (And.right (And.right (And.right (And.right (by with_reducible assumption)))))))))) | exact Nat.ne_of_gt (And.right (And.right (And.right (And.right (And.right (And.right (And.right (And.right (And.right (by with_reducible assumption)))))))))) | exact Nat.ne_of_lt (And.right (And.right (And.right (And.right (And.right (And.right (And.right (And.right (And.right (by with_reducible assumption)))))))))) | exact Nat.ne_of_gt (And.left (And.right (And.right (And.right (And.right (And.right (And.right (And.right (And.right (And.right (by with_reducible assumption))))))))))) | exact Nat.ne_of_lt (And.left (And.right (And.right (And.right (And.right (And.right (And.right (And.right (And.right (And.right (by with_reducible assumption))))))))))) | exact Nat.ne_of_gt (And.right (And.right (And.right (And.right (And.right (And.right (And.right (And.right (And.right (And.right (by with_reducible assumption))))))))))) | exact Nat.ne_of_lt (And.right (And.right (And.right (And.right (And.right (And.right (And.right (And.right (And.right (And.right (by with_reducible assumption))))))))))) | exact Nat.ne_of_gt (And.left (And.right (And.right (And.right (And.right (And.right (And.right (And.right (And.right (And.right (And.right (by with_reducible assumption)))))))))))) | exact Nat.ne_of_lt (And.left (And.right (And.right (And.right (And.right (And.right (And.right (And.right (And.right (And.right (And.right (by with_reducible assumption)))))))))))) | exact Nat.ne_of_gt (And.right (And.right (And.right (And.right (And.right (And.right (And.right (And.right (And.right (And.right (And.right (by with_reducible assumption)))))))))))) | exact Nat.ne_of_lt (And.right (And.right (And.right (And.right (And.right (And.right (And.right (And.right (And.right (And.right (And.right (by with_reducible assumption)))))))))))) | exact Nat.ne_of_gt (And.left (And.right (And.right (And.right (And.right (And.right (And.right (And.right (And.right (And.right (And.right (And.right (by with_reducible assumption))))))))))))) | exact Nat.ne_of_lt (And.left (And.right (And.right (And.right (And.right (And.right (And.right (And.right (And.right (And.right (And.right (And.right (by with_reducible assumption))))))))))))) | exact Nat.ne_of_gt (And.right (And.right (And.right (And.right (And.right (And.right (And.right (And.right (And.right (And.right (And.right (And.right (by with_reducible assumption))))))))))))) | exact Nat.ne_of_lt (And.right (And.right (And.right (And.right (And.right (And.right (And.right (And.right (And.right (And.right (And.right (And.right (by with_reducible assumption))))))))))))) | exact Nat.ne_of_gt (And.left (And.right (And.right (And.right (And.right (And.right (And.right (And.right (And.right (And.right (And.right (And.right (And.right (by with_reducible assumption)))))))))))))) | exact Nat.ne_of_lt (And.left (And.right (And.right (And.right (And.right (And.right (And.right (And.right (And.right (And.right (And.right (And.right (And.right (by with_reducible assumption)))))))))))))) | exact Nat.ne_of_gt (And.right (And.right (And.right (And.right (And.right (And.right (And.right (And.right (And.right (And.right (And.right (And.right (And.right (by with_reducible assumption)))))))))))))) | exact Nat.ne_of_lt (And.right (And.right (And.right (And.right (And.right (And.right (And.right (And.right (And.right (And.right (And.right (And.right (And.right (by with_reducible assumption)))))))))))))) | exact Nat.ne_of_gt (And.left (And.right (And.right (And.right (And.right (And.right (And.right (And.right (And.right (And.right (And.right (And.right (And.right (And.right (by with_reducible assumption))))))))))))))) | exact Nat.ne_of_lt (And.left (And.right (And.right (And.right (And.right (And.right (And.right (And.right (And.right (And.right (And.right (And.right (And.right (And.right (by with_reducible assumption))))))))))))))) | omega)
  have es2 := es'
  injection e with e0 e
  subst e0 e
  injection es' with f0 f1 f2 f3 f4
  subst f0 f1 f2 f3 f4
  (try dsimp only [kstB] at F)
  have hM := kstMark
  revert X TT
  k_fill
  intro X TT
  (try k_fold)
  k_steps
  unfold SizesGoal
  (with_unfolding_all refine' For_J (h₀ := g) ?zh ?zs .never)
  case zs => (intro _; with_unfolding_all rfl)
  case zh =>
    k_steps
    rename News _ _ _ _ => kN
    rename Fr _ _ _ _ => kF
    rename IsRange _ _ _ _ _ _ _ _ => kR
    (with_unfolding_all refine' cuts_loop (R := rowsT x) (x := x) (rest₀ := []) ?ye es2 X TT hx ?yr kR (List.forall_mem_nil _) kF ?yc ?yw ?yt kN ?yd)
    case ye => with_unfolding_all rfl
    case yr => exact rowsT_len hx
    case yc => with_unfolding_all rfl
    case yw => with_unfolding_all rfl
    case yt => with_unfolding_all rfl
    case yd =>
      intro m1 h1 tk1 vs nn' hc hI F1 N1
      have hps : ∀ p ∈ [(Str.ofString "cuts", Value.ref _)], m1 p.1 = some p.2 := List.forall_mem_cons.mpr ⟨hc, List.forall_mem_nil _⟩
      have F3 := fr_kst _ F1 hps
      clear F1 hps hc kN kF
      (try dsimp only [kstB] at F3)
      (try dsimp only)
      (try k_fold)
      k_steps
      rename Fr _ _ _ _ => kF; rename News _ _ _ _ => kN
      exact hQ _ _ _ _ vs nn' hI kF (kst_newsOf kN (by intro p hp; exact hp))
end
end Mine
namespace Mine
/-- by_dots' ten asks -/
noncomputable def asksD (T C : Str) (one other place : Int) (same : Bool) : List (Str × Str × Bool) :=
  [(T, C, same), (Txt.slice T none (some one) ++ Str.ofString "..." ++ Txt.slice T (some other) none, T, decide (one ≤ other)),
   (Txt.slice T none (some one) ++ Str.ofString "..." ++ Txt.item T place ++ Str.ofString "..." ++ Txt.slice T (some other) none, T, decide (one ≤ place) && decide (place < other)),
   (Txt.item T place ++ Str.ofString "...", T, place == 0), (Str.ofString "..." ++ Txt.item T place, T, place == 5),
   (Txt.slice T none (some (place + 1)), T, place == 5), (Txt.slice T (some place) none, T, place == 0),
   (dots (Txt.item T place ++ Txt.item T place), T, false),
   (Str.ofString "..." ++ Txt.slice T none (some (place + 1)) ++ Str.ofString "..." ++ Txt.slice T (some place) none ++ Str.ofString "...", T, false),
   (dots (Txt.slice T (some place) none ++ Txt.slice T none (some (place + 1))), T ++ T, true)]
structure AskListD (l : List (Str × Str × Bool)) : Prop where
  all : ∀ x y d, (x, y, d) ∈ l → em x y = d ∧ x.length ≤ 500 ∧ y.length ≤ 500
theorem askd_at {x y : Str} {lst : List (Str × Str × Bool)} {d : Bool} {D : Addr} {o : Obj} {tx ty : Tok} {news : List (Addr × Obj)} (h : AskListD lst) (hm : (D, o) ∈ news) (ho : IsObj o (tupO [(.str x tx : Value), .str y ty, .bool d])) (hq : (x, y, d) ∈ lst) : AskdAt news (.ref D) := by
  obtain ⟨rfl⟩ := ho
  exact ⟨D, x, y, d, tx, ty, rfl, hm, (h.all x y d hq).1, (h.all x y d hq).2.1, (h.all x y d hq).2.2⟩
theorem tx10 {x : Str} {ns : List Int} (h : IsTxt x ns) : LenLe x 10 := ⟨by rw [h.len]; decide⟩
set_option maxHeartbeats 2000000 in
theorem t_bydots (w : World) (l lc : Addr) (ns cs : List Int) (vs us : List Value) (dress : Int) (t : Tok) : Tel w 302 7 170 [.ref l, .ref lc, .int dress t] (fun h => h.IsList l vs.toArray ∧ IntsAre vs ns ∧ h.IsList lc us.toArray ∧ IntsAre us cs ∧ ns.length = 6 ∧ cs.length = 6 ∧ (∀ k ∈ ns, 0 ≤ k ∧ k ≤ 9) ∧ (∀ k ∈ cs, 0 ≤ k ∧ k ≤ 9) ∧ AskListD (asksD (txt ns) (txt cs) (dress.fmod 7) ((dress.fdiv 7).fmod 7) ((dress.fdiv 49).fmod 6) (decide (ns = cs)))) (fun h r h' => MadeInts h r h' (cutsTo (rowsT (txt ns)) (txt ns) 7)) := by
  w_top off
  k_with_none
  k_with "own exec For Tuple Name cons nil" => ((show AsksGoal _))
  k_with "own call ref" => ((k_here; (with_reducible show wpAny _ _ (call (Value.ref 134) _) _ _ _); k_dflt (refine' text_callG (by k_asm) (by k_asm) (by k_asm) (by k_asm) (by (refine Heap.IsList.at ?_ (Fr.keep (by k_asm) _); with_reducible assumption)) (by with_reducible assumption) (by with_reducible assumption) (by with_reducible assumption) ?_; k_whole); intro h9 tk9 t9 x9 hx9 F9 N9; (try k_sweep); (try dsimp only); (try k_fold)))
  k_with "own subscriptTail Name Name str int" => ((k_here; (with_reducible show wpAny _ _ (subscriptTail _ _ (Value.str _ _) (Value.int _ _)) _ _ _); (refine item6 (by with_reducible assumption) (b6 _) ?_)))
  k_with "own m_b" => (first | with_reducible assumption | with_reducible exact d3_len | with_reducible exact sl6 (by assumption) _ _ | with_reducible exact tx6 (by assumption) | with_reducible exact item1 _ _)
  k_with "own binaryOp Add str str" => ((k_here; (with_reducible show wpAny _ _ (binaryOp Operator.Add (Value.str _ _) (Value.str _ _)) _ _ _); (refine' addH (by walk_at "m_b") (by walk_at "m_b") (by decide) ?_); intro _ _ _))
  k_with "own last binaryOp Add str str" => ((k_here; (with_reducible show wpAny _ _ (binaryOp Operator.Add (Value.str _ _) (Value.str _ _)) _ _ _); (refine' addH (by walk_at "m_b") (by walk_at "m_b") (by decide) ?_); intro _ _ _))
  k_with "own call ref" => ((k_here; (with_reducible show wpAny _ _ (call (Value.ref 141) _) _ _ _); k_dflt (refine' dots_callH (by k_asm) (by k_asm) (by k_asm) (by k_asm) (by walk_at "m_b") (by decide) ?_; k_whole); intro h9 tk9 t9 dl9 F9 N9; (try k_sweep); (try dsimp only); (try k_fold)))
  k_with "own getMethod ref" => ((k_here; (with_reducible show wpAny _ _ (getMethod (Value.ref _) (PySem.Str.ofString "append") _) _ _ _); k_dflt (refine' listMethod_K (by k_asm) (by k_mem) PySem.F.slot_list_append PySem.F.type_list_append ?_)))
  k_with "own call builtin:list.append" => ((k_here; (with_reducible show wpAny _ _ (call (Value.builtin _) [Value.ref _, _]) _ _ _); k_dflt (refine' append_K (by k_asm) (by k_asm) (by k_upd) ?_ (by size_fits); k_whole); intro h' F' N'; (try k_sweep)))
  k_with "own subscriptTail Name Slice str ref" => (((with_reducible show wpAny _ _ (subscriptTail _ (Expr.Slice none (some _) none _) _ _) _ _ _); (with_reducible rename Fr _ _ _ _ => F'); (with_reducible rename News _ _ _ _ => N'); (refine slice_strN_ns (hsz := (by exact sz6 (by with_reducible assumption))) (s := ⟨_, _, _, _, _⟩) F' N' ?_); intro _ _ _ _ _))
  k_with "own subscriptTail Name Slice str ref" => (((with_reducible show wpAny _ _ (subscriptTail _ (Expr.Slice (some _) none none _) _ _) _ _ _); (with_reducible rename Fr _ _ _ _ => F'); (with_reducible rename News _ _ _ _ => N'); (refine slice_strN_sn (hsz := (by exact sz6 (by with_reducible assumption))) (s := ⟨_, _, _, _, _⟩) F' N' ?_); intro _ _ _ _ _))
  k_with "own eval BoolOp" => ((k_here; k_dflt (refine' and_two (by (intro Qz hQz; k_steps; exact hQz)) (by (intro Qz hQz; k_steps; exact hQz)) ?_)))
  k_with "own newTuple" => ((k_here; k_dflt (refine' tup_abs (by k_asm) (by k_asm) ?_ (by kmk_size)); intro D' h' o' ho' F' N' l1; (try k_lt l1); (try k_sweep)))
  k_with "own k_ne" => (refine neN ?_; (try dsimp only); first | exact Nat.ne_of_gt (by with_reducible assumption) | exact Nat.ne_of_lt (by with_reducible assumption) | exact Nat.ne_of_gt (And.left (by with_reducible assumption)) | exact Nat.ne_of_lt (And.left (by with_reducible assumption)) | exact Nat.ne_of_gt (And.right (by with_reducible assumption)) | exact Nat.ne_of_lt (And.right (by with_reducible assumption)) | exact Nat.ne_of_gt (And.left (And.right (by with_reducible assumption))) | exact Nat.ne_of_lt (And.left (And.right (by with_reducible assumption))) | exact Nat.ne_of_gt (And.right (And.right (by with_reducible assumption))) | exact Nat.ne_of_lt (And.right (And.right (by with_reducible assumption))) | exact Nat.ne_of_gt (And.left (And.right (And.right (by with_reducible assumption)))) | exact Nat.ne_of_lt (And.left (And.right (And.right (by with_reducible assumption)))) | exact Nat.ne_of_gt (And.right (And.right (And.right (by with_reducible assumption)))) | exact Nat.ne_of_lt (And.right (And.right (And.right (by with_reducible assumption)))) | exact Nat.ne_of_gt (And.left (And.right (And.right (And.right (by with_reducible assumption))))) | exact Nat.ne_of_lt (And.left (And.right (And.right (And.right (by with_reducible assumption))))) | exact Nat.ne_of_gt (And.right (And.right (And.right (And.right (by with_reducible assumption))))) | exact Nat.ne_of_lt (And.right (And.right (And.right (And.right (by with_reducible assumption))))) | exact Nat.ne_of_gt (And.left (And.right (And.right (And.right (And.right (by with_reducible assumption)))))) | exact Nat.ne_of_lt (And.left (And.right (And.right (And.right (And.right (by with_reducible assumption)))))) | exact Nat.ne_of_gt (And.right (And.right (And.right (And.right (And.right (by with_reducible assumption)))))) | exact Nat.ne_of_lt (And.right (And.right (And.right (And.right (And.right (by with_reducible assumption)))))) | exact Nat.ne_of_gt (And.left (And.right (And.right (And.right (And.right (And.right (by with_reducible assumption))))))) | exact Nat.ne_of_lt (And.left (And.right (And.right (And.right (And.right (And.right (by with_reducible assumption))))))) | exact Nat.ne_of_gt (And.right (And.right (And.right (And.right (And.right (And.right (by with_reducible assumption))))))) | exact Nat.ne_of_lt (And.right (And.right (And.right (And.right (And.right (And.right (by with_reducible assumption))))))) | exact Nat.ne_of_gt (And.left (And.right (And.right (And.right (And.right (And.right (And.right (by with_reducible assumption)))))))) | exact Nat.ne_of_lt (And.left (And.right (And.right (And.right (And.right (And.right (And.right (by with_reducible assumption)))))))) | exact Nat.ne_of_gt (And.right (And.right (And.right (And.right (And.right (And.right (And.right (by with_reducible assumption)))))))) | exact Nat.ne_of_lt (And.right (And.right (And.right (And.right (And.right (And.right (And.right (by with_reducible assumption)))))))) | exact Nat.ne_of_gt (And.left (And.right (And.right (And.right (And.right (And.right (And.right (And.right (by with_reducible assumption))))))))) | exact Nat.ne_of_lt (And.left (And.right (And.right (And.right (And.right (And.right (And.right (And.right (by with_reducible assumption))))))))) | exact Nat.ne_of_gt (And.right (And.right (And.right (And.right (And.right (And.right (And.right (And.right (by with_reducible assumption))))))))) | exact Nat.ne_of_lt (And.right (And.right (And.right (And.right (And.right (And.right (And.right (And.right (by with_reducible assumption))))))))) | exact Nat.ne_of_gt (And.left (And.right (And.right (And.right (And.right (And.right (And.right (And.right (And.right (by with_reducible assumption)))))))))) | exact Nat.ne_of_lt (And.left (And.right (And.right (And.right (And.right (And.right (And.right (And.right (And.right (by with_reducible assumption)))))))))) | exact Nat.ne_of_gt (And.right (And.right (And.right (And.right (And.right (And.right (And.right (And.right (And.right (by with_reducible assumption)))))))))) | exact Nat.ne_of_lt (And.right (And.right (And.right (And.right (And.right (And.right (And.right (And.right (And.right (by with_reducible assumption)))))))))) | exact Nat.ne_of_gt (And.left (And.right (And.right (And.right (And.right (And.right (And.right (And.right (And.right (And.right (by with_reducible assumption))))))))))) | exact Nat.ne_of_lt (And.left (And.right (And.right (And.right (And.right (And.right (And.right (And.right (And.right (And.right (by with_reducible assumption))))))))))) | exact Nat.ne_of_gt (And.right (And.right (And.right (And.right (And.right (And.right (And.right (And.right (And.right (And.right (by with_reducible assumption))))))))))) | exact Nat.ne_of_lt (And.right (And.right (And.right (And.right (And.right (And.right (And.right (And.right (And.right (And.right (by with_reducible assumption))))))))))) | exact Nat.ne_of_gt (And.left (And.right (And.right (And.right (And.right (And.right (And.right (And.right (And.right (And.right (And.right (by with_reducible assumption)))))))))))) | exact Nat.ne_of_lt (And.left (And.right (And.right (And.right (And.right (And.right (And.right (And.right (And.right (And.right (And.right (by with_reducible assumption)))))))))))) | exact Nat.ne_of_gt (And.right (And.right (And.right (And.right (And.right (And.right (And.right (And.right (And.right (And.right (And.right (by with_reducible assumption)))))))))))) | exact Nat.ne_of_lt (And.right (And.right (And.right (And.right (And.right (And.right (And.right (And.right (And.right (And.right (And.right (by with_reducible assumption)))))))))))) | exact Nat.ne_of_gt (And.left (And.right (And.right (And.right (And.right (And.right (And.right (And.right (And.right (And.right (And.right (And.right (by with_reducible assumption))))))))))))) | exact Nat.ne_of_lt (And.left (And.right (And.right (And.right (And.right (And.right (And.right (And.right (And.right (And.right (And.right (And.right (by with_reducible assumption))))))))))))) | exact Nat.ne_of_gt (And.right (And.right (And.right (And.right (And.right (And.right (And.right (And.right (And.right (And.right (And.right (And.right (by with_reducible assumption))))))))))))) | exact Nat.ne_of_lt (And.right (And.right (And.right (And.right (And.right (And.right (And.right (And.right (And.right (And.right (And.right (And.right (by with_reducible assumption))))))))))))) | exact Nat.ne_of_gt (And.left (And.right (And.right (And.right (And.right (And.right (And.right (And.right (And.right (And.right (And.right (And.right (And.right (by with_reducible assumption)))))))))))))) | exact Nat.ne_of_lt (And.left (And.right (And.right (And.right (And.right (And.right (And.right (And.right (And.right (And.right (And.right (And.right (And.right (by with_reducible assumption)))))))))))))) | exact Nat.ne_of_gt (And.right (And.right (And.right (And.right (And.right (And.right (And.right (And.right (And.right (And.right (And.right (And.right (And.right (by with_reducible assumption)))))))))))))) | exact Nat.ne_of_lt (And.right (And.right (And.right (And.right (And.right (And.right (And.right (And.right (And.right (And.right (And.right (And.right (And.right (by with_reducible assumption)))))))))))))) | exact Nat.ne_of_gt (And.left (And.right (And.right (And.right (And.right (And.right (And.right (And.right (And.right (And.right (And.right (And.right (And.right (And.right (by with_reducible assumption))))))))))))))) | exact Nat.ne_of_lt (And.left (And.right (And.right (And.right (And.right (And.right (And.right (And.right (And.right (And.right (And.right (And.right (And.right (And.right (by with_reducible assumption))))))))))))))) | omega)
  unfold Tel; k_fill
  intro meanZ9 mgZ9 mbZ9 gdZ9 cnZ9 csZ9 aZ9 ccdZ9 clZ9 outerZ9 h₀Z9 LZ9 mZ9 sZ9 QZ9 EZ9 FZ9 XZ9 TZ9 hpre hret
  refine wpAny_call ?_
  k_dflt (refine' enter0 ?k2 ?k3 ?k5 ?k6 ?k7 ?k8 ?k9 ?kB ?_ ?c2 ?c3 ?c4 ?c5; (case k2 => k_asm); (case k3 => k_asm); (case k5 => k_asm); (case k6 => k_is); (case k7 => k_is); (case k8 => ktr_room); (case k9 => exact BindsTo.of_eq rfl); (case c5 => decide); (case kB => exact locs rfl); (case c2 => exact rfl); (case c3 => exact rfl); (case c4 => exact rfl); k_whole)
  clear XZ9 TZ9
  intro LZ9' hZ9' FZ9' NZ9' XZ9' TZ9'
  (try dsimp only)
  (try k_fold)
  rename Shared => s
  obtain ⟨hl, hi, hlc, hj, hz, hzc, hd, hdc, hask⟩ := hpre
  k_steps
  unfold AsksGoal
  rename Fr _ _ _ _ => kF; rename News _ _ _ _ => kN
  rename IsTxt _ ns => hT; rename IsTxt _ cs => hC
  rw [← hT.eq, ← hC.eq] at hask
  rw [← hT.eq] at hret
  refine wpAny_noRaise ?_
  (with_unfolding_all refine' For_J (h₀ := s.heap) ?zh ?zs .never)
  case zs => (intro _; with_unfolding_all rfl)
  case zh =>
    k_steps
    (rename News _ _ _ _ => kN)
    (with_unfolding_all refine' askd_loop ?ye ?yt ?ys (by k_asm) (by k_asm) ?yl ?ya (by k_asm) kN ?yg ?yq)
    (case ye => with_unfolding_all rfl)
    (case yt => with_unfolding_all rfl)
    (case ys => with_unfolding_all rfl)
    case yl => with_reducible (repeat (first | exact List.mem_cons_self | refine List.mem_cons_of_mem _ ?_))
    case ya =>
      unfold asksD at hask
      repeat (first
        | exact List.forall_mem_nil _
        | (refine List.forall_mem_cons.mpr ⟨?_, ?_⟩
           (with_reducible refine' askd_at hask ?xm ?xo ?xq)
           case xm => with_reducible (repeat (first | exact List.mem_cons_self | refine List.mem_cons_of_mem _ ?_))
           case xo => with_reducible assumption
           case xq => with_reducible (repeat (first | exact List.mem_cons_self | refine List.mem_cons_of_mem _ ?_))))
    case yg => (intro i9 s9 v9 Q9 hi9 hq9; exact letGo_listiter hi9 hq9)
    case yq =>
      intro h2 tk2 m2 hz2 F2 N2
      dsimp only
      refine wpAny_noRaise ?_
      (with_unfolding_all refine' dots_tail (tx := _) ?xe ?xs (by k_asm) (by k_asm) (tx10 hT) ?xF ?xN ?xq)
      case xe => with_unfolding_all rfl
      case xs => with_unfolding_all rfl
      case xF => exact fr_kst _ F2 (List.forall_mem_cons.mpr ⟨(hz2 (Str.ofString "text") (by decide +kernel) (by decide +kernel) (by decide +kernel)).trans (by with_unfolding_all rfl), List.forall_mem_nil _⟩)
      case xN => exact kst_newsOf N2 (List.forall_mem_nil _)
      case xq =>
        intro h3 tk3 m3 C vs3 nn3 hI3 F3 N3
        (show Back _ _ _; unfold Back; dsimp only; refine hret _ _ _ ?_ ?_; (· exact Fr.keep (by k_asm)))
        exact made_of N3 (.head _) hI3
end Mine
namespace Mine
noncomputable def six : List Int := [1, 2, 3, 4, 5, 6]
/-- a deck of the six cards -/
structure Deck (ns : List Int) : Prop where
  perm : ns.Perm six
theorem Deck.len {ns : List Int} (h : Deck ns) : ns.length = 6 := h.perm.length_eq
theorem Deck.cards {ns : List Int} (h : Deck ns) : ∀ c ∈ ns, 1 ≤ c ∧ c ≤ 6 := by
  intro c hc
  have := h.perm.mem_iff.mp hc
  have all : ∀ c ∈ six, 1 ≤ c ∧ c ≤ 6 := by decide
  exact all c this
/-- what the plain law says -/
structure Plain : Prop where
  rif : ∀ (i : Int) (bs : List Bool), bs.length = 6 → Deck (rrun (i.fmod 7) bs).2.2
  chd : ∀ ns i, Deck ns → Deck (chg ns i)
  marks : ∀ (ns : List Int) (dress : Int), Deck ns → MarksOk2 ns (Txt.item (Str.ofString "|!#/") ((dress.fdiv 16384).fmod 4)) dress
  asksN : ∀ ns, Deck ns → AsksOk (hostT 5 ns) (((ns.take (5 : Int).toNat).map fun k => k.fmod 5).getD 0 0) (((ns.take (5 : Int).toNat).map fun k => k.fmod 5).getD 4 0)
  asksB : ∀ (ns cs : List Int) (dress : Int), Deck ns → Deck cs → AskListD (asksD (txt ns) (txt cs) (dress.fmod 7) ((dress.fdiv 7).fmod 7) ((dress.fdiv 49).fmod 6) (decide (ns = cs)))
  names : ∀ ns, Deck ns → leastN ns 4 = leastM ns 7
  letters : ∀ ns, Deck ns → lvlTo ns 5 = (leastM ns 7 == 1)
  cuts : ∀ ns, Deck ns → cutsTo (rowsT (txt ns)) (txt ns) 7 = if leastM ns 7 = 1 then [ns.getD 0 0 - 1, ns.getD 0 0] else []
/-- the size that all four tell -/
structure Least (ns : List Int) (n : Int) : Prop where
  eq : n = leastM ns 7
theorem fr_turn {h₀ h h' : Heap} {L : Addr} {m : Str → Option Value} (F : Fr h₀ L h m) (k : ∀ b o, h.get? b = some o → b ≠ L → h'.get? b = some o) (t : ∀ o, h.get? L = some o → ∃ sl, h'.get? L = some { o with slots := sl }) : Fr h₀ L h' m := by
  have hn := kts_self F
  obtain ⟨oL, es, ep, hL, hd, r1, r2⟩ := F.ns
  obtain ⟨sl, hs⟩ := t _ hL
  refine ⟨⟨_, es, ep, hs, hd, r1, r2⟩, fun b o e => k b o (F.keep b o e) (fun q => ?_), F.above⟩
  rw [q, hn] at e; cases e
theorem news_turn {h₀ h h' : Heap} {L : Addr} {news : List (Addr × Obj)} (N : News h₀ L h news) (k : ∀ b o, h.get? b = some o → b ≠ L → h'.get? b = some o) : News h₀ L h' news :=
  fun p hp => ⟨k _ _ (N p hp).1 (N p hp).2.1, (N p hp).2⟩
/-- a made list of ints on the ledger -/
noncomputable def Lst (l : Addr) (vs : List Value) (n : Nat) : Addr × Obj := (l, listOf vs.toArray n)
section
variable {w : World} {mg mb : Str → Option Value} {s : Shared} {h₀ : Heap} {L l lc : Addr} {m : Str → Option Value} {news : List (Addr × Obj)} {E : Value → Shared → Prop} {t u : Tok} {i least : Int} {n n' : Nat} {ns cs ms : List Int} {vs us : List Value}
  {mean : ExcName → Option Value} {gd : Option (List Code)} {cn : Str} {sc : Scope} {ca : Addr} {ccd : Value} {cl : List (Str × Addr)} {outer : List Env} {Q : Value → Shared → Prop}
theorem islist_of (N : News h₀ L s.heap news) (hm : (l, listOf vs.toArray n) ∈ news) : s.heap.IsList l vs.toArray := ⟨_, (N _ hm).1, rfl, n, rfl⟩
theorem cells_law (F : Fr h₀ L s.heap m) (N : News h₀ L s.heap news) (X : (hd.heap_1 w.params).In h₀) (T : Top hd.view_1 (looseW hd.view_1 [Str.ofString "IPV4_RE"]) mean mg mb h₀)
    (hl : s.heap.IsList l vs.toArray) (hi : IntsAre vs ns) (hz : ns.length ≤ 63) (h : ∀ h' tk' l a b c t1 t2 t3 n, Fr h₀ L h' m → News h₀ L h' ((l, listOf [Value.int a t1, .int b t2, .int c t3].toArray n) :: news) → Q (.ref l) { s with heap := h', toks := tk' }) :
    wpAny (model PySem.Challenge.rw_xj0016_01.row.prog w) (ktrTop 302 7 gd cn sc L ca ccd cl outer) (call (.ref 115) [.ref l]) Q E s :=
  t_cells w l ns vs mean mg mb gd cn sc ca ccd cl outer h₀ L m s Q E F X T ⟨hl, hi, hz⟩ fun r h' tk' st e => by
    obtain ⟨ns', h3, l, vs, n, rfl, h1, h2, hI⟩ := e
    rcases ns' with _ | ⟨a, _ | ⟨b, _ | ⟨c, _ | ⟨d, r⟩⟩⟩⟩ <;> try (simp only [List.length_cons, List.length_nil] at h3; (first | lia | omega))
    have hl := hI.length
    rcases vs with _ | ⟨v1, _ | ⟨v2, _ | ⟨v3, _ | ⟨v4, r⟩⟩⟩⟩ <;> try (simp only [List.length_cons, List.length_nil] at hl; (first | lia | omega))
    obtain ⟨k0, t0, rfl, e0⟩ := hI.at 0 v1 rfl
    obtain ⟨k1, t1, rfl, e1⟩ := hI.at 1 v2 rfl
    obtain ⟨k2, t2, rfl, e2⟩ := hI.at 2 v3 rfl
    exact h h' tk' l _ _ _ _ _ _ n (fr_stay F st) (news_made F (news_stay N st) h1 h2)
theorem riffled_law (P : Plain) (F : Fr h₀ L s.heap m) (N : News h₀ L s.heap news) (X : (hd.heap_1 w.params).In h₀) (T : Top hd.view_1 (looseW hd.view_1 [Str.ofString "IPV4_RE"]) mean mg mb h₀)
    (h : ∀ h' tk' l vs ns n, IntsAre vs ns → Deck ns → Fr h₀ L h' m → News h₀ L h' ((l, listOf vs.toArray n) :: news) → Q (.ref l) { s with heap := h', toks := tk' }) :
    wpAny (model PySem.Challenge.rw_xj0016_01.row.prog w) (ktrTop 302 7 gd cn sc L ca ccd cl outer) (call (.ref 122) [.int i t]) Q E s :=
  t_riffled w i t mean mg mb gd cn sc ca ccd cl outer h₀ L m s Q E F X T trivial fun r h' tk' st e => by
    obtain ⟨bs, h6, l, vs, n, rfl, h1, h2, hI⟩ := e
    exact h h' tk' l vs _ n hI (P.rif i bs h6) (fr_stay F st) (news_made F (news_stay N st) h1 h2)
theorem changed_law (P : Plain) (F : Fr h₀ L s.heap m) (N : News h₀ L s.heap news) (X : (hd.heap_1 w.params).In h₀) (T : Top hd.view_1 (looseW hd.view_1 [Str.ofString "IPV4_RE"]) mean mg mb h₀)
    (hl : (l, listOf vs.toArray n) ∈ news) (hi : IntsAre vs ns) (hD : Deck ns) (h : ∀ h' tk' l vs ns n, IntsAre vs ns → Deck ns → Fr h₀ L h' m → News h₀ L h' ((l, listOf vs.toArray n) :: news) → Q (.ref l) { s with heap := h', toks := tk' }) :
    wpAny (model PySem.Challenge.rw_xj0016_01.row.prog w) (ktrTop 302 7 gd cn sc L ca ccd cl outer) (call (.ref 129) [.ref l, .int i t]) Q E s :=
  t_changed w l ns vs i t mean mg mb gd cn sc ca ccd cl outer h₀ L m s Q E F X T ⟨islist_of N hl, hi, hD.len⟩ fun r h' tk' st e => by
    obtain ⟨l, vs, n, rfl, h1, h2, hI⟩ := e
    exact h h' tk' l vs _ n hI (P.chd ns i hD) (fr_stay F st) (news_made F (news_stay N st) h1 h2)
theorem marks_law (P : Plain) (F : Fr h₀ L s.heap m) (N : News h₀ L s.heap news) (X : (hd.heap_1 w.params).In h₀) (T : Top hd.view_1 (looseW hd.view_1 [Str.ofString "IPV4_RE"]) mean mg mb h₀) (kind : sc.kind = .function)
    (hl : (l, listOf vs.toArray n) ∈ news) (hi : IntsAre vs ns) (hD : Deck ns) (h : ∀ h' tk' least t', Least ns least → Fr h₀ L h' m → News h₀ L h' news → Q (.int least t') { s with heap := h', toks := tk' }) :
    wpAny (model PySem.Challenge.rw_xj0016_01.row.prog w) (ktrTop 302 7 gd cn sc L ca ccd [] []) (call (.ref 153) [.ref l, .int i t]) Q E s :=
  t_marks w l vs ns i t mean mg mb gd cn sc L ca ccd h₀ m s Q E kind F X T ⟨islist_of N hl, hi, hD.len, P.marks ns i hD⟩ fun r h' tk' k1 k2 e => by
    obtain ⟨t', rfl⟩ := e
    exact h h' tk' _ t' ⟨rfl⟩ (fr_turn F k1 k2) (news_turn N k1)
theorem names_law (P : Plain) (F : Fr h₀ L s.heap m) (N : News h₀ L s.heap news) (X : (hd.heap_1 w.params).In h₀) (T : Top hd.view_1 (looseW hd.view_1 [Str.ofString "IPV4_RE"]) mean mg mb h₀)
    (hl : (l, listOf vs.toArray n) ∈ news) (hi : IntsAre vs ns) (hD : Deck ns) (hv : Least ns least) (h : ∀ h' tk' t', Fr h₀ L h' m → News h₀ L h' news → Q (.int least t') { s with heap := h', toks := tk' }) :
    wpAny (model PySem.Challenge.rw_xj0016_01.row.prog w) (ktrTop 302 7 gd cn sc L ca ccd cl outer) (call (.ref 158) [.ref l]) Q E s :=
  t_names w l ns vs mean mg mb gd cn sc ca ccd cl outer h₀ L m s Q E F X T ⟨islist_of N hl, hi, hD.len, P.asksN ns hD⟩ fun r h' tk' st e => by
    obtain ⟨t', rfl⟩ := e
    have := h h' tk' t' (fr_stay F st) (news_stay N st)
    rw [hv.eq, ← P.names ns hD] at this
    exact this
theorem letters_law (P : Plain) (F : Fr h₀ L s.heap m) (N : News h₀ L s.heap news) (X : (hd.heap_1 w.params).In h₀) (T : Top hd.view_1 (looseW hd.view_1 [Str.ofString "IPV4_RE"]) mean mg mb h₀)
    (hl : (l, listOf vs.toArray n) ∈ news) (hi : IntsAre vs ns) (hD : Deck ns) (hv : Least ns least) (h : ∀ h' tk', Fr h₀ L h' m → News h₀ L h' news → Q (.bool (least == 1)) { s with heap := h', toks := tk' }) :
    wpAny (model PySem.Challenge.rw_xj0016_01.row.prog w) (ktrTop 302 7 gd cn sc L ca ccd cl outer) (call (.ref 163) [.ref l]) Q E s :=
  t_letters w l ns vs mean mg mb gd cn sc ca ccd cl outer h₀ L m s Q E F X T ⟨islist_of N hl, hi, hD.len⟩ fun r h' tk' st e => by
    subst e
    have := h h' tk' (fr_stay F st) (news_stay N st)
    rw [hv.eq, ← P.letters ns hD] at this
    exact this
/-- the cuts that are due -/
structure Cuts (ns : List Int) (least : Int) (ms : List Int) : Prop where
  eq : ms = if least = 1 then [ns.getD 0 0 - 1, ns.getD 0 0] else []
theorem dots_law (P : Plain) (F : Fr h₀ L s.heap m) (N : News h₀ L s.heap news) (X : (hd.heap_1 w.params).In h₀) (T : Top hd.view_1 (looseW hd.view_1 [Str.ofString "IPV4_RE"]) mean mg mb h₀)
    (hl : (l, listOf vs.toArray n) ∈ news) (hi : IntsAre vs ns) (hD : Deck ns) (hc : (lc, listOf us.toArray n') ∈ news) (hj : IntsAre us cs) (hC : Deck cs) (hv : Least ns least)
    (h : ∀ h' tk' l ms ws n, IntsAre ws ms → Cuts ns least ms → Fr h₀ L h' m → News h₀ L h' ((l, listOf ws.toArray n) :: news) → Q (.ref l) { s with heap := h', toks := tk' }) :
    wpAny (model PySem.Challenge.rw_xj0016_01.row.prog w) (ktrTop 302 7 gd cn sc L ca ccd cl outer) (call (.ref 170) [.ref l, .ref lc, .int i t]) Q E s :=
  t_bydots w l lc ns cs vs us i t mean mg mb gd cn sc ca ccd cl outer h₀ L m s Q E F X T ⟨islist_of N hl, hi, islist_of N hc, hj, hD.len, hC.len, fun k hk => by have := hD.cards k hk; (first | lia | omega), fun k hk => by have := hC.cards k hk; (first | lia | omega), P.asksB ns cs i hD hC⟩ fun r h' tk' st e => by
    obtain ⟨l, vs, n, rfl, h1, h2, hI⟩ := e
    rw [P.cuts ns hD, ← hv.eq] at hI
    exact h h' tk' l _ vs n hI ⟨rfl⟩ (fr_stay F st) (news_made F (news_stay N st) h1 h2)
end
end Mine
namespace Mine
theorem cuts_yes {ns ms : List Int} {n : Int} (h : Cuts ns n ms) (h1 : n = 1) : ms = [ns.getD (Int.toNat 0) 0 - 1, ns.getD (Int.toNat 0) 0] := by rw [h.eq, if_pos h1]; rfl
theorem cuts_no {ns ms : List Int} {n : Int} (h : Cuts ns n ms) (h1 : n ≠ 1) : ms = [] := by rw [h.eq, if_neg h1]
set_option maxHeartbeats 2000000 in
theorem law_holds (P : Plain) : PySem.Challenge.rw_xj0016_01.Holds := by
  w_top off
  k_with_none
  k_with "own call ref" => ((k_here; (with_reducible show wpAny _ _ (call (Value.ref 115) _) _ _ _); k_dflt (refine' cells_law (by k_asm) (by k_asm) (by k_asm) (by k_asm) (by is_list) (by l_ints) (by first | assumption | omega) ?_; k_whole); intro h9 tk9 l9 a9 b9 c9 ta9 tb9 tc9 n9 F9 N9; (try k_sweep); (try dsimp only); (try k_fold)))
  k_with "own call ref" => ((k_here; (with_reducible show wpAny _ _ (call (Value.ref 122) _) _ _ _); k_dflt (refine' riffled_law (by with_reducible assumption) (by k_asm) (by k_asm) (by k_asm) (by k_asm) ?_; k_whole); intro h9 tk9 l9 vs9 ns9 n9 hi9 hd9 F9 N9; (have hz9 := hd9.len); (try k_sweep); (try dsimp only); (try k_fold)))
  k_with "own call ref" => ((k_here; (with_reducible show wpAny _ _ (call (Value.ref 129) _) _ _ _); k_dflt (refine' changed_law (by with_reducible assumption) (by k_asm) (by k_asm) (by k_asm) (by k_asm) (by k_mem) (by with_reducible assumption) (by with_reducible assumption) ?_; k_whole); intro h9 tk9 l9 vs9 ns9 n9 hi9 hd9 F9 N9; (have hz9 := hd9.len); (try k_sweep); (try dsimp only); (try k_fold)))
  k_with "own call ref" => ((k_here; (with_reducible show wpAny _ _ (call (Value.ref 153) _) _ _ _); k_dflt (refine' marks_law (by with_reducible assumption) (by k_asm) (by k_asm) (by k_asm) (by k_asm) (by rfl) (by k_mem) (by with_reducible assumption) (by with_reducible assumption) ?_; k_whole); intro h9 tk9 least9 t9 hv9 F9 N9; (try k_sweep); (try dsimp only); (try k_fold)))
  k_with "own call ref" => ((k_here; (with_reducible show wpAny _ _ (call (Value.ref 158) _) _ _ _); k_dflt (refine' names_law (by with_reducible assumption) (by k_asm) (by k_asm) (by k_asm) (by k_asm) (by k_mem) (by with_reducible assumption) (by with_reducible assumption) (by with_reducible assumption) ?_; k_whole); intro h9 tk9 t9 F9 N9; (try k_sweep); (try dsimp only); (try k_fold)))
  k_with "own call ref" => ((k_here; (with_reducible show wpAny _ _ (call (Value.ref 163) _) _ _ _); k_dflt (refine' letters_law (by with_reducible assumption) (by k_asm) (by k_asm) (by k_asm) (by k_asm) (by k_mem) (by with_reducible assumption) (by with_reducible assumption) (by with_reducible assumption) ?_; k_whole); intro h9 tk9 F9 N9; (try k_sweep); (try dsimp only); (try k_fold)))
  k_with "own call ref" => ((k_here; (with_reducible show wpAny _ _ (call (Value.ref 170) _) _ _ _); k_dflt (refine' dots_law (by with_reducible assumption) (by k_asm) (by k_asm) (by k_asm) (by k_asm) (by k_mem) (by with_reducible assumption) (by with_reducible assumption) (by k_mem) (by with_reducible assumption) (by with_reducible assumption) (by with_reducible assumption) ?_; k_whole); intro h9 tk9 l9 ms9 ws9 n9 hi9 hq9 F9 N9; (try k_sweep); (try dsimp only); (try k_fold)))
  k_with "own k_ne" => (refine neN ?_; (try dsimp only); first | exact Nat.ne_of_gt (by with_reducible assumption) | exact Nat.ne_of_lt (by with_reducible assumption) | exact Nat.ne_of_gt (And.left (by with_reducible assumption)) | exact Nat.ne_of_lt (And.left (by with_reducible assumption)) | exact Nat.ne_of_gt (And.right (by with_reducible assumption)) | exact Nat.ne_of_lt (And.right (by with_reducible assumption)) | exact Nat.ne_of_gt (And.left (And.right (by with_reducible assumption))) | exact Nat.ne_of_lt (And.left (And.right (by with_reducible assumption))) | exact Nat.ne_of_gt (And.right (And.right (by with_reducible assumption))) | exact Nat.ne_of_lt (And.right (And.right (by with_reducible assumption))) | exact Nat.ne_of_gt (And.left (And.right (And.right (by with_reducible assumption)))) | exact Nat.ne_of_lt (And.left (And.right (And.right (by with_reducible assumption)))) | exact Nat.ne_of_gt (And.right (And.right (And.right (by with_reducible assumption)))) | exact Nat.ne_of_lt (And.right (And.right (And.right (by with_reducible assumption)))) | exact Nat.ne_of_gt (And.left (And.right (And.right (And.right (by with_reducible assumption))))) | exact Nat.ne_of_lt (And.left (And.right (And.right (And.right (by with_reducible assumption))))) | exact Nat.ne_of_gt (And.right (And.right (And.right (And.right (by with_reducible assumption))))) | exact Nat.ne_of_lt (And.right (And.right (And.right (And.right (by with_reducible assumption))))) | exact Nat.ne_of_gt (And.left (And.right (And.right (And.right (And.right (by with_reducible assumption)))))) | exact Nat.ne_of_lt (And.left (And.right (And.right (And.right (And.right (by with_reducible assumption)))))) | exact Nat.ne_of_gt (And.right (And.right (And.right (And.right (And.right (by with_reducible assumption)))))) | exact Nat.ne_of_lt (And.right (And.right (And.right (And.right (And.right (by with_reducible assumption)))))) | exact Nat.ne_of_gt (And.left (And.right (And.right (And.right (And.right (And.right (by with_reducible assumption))))))) | exact Nat.ne_of_lt (And.left (And.right (And.right (And.right (And.right (And.right (by with_reducible assumption))))))) | exact Nat.ne_of_gt (And.right (And.right (And.right (And.right (And.right (And.right (by with_reducible assumption))))))) | exact Nat.ne_of_lt (And.right (And.right (And.right (And.right (And.right (And.right (by with_reducible assumption))))))) | exact Nat.ne_of_gt (And.left (And.right (And.right (And.right (And.right (And.right (And.right (by with_reducible assumption)))))))) | exact Nat.ne_of_lt (And.left (And.right (And.right (And.right (And.right (And.right (And.right (by with_reducible assumption)))))))) | exact Nat.ne_of_gt (And.right (And.right (And.right (And.right (And.right (And.right (And.right (by with_reducible assumption)))))))) | exact Nat.ne_of_lt (And.right (And.right (And.right (And.right (And.right (And.right (And.right (by with_reducible assumption)))))))) | exact Nat.ne_of_gt (And.left (And.right (And.right (And.right (And.right (And.right (And.right (And.right (by with_reducible assumption))))))))) | exact Nat.ne_of_lt (And.left (And.right (And.right (And.right (And.right (And.right (And.right (And.right (by with_reducible assumption))))))))) | exact Nat.ne_of_gt (And.right (And.right (And.right (And.right (And.right (And.right (And.right (And.right (by with_reducible assumption))))))))) | exact Nat.ne_of_lt (And.right (And.right (And.right (And.right (And.right (And.right (And.right (And.right (by with_reducible assumption))))))))) | exact Nat.ne_of_gt (And.left (And.right (And.right (And.right (And.right (And.right (And.right (And.right (And.right (by with_reducible assumption)))))))))) | exact Nat.ne_of_lt (And.left (And.right (And.right (And.right (And.right (And.right (And.right (And.right (And.right (by with_reducible assumption)))))))))) | exact Nat.ne_of_gt (And.right (And.right (And.right (And.right (And.right (And.right (And.right (And.right (And.right (by with_reducible assumption)))))))))) | exact Nat.ne_of_lt (And.right (And.right (And.right (And.right (And.right (And.right (And.right (And.right (And.right (by with_reducible assumption)))))))))) | exact Nat.ne_of_gt (And.left (And.right (And.right (And.right (And.right (And.right (And.right (And.right (And.right (And.right (by with_reducible assumption))))))))))) | exact Nat.ne_of_lt (And.left (And.right (And.right (And.right (And.right (And.right (And.right (And.right (And.right (And.right (by with_reducible assumption))))))))))) | exact Nat.ne_of_gt (And.right (And.right (And.right (And.right (And.right (And.right (And.right (And.right (And.right (And.right (by with_reducible assumption))))))))))) | exact Nat.ne_of_lt (And.right (And.right (And.right (And.right (And.right (And.right (And.right (And.right (And.right (And.right (by with_reducible assumption))))))))))) | exact Nat.ne_of_gt (And.left (And.right (And.right (And.right (And.right (And.right (And.right (And.right (And.right (And.right (And.right (by with_reducible assumption)))))))))))) | exact Nat.ne_of_lt (And.left (And.right (And.right (And.right (And.right (And.right (And.right (And.right (And.right (And.right (And.right (by with_reducible assumption)))))))))))) | exact Nat.ne_of_gt (And.right (And.right (And.right (And.right (And.right (And.right (And.right (And.right (And.right (And.right (And.right (by with_reducible assumption)))))))))))) | exact Nat.ne_of_lt (And.right (And.right (And.right (And.right (And.right (And.right (And.right (And.right (And.right (And.right (And.right (by with_reducible assumption)))))))))))) | exact Nat.ne_of_gt (And.left (And.right (And.right (And.right (And.right (And.right (And.right (And.right (And.right (And.right (And.right (And.right (by with_reducible assumption))))))))))))) | exact Nat.ne_of_lt (And.left (And.right (And.right (And.right (And.right (And.right (And.right (And.right (And.right (And.right (And.right (And.right (by with_reducible assumption))))))))))))) | exact Nat.ne_of_gt (And.right (And.right (And.right (And.right (And.right (And.right (And.right (And.right (And.right (And.right (And.right (And.right (by with_reducible assumption))))))))))))) | exact Nat.ne_of_lt (And.right (And.right (And.right (And.right (And.right (And.right (And.right (And.right (And.right (And.right (And.right (And.right (by with_reducible assumption))))))))))))) | exact Nat.ne_of_gt (And.left (And.right (And.right (And.right (And.right (And.right (And.right (And.right (And.right (And.right (And.right (And.right (And.right (by with_reducible assumption)))))))))))))) | exact Nat.ne_of_lt (And.left (And.right (And.right (And.right (And.right (And.right (And.right (And.right (And.right (And.right (And.right (And.right (And.right (by with_reducible assumption)))))))))))))) | exact Nat.ne_of_gt (And.right (And.right (And.right (And.right (And.right (And.right (And.right (And.right (And.right (And.right (And.right (And.right (And.right (by with_reducible assumption)))))))))))))) | exact Nat.ne_of_lt (And.right (And.right (And.right (And.right (And.right (And.right (And.right (And.right (And.right (And.right (And.right (And.right (And.right (by with_reducible assumption)))))))))))))) | exact Nat.ne_of_gt (And.left (And.right (And.right (And.right (And.right (And.right (And.right (And.right (And.right (And.right (And.right (And.right (And.right (And.right (by with_reducible assumption))))))))))))))) | exact Nat.ne_of_lt (And.left (And.right (And.right (And.right (And.right (And.right (And.right (And.right (And.right (And.right (And.right (And.right (And.right (And.right (by with_reducible assumption))))))))))))))) | omega)
  k_with "own k_qdec" => (decide +kernel)
  refine Mine.hd ?_
  k_go0
  (all_goals try k_fold)
  k_steps
  · rename Cuts _ _ _ => hq
    rename _ = (1 : Int) => h1
    rw [decide_eq_true (cuts_yes hq h1)]
    k_steps
  · rename Cuts _ _ _ => hq
    rename _ ≠ (1 : Int) => h1
    rw [decide_eq_true (cuts_no hq h1)]
    k_steps
end Mine
namespace Mine
/-- a number read before it is handed on -/
noncomputable def forceN (a : Nat) (k : Nat → Bool) : Bool := match a with | 0 => k 0 | n + 1 => k (Nat.succ n)
theorem forceN_eq (a : Nat) (k : Nat → Bool) : forceN a k = k a := by cases a <;> rfl
noncomputable def forceL : List Nat → (List Nat → Bool) → Bool
  | [], k => k []
  | a :: t, k => forceN a fun a' => forceL t fun t' => k (a' :: t')
theorem forceL_eq : ∀ (l : List Nat) (k : List Nat → Bool), forceL l k = k l
  | [], _ => rfl
  | a :: t, k => by rw [forceL, forceN_eq, forceL_eq t]
noncomputable def forceI (a : Int) (k : Int → Bool) : Bool := match a with | .ofNat n => forceN n fun n' => k (.ofNat n') | .negSucc n => k (.negSucc n)
theorem forceI_eq (a : Int) (k : Int → Bool) : forceI a k = k a := by cases a <;> simp [forceI, forceN_eq]
noncomputable def forceZ : List Int → (List Int → Bool) → Bool
  | [], k => k []
  | a :: t, k => forceI a fun a' => forceZ t fun t' => k (a' :: t')
theorem forceZ_eq : ∀ (l : List Int) (k : List Int → Bool), forceZ l k = k l
  | [], _ => rfl
  | a :: t, k => by rw [forceZ, forceI_eq, forceZ_eq t]
/-- for all orders of a list -/
noncomputable def allP : Nat → List Int → (List Int → Bool) → Bool
  | 0, _, p => p []
  | n + 1, l, p => l.all fun a => forceI a fun a => forceZ (l.erase a) fun l' => allP n l' fun t => p (a :: t)
theorem allP_spec : ∀ (n : Nat) (l ns : List Int) (p : List Int → Bool), ns.length = n → allP n l p = true → ns.Perm l → p ns = true
  | 0, l, ns, p, hz, h, hp => by
    rw [List.length_eq_zero_iff.mp hz]; exact h
  | n + 1, l, [], p, hz, h, hp => by simp at hz
  | n + 1, l, a :: t, p, hz, h, hp => by
    obtain ⟨h1, h2⟩ := List.cons_perm_iff_perm_erase.mp hp
    have h3 := List.all_eq_true.mp h a h1
    rw [forceI_eq, forceZ_eq] at h3
    exact allP_spec n (l.erase a) t (fun t => p (a :: t)) (by simpa using hz) h3 h2
theorem deck_all {p : List Int → Bool} (h : allP 6 six p = true) {ns : List Int} (hD : Deck ns) : p ns = true := allP_spec 6 six ns p hD.len h hD.perm
/-- by the first card: six small parts in place of a big one -/
theorem allP_six {p : List Int → Bool} (h1 : allP 5 [2, 3, 4, 5, 6] (fun t => p (1 :: t)) = true) (h2 : allP 5 [1, 3, 4, 5, 6] (fun t => p (2 :: t)) = true) (h3 : allP 5 [1, 2, 4, 5, 6] (fun t => p (3 :: t)) = true)
    (h4 : allP 5 [1, 2, 3, 5, 6] (fun t => p (4 :: t)) = true) (h5 : allP 5 [1, 2, 3, 4, 6] (fun t => p (5 :: t)) = true) (h6 : allP 5 [1, 2, 3, 4, 5] (fun t => p (6 :: t)) = true) : allP 6 six p = true := by
  rw [allP, List.all_eq_true]
  intro a ha
  rw [forceI_eq, forceZ_eq]
  simp only [six, List.mem_cons, List.not_mem_nil, or_false] at ha
  rcases ha with rfl | rfl | rfl | rfl | rfl | rfl
  · exact h1
  · exact h2
  · exact h3
  · exact h4
  · exact h5
  · exact h6
/-- for all beginnings, n long, of the orders of a list with likes in it -/
noncomputable def allQ : Nat → List Int → (List Int → Bool) → Bool
  | 0, _, p => p []
  | n + 1, l, p => forceZ l.eraseDups fun d => d.all fun a => forceI a fun a => forceZ (l.erase a) fun l' => allQ n l' fun t => p (a :: t)
theorem allQ_spec : ∀ (n : Nat) (l t u : List Int) (p : List Int → Bool), t.length = n → allQ n l p = true → (t ++ u).Perm l → p t = true
  | 0, l, t, u, p, hz, h, hp => by
    rw [List.length_eq_zero_iff.mp hz]; exact h
  | n + 1, l, [], u, p, hz, h, hp => by simp at hz
  | n + 1, l, a :: t, u, p, hz, h, hp => by
    obtain ⟨h1, h2⟩ := List.cons_perm_iff_perm_erase.mp hp
    rw [allQ, forceZ_eq] at h
    have h3 := List.all_eq_true.mp h a (List.mem_eraseDups.mpr h1)
    rw [forceI_eq, forceZ_eq] at h3
    exact allQ_spec n (l.erase a) t u (fun t => p (a :: t)) (by simpa using hz) h3 h2
/-- for all parts of a list -/
noncomputable def allS : List Int → (List Int → Bool) → Bool
  | [], p => p []
  | a :: l, p => allS l (fun t => p (a :: t)) && allS l p
theorem allS_spec (q : Int → Bool) : ∀ (l : List Int) (p : List Int → Bool), allS l p = true → p (l.filter q) = true
  | [], _, h => h
  | a :: l, p, h => by
    rw [allS, Bool.and_eq_true] at h
    rw [List.filter_cons]
    split
    · exact allS_spec q l (fun t => p (a :: t)) h.1
    · exact allS_spec q l p h.2
noncomputable def allB : Nat → (List Bool → Bool) → Bool
  | 0, p => p []
  | n + 1, p => allB n (fun t => p (true :: t)) && allB n fun t => p (false :: t)
theorem allB_spec : ∀ (n : Nat) (bs : List Bool) (p : List Bool → Bool), bs.length = n → allB n p = true → p bs = true
  | 0, bs, p, hz, h => by rw [List.length_eq_zero_iff.mp hz]; exact h
  | n + 1, [], p, hz, h => by simp at hz
  | n + 1, b :: t, p, hz, h => by
    rw [allB, Bool.and_eq_true] at h
    cases b with
    | true => exact allB_spec n t (fun t => p (true :: t)) (by simpa using hz) h.1
    | false => exact allB_spec n t (fun t => p (false :: t)) (by simpa using hz) h.2
theorem rif_all : ((List.range 7).all fun c => allB 6 fun bs => (rrun (c : Int) bs).2.2.isPerm six) = true := by decide +kernel
theorem deck_rif (i : Int) (bs : List Bool) (h : bs.length = 6) : Deck (rrun (i.fmod 7) bs).2.2 := by
  have h1 := b7 i
  obtain ⟨c, hc⟩ := Int.eq_ofNat_of_zero_le h1.1
  rw [hc] at h1
  have h2 := List.all_eq_true.mp rif_all c (List.mem_range.mpr (by (first | lia | omega)))
  have h3 := allB_spec 6 bs _ h h2
  rw [hc]
  exact ⟨List.isPerm_iff.mp h3⟩
theorem swap2_perm {ns : List Int} (h : ns.length = 6) (i : Int) : (swap2 ns i).Perm ns := by
  have h1 := b6 i
  have h2 := b6 (i.fdiv 6)
  unfold swap2
  have e1 : (i.fmod 6).toNat < ns.length := by (first | lia | omega)
  have e2 : ((i.fdiv 6).fmod 6).toNat < ns.length := by (first | lia | omega)
  generalize (i.fmod 6).toNat = a at *
  generalize ((i.fdiv 6).fmod 6).toNat = b at *
  rw [show ns.getD b 0 = ns[b] from by simp [List.getD, e2], show ns.getD a 0 = ns[a] from by simp [List.getD, e1]]
  exact List.set_set_perm e1 e2
theorem deck_chg (ns : List Int) (i : Int) (h : Deck ns) : Deck (chg ns i) := by
  have h1 := swap2_perm h.len i
  have h2 := swap2_perm (h1.length_eq.trans h.len) (i.fdiv 36)
  exact ⟨h2.trans (h1.trans h.perm)⟩
end Mine
namespace Mine
noncomputable def digsL : List Nat → Nat
  | [] => 0
  | c :: t => match Sre.isDigit c with | true => digsL t + 1 | false => 0
noncomputable def endL : List Nat → Bool
  | [] => true
  | [c] => Nat.beq c 10
  | _ => false
noncomputable def tailL : List Nat → Bool
  | [] => false
  | c :: t => match Nat.beq c 46 with
    | true => match digsL t with
      | 0 => tailL t
      | d + 1 => match endL (t.drop (d + 1)) with | true => true | false => tailL t
    | false => tailL t
theorem getD_drop {l : List Nat} {p c : Nat} {t : List Nat} (h : l.drop p = c :: t) : l.toArray.getD p 0 = c := by
  have h1 : l[p]? = some c := by
    have := congrArg List.head? h
    rw [List.head?_drop] at this
    simpa using this
  simp [Array.getD, h1]
  have : p < l.length := (List.getElem?_eq_some_iff.mp h1).1
  simp [this]
  exact (List.getElem?_eq_some_iff.mp h1).2
theorem drop_len {l : List Nat} {p c : Nat} {t : List Nat} (h : l.drop p = c :: t) : l.length - p = t.length + 1 ∧ l.drop (p + 1) = t ∧ p < l.length := by
  have h1 := congrArg List.length h
  rw [List.length_drop, List.length_cons] at h1
  refine ⟨h1, ?_, by (first | lia | omega)⟩
  rw [← List.drop_drop, h]; rfl
theorem cp_mk (l : List Nat) : cp (⟨l.toArray⟩ : Str) = l := by simp [cp]
theorem cp_from (x : Str) (i : Nat) (h : i ≤ x.length) : cp (Txt.slice x (some (i : Int)) none) = (cp x).drop i := by
  rw [slice_from_eq (b := (x.length : Int)) (by (first | lia | omega)) (by (first | lia | omega)) rfl]
  rw [cp_mk]
  show ((cp x).drop i).take _ = _
  rw [List.take_of_length_le]
  rw [List.length_drop, ← cp_len]
  (first | lia | omega)
theorem cp_to (x : Str) (j : Nat) (h : j ≤ x.length) : cp (Txt.slice x none (some (j : Int))) = (cp x).take j := by
  have h1 := slice_closes_toL (x := x) (j := (j : Int)) (by (first | lia | omega)) (by (first | lia | omega))
  rw [beq_iff_eq.mp h1, cp_mk]
  show ((cp x).drop 0).take _ = _
  rw [List.drop_zero]
  congr 1
theorem cp_neg (x : Str) (i : Nat) (h : i ≤ x.length) (h0 : 0 < i) : cp (Txt.slice x (some (-(i : Int))) none) = (cp x).drop ((cp x).length - i) := by
  rw [slice_from_neg (by (first | lia | omega)), show max 0 ((x.length : Int) + -(i : Int)) = ((x.length - i : Nat) : Int) from by (first | lia | omega), cp_from _ _ (by (first | lia | omega)), ← cp_len]
theorem sliceF_from (l : List Nat) (i : Nat) (h : i ≤ l.length) : sliceF l (some (i : Int)) none = l.drop i := by
  have h1 := cp_from ⟨l.toArray⟩ i (by rw [cp_len, cp_mk]; exact h)
  rw [slice_F, cp_mk] at h1
  exact h1
theorem digs_L (l : List Nat) : ∀ (n p : Nat), l.length - p = n → digs l.toArray n p = digsL (l.drop p)
  | 0, p, h => by rw [List.drop_of_length_le (by (first | lia | omega))]; rfl
  | n + 1, p, h => by
    cases hd : l.drop p with
    | nil => have := congrArg List.length hd; rw [List.length_drop] at this; simp at this; (first | lia | omega)
    | cons c t =>
      obtain ⟨h1, h2, h3⟩ := drop_len hd
      rw [digs, getD_drop hd, digs_L l n (p + 1) (by (first | lia | omega)), h2, digsL]
      cases Sre.isDigit c <;> simp
theorem digsL_le : ∀ t : List Nat, digsL t ≤ t.length
  | [] => Nat.le_refl 0
  | c :: t => by
    have := digsL_le t
    rw [digsL]
    cases Sre.isDigit c
    · simp
    · simp; (first | lia | omega)
theorem beq_same (a b : Nat) : (a == b) = Nat.beq a b := by
  by_cases h : a = b
  · subst h; rw [Nat.beq_refl]; simp
  · rw [beq_eq_false_iff_ne.mpr h]
    cases r : Nat.beq a b with
    | false => rfl
    | true => exact absurd (Nat.eq_of_beq_eq_true r) h
theorem atEnd_L (l : List Nat) (p : Nat) (h : p ≤ l.length) : atEnd l.toArray p = endL (l.drop p) := by
  unfold atEnd
  rw [List.size_toArray]
  cases hd : l.drop p with
  | nil =>
    have := congrArg List.length hd
    rw [List.length_drop, List.length_nil] at this
    rw [show (p == l.length) = true from by rw [beq_iff_eq]; (first | lia | omega)]
    rfl
  | cons c t =>
    obtain ⟨h1, h2, h3⟩ := drop_len hd
    rw [getD_drop hd, show (p == l.length) = false from by rw [beq_eq_false_iff_ne]; (first | lia | omega), Bool.false_or]
    cases t with
    | nil =>
      rw [show (p + 1 == l.length) = true from by rw [beq_iff_eq]; simp at h1; (first | lia | omega), Bool.true_and, beq_same]
      rfl
    | cons d t =>
      rw [show (p + 1 == l.length) = false from by rw [beq_eq_false_iff_ne]; simp at h1; (first | lia | omega)]
      rfl
theorem tail_L (l : List Nat) : ∀ (k s : Nat), l.length - s ≤ k → tailFrom l.toArray k s = tailL (l.drop s)
  | 0, s, h => by rw [List.drop_of_length_le (by (first | lia | omega))]; rfl
  | k + 1, s, h => by
    cases hd : l.drop s with
    | nil =>
      have := congrArg List.length hd
      rw [List.length_drop, List.length_nil] at this
      rw [tailFrom_out _ _ _ (by rw [List.size_toArray]; (first | lia | omega))]
      rfl
    | cons c t =>
      obtain ⟨h1, h2, h3⟩ := drop_len hd
      rw [tailFrom, tail_L l k (s + 1) (by (first | lia | omega)), h2, tailAt, List.size_toArray, getD_drop hd, digs_L l _ (s + 1) rfl, h2, beq_same, decide_eq_true h3, Bool.true_and, tailL]
      cases Nat.beq c 46 with
      | false => rfl
      | true =>
        dsimp only
        have hle := digsL_le t
        cases hq : digsL t with
        | zero => rfl
        | succ d =>
          rw [atEnd_L l _ (by (first | lia | omega))]
          rw [show l.drop (s + 1 + (d + 1)) = t.drop (d + 1) from by rw [← h2, List.drop_drop]]
          dsimp only
          rw [decide_eq_true (Nat.succ_ne_zero d), Bool.true_and, Bool.true_and]
          cases endL (t.drop (d + 1)) <;> rfl
/-- ipTail, on signs -/
noncomputable def ipTailL (l : List Nat) : Bool := match l with | _ :: _ :: _ => tailL l | _ => false
theorem ipTail_L (l : List Nat) : ipTail l.toArray = ipTailL l := by
  unfold ipTail
  rw [tail_L l _ 0 (by rw [List.size_toArray]; (first | lia | omega)), List.drop_zero, List.size_toArray]
  match l with
  | [] => rfl
  | [_] => rfl
  | _ :: _ :: _ => simp [ipTailL]
noncomputable def lastL : List Nat → Nat
  | [] => 0
  | [c] => c
  | _ :: d :: t => lastL (d :: t)
/-- is_HDN, on signs -/
noncomputable def isHDNL : List Nat → Bool
  | [] => false
  | c :: t => match ipTailL (c :: t) with | true => false | false => match Nat.beq c 46 with | true => false | false => match Nat.beq (lastL (c :: t)) 46 with | true => false | false => true
theorem last_L : ∀ (c : Nat) (t : List Nat), itemF (c :: t) (-1) = lastL (c :: t) := by
  intro c t
  have h1 : seqIndex? (-1) (c :: t).length = some t.length := by
    unfold seqIndex?
    simp
    (first | lia | omega)
  unfold itemF
  rw [h1]
  simp only [Option.bind_some]
  have h2 : ∀ (t : List Nat) (c : Nat), (c :: t)[t.length]? = some (lastL (c :: t)) := by
    intro t
    induction t with
    | nil => intro c; rfl
    | cons d t ih => intro c; exact ih d
  rw [h2]; rfl
theorem first_L (c : Nat) (t : List Nat) : itemF (c :: t) 0 = c := by
  unfold itemF
  have h1 : seqIndex? 0 (c :: t).length = some 0 := by
    unfold seqIndex?
    simp
  rw [h1]; rfl
theorem isHDN_L : ∀ l : List Nat, isHDNF l = isHDNL l
  | [] => by
    unfold isHDNF
    rw [ipTail_L]; rfl
  | c :: t => by
    unfold isHDNF isHDNL
    dsimp only
    rw [ipTail_L, last_L, first_L, beq_same, beq_same]
    rw [show ((c :: t) == []) = false from rfl]
    generalize ipTailL (c :: t) = a1
    generalize Nat.beq c 46 = a2
    generalize Nat.beq (lastL (c :: t)) 46 = a3
    cases a1 <;> cases a2 <;> cases a3 <;> rfl
noncomputable def lowQ (c : Nat) : Nat := match Nat.ble 65 c with | true => (match Nat.ble c 90 with | true => Nat.add c 32 | false => c) | false => c
theorem low_Q (c : Nat) : lowF c = lowQ c := by
  unfold lowF lowQ
  cases h1 : Nat.ble 65 c with
  | false => rw [if_neg]; rintro ⟨h, _⟩; rw [Nat.ble_eq_true_of_le h] at h1; cases h1
  | true =>
    cases h2 : Nat.ble c 90 with
    | false => rw [if_neg]; rintro ⟨_, h⟩; rw [Nat.ble_eq_true_of_le h] at h2; cases h2
    | true => rw [if_pos ⟨Nat.le_of_ble_eq_true h1, Nat.le_of_ble_eq_true h2⟩]
theorem map_Q (l : List Nat) : l.map lowF = l.map lowQ := List.map_congr_left fun c _ => low_Q c
theorem pref_len : ∀ {y g : List Nat}, prefF y g = true → y.length ≤ g.length
  | [], _, _ => Nat.zero_le _
  | _ :: _, [], h => by cases h
  | a :: y, b :: g, h => by
    unfold prefF at h
    cases q : Nat.beq a b with
    | true => rw [q] at h; have := pref_len (y := y) (g := g) h; simp; (first | lia | omega)
    | false => rw [q] at h; cases h
/-- a text stands in another -/
noncomputable def occS (y : List Nat) : List Nat → Bool
  | [] => false
  | c :: t => match prefF y (c :: t) with | true => true | false => occS y t
theorem last_S {y : List Nat} (hy : y ≠ []) {hi : Nat} : ∀ (n i : Nat) (st : Option Nat) (g : List Nat), g.length + i = hi → n = g.length + 1 →
    (occS y g = true → ∃ j, i ≤ j ∧ lastF y y.length hi n i st g = some j) ∧ (occS y g = false → lastF y y.length hi n i st g = st)
  | 0, i, st, g, h, hn => by (first | lia | omega)
  | n + 1, i, st, [], h, hn => by
    have h0 : prefF y [] = false := by cases y with | nil => exact absurd rfl hy | cons => rfl
    have hn0 : n = 0 := by simpa using hn
    subst hn0
    refine ⟨fun q => (by cases q), fun _ => ?_⟩
    rw [lastF, h0, Bool.and_false]; rfl
  | n + 1, i, st, c :: t, h, hn => by
    have h1 : t.length + (i + 1) = hi := by simp at h; (first | lia | omega)
    have h2 : n = t.length + 1 := by simpa using hn
    rw [lastF, occS]
    cases hp : prefF y (c :: t) with
    | true =>
      have hl := pref_len hp
      rw [Nat.ble_eq_true_of_le (show i + y.length ≤ hi by simp at hl h; (first | lia | omega))]
      dsimp only [Bool.and_true, List.tail_cons]
      have ih := last_S hy n (i + 1) (some i) t h1 h2
      refine ⟨fun _ => ?_, fun q => (by cases q)⟩
      cases ho : occS y t with
      | true => obtain ⟨j, hj, e⟩ := ih.1 ho; exact ⟨j, by (first | lia | omega), e⟩
      | false => exact ⟨i, Nat.le_refl i, ih.2 ho⟩
    | false =>
      rw [Bool.and_false]
      dsimp only [List.tail_cons]
      have ih := last_S hy n (i + 1) st t h1 h2
      refine ⟨fun q => ?_, ih.2⟩
      obtain ⟨j, hj, e⟩ := ih.1 q; exact ⟨j, by (first | lia | omega), e⟩
/-- domain_match on lowered signs -/
noncomputable def dmatchQ (x y : List Nat) : Bool :=
  match prefF x y && prefF y x with
  | true => true
  | false => match isHDNL x with
    | false => false
    | true => match y with
      | [] => false
      | c :: t => match Nat.beq c 46 with
        | false => false
        | true => match isHDNL t with
          | false => false
          | true => occS (c :: t) x.tail
theorem pref_both {x y : List Nat} : (prefF x y && prefF y x) = true ↔ x = y := by
  constructor
  · intro h
    rw [Bool.and_eq_true] at h
    have h1 := pref_len h.1
    have h2 := pref_len h.2
    have h3 := h.1
    rw [prefF_eq, beq_iff_eq, List.take_of_length_le (by (first | lia | omega))] at h3
    exact h3.symm
  · rintro rfl
    rw [prefF_eq, List.take_length]; simp
theorem rfind_S {y : List Nat} (hy : y ≠ []) : ∀ x : List Nat, (rfindF x y = -1 ∨ rfindF x y = 0) ↔ occS y x.tail = false
  | [] => by
    have h0 : prefF y [] = false := by cases y with | nil => exact absurd rfl hy | cons => rfl
    have e : lastF y y.length ([] : List Nat).length (([] : List Nat).length + 1) 0 none [] = none := by
      show lastF y y.length 0 1 0 none [] = none
      rw [lastF, h0, Bool.and_false]; rfl
    unfold rfindF
    rw [e]
    simp [occS]
  | d :: r => by
    have h1 := fun st => last_S hy (r.length + 1) 1 st r (hi := (d :: r).length) rfl rfl
    unfold rfindF
    rw [show (d :: r).length + 1 = (r.length + 1) + 1 from rfl, lastF]
    rw [List.tail_cons]
    generalize (Nat.ble (0 + y.length) (d :: r).length && prefF y (d :: r)) = b
    cases ho : occS y r with
    | true =>
      obtain ⟨j, hj, e⟩ := (h1 none).1 ho
      obtain ⟨j', hj', e'⟩ := (h1 (some 0)).1 ho
      cases b with
      | false =>
        show (match lastF y y.length (d :: r).length (r.length + 1) 1 none r with | some i => (i : Int) | none => -1) = -1 ∨ (match lastF y y.length (d :: r).length (r.length + 1) 1 none r with | some i => (i : Int) | none => -1) = 0 ↔ _
        rw [e]; simp; (first | lia | omega)
      | true =>
        show (match lastF y y.length (d :: r).length (r.length + 1) 1 (some 0) r with | some i => (i : Int) | none => -1) = -1 ∨ (match lastF y y.length (d :: r).length (r.length + 1) 1 (some 0) r with | some i => (i : Int) | none => -1) = 0 ↔ _
        rw [e']; simp; (first | lia | omega)
    | false =>
      cases b with
      | false =>
        show (match lastF y y.length (d :: r).length (r.length + 1) 1 none r with | some i => (i : Int) | none => -1) = -1 ∨ (match lastF y y.length (d :: r).length (r.length + 1) 1 none r with | some i => (i : Int) | none => -1) = 0 ↔ _
        rw [(h1 none).2 ho]; simp
      | true =>
        show (match lastF y y.length (d :: r).length (r.length + 1) 1 (some 0) r with | some i => (i : Int) | none => -1) = -1 ∨ (match lastF y y.length (d :: r).length (r.length + 1) 1 (some 0) r with | some i => (i : Int) | none => -1) = 0 ↔ _
        rw [(h1 (some 0)).2 ho]; simp
theorem slice1 (c : Nat) (t : List Nat) : sliceF (c :: t) (some 1) none = t := sliceF_from (c :: t) 1 (by simp)
theorem starts_46 (c : Nat) (t : List Nat) : starts (c :: t) [46] = Nat.beq c 46 := by
  unfold starts
  have h : Nat.beq 46 c = Nat.beq c 46 := by
    rw [← beq_same, ← beq_same]; exact Bool.beq_comm
  simp only [prefF, h]
  cases Nat.beq c 46 <;> simp
theorem dmatch_Q : ∀ x y : List Nat, dmatchL x y = dmatchQ x y := by
  intro x y
  unfold dmatchL dmatchQ
  by_cases e : x = y
  · rw [if_pos e, pref_both.mpr e]
  · rw [if_neg e, Bool.eq_false_iff.mpr (fun q => e (pref_both.mp q)), isHDN_L]
    dsimp only
    cases isHDNL x with
    | false => rfl
    | true =>
      rw [if_neg (show ¬ (true = false) by decide)]
      dsimp only
      cases y with
      | nil =>
        have h : starts [] [46] = false := rfl
        rw [h]
        split
        · rfl
        · split <;> simp
      | cons c t =>
        dsimp only
        rw [starts_46, slice1, isHDN_L]
        cases Nat.beq c 46 with
        | false => simp
        | true =>
          dsimp only
          cases isHDNL t with
          | false => simp
          | true =>
            dsimp only
            have key := fun x => rfind_S (y := c :: t) (by simp) x
            cases ho : occS (c :: t) x.tail with
            | false =>
              rcases (key x).mpr ho with h | h
              · rw [if_pos h]
              · simp [h]
            | true =>
              have h := fun q => Bool.false_ne_true (((key x).mp q).symm.trans ho)
              rw [if_neg (fun q => h (.inl q)), if_neg (fun q => h (.inr q)), if_neg (show ¬ (true = false) by decide)]
end Mine
namespace Mine
/-- a text's signs, all of them plain -/
structure Sg (x : Str) (l : List Nat) : Prop where
  eq : cp x = l
  lt : ∀ c ∈ l, c < 128
theorem Sg.app {x y : Str} {l m : List Nat} (h : Sg x l) (h' : Sg y m) : Sg (x ++ y) (l ++ m) :=
  ⟨by rw [cp_app, h.eq, h'.eq], fun c hc => (List.mem_append.mp hc).elim (h.lt c) (h'.lt c)⟩
theorem lowF_lt {c : Nat} (h : c < 128) : lowF c < 128 := by unfold lowF; split <;> (first | lia | omega)
theorem Sg.lower {x : Str} {l : List Nat} (h : Sg x l) : Sg (Txt.lower x) (l.map lowF) :=
  ⟨by rw [lower_F (fun c hc => h.lt c (h.eq ▸ hc)), h.eq], fun c hc => by obtain ⟨d, hd, rfl⟩ := List.mem_map.mp hc; exact lowF_lt (h.lt d hd)⟩
theorem sliceF_mem {x : List Nat} {l u : Option Int} {c : Nat} (h : c ∈ sliceF x l u) : c ∈ x := by
  unfold sliceF at h
  split at h
  · exact h
  · obtain ⟨i, _, hi⟩ := List.mem_filterMap.mp h
    exact List.mem_of_getElem? hi
theorem Sg.slice {x : Str} {l : List Nat} (h : Sg x l) (a b : Option Int) : Sg (Txt.slice x a b) (sliceF l a b) :=
  ⟨by rw [slice_F, h.eq], fun c hc => h.lt c (sliceF_mem hc)⟩
theorem Sg.from1 {x : Str} {l : List Nat} (h : Sg x l) (hl : 4 ≤ l.length) : Sg (Txt.slice x (some 1) none) (l.drop 1) :=
  ⟨by rw [← h.eq]; exact cp_from x 1 (by rw [cp_len, h.eq]; (first | lia | omega)), fun c hc => h.lt c (List.mem_of_mem_drop hc)⟩
theorem Sg.last4 {x : Str} {l : List Nat} (h : Sg x l) (hl : 4 ≤ l.length) : Sg (Txt.slice x (some (-4)) none) (l.drop (l.length - 4)) :=
  ⟨by rw [← h.eq]; exact cp_neg x 4 (by rw [cp_len, h.eq]; (first | lia | omega)) (by decide), fun c hc => h.lt c (List.mem_of_mem_drop hc)⟩
theorem Sg.len {x : Str} {l : List Nat} (h : Sg x l) : x.length = l.length := by rw [cp_len, h.eq]
theorem sg_dot : Sg (Str.ofString ".") [46] := ⟨by decide +kernel, by decide⟩
theorem sg_xdot : Sg (Str.ofString "x.") [120, 46] := ⟨by decide +kernel, by decide⟩
theorem sg_xy : Sg (Str.ofString "xy") [120, 121] := ⟨by decide +kernel, by decide⟩
theorem sg_d7x : Sg (Str.ofString ".7x") [46, 55, 120] := ⟨by decide +kernel, by decide⟩
theorem sg_d7 : Sg (Str.ofString ".7") [46, 55] := ⟨by decide +kernel, by decide⟩
theorem sg_d77 : Sg (Str.ofString ".77") [46, 55, 55] := ⟨by decide +kernel, by decide⟩
theorem nm_all : ((List.range 15).all fun k => cp (nm (k : Int)) == [66 + k]) = true := by decide +kernel
theorem sg_nm {k : Int} (h : 0 ≤ k ∧ k < 15) : Sg (nm k) [66 + k.toNat] := by
  obtain ⟨n, rfl⟩ := Int.eq_ofNat_of_zero_le h.1
  have h1 := List.all_eq_true.mp nm_all n (List.mem_range.mpr (by (first | lia | omega)))
  refine ⟨by simpa using h1, fun c hc => ?_⟩
  rw [List.mem_singleton.mp hc]
  show 66 + n < 128
  (first | lia | omega)
theorem joinF_mem {g : List Nat} {l : List (List Nat)} {c : Nat} (h : c ∈ joinF g l) : c ∈ g ∨ ∃ p ∈ l, c ∈ p := by
  cases l with
  | nil => cases h
  | cons p r =>
    rcases List.mem_append.mp h with h | h
    · exact .inr ⟨p, .head _, h⟩
    · obtain ⟨q, hq, hc⟩ := List.mem_flatten.mp h
      obtain ⟨z, hz, rfl⟩ := List.mem_map.mp hq
      rcases List.mem_append.mp hc with h | h
      · exact .inl h
      · exact .inr ⟨z, .tail _ hz, h⟩
theorem sg_join {ks : List Int} (h : ∀ k ∈ ks, 0 ≤ k ∧ k < 15) : Sg (Txt.join (Str.ofString ".") (ks.map nm)) (joinF [46] (ks.map fun k => [66 + k.toNat])) := by
  refine ⟨?_, ?_⟩
  · rw [cp_join, sg_dot.eq, List.map_map]
    congr 1
    exact List.map_congr_left fun k hk => (sg_nm (h k hk)).eq
  · intro c hc
    rcases joinF_mem hc with h1 | ⟨p, hp, h1⟩
    · exact sg_dot.lt c h1
    · obtain ⟨k, hk, rfl⟩ := List.mem_map.mp hp
      exact (sg_nm (h k hk)).lt c h1
noncomputable def hostR (rs : List Int) : List Nat := [120, 46] ++ joinF [46] (rs.map fun k => [66 + k.toNat])
theorem sg_host {b : Int} {ns : List Int} (hb : 2 ≤ b ∧ b ≤ 5) : Sg (hostT b ns) (hostR ((ns.take b.toNat).map fun k => k.fmod b)) :=
  sg_xdot.app (sg_join fun _ hk => rest_bnd hb hk)
noncomputable def fndR (rs : List Int) (r : Int) : Bool := forceL ((hostR rs).map lowQ) fun x => forceL (([46] ++ [66 + r.toNat]).map lowQ) fun y => dmatchQ x y
theorem Sg.dm {x y : Str} {l m : List Nat} (h : Sg x l) (h' : Sg y m) : dmatch x y = dmatchF l m := by
  rw [dmatch_F (fun c hc => h.lt c (h.eq ▸ hc)) (fun c hc => h'.lt c (h'.eq ▸ hc)), h.eq, h'.eq]
theorem lowF_low (c : Nat) : lowF (lowF c) = lowF c := by unfold lowF; split <;> (try split) <;> (first | lia | omega)
theorem map_low (l : List Nat) : (l.map lowF).map lowF = l.map lowF := by
  rw [List.map_map]; exact List.map_congr_left fun c _ => lowF_low c
theorem fnd_R {b r : Int} {ns : List Int} (hb : 2 ≤ b ∧ b ≤ 5) (hr : 0 ≤ r ∧ r < 15) : fnd b ns r = fndR ((ns.take b.toNat).map fun k => k.fmod b) r := by
  unfold fnd fndR
  rw [(sg_host (ns := ns) hb).lower.dm (sg_dot.app (sg_nm hr)), (sg_host (ns := ns) hb).dm (sg_dot.app (sg_nm hr).lower), forceL_eq, forceL_eq]
  unfold dmatchF
  rw [map_low, ← dmatch_Q, ← map_Q, ← map_Q]
  split
  · rfl
  · rw [List.map_append, map_low, ← List.map_append]
/-- a rest is found where it is one of the rests -/
noncomputable def fndChk (b : Nat) (rs : List Int) : Bool := (List.range b).all fun r => fndR rs (r : Int) == rs.any fun x => x == (r : Int)
noncomputable def mods (b : Int) : List Int := six.map fun k => k.fmod b
theorem fnd2_all : allQ 2 (mods 2) (fndChk 2) = true := by decide +kernel
theorem fnd3_all : allQ 3 (mods 3) (fndChk 3) = true := by decide +kernel
theorem fnd4_all : allQ 4 (mods 4) (fndChk 4) = true := by decide +kernel
theorem fnd5_all : allQ 5 (mods 5) (fndChk 5) = true := by decide +kernel
theorem rests_perm {ns : List Int} (h : Deck ns) (b : Int) (n : Nat) : ((ns.take n).map (fun k => k.fmod b) ++ (ns.drop n).map fun k => k.fmod b).Perm (mods b) := by
  rw [← List.map_append, List.take_append_drop]
  exact h.perm.map _
theorem rests_len {ns : List Int} (h : Deck ns) (b : Int) (n : Nat) (hn : n ≤ 6) : ((ns.take n).map fun k => k.fmod b).length = n := by
  rw [List.length_map, List.length_take, h.len]; (first | lia | omega)
theorem fnd_of {ns : List Int} (h : Deck ns) {b n : Nat} (e : b = n) (hb : 2 ≤ b ∧ b ≤ 5) (hc : allQ n (mods (b : Int)) (fndChk b) = true) (j : Nat) (hj : j < b) :
    fnd (b : Int) ns (j : Int) = ((ns.take b).map fun k => k.fmod (b : Int)).any fun x => x == (j : Int) := by
  subst e
  have h1 := allQ_spec b (mods (b : Int)) _ _ _ (rests_len h b b (by (first | lia | omega))) hc (rests_perm h b b)
  have h2 := List.all_eq_true.mp h1 j (List.mem_range.mpr hj)
  rw [fnd_R (by (first | lia | omega)) (by (first | lia | omega))]
  exact beq_iff_eq.mp h2
theorem fnd_deck {ns : List Int} (h : Deck ns) (b : Nat) (hb : 2 ≤ b ∧ b ≤ 5) (j : Nat) (hj : j < b) :
    fnd (b : Int) ns (j : Int) = ((ns.take b).map fun k => k.fmod (b : Int)).any fun x => x == (j : Int) := by
  have h4 : b = 2 ∨ b = 3 ∨ b = 4 ∨ b = 5 := by (first | lia | omega)
  rcases h4 with rfl | rfl | rfl | rfl
  · exact fnd_of h rfl hb fnd2_all j hj
  · exact fnd_of h rfl hb fnd3_all j hj
  · exact fnd_of h rfl hb fnd4_all j hj
  · exact fnd_of h rfl hb fnd5_all j hj
noncomputable def lowFromM (b : Nat) (rs : List Int) (lv : Int) : Nat → Int
  | 0 => lv
  | j + 1 => match rs.any fun x => x == (j : Int) with | true => lowFromM b rs lv j | false => (b : Int) + 1
theorem low_M {ns : List Int} (h : Deck ns) (b : Nat) (hb : 2 ≤ b ∧ b ≤ 5) (lv : Int) : ∀ j : Nat, j ≤ b → lowFrom (b : Int) ns lv j = lowFromM b ((ns.take b).map fun k => k.fmod (b : Int)) lv j
  | 0, _ => rfl
  | j + 1, hj => by
    rw [lowFrom, lowFromM, low_M h b hb lv j (by (first | lia | omega)), fnd_deck h b hb j (by (first | lia | omega))]
    cases ((ns.take b).map fun k => k.fmod (b : Int)).any fun x => x == (j : Int) <;> simp
noncomputable def leastNF (ns : List Int) : Int := lowFromM 5 ((ns.take 5).map fun k => k.fmod 5) (lowFromM 4 ((ns.take 4).map fun k => k.fmod 4) (lowFromM 3 ((ns.take 3).map fun k => k.fmod 3) (lowFromM 2 ((ns.take 2).map fun k => k.fmod 2) 1 2) 3) 4) 5
theorem least_F {ns : List Int} (h : Deck ns) : leastN ns 4 = leastNF ns := by
  unfold leastNF
  show lowFrom ((5 : Nat) : Int) ns (lowFrom ((4 : Nat) : Int) ns (lowFrom ((3 : Nat) : Int) ns (lowFrom ((2 : Nat) : Int) ns 1 2) 3) 4) 5 = _
  rw [low_M h 2 (by decide) _ _ (by decide), low_M h 3 (by decide) _ _ (by decide), low_M h 4 (by decide) _ _ (by decide), low_M h 5 (by decide) _ _ (by decide)]
  rfl
noncomputable def askF (p : List Nat × List Nat × Bool) : Bool := forceL (p.1.map lowQ) fun x => forceL (p.2.1.map lowQ) fun y => (dmatchQ x y == p.2.2) && (Nat.ble x.length 300 && Nat.ble y.length 300)
noncomputable def asksF (h : List Nat) (a z : List Nat) : List (List Nat × List Nat × Bool) :=
  [(h, h.map lowF, true), (h ++ [46], h.map lowF ++ [46], true), (h ++ [120, 121], h.drop (h.length - 4), true), (h ++ [46, 55, 120], [46] ++ a, true),
   (h ++ [46, 55, 120], [46] ++ z ++ [46, 55], false), (h ++ [46, 55, 55], [46] ++ a, false), (h ++ [46], [46] ++ a, false),
   (h.drop 1, [46] ++ z, false), (h ++ [120, 121], [120, 121], false), (h, [46] ++ h, false), (h, [46] ++ a ++ [46], false),
   ([120, 46] ++ h.drop 1, [46] ++ ([46] ++ a), false), (h, [46], false)]
theorem all_c {α : Type} {f : α → Bool} {p : α} {l : List α} (h : (p :: l).all f = true) : f p = true ∧ l.all f = true := by
  rw [List.all_cons, Bool.and_eq_true] at h; exact h
theorem ask_F {x y : Str} {l m : List Nat} {d : Bool} (h : Sg x l) (h' : Sg y m) (hc : askF (l, m, d) = true) : dmatch x y = d ∧ x.length ≤ 300 ∧ y.length ≤ 300 := by
  unfold askF at hc
  simp only [forceL_eq, List.length_map, Bool.and_eq_true, beq_iff_eq, ← dmatch_Q, ← map_Q] at hc
  rw [h.dm h', h.len, h'.len]
  exact ⟨hc.1, Nat.le_of_ble_eq_true hc.2.1, Nat.le_of_ble_eq_true hc.2.2⟩
theorem asks_F {H : Str} {r0 r4 : Int} {h : List Nat} (hl : 4 ≤ h.length) (hH : Sg H h) (h0 : 0 ≤ r0 ∧ r0 < 15) (h4 : 0 ≤ r4 ∧ r4 < 15) (hc : (asksF h [66 + r0.toNat] [66 + r4.toNat]).all askF = true) : AsksOk H r0 r4 := by
  have key : ∀ p ∈ asksL H r0 r4, dmatch p.1 p.2.1 = p.2.2 ∧ p.1.length ≤ 300 ∧ p.2.1.length ≤ 300 := by
    have a := sg_nm h0
    have z := sg_nm h4
    refine List.forall_mem_cons.mpr ⟨ask_F hH hH.lower (all_c hc).1, ?_⟩
    replace hc := (all_c hc).2
    refine List.forall_mem_cons.mpr ⟨ask_F (hH.app sg_dot) (hH.lower.app sg_dot) (all_c hc).1, ?_⟩
    replace hc := (all_c hc).2
    refine List.forall_mem_cons.mpr ⟨ask_F (hH.app sg_xy) (hH.last4 hl) (all_c hc).1, ?_⟩
    replace hc := (all_c hc).2
    refine List.forall_mem_cons.mpr ⟨ask_F (hH.app sg_d7x) (sg_dot.app a) (all_c hc).1, ?_⟩
    replace hc := (all_c hc).2
    refine List.forall_mem_cons.mpr ⟨ask_F (hH.app sg_d7x) ((sg_dot.app z).app sg_d7) (all_c hc).1, ?_⟩
    replace hc := (all_c hc).2
    refine List.forall_mem_cons.mpr ⟨ask_F (hH.app sg_d77) (sg_dot.app a) (all_c hc).1, ?_⟩
    replace hc := (all_c hc).2
    refine List.forall_mem_cons.mpr ⟨ask_F (hH.app sg_dot) (sg_dot.app a) (all_c hc).1, ?_⟩
    replace hc := (all_c hc).2
    refine List.forall_mem_cons.mpr ⟨ask_F (hH.from1 hl) (sg_dot.app z) (all_c hc).1, ?_⟩
    replace hc := (all_c hc).2
    refine List.forall_mem_cons.mpr ⟨ask_F (hH.app sg_xy) sg_xy (all_c hc).1, ?_⟩
    replace hc := (all_c hc).2
    refine List.forall_mem_cons.mpr ⟨ask_F hH (sg_dot.app hH) (all_c hc).1, ?_⟩
    replace hc := (all_c hc).2
    refine List.forall_mem_cons.mpr ⟨ask_F hH ((sg_dot.app a).app sg_dot) (all_c hc).1, ?_⟩
    replace hc := (all_c hc).2
    refine List.forall_mem_cons.mpr ⟨ask_F (sg_xdot.app (hH.from1 hl)) (sg_dot.app (sg_dot.app a)) (all_c hc).1, ?_⟩
    replace hc := (all_c hc).2
    exact List.forall_mem_cons.mpr ⟨ask_F hH sg_dot (all_c hc).1, List.forall_mem_nil _⟩
  exact ⟨fun x y d hm => key (x, y, d) hm⟩
noncomputable def asksChk (rs : List Int) : Bool := forceL (hostR rs) fun h => forceL [66 + (rs.getD 0 0).toNat] fun a => forceL [66 + (rs.getD 4 0).toNat] fun z => Nat.ble 4 h.length && (asksF h a z).all askF
theorem asks_all : allQ 5 (mods 5) asksChk = true := by
  rw [allQ, forceZ_eq, List.all_eq_true]
  intro a ha
  rw [forceI_eq, forceZ_eq]
  have h : ((mods 5).eraseDups) = [1, 2, 3, 4, 0] := by decide +kernel
  simp only [h, List.mem_cons, List.not_mem_nil, or_false] at ha
  rcases ha with rfl | rfl | rfl | rfl | rfl <;> decide +kernel
theorem getD_bnd {rs : List Int} (h : ∀ k ∈ rs, 0 ≤ k ∧ k < 15) (i : Nat) : 0 ≤ rs.getD i 0 ∧ rs.getD i 0 < 15 := by
  rw [List.getD_eq_getElem?_getD]
  cases q : rs[i]? with
  | none => decide
  | some k => exact h k (List.mem_of_getElem? q)
theorem deck_asks (ns : List Int) (h : Deck ns) : AsksOk (hostT 5 ns) (((ns.take (5 : Int).toNat).map fun k => k.fmod 5).getD 0 0) (((ns.take (5 : Int).toNat).map fun k => k.fmod 5).getD 4 0) := by
  have h1 := allQ_spec 5 (mods 5) _ _ _ (rests_len h 5 5 (by decide)) asks_all (rests_perm h 5 5)
  have hb := getD_bnd (fun k hk => rest_bnd (b := 5) (ns := ns) (by decide) hk)
  rw [asksChk, forceL_eq, forceL_eq, forceL_eq, Bool.and_eq_true] at h1
  exact asks_F (Nat.le_of_ble_eq_true h1.1) (sg_host (by decide)) (hb 0) (hb 4) h1.2
end Mine
namespace Mine
/-- these signs stand in the text, one behind the other -/
noncomputable def subG : List Nat → List Nat → Bool
  | [], [] => true
  | [], _ :: _ => false
  | d :: g, cs => match cs with | [] => true | c :: r => match Nat.beq c d with | true => subG g r | false => subG g (c :: r)
/-- a sign's first place, counted from i -/
noncomputable def firstI (c : Nat) : List Nat → Nat → Option Nat
  | [], _ => none
  | d :: g, i => match Nat.beq c d with | true => some i | false => firstI c g (i + 1)
theorem first_le {c : Nat} : ∀ (g : List Nat) (i k : Nat), firstI c g i = some k → i ≤ k ∧ k < i + g.length ∧ ∀ cs, subG g (c :: cs) = subG (g.drop (k + 1 - i)) cs
  | [], i, k, h => by cases h
  | d :: g, i, k, h => by
    rw [firstI] at h
    cases hq : Nat.beq c d with
    | true =>
      rw [hq] at h
      injection h with h
      subst h
      refine ⟨Nat.le_refl _, by simp, fun cs => ?_⟩
      rw [subG, hq, show i + 1 - i = 1 from by (first | lia | omega)]; rfl
    | false =>
      rw [hq] at h
      obtain ⟨h1, h2, h3⟩ := first_le g (i + 1) k h
      refine ⟨by (first | lia | omega), by simp; (first | lia | omega), fun cs => ?_⟩
      rw [subG, hq]
      dsimp only
      rw [h3 cs, show k + 1 - i = (k + 1 - (i + 1)) + 1 from by (first | lia | omega), List.drop_succ_cons]
theorem first_none {c : Nat} : ∀ (g : List Nat) (i : Nat), firstI c g i = none → ∀ cs, subG g (c :: cs) = false
  | [], _, _, _ => rfl
  | d :: g, i, h, cs => by
    rw [firstI] at h
    cases hq : Nat.beq c d with
    | true => rw [hq] at h; cases h
    | false =>
      rw [hq] at h
      rw [subG, hq]
      exact first_none g (i + 1) h cs
theorem occ_first (c hi : Nat) : ∀ (n i free : Nat) (g : List Nat), n = hi + 1 - i → i ≤ hi → free ≤ i → hi - i ≤ g.length →
    occF [c] 1 hi 1 n i free 0 g = match firstI c (g.take (hi - i)) i with | some k => [k] | none => []
  | 0, i, free, g, hn, h1, _, _ => by (first | lia | omega)
  | n + 1, i, free, g, hn, h1, h2, h3 => by
    rw [occF, show Nat.ble 1 0 = false from rfl]
    dsimp only
    rw [Nat.ble_eq_true_of_le h2, Bool.true_and]
    cases g with
    | nil =>
      have hi0 : hi = i := by simp at h3; (first | lia | omega)
      subst hi0
      have hn0 : n = 0 := by (first | lia | omega)
      subst hn0
      rw [show prefF [c] [] = false from rfl, Bool.and_false, Nat.sub_self]
      rfl
    | cons d g =>
      rw [List.length_cons] at h3
      by_cases he : i = hi
      · subst he
        have hn0 : n = 0 := by (first | lia | omega)
        subst hn0
        have hb : Nat.ble (i + 1) i = false := by
          cases q : Nat.ble (i + 1) i with
          | false => rfl
          | true => have := Nat.le_of_ble_eq_true q; (first | lia | omega)
        rw [hb, Bool.false_and, Nat.sub_self]
        rfl
      · rw [Nat.ble_eq_true_of_le (show i + 1 ≤ hi by (first | lia | omega)), Bool.true_and, show hi - i = (hi - (i + 1)) + 1 from by (first | lia | omega), List.take_succ_cons, firstI]
        have hp : prefF [c] (d :: g) = Nat.beq c d := by
          rw [prefF]
          cases Nat.beq c d <;> rfl
        rw [hp]
        cases Nat.beq c d with
        | true =>
          dsimp only
          rw [occF_full (show Nat.ble 1 (0 + 1) = true from rfl)]
        | false =>
          dsimp only
          rw [List.tail_cons]
          exact occ_first c hi n (i + 1) free g (by (first | lia | omega)) (by (first | lia | omega)) (by (first | lia | omega)) (by (first | lia | omega))
theorem from_nat (n p : Nat) : fromIndex n (p : Int) = p := by
  unfold fromIndex
  rw [if_neg (by (first | lia | omega))]
  (first | lia | omega)
theorem find4_first {g : List Nat} {c p e : Nat} (h1 : p ≤ e) (h2 : e ≤ g.length) :
    find4F g [c] (p : Int) (e : Int) = match firstI c ((g.take e).drop p) p with | some k => (k : Int) | none => -1 := by
  unfold find4F occL
  rw [from_nat, from_nat, Nat.min_eq_left h2]
  rw [show ([c] : List Nat).length = 1 from rfl, occ_first c e _ p p (g.drop p) rfl h1 (Nat.le_refl p) (by rw [List.length_drop]; (first | lia | omega))]
  rw [List.drop_take]
  cases firstI c (List.take (e - p) (List.drop p g)) p <;> rfl
noncomputable def ones (cs : List Nat) : List (List Nat) := cs.map fun c => [c]
theorem emGo_sub (g : List Nat) (e : Nat) (h2 : e ≤ g.length) (tl : List (List Nat)) (htl : ∀ p : Nat, p ≤ e → emGoF g (e : Int) tl (p : Int) = true) : ∀ (cs : List Nat) (p : Nat), p ≤ e → emGoF g (e : Int) (ones cs ++ tl) (p : Int) = subG ((g.take e).drop p) cs
  | [], p, h1 => by
    show emGoF g (e : Int) tl (p : Int) = _
    rw [htl p h1]
    cases (g.take e).drop p <;> rfl
  | c :: cs, p, h1 => by
    show (if find4F g [c] (p : Int) (e : Int) < 0 then false else emGoF g (e : Int) (ones cs ++ tl) (find4F g [c] (p : Int) (e : Int) + (([c] : List Nat).length : Int))) = _
    rw [find4_first h1 h2]
    cases hf : firstI c ((g.take e).drop p) p with
    | none =>
      dsimp only
      rw [first_none _ _ hf, if_pos (by decide)]
    | some k =>
      dsimp only
      obtain ⟨h3, h4, h5⟩ := first_le _ _ _ hf
      have h6 : ((g.take e).drop p).length = e - p := by rw [List.length_drop, List.length_take]; (first | lia | omega)
      rw [if_neg (by (first | lia | omega)), h5, List.drop_drop]
      have e1 : ((k : Int) + (([c] : List Nat).length : Int)) = ((k + 1 : Nat) : Int) := by simp
      rw [e1, emGo_sub g e h2 tl htl cs (k + 1) (by (first | lia | omega))]
      congr 2
      (first | lia | omega)
theorem find4_nil {g : List Nat} {p e : Nat} (h1 : p ≤ e) (h2 : e ≤ g.length) : find4F g [] (p : Int) (e : Int) = (p : Int) := by
  unfold find4F occL
  rw [from_nat, from_nat, Nat.min_eq_left h2, show e + 1 - p = (e - p) + 1 from by (first | lia | omega), occF]
  rw [show Nat.ble 1 0 = false from rfl, Nat.ble_eq_true_of_le (Nat.le_refl p), Nat.ble_eq_true_of_le (show p + ([] : List Nat).length ≤ e from h1), show prefF [] (g.drop p) = true from rfl]
  rfl
theorem emGo_nil (g : List Nat) (e : Nat) (h2 : e ≤ g.length) (p : Nat) (h1 : p ≤ e) : emGoF g (e : Int) [[]] (p : Int) = true := by
  show (if find4F g [] (p : Int) (e : Int) < 0 then false else true) = true
  rw [find4_nil h1 h2, if_neg (by (first | lia | omega))]
/-- dots about each sign, nothing at the ends -/
theorem parts_open (g cs : List Nat) : emPartsF g [] (ones cs) [] = subG g cs := by
  have h : emPartsF g [] (ones cs) [] = emGoF g ((g.length : Nat) : Int) ([] :: (ones cs ++ [[]])) ((0 : Nat) : Int) := by
    unfold emPartsF
    rw [if_neg (by simp), if_neg (by simp), if_neg (by simp)]
    simp
  rw [h]
  show (if find4F g [] ((0 : Nat) : Int) ((g.length : Nat) : Int) < 0 then false else emGoF g ((g.length : Nat) : Int) (ones cs ++ [[]]) (find4F g [] ((0 : Nat) : Int) ((g.length : Nat) : Int) + (([] : List Nat).length : Int))) = _
  rw [find4_nil (Nat.zero_le _) (Nat.le_refl _), if_neg (by (first | lia | omega))]
  rw [show (((0 : Nat) : Int) + (([] : List Nat).length : Int)) = ((0 : Nat) : Int) from rfl]
  rw [emGo_sub g g.length (Nat.le_refl _) [[]] (fun p hp => emGo_nil g _ (Nat.le_refl _) p hp) cs 0 (Nat.zero_le _), List.take_length, List.drop_zero]
theorem parts_open0 (g : List Nat) : emPartsF g [] [[]] [] = true := by
  have h : emPartsF g [] [[]] [] = emGoF g ((g.length : Nat) : Int) [[], [], []] ((0 : Nat) : Int) := by
    unfold emPartsF
    rw [if_neg (by simp), if_neg (by simp), if_neg (by simp)]
    simp
  rw [h]
  have e0 : ∀ l, emGoF g ((g.length : Nat) : Int) ([] :: l) ((0 : Nat) : Int) = emGoF g ((g.length : Nat) : Int) l ((0 : Nat) : Int) := by
    intro l
    show (if find4F g [] ((0 : Nat) : Int) ((g.length : Nat) : Int) < 0 then false else emGoF g ((g.length : Nat) : Int) l (find4F g [] ((0 : Nat) : Int) ((g.length : Nat) : Int) + (([] : List Nat).length : Int))) = _
    rw [find4_nil (Nat.zero_le _) (Nat.le_refl _), if_neg (by (first | lia | omega))]
    rfl
  rw [e0, e0, e0]; rfl
/-- between two ends -/
theorem parts_ends (a z : Nat) (g cs : List Nat) : emPartsF (a :: (g ++ [z])) [a] (ones cs) [z] = subG g cs := by
  have hs : starts (a :: (g ++ [z])) [a] = true := by
    unfold starts
    rw [prefF_eq]; simp
  have he : ends (a :: (g ++ [z])) [z] = true := by
    unfold ends
    rw [prefF_eq, show (a :: (g ++ [z])).length - [z].length = (a :: g).length from by simp, show a :: (g ++ [z]) = (a :: g) ++ [z] from rfl, List.drop_left]
    simp
  have h : emPartsF (a :: (g ++ [z])) [a] (ones cs) [z] = emGoF (a :: (g ++ [z])) ((g.length + 1 : Nat) : Int) (ones cs ++ []) ((1 : Nat) : Int) := by
    unfold emPartsF
    rw [if_neg (by rw [hs]; simp), if_neg (by rw [he]; simp), if_neg (by simp; (first | lia | omega))]
    have e1 : (((a :: (g ++ [z])).length : Int) - ([z].length : Int)) = ((g.length + 1 : Nat) : Int) := by simp
    rw [e1]
    simp
  rw [h, emGo_sub _ _ (by simp) [] (fun _ _ => rfl) cs 1 (by (first | lia | omega))]
  congr 1
  rw [show a :: (g ++ [z]) = (a :: g) ++ [z] from rfl, show g.length + 1 = (a :: g).length from rfl, List.take_left]
  rfl
theorem parts_ends0 (a z : Nat) (g : List Nat) : emPartsF (a :: (g ++ [z])) [a] [[]] [z] = true := by
  have hs : starts (a :: (g ++ [z])) [a] = true := by
    unfold starts
    rw [prefF_eq]; simp
  have he : ends (a :: (g ++ [z])) [z] = true := by
    unfold ends
    rw [prefF_eq, show (a :: (g ++ [z])).length - [z].length = (a :: g).length from by simp, show a :: (g ++ [z]) = (a :: g) ++ [z] from rfl, List.drop_left]
    simp
  have h : emPartsF (a :: (g ++ [z])) [a] [[]] [z] = emGoF (a :: (g ++ [z])) ((g.length + 1 : Nat) : Int) [[]] ((1 : Nat) : Int) := by
    unfold emPartsF
    rw [if_neg (by rw [hs]; simp), if_neg (by rw [he]; simp), if_neg (by simp; (first | lia | omega))]
    have e1 : (((a :: (g ++ [z])).length : Int) - ([z].length : Int)) = ((g.length + 1 : Nat) : Int) := by simp
    rw [e1]
    simp
  rw [h, emGo_nil _ _ (by simp) 1 (by (first | lia | omega))]
end Mine
namespace Mine
theorem cp_lb : cp (Str.ofString "[") = [91] := by decide +kernel
theorem cp_rb : cp (Str.ofString "]") = [93] := by decide +kernel
theorem cp_nl : cp (Str.ofString "\n") = [10] := by decide +kernel
/-- a pattern's parts -/
noncomputable def partsF (x : List Nat) : Option (List Nat × List (List Nat) × List Nat) :=
  match occL x [46, 46, 46] 0 x.length 1 with
  | [] => none
  | _ :: _ => match splitF x [46, 46, 46] with
    | a :: r => some (a, r.dropLast, r.getLastD [])
    | [] => none
theorem em_parts {x y a z : List Nat} {mid : List (List Nat)} (h : partsF x = some (a, mid, z)) : emF x y = emPartsF y a mid z := by
  unfold partsF at h
  unfold emF
  cases h1 : occL x [46, 46, 46] 0 x.length 1 with
  | nil => rw [h1] at h; cases h
  | cons b r =>
    rw [h1] at h
    dsimp only at h ⊢
    cases h2 : splitF x [46, 46, 46] with
    | nil => rw [h2] at h; cases h
    | cons c t =>
      rw [h2] at h
      dsimp only at h ⊢
      injection h with h
      injection h with h3 h
      injection h with h4 h5
      subst h3 h4 h5
      rfl
noncomputable def fallF (k : Int) : List Nat := [91] ++ dotsF ((rng k (-1) k.toNat).map dgF) ++ [93]
noncomputable def riseF (k : Int) : List Nat := dotsF ((rng (k + 1) 1 (6 - k).toNat).map dgF)
noncomputable def fallP : Nat → List (List Nat)
  | 0 => [[]]
  | 1 => [[49]]
  | 2 => [[50], [49]]
  | 3 => [[51], [50], [49]]
  | 4 => [[52], [51], [50], [49]]
  | 5 => [[53], [52], [51], [50], [49]]
  | _ => [[54], [53], [52], [51], [50], [49]]
noncomputable def riseP : Nat → List (List Nat)
  | 0 => [[49], [50], [51], [52], [53], [54]]
  | 1 => [[50], [51], [52], [53], [54]]
  | 2 => [[51], [52], [53], [54]]
  | 3 => [[52], [53], [54]]
  | 4 => [[53], [54]]
  | 5 => [[54]]
  | _ => [[]]
theorem parts_all : ((List.range 7).all fun i => decide (partsF (fallF (0 + (i : Int) * 1)) = some ([91], fallP i, [93])) && decide (partsF (riseF (0 + (i : Int) * 1)) = some ([], riseP i, []))) = true := by decide +kernel
theorem cards_all : ((List.range 7).all fun i => (rng (0 + (i : Int) * 1) (-1) (0 + (i : Int) * 1).toNat).all (fun k => decide (0 ≤ k ∧ k ≤ 9)) && (rng (0 + (i : Int) * 1 + 1) 1 (6 - (0 + (i : Int) * 1)).toNat).all fun k => decide (0 ≤ k ∧ k ≤ 9)) = true := by decide +kernel
noncomputable def cutQ (R x : List Nat) (i : Nat) : Bool := match emPartsF R [91] (fallP i) [93] with | true => emPartsF x [] (riseP i) [] | false => false
theorem cut_Q {R x : Str} {i : Nat} (h : i < 7) : cutOk R x (0 + (i : Int) * 1) = cutQ (cp R) (cp x) i := by
  have h1 := List.all_eq_true.mp parts_all i (List.mem_range.mpr h)
  have h2 := List.all_eq_true.mp cards_all i (List.mem_range.mpr h)
  rw [Bool.and_eq_true, decide_eq_true_iff, decide_eq_true_iff] at h1
  rw [Bool.and_eq_true, List.all_eq_true, List.all_eq_true] at h2
  have e1 : cp (fallT (0 + (i : Int) * 1)) = fallF (0 + (i : Int) * 1) := by
    unfold fallT fallF
    rw [cp_app, cp_app, cp_lb, cp_rb, cp_dotsS, cp_txt (fun k hk => by simpa using h2.1 k hk)]
  have e2 : cp (riseT (0 + (i : Int) * 1)) = riseF (0 + (i : Int) * 1) := by
    unfold riseT riseF
    rw [cp_dotsS, cp_txt (fun k hk => by simpa using h2.2 k hk)]
  unfold cutOk cutQ
  rw [em_F, em_F, e1, e2, em_parts h1.1, em_parts h1.2]
  cases emPartsF (cp R) [91] (fallP i) [93] <;> rfl
noncomputable def cutsQ (R x : List Nat) : Nat → List Int
  | 0 => []
  | i + 1 => match cutQ R x i with | true => cutsQ R x i ++ [Int.ofNat i] | false => cutsQ R x i
theorem cuts_Q {R x : Str} : ∀ n : Nat, n ≤ 7 → cutsTo R x n = cutsQ (cp R) (cp x) n
  | 0, _ => rfl
  | i + 1, h => by
    rw [cutsTo, cutsQ, cut_Q (by (first | lia | omega)), cuts_Q i (by (first | lia | omega)), show 0 + (i : Int) * 1 = Int.ofNat i from by simp]
    cases cutQ (cp R) (cp x) i <;> simp
noncomputable def rowsF (x : List Nat) : List Nat := [91] ++ joinF [10] (x.map fun c => [c]) ++ [93]
theorem cp_rows (y : Str) : cp (rowsT y) = rowsF (cp y) := by
  unfold rowsT nlJ rowsF
  rw [cp_app, cp_app, cp_lb, cp_rb, cp_join, cp_nl, cp_signs]
theorem subG_nil : ∀ g : List Nat, subG g [] = true
  | [] => rfl
  | _ :: _ => rfl
noncomputable def fallS : Nat → List Nat
  | 0 => []
  | 1 => [49]
  | 2 => [50, 49]
  | 3 => [51, 50, 49]
  | 4 => [52, 51, 50, 49]
  | 5 => [53, 52, 51, 50, 49]
  | _ => [54, 53, 52, 51, 50, 49]
noncomputable def riseS : Nat → List Nat
  | 0 => [49, 50, 51, 52, 53, 54]
  | 1 => [50, 51, 52, 53, 54]
  | 2 => [51, 52, 53, 54]
  | 3 => [52, 53, 54]
  | 4 => [53, 54]
  | 5 => [54]
  | _ => []
theorem fall_S (g : List Nat) : ∀ i, emPartsF (91 :: (g ++ [93])) [91] (fallP i) [93] = subG g (fallS i)
  | 0 => (parts_ends0 91 93 g).trans (subG_nil g).symm
  | 1 => parts_ends 91 93 g (fallS 1)
  | 2 => parts_ends 91 93 g (fallS 2)
  | 3 => parts_ends 91 93 g (fallS 3)
  | 4 => parts_ends 91 93 g (fallS 4)
  | 5 => parts_ends 91 93 g (fallS 5)
  | _ + 6 => parts_ends 91 93 g (fallS 6)
theorem rise_S (g : List Nat) : ∀ i, emPartsF g [] (riseP i) [] = subG g (riseS i)
  | 0 => parts_open g (riseS 0)
  | 1 => parts_open g (riseS 1)
  | 2 => parts_open g (riseS 2)
  | 3 => parts_open g (riseS 3)
  | 4 => parts_open g (riseS 4)
  | 5 => parts_open g (riseS 5)
  | _ + 6 => (parts_open0 g).trans (subG_nil g).symm
noncomputable def cutsS (g x : List Nat) : Nat → List Int
  | 0 => []
  | i + 1 => match subG g (fallS i) with | true => (match subG x (riseS i) with | true => cutsS g x i ++ [Int.ofNat i] | false => cutsS g x i) | false => cutsS g x i
theorem cuts_S (g x : List Nat) : ∀ n, cutsQ (91 :: (g ++ [93])) x n = cutsS g x n
  | 0 => rfl
  | i + 1 => by
    rw [cutsQ, cutsS, cuts_S g x i, cutQ, fall_S, rise_S]
    cases subG g (fallS i) <;> cases subG x (riseS i) <;> rfl
noncomputable def fourChk (ns : List Int) : Bool := forceI (leastM ns 7) fun m => forceL (ns.map dgF) fun x => forceL (joinF [10] (x.map fun c => [c])) fun g =>
  (leastNF ns == m) && (lvlTo ns 5 == (m == 1)) && forceZ (cutsS g x 7) fun l => l == (if m = 1 then [ns.getD 0 0 - 1, ns.getD 0 0] else [])
theorem four_all : allP 6 six fourChk = true := allP_six (by decide +kernel) (by decide +kernel) (by decide +kernel) (by decide +kernel) (by decide +kernel) (by decide +kernel)
theorem deck_four {ns : List Int} (h : Deck ns) : leastNF ns = leastM ns 7 ∧ lvlTo ns 5 = (leastM ns 7 == 1) ∧ cutsQ (rowsF (ns.map dgF)) (ns.map dgF) 7 = if leastM ns 7 = 1 then [ns.getD 0 0 - 1, ns.getD 0 0] else [] := by
  have h1 := deck_all four_all h
  simp only [fourChk, forceI_eq, forceL_eq, forceZ_eq, Bool.and_eq_true, beq_iff_eq] at h1
  refine ⟨h1.1.1, h1.1.2, ?_⟩
  have h2 := cuts_S (joinF [10] ((ns.map dgF).map fun c => [c])) (ns.map dgF) 7
  exact h2.trans h1.2
theorem deck_names (ns : List Int) (h : Deck ns) : leastN ns 4 = leastM ns 7 := (least_F h).trans (deck_four h).1
theorem deck_letters (ns : List Int) (h : Deck ns) : lvlTo ns 5 = (leastM ns 7 == 1) := (deck_four h).2.1
theorem deck_cuts (ns : List Int) (h : Deck ns) : cutsTo (rowsT (txt ns)) (txt ns) 7 = if leastM ns 7 = 1 then [ns.getD 0 0 - 1, ns.getD 0 0] else [] := by
  rw [cuts_Q 7 (by decide), cp_rows, cp_txt (fun k hk => by have := h.cards k hk; (first | lia | omega))]
  exact (deck_four h).2.2
end Mine
namespace Mine
noncomputable def base : List Nat := [49, 50, 51, 52, 53, 54]
theorem ren_base {ns : List Int} (h : Deck ns) : ns.map dgF = base.map (ren ns) := by
  have hz := h.len
  rcases ns with _ | ⟨a, _ | ⟨b, _ | ⟨c, _ | ⟨d, _ | ⟨e, _ | ⟨g, _ | ⟨i, r⟩⟩⟩⟩⟩⟩⟩ <;> try (simp only [List.length_cons, List.length_nil] at hz; (first | lia | omega))
  rfl
theorem ren_out {ns : List Int} {c : Nat} (h : ¬ (49 ≤ c ∧ c ≤ 54)) : ren ns c = c := by unfold ren; rw [if_neg h]
theorem ren_in {ns : List Int} (hD : Deck ns) {c : Nat} (h : 49 ≤ c ∧ c ≤ 54) : ∃ i, i < 6 ∧ c = 49 + i ∧ ∃ k, ns[i]? = some k ∧ ren ns c = 48 + k.toNat ∧ 1 ≤ k ∧ k ≤ 6 := by
  have hi : c - 49 < ns.length := by rw [hD.len]; (first | lia | omega)
  refine ⟨c - 49, by (first | lia | omega), by (first | lia | omega), ns[c - 49], List.getElem?_eq_getElem hi, ?_, hD.cards _ (List.getElem_mem hi)⟩
  unfold ren dgF
  rw [if_pos h, List.getD_eq_getElem?_getD, List.getElem?_eq_getElem hi]; rfl
theorem ren_inj {ns : List Int} (hD : Deck ns) : ∀ a b, ren ns a = ren ns b → a = b := by
  intro a b e
  have nd : ns.Nodup := hD.perm.nodup_iff.mpr (by decide)
  by_cases ha : 49 ≤ a ∧ a ≤ 54
  · obtain ⟨i, hi, rfl, k, hk, ek, k1, k6⟩ := ren_in hD ha
    by_cases hb : 49 ≤ b ∧ b ≤ 54
    · obtain ⟨j, hj, rfl, l, hl, el, l1, l6⟩ := ren_in hD hb
      rw [ek, el] at e
      have hkl : k = l := by (first | lia | omega)
      subst hkl
      obtain ⟨h1, e1⟩ := List.getElem?_eq_some_iff.mp hk
      obtain ⟨h2, e2⟩ := List.getElem?_eq_some_iff.mp hl
      have := (List.getElem_inj nd).mp (e1.trans e2.symm)
      (first | lia | omega)
    · rw [ek, ren_out hb] at e
      (first | lia | omega)
  · by_cases hb : 49 ≤ b ∧ b ≤ 54
    · obtain ⟨j, hj, rfl, l, hl, el, l1, l6⟩ := ren_in hD hb
      rw [el, ren_out ha] at e
      (first | lia | omega)
    · rw [ren_out ha, ren_out hb] at e
      exact e
theorem ren_46 (ns : List Int) : ren ns 46 = 46 := ren_out (by decide)
/-- a text's signs are these, renamed -/
structure Im (f : Nat → Nat) (x : Str) (l : List Nat) : Prop where
  eq : cp x = l.map f
section
variable {f : Nat → Nat} {x y : Str} {l m : List Nat}
theorem Im.app (h : Im f x l) (h' : Im f y m) : Im f (x ++ y) (l ++ m) := ⟨by rw [cp_app, h.eq, h'.eq, List.map_append]⟩
theorem im_dots (h46 : f 46 = 46) : Im f (Str.ofString "...") [46, 46, 46] := ⟨by rw [cp_dots]; simp [h46]⟩
theorem Im.from (h : Im f x l) (i : Nat) (hi : i ≤ l.length) : Im f (Txt.slice x (some (i : Int)) none) (l.drop i) :=
  ⟨by rw [cp_from x i (by rw [cp_len, h.eq, List.length_map]; exact hi), h.eq, List.map_drop]⟩
theorem Im.to (h : Im f x l) (i : Nat) (hi : i ≤ l.length) : Im f (Txt.slice x none (some (i : Int))) (l.take i) :=
  ⟨by rw [cp_to x i (by rw [cp_len, h.eq, List.length_map]; exact hi), h.eq, List.map_take]⟩
theorem itemF_at (l : List Nat) (i : Nat) (hi : i < l.length) : itemF l (i : Int) = l[i] := by
  unfold itemF
  have h1 : seqIndex? (i : Int) l.length = some i := by
    unfold seqIndex?
    simp
    (first | lia | omega)
  rw [h1]
  simp [hi]
theorem Im.item (h : Im f x l) (i : Nat) (hi : i < l.length) : Im f (Txt.item x (i : Int)) [l[i]] :=
  ⟨by rw [item_F, h.eq, itemF_at _ _ (by rw [List.length_map]; exact hi), List.getElem_map]; rfl⟩
theorem joinF_map (g : List Nat) (hg : g.map f = g) : ∀ L : List (List Nat), joinF g (L.map (·.map f)) = (joinF g L).map f
  | [] => rfl
  | p :: r => by
    show p.map f ++ ((r.map (·.map f)).map fun q => g ++ q).flatten = (p ++ (r.map fun q => g ++ q).flatten).map f
    rw [List.map_append, List.map_flatten, List.map_map, List.map_map]
    congr 2
    refine List.map_congr_left fun q _ => ?_
    show g ++ q.map f = (g ++ q).map f
    rw [List.map_append, hg]
theorem Im.dots (h46 : f 46 = 46) (h : Im f x l) : Im f (dots x) (dotsF l) := by
  refine ⟨?_⟩
  have hg : ([46, 46, 46] : List Nat).map f = [46, 46, 46] := by simp [h46]
  rw [cp_dotsS, h.eq]
  unfold dotsF
  rw [List.map_append, List.map_append, hg, ← joinF_map _ hg, List.map_map, List.map_map]
  rfl
theorem Im.em (hf : ∀ a b, f a = f b → a = b) (h46 : f 46 = 46) (h : Im f x l) (h' : Im f y m) : em x y = emF l m := by rw [em_F, h.eq, h'.eq, emF_map hf h46]
theorem Im.len (h : Im f x l) : x.length = l.length := by rw [cp_len, h.eq, List.length_map]
end
noncomputable def chkD (p : List Nat × List Nat × Bool) : Bool := forceL p.1 fun l => forceL p.2.1 fun m => (emF l m == p.2.2) && (Nat.ble l.length 500 && Nat.ble m.length 500)
theorem ask_D {f : Nat → Nat} {x y : Str} {l m : List Nat} {d : Bool} (hf : ∀ a b, f a = f b → a = b) (h46 : f 46 = 46) (h : Im f x l) (h' : Im f y m) (hc : chkD (l, m, d) = true) : em x y = d ∧ x.length ≤ 500 ∧ y.length ≤ 500 := by
  unfold chkD at hc
  simp only [forceL_eq, Bool.and_eq_true, beq_iff_eq] at hc
  rw [h.em hf h46 h', h.len, h'.len]
  exact ⟨hc.1, Nat.le_of_ble_eq_true hc.2.1, Nat.le_of_ble_eq_true hc.2.2⟩
noncomputable def D3 : List Nat := [46, 46, 46]
noncomputable def ask2 (o p : Nat) : List Nat × List Nat × Bool := (base.take o ++ D3 ++ base.drop p, base, decide ((o : Int) ≤ (p : Int)))
noncomputable def ask3 (o p q : Nat) : List Nat × List Nat × Bool := (base.take o ++ D3 ++ [base.getD q 0] ++ D3 ++ base.drop p, base, decide ((o : Int) ≤ (q : Int)) && decide ((q : Int) < (p : Int)))
noncomputable def asks4 (q : Nat) : List (List Nat × List Nat × Bool) :=
  [([base.getD q 0] ++ D3, base, (q : Int) == 0), (D3 ++ [base.getD q 0], base, (q : Int) == 5), (base.take (q + 1), base, (q : Int) == 5), (base.drop q, base, (q : Int) == 0),
   (dotsF ([base.getD q 0] ++ [base.getD q 0]), base, false), (D3 ++ base.take (q + 1) ++ D3 ++ base.drop q ++ D3, base, false), (dotsF (base.drop q ++ base.take (q + 1)), base ++ base, true)]
theorem ask2_all : ((List.range 7).all fun o => (List.range 7).all fun p => chkD (ask2 o p)) = true := by decide +kernel
theorem ask3_all : ((List.range 7).all fun o => (List.range 7).all fun p => (List.range 6).all fun q => chkD (ask3 o p q)) = true := by decide +kernel
theorem ask4_all : ((List.range 6).all fun q => (asks4 q).all chkD) = true := by decide +kernel
theorem map_dgF : ∀ {ns cs : List Int}, (∀ k ∈ ns, 0 ≤ k) → (∀ k ∈ cs, 0 ≤ k) → ns.map dgF = cs.map dgF → ns = cs
  | [], [], _, _, _ => rfl
  | [], _ :: _, _, _, h => nomatch h
  | _ :: _, [], _, _, h => nomatch h
  | a :: l, b :: r, ha, hb, h => by
    rw [List.map_cons, List.map_cons] at h
    injection h with h1 h2
    have e1 : a = b := by
      have := ha a (.head _)
      have := hb b (.head _)
      unfold dgF at h1
      (first | lia | omega)
    rw [e1, map_dgF (fun k hk => ha k (.tail _ hk)) (fun k hk => hb k (.tail _ hk)) h2]
theorem em_plain {f : Nat → Nat} (hf : ∀ a b, f a = f b → a = b) (h46 : f 46 = 46) (y : List Nat) : emF (base.map f) y = (base.map f == y) := by
  have e : ([46, 46, 46] : List Nat) = ([46, 46, 46] : List Nat).map f := by simp [h46]
  have h : occL (base.map f) [46, 46, 46] 0 (base.map f).length 1 = [] := by
    rw [List.length_map, e, occL_map hf]
    decide +kernel
  unfold emF
  rw [h]
theorem deck_asksB (ns cs : List Int) (dress : Int) (hD : Deck ns) (hC : Deck cs) : AskListD (asksD (txt ns) (txt cs) (dress.fmod 7) ((dress.fdiv 7).fmod 7) ((dress.fdiv 49).fmod 6) (decide (ns = cs))) := by
  have b1 := b7 dress
  have b2 := b7 (dress.fdiv 7)
  have b3 := b6 (dress.fdiv 49)
  obtain ⟨o, ho⟩ := Int.eq_ofNat_of_zero_le b1.1
  obtain ⟨p, hp⟩ := Int.eq_ofNat_of_zero_le b2.1
  obtain ⟨q, hq⟩ := Int.eq_ofNat_of_zero_le b3.1
  rw [ho, hp, hq]
  rw [ho] at b1
  rw [hp] at b2
  rw [hq] at b3
  have ho7 : o < 7 := by (first | lia | omega)
  have hp7 : p < 7 := by (first | lia | omega)
  have hq6 : q < 6 := by (first | lia | omega)
  have hf := ren_inj hD
  have h46 := ren_46 ns
  have c9 : ∀ k ∈ ns, 0 ≤ k ∧ k ≤ 9 := fun k hk => by have := hD.cards k hk; (first | lia | omega)
  have c9' : ∀ k ∈ cs, 0 ≤ k ∧ k ≤ 9 := fun k hk => by have := hC.cards k hk; (first | lia | omega)
  have T : Im (ren ns) (txt ns) base := ⟨by rw [cp_txt c9, ren_base hD]⟩
  have to := T.to o (show o ≤ 6 by (first | lia | omega))
  have fr := T.from p (show p ≤ 6 by (first | lia | omega))
  have it := T.item q (show q < 6 from hq6)
  have toq : Im (ren ns) (Txt.slice (txt ns) none (some ((q : Int) + 1))) (base.take (q + 1)) := T.to (q + 1) (show q + 1 ≤ 6 by (first | lia | omega))
  have frq := T.from q (show q ≤ 6 by (first | lia | omega))
  have d3 := im_dots h46
  have e : base[q]'(show q < 6 from hq6) = base.getD q 0 := by
    rw [List.getD_eq_getElem?_getD, List.getElem?_eq_getElem (show q < base.length from hq6)]; rfl
  rw [e] at it
  have a2 := List.all_eq_true.mp (List.all_eq_true.mp ask2_all o (List.mem_range.mpr ho7)) p (List.mem_range.mpr hp7)
  have a3 := List.all_eq_true.mp (List.all_eq_true.mp (List.all_eq_true.mp ask3_all o (List.mem_range.mpr ho7)) p (List.mem_range.mpr hp7)) q (List.mem_range.mpr hq6)
  have hc := List.all_eq_true.mp ask4_all q (List.mem_range.mpr hq6)
  have key : ∀ z ∈ asksD (txt ns) (txt cs) (o : Int) (p : Int) (q : Int) (decide (ns = cs)), em z.1 z.2.1 = z.2.2 ∧ z.1.length ≤ 500 ∧ z.2.1.length ≤ 500 := by
    refine List.forall_mem_cons.mpr ⟨⟨?_, ?_, ?_⟩, ?_⟩
    · show em (txt ns) (txt cs) = decide (ns = cs)
      rw [em_F, cp_txt c9, cp_txt c9', ren_base hD, em_plain hf h46, ← ren_base hD]
      by_cases h : ns = cs
      · subst h; simp
      · rw [decide_eq_false h, beq_eq_false_iff_ne]
        exact fun q => h (map_dgF (fun k hk => (c9 k hk).1) (fun k hk => (c9' k hk).1) q)
    · show (txt ns).length ≤ 500
      rw [txt_len c9, hD.len]; decide
    · show (txt cs).length ≤ 500
      rw [txt_len c9', hC.len]; decide
    refine List.forall_mem_cons.mpr ⟨ask_D hf h46 ((to.app d3).app fr) T a2, ?_⟩
    refine List.forall_mem_cons.mpr ⟨ask_D hf h46 ((((to.app d3).app it).app d3).app fr) T a3, ?_⟩
    refine List.forall_mem_cons.mpr ⟨ask_D hf h46 (it.app d3) T (all_c hc).1, ?_⟩
    replace hc := (all_c hc).2
    refine List.forall_mem_cons.mpr ⟨ask_D hf h46 (d3.app it) T (all_c hc).1, ?_⟩
    replace hc := (all_c hc).2
    refine List.forall_mem_cons.mpr ⟨ask_D hf h46 toq T (all_c hc).1, ?_⟩
    replace hc := (all_c hc).2
    refine List.forall_mem_cons.mpr ⟨ask_D hf h46 frq T (all_c hc).1, ?_⟩
    replace hc := (all_c hc).2
    refine List.forall_mem_cons.mpr ⟨ask_D hf h46 ((it.app it).dots h46) T (all_c hc).1, ?_⟩
    replace hc := (all_c hc).2
    refine List.forall_mem_cons.mpr ⟨ask_D hf h46 ((((d3.app toq).app d3).app frq).app d3) T (all_c hc).1, ?_⟩
    replace hc := (all_c hc).2
    exact List.forall_mem_cons.mpr ⟨ask_D hf h46 ((frq.app toq).dots h46) (T.app T) (all_c hc).1, List.forall_mem_nil _⟩
  exact ⟨fun x y d hm => key (x, y, d) hm⟩
end Mine
namespace Mine
theorem sg_dg {c : Int} (h : 0 ≤ c ∧ c ≤ 9) : Sg (dg c) [dgF c] := ⟨cp_dg h, fun d hd => by rw [List.mem_singleton.mp hd]; unfold dgF; (first | lia | omega)⟩
noncomputable def marks4 : List Nat := [124, 33, 35, 47]
theorem sg_mark (d : Int) (h : 0 ≤ d ∧ d < 4) : ∃ m, m ∈ marks4 ∧ Sg (Txt.item (Str.ofString "|!#/") d) [m] := by
  obtain ⟨n, rfl⟩ := Int.eq_ofNat_of_zero_le h.1
  match n, (show n < 4 by (first | lia | omega)) with
  | 0, _ => exact ⟨124, by decide, by decide +kernel, by decide⟩
  | 1, _ => exact ⟨33, by decide, by decide +kernel, by decide⟩
  | 2, _ => exact ⟨35, by decide, by decide +kernel, by decide⟩
  | 3, _ => exact ⟨47, by decide, by decide +kernel, by decide⟩
noncomputable def rowStepF (m : Nat) (odd : Bool) (S : List Int) (row : List Nat) (c : Int) : List Nat :=
  let r := match (S.any fun x => x == c) != S.any fun x => x == c - 1 with | true => row ++ [m] | false => row
  match odd with | true => r ++ [dgF c] | false => match S.any fun x => x == c with | true => r | false => r ++ [dgF c]
theorem sg_rowStep {mk row : Str} {m : Nat} {l : List Nat} {k c : Int} {top : List Int} (hm : Sg mk [m]) (h : Sg row l) (hc : 0 ≤ c ∧ c ≤ 9) : Sg (rowStep mk k top row c) (rowStepF m (decide (k.fmod 2 = 1)) top l c) := by
  have hd : Sg (Str.ofString (toString c)) [dgF c] := sg_dg hc
  unfold rowStep rowStepF
  have h1 : Sg (if ((top.any fun x => x == c) != top.any fun x => x == c - 1) = true then row ++ mk else row) (match (top.any fun x => x == c) != top.any fun x => x == c - 1 with | true => l ++ [m] | false => l) := by
    cases ((top.any fun x => x == c) != top.any fun x => x == c - 1) with
    | true => exact h.app hm
    | false => exact h
  dsimp only
  by_cases h2 : k.fmod 2 = 1
  · rw [if_pos h2, decide_eq_true h2]
    exact h1.app hd
  · rw [if_neg h2, decide_eq_false h2]
    cases q : (top.any fun x => x == c) with
    | true => rw [q] at h1; exact h1
    | false => rw [q] at h1; exact h1.app hd
theorem sg_rowOf {mk : Str} {m : Nat} {k : Int} {top : List Int} (hm : Sg mk [m]) : ∀ (pre : List Int) (row : Str) (l : List Nat), Sg row l → (∀ c ∈ pre, 0 ≤ c ∧ c ≤ 9) → Sg (pre.foldl (rowStep mk k top) row) (pre.foldl (rowStepF m (decide (k.fmod 2 = 1)) top) l)
  | [], _, _, h, _ => h
  | c :: r, row, l, h, hc => sg_rowOf hm r _ _ (sg_rowStep hm h (hc c (.head _))) fun d hd => hc d (.tail _ hd)
noncomputable def seven : List Int := [1, 2, 3, 4, 5, 6, 7]
theorem seven_eq : rangeKs 1 ((8 : Int) - 1).toNat = seven := by decide
noncomputable def rowF (m : Nat) (odd : Bool) (S : List Int) : List Nat := seven.foldl (rowStepF m odd S) [m] ++ [m]
theorem sg_rowT {mk : Str} {m : Nat} {k : Int} {ns : List Int} (hm : Sg mk [m]) : Sg (rowT mk k ns) (rowF m (decide (k.fmod 2 = 1)) (ns.take k.toNat)) := by
  unfold rowT rowF rowOf
  rw [seven_eq]
  exact (sg_rowOf hm seven mk [m] hm (by decide)).app hm
noncomputable def opF : List Nat := [50, 50, 57, 32, 41, 40]
noncomputable def tlF : List Nat := [41, 40, 124, 48, 124, 48, 124, 57, 124, 41]
theorem sg_op : Sg (Str.ofString "229 )(") opF := ⟨by decide +kernel, by decide⟩
theorem sg_tl : Sg (Str.ofString ")(|0|0|9|)") tlF := ⟨by decide +kernel, by decide⟩
theorem sg_xtl : Sg (Str.ofString "x)(|0|0|9|)") (120 :: tlF) := ⟨by decide +kernel, by decide⟩
theorem sg_x : Sg (Str.ofString "x") [120] := ⟨by decide +kernel, by decide⟩
noncomputable def plainF (R : List Nat) : List Nat := opF ++ R ++ tlF
theorem sg_plain {mk : Str} {k : Int} {ns : List Int} {R : List Nat} (h : Sg (rowT mk k ns) R) : Sg (plainT2 mk k ns) (plainF R) := (sg_op.app h).app sg_tl
noncomputable def codeF (i : Nat) : List Nat := match i with | 0 => [50, 50, 56] | 1 => [49, 50, 57] | _ => [50, 48, 57]
theorem sg_code (k : Int) : Sg (codeT k) (codeF (k.fmod 3).toNat) := by
  unfold codeT
  have h0 := Int.fmod_nonneg_of_pos k (b := 3) (by decide)
  have h1 := Int.fmod_lt_of_pos k (b := 3) (by decide)
  generalize k.fmod 3 = i at *
  obtain ⟨n, rfl⟩ := Int.eq_ofNat_of_zero_le h0
  match n, (show n < 3 by (first | lia | omega)) with
  | 0, _ => exact ⟨by decide +kernel, by decide⟩
  | 1, _ => exact ⟨by decide +kernel, by decide⟩
  | 2, _ => exact ⟨by decide +kernel, by decide⟩
/-- the four bent replies -/
noncomputable def bentF (m : Nat) (R : List Nat) (c : Nat) (kind : Nat) : List Nat :=
  match kind with | 0 => opF ++ R ++ [m] ++ tlF | 1 => codeF c ++ (plainF R).drop 3 | 2 => opF ++ R ++ 120 :: tlF | _ => opF ++ R ++ [120]
theorem Sg.from3 {x : Str} {l : List Nat} (h : Sg x l) (hl : 3 ≤ l.length) : Sg (Txt.slice x (some 3) none) (l.drop 3) :=
  ⟨by rw [← h.eq]; exact cp_from x 3 (by rw [cp_len, h.eq]; (first | lia | omega)), fun c hc => h.lt c (List.mem_of_mem_drop hc)⟩
theorem sg_bent {mk : Str} {m : Nat} {k dress : Int} {ns : List Int} {R : List Nat} (hm : Sg mk [m]) (h : Sg (rowT mk k ns) R) : Sg (bentT mk k ns dress) (bentF m R (k.fmod 3).toNat (kindOf dress k).toNat) := by
  unfold bentT
  have h0 : 0 ≤ kindOf dress k := Int.fmod_nonneg_of_pos _ (by decide)
  have h1 : kindOf dress k < 4 := Int.fmod_lt_of_pos _ (by decide)
  generalize kindOf dress k = i at *
  obtain ⟨n, rfl⟩ := Int.eq_ofNat_of_zero_le h0
  match n, (show n < 4 by (first | lia | omega)) with
  | 0, _ => exact ((sg_op.app h).app hm).app sg_tl
  | 1, _ => exact (sg_code k).app ((sg_plain h).from3 (by simp [plainF, opF]))
  | 2, _ => exact (sg_op.app h).app sg_xtl
  | 3, _ => exact (sg_op.app h).app sg_x
theorem Sg.ok {x : Str} {l : List Nat} (h : Sg x l) : PyData.strOk x = true := by
  unfold PyData.strOk
  rw [← Array.all_toList, List.all_eq_true]
  intro c hc
  have := h.lt c (h.eq ▸ (show c ∈ cp x from hc))
  simp only [decide_eq_true_eq]
  (first | lia | omega)
noncomputable def isForm (o : Option (Option (List Nat))) : Bool := match o with | some none => true | _ => false
noncomputable def isCode (o : Option (Option (List Nat))) : Bool := match o with | none => true | _ => false
noncomputable def isPort (y : List Nat) (o : Option (Option (List Nat))) : Bool := match o with | some (some z) => z == y | _ => false
theorem Sg.p229 {x : Str} {l : List Nat} (h : Sg x l) : enc (p229 x) = p229F l := by
  rw [p229_F (fun c hc => by have := h.lt c (h.eq ▸ hc); (first | lia | omega)), h.eq]
theorem told_form {x : Str} {l : List Nat} (h : Sg x l) (e : isForm (p229F l) = true) : p229 x = .form := by
  rw [← h.p229] at e
  cases q : p229 x with
  | form => rfl
  | code => rw [q] at e; cases e
  | port y => rw [q] at e; cases e
theorem told_code {x : Str} {l : List Nat} (h : Sg x l) (e : isCode (p229F l) = true) : p229 x = .code := by
  rw [← h.p229] at e
  cases q : p229 x with
  | form => rw [q] at e; cases e
  | code => rfl
  | port y => rw [q] at e; cases e
theorem told_port {x y : Str} {l : List Nat} (h : Sg x l) (e : isPort (cp y) (p229F l) = true) : p229 x = .port y := by
  rw [← h.p229] at e
  cases q : p229 x with
  | form => rw [q] at e; cases e
  | code => rw [q] at e; cases e
  | port z => rw [q] at e; rw [cp_inj (beq_iff_eq.mp e)]
noncomputable def portF (M : Int) : List Nat := (rng (M + 1) 1 (7 - M).toNat).map dgF
/-- what is asked of a set of cards on top -/
noncomputable def rowChk (m : Nat) (S : List Int) : Bool :=
  forceL (rowF m (decide ((S.length : Int).fmod 2 = 1)) S) fun R => forceL (plainF R) fun P =>
    Nat.ble R.length 100 &&
    ((forceL (bentF m R ((S.length : Int).fmod 3).toNat 0) fun b => Nat.ble b.length 500 && isForm (p229F b)) &&
    ((forceL (bentF m R ((S.length : Int).fmod 3).toNat 1) fun b => Nat.ble b.length 500 && isCode (p229F b)) &&
    ((forceL (bentF m R ((S.length : Int).fmod 3).toNat 2) fun b => Nat.ble b.length 500 && isForm (p229F b)) &&
    ((forceL (bentF m R ((S.length : Int).fmod 3).toNat 3) fun b => Nat.ble b.length 500 && isForm (p229F b)) &&
    ((!S.isEmpty || isForm (p229F P)) &&
    S.all fun M => S.all fun n => !((S.all fun a => decide (a ≤ M)) && S.all fun a => decide (n ≤ a)) || (if M - n = (S.length : Int) - 1 then isPort (portF M) (p229F P) else isForm (p229F P)))))))
theorem row_all : (marks4.all fun m => allS six (rowChk m)) = true := look_both (by decide +kernel) (look_both (by decide +kernel) (look_both (by decide +kernel) (look_both (by decide +kernel) rfl)))
end Mine
namespace Mine
theorem top_part {ns : List Int} (hD : Deck ns) (k : Nat) : (six.filter fun c => (ns.take k).any fun x => x == c).Perm (ns.take k) := by
  have nd : ns.Nodup := hD.perm.nodup_iff.mpr (by decide)
  have h1 := (hD.perm.symm).filter (fun c => (ns.take k).any fun x => x == c)
  refine h1.trans ?_
  conv => lhs; rw [← List.take_append_drop k ns]
  rw [List.filter_append]
  have e1 : (ns.take k).filter (fun c => (List.take k (List.take k ns ++ List.drop k ns)).any fun x => x == c) = ns.take k := by
    rw [List.take_append_drop]
    refine List.filter_eq_self.mpr fun a ha => ?_
    exact List.any_eq_true.mpr ⟨a, ha, by simp⟩
  have e2 : (ns.drop k).filter (fun c => (List.take k (List.take k ns ++ List.drop k ns)).any fun x => x == c) = [] := by
    rw [List.take_append_drop]
    refine List.filter_eq_nil_iff.mpr fun a ha q => ?_
    obtain ⟨b, hb, e⟩ := List.any_eq_true.mp q
    rw [← List.take_append_drop k ns] at nd
    have := (List.nodup_append.mp nd).2.2 b hb a ha
    exact this (by simpa using e)
  rw [e1, e2, List.append_nil]
theorem any_perm {S T : List Int} (h : S.Perm T) (p : Int → Bool) : S.any p = T.any p := by
  rw [Bool.eq_iff_iff, List.any_eq_true, List.any_eq_true]
  constructor
  · rintro ⟨a, ha, e⟩; exact ⟨a, h.mem_iff.mp ha, e⟩
  · rintro ⟨a, ha, e⟩; exact ⟨a, h.mem_iff.mpr ha, e⟩
theorem rowF_perm {S T : List Int} (h : S.Perm T) (m : Nat) (odd : Bool) : rowF m odd S = rowF m odd T := by
  have e : rowStepF m odd S = rowStepF m odd T := by
    funext l c
    unfold rowStepF
    rw [any_perm h, any_perm h]
  unfold rowF
  rw [e]
/-- what holds of a deck's top k cards and a mark -/
theorem row_deck {ns : List Int} (hD : Deck ns) {m : Nat} (hm : m ∈ marks4) {k : Int} (h0 : 0 ≤ k) (h7 : k < 7) : ∃ S : List Int, S.Perm (ns.take k.toNat) ∧ (S.length : Int) = k ∧ rowChk m S = true := by
  have h1 := top_part hD k.toNat
  refine ⟨_, h1, ?_, ?_⟩
  · rw [h1.length_eq, List.length_take, hD.len]; (first | lia | omega)
  · exact allS_spec _ six (rowChk m) (List.all_eq_true.mp row_all m hm)
structure RowFacts (m : Nat) (k : Int) (top : List Int) (R : List Nat) : Prop where
  len : R.length ≤ 100
  b0 : (bentF m R (k.fmod 3).toNat 0).length ≤ 500 ∧ isForm (p229F (bentF m R (k.fmod 3).toNat 0)) = true
  b1 : (bentF m R (k.fmod 3).toNat 1).length ≤ 500 ∧ isCode (p229F (bentF m R (k.fmod 3).toNat 1)) = true
  b2 : (bentF m R (k.fmod 3).toNat 2).length ≤ 500 ∧ isForm (p229F (bentF m R (k.fmod 3).toNat 2)) = true
  b3 : (bentF m R (k.fmod 3).toNat 3).length ≤ 500 ∧ isForm (p229F (bentF m R (k.fmod 3).toNat 3)) = true
  nil : k = 0 → isForm (p229F (plainF R)) = true
  gap : ∀ M n, IsMax M top → IsMin n top → ¬ M - n = k - 1 → isForm (p229F (plainF R)) = true
  close : ∀ M n, IsMax M top → IsMin n top → M - n = k - 1 → isPort (portF M) (p229F (plainF R)) = true
theorem row_facts {ns : List Int} (hD : Deck ns) {m : Nat} (hm : m ∈ marks4) {k : Int} (h0 : 0 ≤ k) (h7 : k < 7) : RowFacts m k (ns.take k.toNat) (rowF m (decide (k.fmod 2 = 1)) (ns.take k.toNat)) := by
  obtain ⟨S, hS, hk, hc⟩ := row_deck hD hm h0 h7
  rw [← rowF_perm hS]
  simp only [rowChk, forceL_eq, hk, Bool.and_eq_true] at hc
  obtain ⟨h1, ⟨c0, d0⟩, ⟨c1, d1⟩, ⟨c2, d2⟩, ⟨c3, d3⟩, h2, h3⟩ := hc
  have key : ∀ M n, IsMax M (ns.take k.toNat) → IsMin n (ns.take k.toNat) → (if M - n = k - 1 then isPort (portF M) (p229F (plainF (rowF m (decide (k.fmod 2 = 1)) S))) else isForm (p229F (plainF (rowF m (decide (k.fmod 2 = 1)) S)))) = true := by
    intro M n hM hn
    have h4 := List.all_eq_true.mp (List.all_eq_true.mp h3 M (hS.mem_iff.mpr hM.1)) n (hS.mem_iff.mpr hn.1)
    have e1 : (S.all fun a => decide (a ≤ M)) = true := List.all_eq_true.mpr fun a ha => decide_eq_true (hM.2 a (hS.mem_iff.mp ha))
    have e2 : (S.all fun a => decide (n ≤ a)) = true := List.all_eq_true.mpr fun a ha => decide_eq_true (hn.2 a (hS.mem_iff.mp ha))
    rw [e1, e2] at h4
    exact h4
  refine ⟨Nat.le_of_ble_eq_true h1, ⟨Nat.le_of_ble_eq_true c0, d0⟩, ⟨Nat.le_of_ble_eq_true c1, d1⟩, ⟨Nat.le_of_ble_eq_true c2, d2⟩, ⟨Nat.le_of_ble_eq_true c3, d3⟩, ?_, ?_, ?_⟩
  · intro q
    have e : S = [] := List.length_eq_zero_iff.mp (by (first | lia | omega))
    rw [e] at h2 ⊢
    simpa using h2
  · intro M n hM hn hg
    have := key M n hM hn
    rw [if_neg hg] at this
    exact this
  · intro M n hM hn hg
    have := key M n hM hn
    rw [if_pos hg] at this
    exact this
theorem bents_four {m : Nat} {k : Int} {top : List Int} {R : List Nat} (h : RowFacts m k top R) (i : Nat) (hi : i < 4) : (bentF m R (k.fmod 3).toNat i).length ≤ 500 ∧ (i = 1 → isCode (p229F (bentF m R (k.fmod 3).toNat i)) = true) ∧ (i ≠ 1 → isForm (p229F (bentF m R (k.fmod 3).toNat i)) = true) := by
  match i, hi with
  | 0, _ => exact ⟨h.b0.1, fun q => absurd q (by decide), fun _ => h.b0.2⟩
  | 1, _ => exact ⟨h.b1.1, fun _ => h.b1.2, fun q => absurd rfl q⟩
  | 2, _ => exact ⟨h.b2.1, fun q => absurd q (by decide), fun _ => h.b2.2⟩
  | 3, _ => exact ⟨h.b3.1, fun q => absurd q (by decide), fun _ => h.b3.2⟩
/-- greatest and least sign -/
noncomputable def maxN : List Nat → Nat
  | [] => 0
  | a :: l => match Nat.ble (maxN l) a with | true => a | false => maxN l
noncomputable def minN : List Nat → Nat
  | [] => 1000
  | a :: l => match Nat.ble a (minN l) with | true => a | false => minN l
theorem maxN_spec : ∀ l : List Nat, (∀ a ∈ l, a ≤ maxN l) ∧ (l ≠ [] → maxN l ∈ l)
  | [] => ⟨nofun, fun h => absurd rfl h⟩
  | a :: l => by
    have ih := maxN_spec l
    rw [maxN]
    cases q : Nat.ble (maxN l) a with
    | true =>
      have := Nat.le_of_ble_eq_true q
      refine ⟨fun b hb => ?_, fun _ => .head _⟩
      rcases List.mem_cons.mp hb with rfl | hb
      · exact Nat.le_refl _
      · exact Nat.le_trans (ih.1 b hb) this
    | false =>
      have h1 : ¬ maxN l ≤ a := fun h => by rw [Nat.ble_eq_true_of_le h] at q; cases q
      refine ⟨fun b hb => ?_, fun _ => .tail _ (ih.2 fun e => ?_)⟩
      · rcases List.mem_cons.mp hb with rfl | hb
        · show b ≤ maxN l; (first | lia | omega)
        · exact ih.1 b hb
      · subst e; exact h1 (Nat.zero_le _)
theorem minN_spec : ∀ l : List Nat, (∀ a ∈ l, a < 1000) → (∀ a ∈ l, minN l ≤ a) ∧ (l ≠ [] → minN l ∈ l)
  | [], _ => ⟨nofun, fun h => absurd rfl h⟩
  | a :: l, hl => by
    have ih := minN_spec l fun b hb => hl b (.tail _ hb)
    rw [minN]
    cases q : Nat.ble a (minN l) with
    | true =>
      have := Nat.le_of_ble_eq_true q
      refine ⟨fun b hb => ?_, fun _ => .head _⟩
      rcases List.mem_cons.mp hb with rfl | hb
      · exact Nat.le_refl _
      · exact Nat.le_trans this (ih.1 b hb)
    | false =>
      have h1 : ¬ a ≤ minN l := fun h => by rw [Nat.ble_eq_true_of_le h] at q; cases q
      refine ⟨fun b hb => ?_, fun _ => .tail _ (ih.2 fun e => ?_)⟩
      · rcases List.mem_cons.mp hb with rfl | hb
        · show minN l ≤ b; (first | lia | omega)
        · exact ih.1 b hb
      · subst e; have := hl a (.head _); exact h1 (by show a ≤ 1000; (first | lia | omega))
noncomputable def pwN : List Nat → Bool
  | [] => true
  | a :: l => (l.all fun b => Nat.ble a b) && pwN l
noncomputable def calmN (M : Nat) (l : List Nat) : Bool := pwN (l.filter fun c => Nat.blt M c)
theorem pw_N : ∀ l : List Int, (∀ k ∈ l, 0 ≤ k) → pwN (l.map dgF) = decide (l.Pairwise (· ≤ ·))
  | [], _ => rfl
  | a :: l, h => by
    have ih := pw_N l fun k hk => h k (.tail _ hk)
    rw [List.map_cons, pwN, ih]
    rw [Bool.eq_iff_iff, Bool.and_eq_true, decide_eq_true_iff, decide_eq_true_iff, List.pairwise_cons, List.all_eq_true]
    refine and_congr ⟨fun q b hb => ?_, fun q b hb => ?_⟩ Iff.rfl
    · have := Nat.le_of_ble_eq_true (q (dgF b) (List.mem_map.mpr ⟨b, hb, rfl⟩))
      have h1 := h a (.head _)
      have h2 := h b (.tail _ hb)
      unfold dgF at this
      (first | lia | omega)
    · obtain ⟨c, hc, rfl⟩ := List.mem_map.mp hb
      have := q c hc
      have h1 := h a (.head _)
      have h2 := h c (.tail _ hc)
      refine Nat.ble_eq_true_of_le ?_
      unfold dgF
      (first | lia | omega)
theorem above_N (M : Int) (hM : 0 ≤ M) : ∀ l : List Int, (∀ k ∈ l, 0 ≤ k) → (l.map dgF).filter (fun c => Nat.blt (dgF M) c) = (aboveF M l).map dgF
  | [], _ => rfl
  | a :: l, h => by
    have ih := above_N M hM l fun k hk => h k (.tail _ hk)
    have h1 := h a (.head _)
    unfold aboveF at ih ⊢
    rw [List.map_cons, List.filter_cons, List.filter_cons, ih]
    have e : Nat.blt (dgF M) (dgF a) = decide (M < a) := by
      rw [Bool.eq_iff_iff, decide_eq_true_iff]
      unfold Nat.blt dgF
      constructor
      · intro q; have := Nat.le_of_ble_eq_true q; (first | lia | omega)
      · intro q; exact Nat.ble_eq_true_of_le (by show (48 + M.toNat) + 1 ≤ _; (first | lia | omega))
    rw [e]
    cases decide (M < a) <;> simp
theorem calm_N {M : Int} {l : List Int} (hM : 0 ≤ M) (h : ∀ k ∈ l, 0 ≤ k) : calmN (dgF M) (l.map dgF) = calmB M l := by
  unfold calmN calmB
  rw [above_N M hM l h]
  exact pw_N (aboveF M l) fun k hk => h k (List.mem_filter.mp (show k ∈ l.filter _ from hk)).1
/-- the rest of the deck takes the number's figures just if the cards above rise -/
noncomputable def calmChk (ns : List Int) : Bool := forceL (ns.map dgF) fun x => [1, 2, 3, 4, 5, 6].all fun k => forceL (x.take k) fun t => forceN (maxN t) fun M => forceN (minN t) fun n =>
  match Nat.beq (M + 1) (n + k) with
  | true => forceL (x.drop k) fun r => subG r (riseS (M - 48)) == calmN M r
  | false => true
theorem calm_all : allP 6 six calmChk = true := by decide +kernel
theorem dg_le {a b : Int} (h : dgF a ≤ dgF b) (ha : 0 ≤ a) (hb : 0 ≤ b) : a ≤ b := by unfold dgF at h; (first | lia | omega)
theorem dg_ge {a b : Int} (h : a ≤ b) : dgF a ≤ dgF b := by unfold dgF; (first | lia | omega)
theorem max_dg {l : List Int} {M : Int} (hM : IsMax M l) (hb : ∀ c ∈ l, 1 ≤ c ∧ c ≤ 6) : maxN (l.map dgF) = dgF M := by
  have h3 := maxN_spec (l.map dgF)
  have h4 := h3.1 (dgF M) (List.mem_map.mpr ⟨M, hM.1, rfl⟩)
  obtain ⟨c, hc, e⟩ := List.mem_map.mp (h3.2 (List.ne_nil_of_mem (List.mem_map.mpr ⟨M, hM.1, rfl⟩)))
  rw [← e] at h4 ⊢
  exact Nat.le_antisymm (dg_ge (hM.2 c hc)) h4
theorem min_dg {l : List Int} {M : Int} (hM : IsMin M l) (hb : ∀ c ∈ l, 1 ≤ c ∧ c ≤ 6) : minN (l.map dgF) = dgF M := by
  have h3 := minN_spec (l.map dgF) fun a ha => by
    obtain ⟨c, hc, rfl⟩ := List.mem_map.mp ha
    exact Nat.lt_of_le_of_lt (dg_ge (hb c hc).2) (by decide)
  have h4 := h3.1 (dgF M) (List.mem_map.mpr ⟨M, hM.1, rfl⟩)
  obtain ⟨c, hc, e⟩ := List.mem_map.mp (h3.2 (List.ne_nil_of_mem (List.mem_map.mpr ⟨M, hM.1, rfl⟩)))
  rw [← e] at h4 ⊢
  exact Nat.le_antisymm h4 (dg_ge (hM.2 c hc))
theorem calm_deck {ns : List Int} (hD : Deck ns) {k M n : Int} (h0 : 0 < k) (h7 : k < 7) (hM : IsMax M (ns.take k.toNat)) (hn : IsMin n (ns.take k.toNat)) (hc : M - n = k - 1) :
    em (dots (txt (rng (M + 1) 1 (6 - M).toNat))) (txt (ns.drop k.toNat)) = calmB M (ns.drop k.toNat) := by
  have h1 := deck_all calm_all hD
  obtain ⟨j, rfl⟩ := Int.eq_ofNat_of_zero_le (show 0 ≤ k by (first | lia | omega))
  have hj : j ∈ [1, 2, 3, 4, 5, 6] := by
    have : j = 1 ∨ j = 2 ∨ j = 3 ∨ j = 4 ∨ j = 5 ∨ j = 6 := by (first | lia | omega)
    rcases this with rfl | rfl | rfl | rfl | rfl | rfl <;> decide
  rw [calmChk, forceL_eq] at h1
  have h2 := List.all_eq_true.mp h1 j hj
  rw [forceL_eq, forceN_eq, forceN_eq, ← List.map_take, ← List.map_drop] at h2
  rw [show ((j : Int)).toNat = j from rfl] at hM hn ⊢
  have cM := hD.cards M (List.mem_of_mem_take hM.1)
  have cn := hD.cards n (List.mem_of_mem_take hn.1)
  have eM := max_dg hM fun c hc => hD.cards c (List.mem_of_mem_take hc)
  have en := min_dg hn fun c hc => hD.cards c (List.mem_of_mem_take hc)
  rw [eM, en] at h2
  have eb : Nat.beq (dgF M + 1) (dgF n + j) = true := by
    rw [show dgF M + 1 = dgF n + j from by unfold dgF; (first | lia | omega), Nat.beq_refl]
  rw [eb] at h2
  dsimp only at h2
  rw [forceL_eq, calm_N (by (first | lia | omega)) (fun k hk => by have := hD.cards k (List.mem_of_mem_drop hk); (first | lia | omega))] at h2
  rw [← beq_iff_eq.mp h2]
  have e48 : dgF M - 48 = M.toNat := by unfold dgF; (first | lia | omega)
  rw [e48]
  obtain ⟨i, rfl⟩ := Int.eq_ofNat_of_zero_le (show 0 ≤ M by (first | lia | omega))
  have h8 := List.all_eq_true.mp parts_all i (List.mem_range.mpr (by (first | lia | omega)))
  have h9 := List.all_eq_true.mp cards_all i (List.mem_range.mpr (by (first | lia | omega)))
  rw [Bool.and_eq_true, decide_eq_true_iff, decide_eq_true_iff] at h8
  rw [Bool.and_eq_true, List.all_eq_true, List.all_eq_true] at h9
  have e0 : (0 + (i : Int) * 1) = (i : Int) := by (first | lia | omega)
  rw [e0] at h8 h9
  rw [em_F, cp_dotsS, cp_txt (fun k hk => by simpa using h9.2 k hk), cp_txt (fun k hk => by have := hD.cards k (List.mem_of_mem_drop hk); (first | lia | omega))]
  exact (em_parts h8.2).trans (rise_S _ _)
theorem port_cards {M : Int} (h : 1 ≤ M ∧ M ≤ 6) : ∀ k ∈ rng (M + 1) 1 (7 - M).toNat, 0 ≤ k ∧ k ≤ 9 := by
  intro k hk
  obtain ⟨i, hi, rfl⟩ := List.mem_map.mp hk
  have := List.mem_range.mp hi
  (first | lia | omega)
theorem deck_marks (ns : List Int) (dress : Int) (hD : Deck ns) : MarksOk2 ns (Txt.item (Str.ofString "|!#/") ((dress.fdiv 16384).fmod 4)) dress := by
  obtain ⟨m, hm, sm⟩ := sg_mark ((dress.fdiv 16384).fmod 4) ⟨Int.fmod_nonneg_of_pos _ (by decide), Int.fmod_lt_of_pos _ (by decide)⟩
  generalize Txt.item (Str.ofString "|!#/") ((dress.fdiv 16384).fmod 4) = mk at sm ⊢
  have hk4 : ∀ k, (kindOf dress k).toNat < 4 ∧ ((kindOf dress k).toNat = 1 ↔ kindOf dress k = 1) := by
    intro k
    have h0 : 0 ≤ kindOf dress k := Int.fmod_nonneg_of_pos _ (by decide)
    have h1 : kindOf dress k < 4 := Int.fmod_lt_of_pos _ (by decide)
    (first | lia | omega)
  have row : ∀ k, Sg (rowT mk k ns) (rowF m (decide (k.fmod 2 = 1)) (ns.take k.toNat)) := fun k => sg_rowT sm
  have fac : ∀ k, 0 ≤ k → k < 7 → RowFacts m k (ns.take k.toNat) (rowF m (decide (k.fmod 2 = 1)) (ns.take k.toNat)) := fun k h0 h7 => row_facts hD hm h0 h7
  refine ⟨hD.cards, hD.len, sm.len, ?_, ?_, ?_, ?_, ?_, ?_, ?_, ?_, ?_, ?_⟩
  · intro k h0 h7
    rw [(row k).len]; exact (fac k h0 h7).len
  · intro k h0 h7
    exact (sg_plain (row k)).ok
  · intro k h0 h7
    exact (sg_bent sm (row k)).ok
  · intro k h0 h7
    rw [(sg_bent sm (row k)).len]
    exact (bents_four (fac k h0 h7) _ (hk4 k).1).1
  · intro k h0 h7 h1
    exact told_code (sg_bent sm (row k)) ((bents_four (fac k h0 h7) _ (hk4 k).1).2.1 ((hk4 k).2.mpr h1))
  · intro k h0 h7 h1
    exact told_form (sg_bent sm (row k)) ((bents_four (fac k h0 h7) _ (hk4 k).1).2.2 fun q => h1 ((hk4 k).2.mp q))
  · exact told_form (sg_plain (row 0)) ((fac 0 (by decide) (by decide)).nil rfl)
  · intro k M n h0 h7 hM hn hg
    exact told_form (sg_plain (row k)) ((fac k (by (first | lia | omega)) h7).gap M n hM hn hg)
  · intro k M n h0 h7 hM hn hc
    refine told_port (sg_plain (row k)) ?_
    rw [cp_txt (port_cards (hD.cards M (List.mem_of_mem_take hM.1)))]
    exact (fac k (by (first | lia | omega)) h7).close M n hM hn hc
  · intro k M n h0 h7 hM hn hc
    exact calm_deck hD h0 h7 hM hn hc
theorem plain : Plain := ⟨deck_rif, deck_chg, deck_marks, deck_asks, deck_asksB, deck_names, deck_letters, deck_cuts⟩
end Mine
theorem PySem.Challenge.cw_xj0016_01_holds : PySem.Challenge.rw_xj0016_01.Holds := by
  exact Mine.law_holds Mine.plain
