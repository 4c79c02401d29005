import PyProof.Rows.All
import Wide.All
import OpenK.AllK
import Wide.FinOn
import PySem.Challenge.RW_xh0002_01
set_option Elab.async false
set_option maxRecDepth 100000
section
open PySem PySem.W PyProof.Rows
namespace Mine
def pop (n : Nat) : Nat := if h : n = 0 then 0 else n % 2 + pop (n / 2)
termination_by n
decreasing_by omega
def digs (n : Nat) : List Nat := if h : n = 0 then [] else digs (n / 16) ++ [n % 16]
termination_by n
decreasing_by omega
def letters (n : Int) : Array UInt8 := ((digs n.toNat).map fun d => UInt8.ofNat (65 + d)).toArray
def ones (n : Int) : Int := (pop n.toNat : Int)
section
variable {prog : Program} {w : World} {A : Around} {E : Value → Shared → Prop} {s : Shared}
theorem item32 {value slice : PySem.Expr} {l : Addr} {vs : List Value} {ns : List Int} {k : Int} {u : Tok} {Q : Value → Shared → Prop} (hl : s.heap.IsList l vs.toArray) (hi : IntsAre vs ns)
    (h0 : -(ns.length : Int) ≤ k) (h1 : k < ns.length) (hf : ns.length < 2 ^ 62) (hall : ∀ x ∈ ns, 0 ≤ x ∧ x < 4294967296) (h : ∀ x t, 0 ≤ x → x < 4294967296 → Q (.int x t) s)
    (hs : subscripted slice false (.ref l) (.int k u) = operate [.ref l, .int k u] (getItem (.ref l) (.int k u)) := by with_unfolding_all rfl) (hg : ∀ r, letTemporaryGo value (.ref l) r = pure () := by intro _; with_unfolding_all rfl) :
    wpAny (model prog w) A (subscriptTail value slice (.ref l) (.int k u)) Q E s := by
  have key : ∀ j : Nat, j < ns.length → ∀ t, Q (.int (ns.getD j 0) t) s := fun j hj t => by
    have hm : ns.getD j 0 ∈ ns := by
      rw [List.getD_eq_getElem?_getD, List.getElem?_eq_getElem hj]
      exact List.getElem_mem hj
    exact h _ t (hall _ hm).1 (hall _ hm).2
  by_cases c : k < 0
  · exact item_list_ints_neg hl hi c h0 (by omega) (fun t => key _ (by omega) t) hs hg
  · exact item_list_ints hl hi (by omega) h1 (by omega) (fun t => key _ (by omega) t) hs hg
theorem item32N {h₀ : Heap} {L : Addr} {news : List (Addr × Obj)} {value slice : PySem.Expr} {l : Addr} {vs : List Value} {ns : List Int} {k : Int} {u : Tok} {Q : Value → Shared → Prop} (N : News h₀ L s.heap news) (hm : (l, LCg.lst vs) ∈ news) (hi : IntsAre vs ns)
    (h0 : -(ns.length : Int) ≤ k) (h1 : k < ns.length) (hf : ns.length < 2 ^ 62) (hall : ∀ x ∈ ns, 0 ≤ x ∧ x < 4294967296) (h : ∀ x t, 0 ≤ x → x < 4294967296 → Q (.int x t) s)
    (hs : subscripted slice false (.ref l) (.int k u) = operate [.ref l, .int k u] (getItem (.ref l) (.int k u)) := by with_unfolding_all rfl) (hg : ∀ r, letTemporaryGo value (.ref l) r = pure () := by intro _; with_unfolding_all rfl) :
    wpAny (model prog w) A (subscriptTail value slice (.ref l) (.int k u)) Q E s := item32 (N.isList hm) hi h0 h1 hf hall h hs hg
theorem all32 (l : List Int) : ∀ x ∈ l.map (fun k' : Int => (if k' < 0 then -k' else k').fmod (1 * 2 ^ Int.toNat 32)), 0 ≤ x ∧ x < 4294967296 := by
  intro x hx
  obtain ⟨k, _, rfl⟩ := List.mem_map.1 hx
  have e : (1 * 2 ^ Int.toNat 32 : Int) = 4294967296 := by decide
  rw [e]
  exact ⟨Int.fmod_nonneg_of_pos _ (by decide), Int.fmod_lt_of_pos _ (by decide)⟩
end
end Mine
end
section
open PySem PySem.W PyProof.Rows PySem.Calls PySem.Spec PyProof.V
namespace Mine
open LCg
section
variable {prog : Program} {w : World} {A : Around} {E : Value → Shared → Prop} {s : Shared} {h₀ : Heap} {L : Addr} {m : PySem.Str → Option Value} {env : Env}

def SrcB (prog : Program) (w : World) (A : Around) (h₀ : Heap) (L : Addr) (m : PySem.Str → Option Value) (env : Env) (elt : PySem.Expr) (x : PySem.Str) (scope : Scope) (cl : List (PySem.Str × Addr)) (Fin : Shared → List Value → List (Addr × Obj) → Prop) (xv : Value) (s₁ : Shared) : Prop :=
  ∃ b tb news, xv = .bytes b tb ∧ A.handled = none ∧ Fr h₀ L s₁.heap m ∧ News h₀ L s₁.heap news ∧ b.size ≤ sizeLine ∧
    ∀ s₂ : Shared, (∃ h, s₂ = { s₁ with heap := h }) → CompRest prog w A h₀ L m env elt x scope cl s₂ (fun _ => True) (fun i v => ∃ c u, b[i]? = some c ∧ v = .int (c.toNat : Int) u) (Fin s₂) b.size 0 [] news

theorem bytes_st {I : Addr} {b : Array UInt8} {t : Tok} : ∀ i (h h' : Heap) (o : Obj) (nw : List (Addr × Obj)), KBw.IsBytesIter h I b t i → h.get? I = some o → h'.get? I = some o → (∀ b o, h₀.get? b = some o → h'.get? b = some o) → News h₀ L h' nw → True → KBw.IsBytesIter h' I b t i :=
  fun i h h' o nw st e e' _ _ _ => by
    obtain ⟨o', q, r⟩ := st
    rw [e] at q
    cases q
    exact ⟨o, e', r⟩

theorem ListComp_B {elt iter : PySem.Expr} {x : PySem.Str} {px : Pos} {scope : Scope} {cl : List (PySem.Str × Addr)} {pos : Pos} {Q : Value → Shared → Prop} (F₉ : Fr h₀ L s.heap m)
    (hclos : closureFor scope env = pure cl) (hcell : ∀ y ∈ scope.names, y.2 ≠ .cell) (hkind : scope.kind = .function)
    (hnames : ∀ y ∈ scope.names, y.2 = .local → scope.names.lookup y.1 = some .local) (hx : scope.names.lookup x = some .local)
    (h : wpAny (model prog w) A (eval iter env) (SrcB prog w A h₀ L m env elt x scope cl (fun s₂ => FinE h₀ L m s₂ Q)) E s)
    (hs : ∀ x, foldedSetIterable iter env x = pure x := by intro _; rfl) :
    wpAny (model prog w) A (eval (.ListComp elt [⟨.Name x px, iter, [], 0⟩] scope pos) env) Q E s := by
  rw [eval_ListComp]
  refine wpAny_comprehension_free (use := none) rfl hs hclos hkind hnames (wpAny_mono h (fun xv s₁ h₁ => ?_) fun _ _ e => e)
  obtain ⟨b, tb, news, rfl, hh, F, N, hsz, R⟩ := h₁
  refine KBw.pyIter_bytes ?_
  refine block_U (KBw.walks hh s₁.heap.objs.size b tb) hsz (fun i h st => by obtain ⟨o, e, _⟩ := st; exact ⟨o, e⟩) bytes_st hcell hkind hx ⟨_, Heap.get?_push_size _ rfl, rfl, rfl⟩ (fun b hb => ?_)
      (F.keeps fun _ _ e => Heap.get?_push_of_some _ e) (N.grown fun _ _ e => Heap.get?_push_of_some _ e) (Nat.ne_of_lt F.ns.lt) (next_is_new F) (fun p hp => Nat.ne_of_lt (Heap.lt_size (N p hp).1)) trivial (R _ ⟨_, rfl⟩) ?_
  · rw [List.mem_singleton.mp hb]
    show s₁.heap.objs.size < (s₁.heap.push _).objs.size
    rw [Heap.size_push]; exact Nat.lt_succ_self _
  · intro D C h tk m' ys news' F' N' o1 hn hC₀ hD₀ hCL hDL hCD offC fin
    refine ⟨m', hn, fun h'' hs'' => fin D h'' tk (F'.change hs'' hCL hC₀) (fun p hp => ?_) o1⟩
    refine ⟨hs''.extBut _ _ ?_ (N' p hp).1, (N' p hp).2⟩
    rcases List.mem_cons.mp hp with rfl | hp
    · exact Ne.symm hCD
    · exact offC p hp

/-- a comprehension over the letters of a number, each item an int by a function of the letter's number -/
theorem SrcB_ints {elt : PySem.Expr} {x : PySem.Str} {scope : Scope} {cl : List (PySem.Str × Addr)} {Fin : Shared → List Value → List (Addr × Obj) → Prop} {b : Array UInt8} {tb : Tok} {news : List (Addr × Obj)} {s₁ : Shared} (g : Int → Int)
    (hh : A.handled = none) (F : Fr h₀ L s₁.heap m) (N : News h₀ L s₁.heap news) (hsz : b.size ≤ 16) (hb : ∀ k ∈ KBw.bInts b, 65 ≤ k ∧ k ≤ 80)
    (turn : ∀ g' k t I oI C oC D m₂ ys h tk (E' : Value → Shared → Prop), 65 ≤ k → k ≤ 80 → NsObj oC m₂ → m₂ x = some (.int k t) → Fr h₀ L h m → News h₀ L h ((I, oI) :: (C, oC) :: (D, LCg.lst ys) :: news) → Off3 I C D news → ((@Ne Nat I C) ∧ (@Ne Nat I D) ∧ (@Ne Nat C D)) →
      wpAny (model prog w) A (eval elt (compEnvC scope cl C env)) (LCg.CompEnd h₀ L m { { s₁ with heap := g' } with heap := h, toks := tk } I oI C oC D (LCg.lst ys) (fun _ => True) (fun y news' => KCfEl news (g k) y news')) E' { { s₁ with heap := g' } with heap := h, toks := tk })
    (fin : ∀ g' ys, IntsAre ys ((KBw.bInts b).map g) → Fin { s₁ with heap := g' } ys news) :
    SrcB prog w A h₀ L m env elt x scope cl Fin (.bytes b tb) s₁ := by
  refine ⟨b, tb, news, rfl, hh, F, N, by rw [sizeLine_eq]; omega, ?_⟩
  rintro s₂ ⟨g', rfl⟩
  refine kcf_rest (ks := KBw.bInts b) g (KBw.ints_length b) ?_ ?_ ?_
  · rintro i v hi ⟨c, u, hc, rfl⟩
    exact ⟨_, u, KBw.ints_get hc, rfl⟩
  · intro k t I oI C oC D m₂ ys h tk E' hk hC hx F' N' off ne _
    exact turn g' k t I oI C oC D m₂ ys h tk E' (hb k hk).1 (hb k hk).2 hC hx F' N' off ne
  · unfold KPfDone
    exact fun ys hy => fin g' ys hy

theorem cutAP_eq (i : Fin 16) : KBy.picked #[65, 66, 67, 68, 69, 70, 71, 72, 73, 74, 75, 76, 77, 78, 79, 80] (some (i.val : Int)) (some ((i.val : Int) + 1)) = #[UInt8.ofNat (65 + i.val)] := by
  revert i
  decide +kernel

theorem cutAP {value slice : PySem.Expr} {t u1 u2 : Tok} {news : List (Addr × Obj)} {k : Int} {Q : Value → Shared → Prop} (hF : Fr h₀ L s.heap m) (hN : News h₀ L s.heap news) (h0 : 0 ≤ k) (h1 : k < 16)
    (h : ∀ h' t' tk, Fr h₀ L h' m → News h₀ L h' news → Q (.bytes #[UInt8.ofNat (65 + k.toNat)] t') { s with heap := h', toks := tk })
    (hs : subscripted slice false (.bytes #[65, 66, 67, 68, 69, 70, 71, 72, 73, 74, 75, 76, 77, 78, 79, 80] t) (.ref s.heap.objs.size) = operate [.ref s.heap.objs.size, .bytes #[65, 66, 67, 68, 69, 70, 71, 72, 73, 74, 75, 76, 77, 78, 79, 80] t] (getItem (.bytes #[65, 66, 67, 68, 69, 70, 71, 72, 73, 74, 75, 76, 77, 78, 79, 80] t) (.ref s.heap.objs.size)) := by with_unfolding_all rfl)
    (ht : ∀ r, letTemporaryGo value (.bytes #[65, 66, 67, 68, 69, 70, 71, 72, 73, 74, 75, 76, 77, 78, 79, 80] t) r = pure () := by intro _; with_unfolding_all rfl) :
    wpAny (model prog w) A (subscriptTail value slice (.bytes #[65, 66, 67, 68, 69, 70, 71, 72, 73, 74, 75, 76, 77, 78, 79, 80] t) (.ref s.heap.objs.size)) Q E { s with heap := s.heap.push { cls := .type "slice", data := .fields #[.int k u1, .int (k + 1) u2, .none] } } := by
  have e := cutAP_eq ⟨k.toNat, by omega⟩
  have e2 : ((k.toNat : Nat) : Int) = k := by omega
  dsimp only at e
  rw [e2] at e
  refine KBc.slice_K (lo := some k) (hi := some (k + 1)) hF hN rfl (by constructor) (by constructor) (by decide) (fun h' t' tk F' N' _ => ?_) hs ht
  rw [e]
  exact h h' t' tk F' N'
end
end Mine
end
section
open PySem PySem.W PyProof.Rows PySem.Calls PySem.Spec PyProof.V
namespace Mine
section
variable {prog : Program} {w : World} {A : Around} {E : Value → Shared → Prop} {s : Shared} {env : Env} {h₀ : Heap} {x : PySem.Str} {body orelse : List Stmt} {Q : Flow → Shared → Prop}

def ElseAt (prog : Program) (w : World) (A : Around) (env : Env) (x : PySem.Str) (px : Pos) (body orelse : List Stmt) (Q : Flow → Shared → Prop) (E : Value → Shared → Prop) (it : Value) (s₂ : Shared) : Prop :=
  codeAny (model prog w) A (.forLoop (.Name x px) it body orelse env) (fun r s' => match r with | .ok f => Q f s' | .error e => cameBackBy (model prog w) A env E e s') s₂

theorem For_else {px pos : Pos} {iter : PySem.Expr}
    (h : wpAny (model prog w) A (eval iter env) (fun xv s₁ => wpAny (model prog w) A (pyIter xv) (fun it s₂ => ElseAt prog w A env x px body orelse Q E it s₂) E s₁) E s)
    (hs : ∀ x, foldedSetIterable iter env x = pure x := by intro _; rfl) :
    wpAny (model prog w) A (exec (.For (.Name x px) iter body orelse pos) env) Q E s := wpAny_For h hs

theorem else_range {px : Pos} {r : Addr} {t₀ u₀ v₀ : Tok} {n : Nat} {m₀ : PySem.Str → Option Value} {news : List (Addr × Obj)} (J : Nat → (PySem.Str → Option Value) → List (Addr × Obj) → Prop)
    (hh : A.handled = none) (hx : env.kindOf x = some .local) (hp : (env.scope.kind == .class || (env.scope.kind == .module && env.locals != env.globals)) = false)
    (hr : IsRange s.heap r 0 (n : Int) 1 t₀ u₀ v₀) (hsmall : Builtin.Range.small 0 (n : Int) 1 = true) (hn : Builtin.Range.rangeSize 0 (n : Int) 1 = (n : Int))
    (F : Fr h₀ env.locals s.heap m₀) (N : News h₀ env.locals s.heap news) (hj : J 0 m₀ news)
    (turn : ∀ (i : Nat) t m₁ nx h tk own, i < n → nx.map (·.1) = news.map (·.1) → OwnOff own (news.map (·.1)) → J i m₁ nx → Fr h₀ env.locals h (fun y => if y = x then some (.int (i : Int) t) else m₁ y) → News h₀ env.locals h (nx ++ own) →
      wpAny (model prog w) A (execs body env) (InvPostN h₀ env.locals (J (i + 1)) own (news.map (·.1)) { s with heap := h, toks := tk } Q) E { s with heap := h, toks := tk })
    (done : ∀ m₁ nx h tk, J n m₁ nx → Fr h₀ env.locals h m₁ → News h₀ env.locals h nx → wpAny (model prog w) A (execs orelse env) Q E { s with heap := h, toks := tk })
    (hE : PassesOwn (model prog w) A env E := by passes_own) :
    wpAny (model prog w) A (pyIter (.ref r)) (fun it s₂ => ElseAt prog w A env x px body orelse Q E it s₂) E s := by
  refine wpAny_pyIter_range hr hsmall ?_
  unfold ElseAt
  have hIL : env.locals ≠ s.heap.objs.size := Nat.ne_of_lt F.ns.lt
  have hI₀ : h₀.get? s.heap.objs.size = none := next_is_new F
  generalize hI : s.heap.objs.size = I at hIL hI₀
  have W : Walks prog w A I [I] [I] n (fun i v => i < n ∧ ∃ t, v = .int (0 + i * 1) t)
      (fun i h => IsRangeIter h I (0 + (i : Nat) * 1) ((n : Int) - (i : Nat)) 1) := (Walks.range hh I 0 1 n).bound
  have hnw : ∀ p ∈ news, p.1 ≠ I := fun p hp => by rw [← hI]; exact Nat.ne_of_lt (Heap.lt_size (N p hp).1)
  have hnw' : ∀ nx : List (Addr × Obj), nx.map (·.1) = news.map (·.1) → ∀ p ∈ nx, p.1 ≠ I := fun nx e p hp q => by
    have h1 : p.1 ∈ nx.map (·.1) := List.mem_map.mpr ⟨p, hp, rfl⟩
    rw [e] at h1
    obtain ⟨p', hp', e'⟩ := List.mem_map.mp h1
    exact hnw p' hp' (e'.trans q)
  refine codeAny_forLoop
    (fun k s' => ∃ h' tk m' nx i, s' = { s with heap := h', toks := tk } ∧ IsRangeIter h' I (0 + (i : Nat) * 1) ((n : Int) - (i : Nat)) 1 ∧ Fr h₀ env.locals h' m' ∧ News h₀ env.locals h' nx ∧ nx.map (·.1) = news.map (·.1) ∧ J i m' nx ∧ i ≤ n ∧ k = n + 1 - i) ?_ (n + 1)
    ⟨_, s.toks, m₀, news, 0, rfl, (by show IsRangeIter _ _ _ _ _; rw [hn, ← hI]; simpa using Heap.get?_push_size _ rfl), F.push _, (fun p hp => ⟨Heap.get?_push_of_some _ (N p hp).1, (N p hp).2⟩), rfl, hj, Nat.zero_le _, rfl⟩
  rintro k s' ⟨h', tk, m', nx, i, rfl, st, F', N', ha, hJ, hi, rfl⟩
  have next : ∀ h₁ : Heap, (∀ b o, b ∉ [I] → h'.get? b = some o → h₁.get? b = some o) → Fr h₀ env.locals h₁ m' ∧ News h₀ env.locals h₁ nx := fun h₁ hk₁ =>
    ⟨LCg.fr_but F' hk₁ hIL hI₀, LCg.news_but N' hk₁ (hnw' nx ha)⟩
  by_cases hlt : i < n
  · refine W.item i _ _ _ hlt st fun v h₁ tk₁ hP st₁ hk₁ => ?_
    obtain ⟨_, t, rfl⟩ := hP
    obtain ⟨F₁, N₁⟩ := next h₁ hk₁
    refine wpAny_assign_Name (wpAny_storeName_local hx F₁.ns (fun h₂ hn₂ hs₂ => ?_) hp)
    have e0 : (0 + (i : Int) * 1) = (i : Int) := by omega
    have F₂ := F₁.set hn₂ hs₂
    rw [e0] at F₂
    have N₂ : News h₀ env.locals h₂ nx := N₁.set hs₂
    have st₂ : IsRangeIter h₂ I (0 + ((i + 1 : Nat) : Int) * 1) ((n : Int) - ((i + 1 : Nat) : Int)) 1 := W.frame (i + 1) _ _ st₁ fun b hb o e => hs₂.extBut b o (fun q => hIL (by rw [← q]; exact List.mem_singleton.mp hb)) e
    obtain ⟨oI, heI⟩ : ∃ o, h₂.get? I = some o := ⟨_, st₂⟩
    have hoff : OwnOff [(I, oI)] (news.map (·.1)) := by
      intro p hp b hb e
      rw [List.mem_singleton.mp hp] at e
      obtain ⟨q, hq, rfl⟩ := List.mem_map.mp hb
      exact hnw q hq e.symm
    have N₃ : News h₀ env.locals h₂ (nx ++ [(I, oI)]) := fun p hp => by
      rcases List.mem_append.mp hp with hp | hp
      · exact N₂ p hp
      · rw [List.mem_singleton.mp hp]
        exact ⟨heI, Ne.symm hIL, hI₀⟩
    refine wpAny_mono (wpAny_passesOwn hE (turn i t m' nx h₂ _ [(I, oI)] hlt ha hoff hJ F₂ N₃)) (fun f s₃ h₃ => ?_) fun _ _ e => e
    have fin : ∀ tkx, InvEndN h₀ env.locals (J (i + 1)) [(I, oI)] (news.map (·.1)) { s with heap := h₂, toks := tkx } s₃ → ∃ m, m < n + 1 - i ∧ ∃ h' tk m' nx j, s₃ = { s with heap := h', toks := tk } ∧ IsRangeIter h' I (0 + (j : Nat) * 1) ((n : Int) - (j : Nat)) 1 ∧ Fr h₀ env.locals h' m' ∧ News h₀ env.locals h' nx ∧ nx.map (·.1) = news.map (·.1) ∧ J j m' nx ∧ j ≤ n ∧ m = n + 1 - j := by
      rintro tkx ⟨h₄, tk₄, m₄, news₄, nx₄, rfl, F₄, N₄, hn₄, ho₄, ha₄, hJ₄⟩
      refine ⟨n + 1 - (i + 1), by omega, h₄, tk₄, m₄, nx₄, i + 1, rfl, ?_, F₄, fun p hp => N₄ p (hn₄ p hp), ha₄, hJ₄, hlt, rfl⟩
      have e4 : h₄.get? I = some oI := (N₄ (I, oI) (ho₄ _ (List.mem_singleton.mpr rfl))).1
      exact LCg.range_st (h₀ := h₀) (L := env.locals) (i + 1) h₂ h₄ oI news₄ st₂ heI e4 F₄.keep N₄ trivial
    cases f with
    | ret v => exact h₃
    | brk => exact h₃
    | next => exact fin _ h₃
    | cont => exact fin _ h₃
  · obtain rfl : i = n := Nat.le_antisymm hi (Nat.not_lt.mp hlt)
    refine W.done _ _ _ st fun h₁ tk₁ hk₁ => ?_
    obtain ⟨F₁, N₁⟩ := next h₁ hk₁
    exact wpAny_passesOwn hE (done m' nx h₁ tk₁ hJ F₁ N₁)
end
end Mine
namespace Mine
open PySem.Builtin
section
variable {prog : Program} {w : World} {A : Around} {E : Value → Shared → Prop} {s : Shared} {env : Env} {h₀ : Heap} {body orelse : List Stmt} {Q : Flow → Shared → Prop}
theorem pf_loop {px : Pos} {r D : Addr} {t₀ u₀ v₀ : Tok} {m₀ : PySem.Str → Option Value} {news : List (Addr × Obj)} {fl₀ : Int} {tf cap₀ : Nat} (PF : Nat → Int → List PySem.Str → Prop)
    (hh : A.handled = none) (hx : env.kindOf (Str.ofString "i") = some .local) (hp : (env.scope.kind == .class || (env.scope.kind == .module && env.locals != env.globals)) = false)
    (hr : IsRange s.heap r 0 32 1 t₀ u₀ v₀)
    (F : Fr h₀ env.locals s.heap m₀) (N : News h₀ env.locals s.heap ((D, listOf ([] : List Value).toArray cap₀) :: news)) (hf : m₀ (Str.ofString "flags") = some (.int fl₀ tf)) (hj : PF 0 fl₀ [])
    (turn : ∀ (i : Nat) fl tfl vs ns cap t (u : PySem.Str → Option Value) h tk own, i < 32 → OwnOff own (D :: news.map (·.1)) → StrsAre vs ns → PF i fl ns →
      Fr h₀ env.locals h (fun y => if y = Str.ofString "i" then some (.int (i : Int) t) else if y = Str.ofString "flags" then some (.int fl tfl) else if [Str.ofString "flag"].contains y then u y else m₀ y) →
      News h₀ env.locals h ((D, listOf vs.toArray cap) :: (news ++ own)) →
      wpAny (model prog w) A (execs body env) (InvPostN h₀ env.locals (KstS (fun c : (Int × Nat × List Value × List PySem.Str × Nat) => (D, listOf c.2.2.1.toArray c.2.2.2.2) :: news) (fun c => [(Str.ofString "flags", .int c.1 c.2.1)]) (fun c => StrsAre c.2.2.1 c.2.2.2.1) (Str.ofString "i") [Str.ofString "flag"] m₀ (fun _ c => PF (i + 1) c.1 c.2.2.2.1) []) own (D :: news.map (·.1)) { s with heap := h, toks := tk } Q) E { s with heap := h, toks := tk })
    (done : ∀ fl tfl vs ns cap (u : PySem.Str → Option Value) h tk, StrsAre vs ns → PF 32 fl ns →
      Fr h₀ env.locals h (fun y => if y = Str.ofString "i" then u y else if y = Str.ofString "flags" then some (.int fl tfl) else if [Str.ofString "flag"].contains y then u y else m₀ y) →
      News h₀ env.locals h ((D, listOf vs.toArray cap) :: news) →
      wpAny (model prog w) A (execs orelse env) Q E { s with heap := h, toks := tk })
    (hE : PassesOwn (model prog w) A env E := by passes_own) :
    wpAny (model prog w) A (pyIter (.ref r)) (fun it s₂ => ElseAt prog w A env (Str.ofString "i") px body orelse Q E it s₂) E s := by
  refine else_range (n := 32) (fun i m nx => KstS (fun c : (Int × Nat × List Value × List PySem.Str × Nat) => (D, listOf c.2.2.1.toArray c.2.2.2.2) :: news) (fun c => [(Str.ofString "flags", .int c.1 c.2.1)]) (fun c => StrsAre c.2.2.1 c.2.2.2.1) (Str.ofString "i") [Str.ofString "flag"] m₀ (fun _ c => PF i c.1 c.2.2.2.1) [] m nx)
    hh hx hp hr (by decide) (by decide) F N ⟨(fl₀, tf, [], [], cap₀), rfl, StrsAre.nil, ?_, fun _ _ _ _ => rfl, hj⟩ ?_ ?_ hE
  · intro p hp'
    rw [List.mem_singleton.mp hp']
    exact hf
  · rintro i t m₁ nx h tk own hi _ hoff ⟨⟨fl, tfl, vs, ns, cap⟩, rfl, hf', h1, h2, hp'⟩ F₁ N₁
    exact turn i fl tfl vs ns cap t m₁ h tk own hi hoff hf' hp' (kst_fr h1 h2 F₁) N₁
  · rintro m₁ nx h tk ⟨⟨fl, tfl, vs, ns, cap⟩, rfl, hf', h1, h2, hp'⟩ F₁ N₁
    exact done fl tfl vs ns cap m₁ h tk hf' hp' (kst_frOut h1 h2 F₁) N₁
end
end Mine
namespace Mine
section
theorem pf_end {h₀ : Heap} {L D : Addr} {news own : List (Addr × Obj)} {vs' : List Value} {cap' tfl' tk : Nat} {fl' : Int} {ns' : List PySem.Str} {m₀ m' : PySem.Str → Option Value} {h' : Heap} {s₁ : Shared} {PP : List Int → (Int × Nat × List Value × List PySem.Str × Nat) → Prop}
    (F : Fr h₀ L h' m') (N : News h₀ L h' ((D, W.listOf vs'.toArray cap') :: (news ++ own))) (hS : StrsAre vs' ns') (hk : m' (Str.ofString "flags") = some (.int fl' tfl'))
    (hr : ∀ z, z ≠ Str.ofString "i" → (∀ p ∈ [(Str.ofString "flags", Value.int fl' tfl')], z ≠ p.1) → [Str.ofString "flag"].contains z = false → m' z = m₀ z) (hp : PP [] (fl', tfl', vs', ns', cap')) :
    InvEndN h₀ L (KstS (fun c : (Int × Nat × List Value × List PySem.Str × Nat) => (D, W.listOf c.2.2.1.toArray c.2.2.2.2) :: news) (fun c => [(Str.ofString "flags", .int c.1 c.2.1)]) (fun c => StrsAre c.2.2.1 c.2.2.2.1) (Str.ofString "i") [Str.ofString "flag"] m₀ PP []) own (D :: news.map (·.1)) s₁ { s₁ with heap := h', toks := tk } :=
  InvEndN.intro F N ⟨(fl', tfl', vs', ns', cap'), rfl, hS, (fun p hp' => by rw [List.mem_singleton.mp hp']; exact hk), hr, hp⟩ rfl
    (fun p hp' => by
      rcases List.mem_cons.mp hp' with rfl | hp'
      · exact List.mem_cons_self
      · exact List.mem_cons_of_mem _ (List.mem_append.mpr (.inl hp')))
    (fun p hp' => List.mem_cons_of_mem _ (List.mem_append.mpr (.inr hp')))
end
end Mine
end
section
open PySem PySem.W PyProof.Rows PySem.Calls PySem.Spec PyProof.V
namespace Mine
def tbl : List Int := [0, 1, 1, 2, 1, 2, 2, 3, 1, 2, 2, 3, 2, 3, 3, 4]
theorem pop_zero : pop 0 = 0 := by rw [pop]; simp
theorem pop_rec (n : Nat) : pop n = n % 2 + pop (n / 2) := by
  by_cases h : n = 0
  · subst h; simp [pop_zero]
  · rw [pop]; simp [h]
theorem digs_zero : digs 0 = [] := by rw [digs]; simp
theorem digs_rec {n : Nat} (h : n ≠ 0) : digs n = digs (n / 16) ++ [n % 16] := by
  rw [digs]; simp [h]
theorem digs_lt : ∀ (n : Nat), ∀ d ∈ digs n, d < 16 := by
  intro n
  induction n using Nat.strongRecOn with
  | ind n ih =>
    intro d hd
    by_cases h : n = 0
    · subst h; simp [digs_zero] at hd
    · rw [digs_rec h] at hd
      rcases List.mem_append.1 hd with hd | hd
      · exact ih (n / 16) (by omega) d hd
      · rw [List.mem_singleton.1 hd]; omega
theorem digs_len : ∀ (k n : Nat), n < 16 ^ k → (digs n).length ≤ k := by
  intro k
  induction k with
  | zero => intro n h; have : n = 0 := by simpa using h
            subst this; simp [digs_zero]
  | succ k ih =>
    intro n h
    by_cases h0 : n = 0
    · subst h0; simp [digs_zero]
    · rw [digs_rec h0, List.length_append]
      have := ih (n / 16) (by rw [Nat.pow_succ] at h; omega)
      simp; omega
theorem letters_size (N : Int) : (letters N).size = (digs N.toNat).length := by simp [letters]
theorem letters_size_le {N : Int} (h : N < 4294967296) : (letters N).size ≤ 8 := by
  rw [letters_size]
  exact digs_len 8 _ (by have : (16 : Nat) ^ 8 = 4294967296 := by decide
                         rw [this]; omega)
theorem letters_zero : letters 0 = #[] := by simp [letters, digs_zero]
theorem sz_ok {num N : Int} {c val : Array UInt8} (h : letters num ++ val = letters N) (hN : N < 4294967296) (hc : c.size = 1) : c.size + val.size ≤ 16777216 := by
  have e := congrArg Array.size h
  rw [Array.size_append] at e
  have := letters_size_le hN
  omega
theorem ap_start (N : Int) (h : 0 ≤ N) : 0 ≤ N ∧ letters N ++ #[] = letters N := ⟨h, by simp⟩
theorem fdiv16 {n : Int} (h : 0 ≤ n) : n.fdiv 16 = n / 16 := Int.fdiv_eq_ediv_of_nonneg n (by decide)
theorem fmod16 {n : Int} (h : 0 ≤ n) : n.fmod 16 = n % 16 := Int.fmod_eq_emod_of_nonneg n (by decide)
theorem letters_step {num : Int} (h0 : 0 ≤ num) (h1 : num ≠ 0) : letters (num.fdiv 16) ++ #[UInt8.ofNat (65 + (num.fmod 16).toNat)] = letters num := by
  rw [fdiv16 h0, fmod16 h0]
  unfold letters
  have e1 : (num / 16).toNat = num.toNat / 16 := by omega
  have e2 : (num % 16).toNat = num.toNat % 16 := by omega
  rw [e1, e2, digs_rec (n := num.toNat) (by omega)]
  simp
theorem ap_turn {num N : Int} {val : Array UInt8} (h0 : 0 ≤ num) (h : letters num ++ val = letters N) (h1 : num ≠ 0) : 0 ≤ num.fdiv 16 ∧ letters (num.fdiv 16) ++ (#[UInt8.ofNat (65 + (num.fmod 16).toNat)] ++ val) = letters N := by
  refine ⟨by rw [fdiv16 h0]; omega, ?_⟩
  rw [← Array.append_assoc, letters_step h0 h1, h]
theorem ap_less {num : Int} (h0 : 0 ≤ num) (h1 : num ≠ 0) : (num.fdiv 16).toNat < num.toNat := by
  rw [fdiv16 h0]; omega
theorem src_size {num N : Int} {val : Array UInt8} (h : letters num ++ val = letters N) (hN : N < 4294967296) : val.size ≤ 16 := by
  have e := congrArg Array.size h
  rw [Array.size_append] at e
  have := letters_size_le hN
  omega
theorem bInts_letters (N : Int) : KBw.bInts (letters N) = (digs N.toNat).map fun d => ((65 + d : Nat) : Int) := by
  unfold KBw.bInts letters
  simp only [List.map_map]
  refine List.map_congr_left fun d hd => ?_
  have := digs_lt _ d hd
  simp only [Function.comp_def]
  have e : (UInt8.ofNat (65 + d)).toNat = 65 + d := by rw [UInt8.toNat_ofNat']; omega
  rw [e]
theorem src_range {num N : Int} {val : Array UInt8} (h : letters num ++ val = letters N) : ∀ k ∈ KBw.bInts val, 65 ≤ k ∧ k ≤ 80 := by
  intro k hk
  have h2 : k ∈ KBw.bInts (letters N) := by
    rw [← h, KBw.ints_app rfl rfl]
    exact List.mem_append.2 (.inr hk)
  rw [bInts_letters] at h2
  obtain ⟨d, hd, rfl⟩ := List.mem_map.1 h2
  have := digs_lt _ d hd
  omega
theorem tbl_pop (d : Fin 16) : tbl.getD d.val 0 = ((d.val % 2 + d.val / 2 % 2 + d.val / 4 % 2 + d.val / 8 % 2 : Nat) : Int) := by
  revert d; decide
theorem pop16 (n : Nat) : ((pop n : Nat) : Int) = ((pop (n / 16) : Nat) : Int) + tbl.getD (n % 16) 0 := by
  have h := tbl_pop ⟨n % 16, by omega⟩
  dsimp only at h
  rw [h, pop_rec n, pop_rec (n / 2), pop_rec (n / 2 / 2), pop_rec (n / 2 / 2 / 2)]
  have e : n / 2 / 2 / 2 / 2 = n / 16 := by omega
  rw [e]
  omega
theorem digs_sum : ∀ n : Nat, ((digs n).map fun d => tbl.getD d 0).sum = ((pop n : Nat) : Int) := by
  intro n
  induction n using Nat.strongRecOn with
  | ind n ih =>
    by_cases h : n = 0
    · subst h; simp [digs_zero, pop_zero]
    · rw [digs_rec h, List.map_append, List.sum_append, ih (n / 16) (by omega), pop16 n]
      simp
theorem ones_end {num N V : Int} {val : Array UInt8} (h : letters num ++ val = letters (if V < 0 then -V else V)) (h1 : num = 0) (hV : 0 ≤ V ∧ V < 4294967296) : (List.map (fun k => tbl.getD (k - 65).toNat 0) (KBw.bInts val)).sum = ones V := by
  subst h1
  rw [letters_zero, Array.empty_append, if_neg (by omega)] at h
  subst h
  rw [bInts_letters, List.map_map]
  unfold ones
  rw [← digs_sum]
  congr 1
  refine List.map_congr_left fun d _ => ?_
  simp only [Function.comp_def]
  have e : (((65 + d : Nat) : Int) - 65).toNat = d := by omega
  rw [e]
end Mine
end
section
open PySem PySem.W PyProof.Rows PySem.Calls PySem.Spec PyProof.V
namespace Mine
theorem pop_le : ∀ (k n : Nat), n < 2 ^ k → pop n ≤ k := by
  intro k
  induction k with
  | zero => intro n h; have : n = 0 := by simpa using h
            subst this; simp [pop_zero]
  | succ k ih =>
    intro n h
    rw [pop_rec]
    have := ih (n / 2) (by rw [Nat.pow_succ] at h; omega)
    omega
theorem pop_pos : ∀ n : Nat, n ≠ 0 → 1 ≤ pop n := by
  intro n
  induction n using Nat.strongRecOn with
  | ind n ih =>
    intro h
    rw [pop_rec]
    by_cases h2 : n / 2 = 0
    · omega
    · have := ih (n / 2) (by omega) h2
      omega
theorem ones_fact {n : Int} (h : 0 ≤ n ∧ n < 4294967296) : 0 ≤ ones n ∧ ones n ≤ 32 ∧ ones n ≤ 32 * n := by
  unfold ones
  have h1 : pop n.toNat ≤ 32 := pop_le 32 _ (by have : (2 : Nat) ^ 32 = 4294967296 := by decide
                                                rw [this]; omega)
  by_cases h0 : n = 0
  · subst h0
    rw [show (0 : Int).toNat = 0 from rfl, pop_zero]
    omega
  · omega
-- taking the highest
def top (n : Int) : Int := ((2 ^ n.toNat.log2 : Nat) : Int)
theorem log2_half {n : Nat} (h : 2 ≤ n) : n.log2 = (n / 2).log2 + 1 := by
  rw [Nat.log2_def, if_pos h]
theorem pop_top : ∀ n : Nat, n ≠ 0 → 2 ^ n.log2 ≤ n ∧ pop (n - 2 ^ n.log2) + 1 = pop n := by
  intro n
  induction n using Nat.strongRecOn with
  | ind n ih =>
    intro h
    by_cases h2 : 2 ≤ n
    · obtain ⟨i1, i2⟩ := ih (n / 2) (by omega) (by omega)
      rw [log2_half h2, Nat.pow_succ]
      generalize 2 ^ (n / 2).log2 = p at i1 i2
      refine ⟨by omega, ?_⟩
      rw [pop_rec (n - p * 2), pop_rec n]
      have e1 : (n - p * 2) / 2 = n / 2 - p := by omega
      have e2 : (n - p * 2) % 2 = n % 2 := by omega
      rw [e1, e2]
      omega
    · have : n = 1 := by omega
      subst this
      rw [show Nat.log2 1 = 0 from by decide]
      rw [pop_rec 1]
      simp [pop_zero]
theorem taken_turn {n number turns : Int} (h0 : 0 ≤ number) (h1 : number < 4294967296) (h2 : turns + ones number = ones n) (h : 0 < number) : 0 ≤ number - top number ∧ number - top number < 4294967296 ∧ turns + 1 + ones (number - top number) = ones n := by
  obtain ⟨i1, i2⟩ := pop_top number.toNat (by omega)
  unfold top ones at *
  have e : (number - ((2 ^ number.toNat.log2 : Nat) : Int)).toNat = number.toNat - 2 ^ number.toNat.log2 := by omega
  rw [e]
  generalize 2 ^ number.toNat.log2 = p at *
  omega
theorem taken_less {number : Int} (h : 0 < number) : (number - top number).toNat < number.toNat := by
  obtain ⟨i1, _⟩ := pop_top number.toNat (by omega)
  unfold top
  have hp : 0 < 2 ^ number.toNat.log2 := Nat.pow_pos (by decide)
  generalize 2 ^ number.toNat.log2 = p at *
  omega
theorem taken_end {n number turns : Int} (h0 : 0 ≤ number) (h2 : turns + ones number = ones n) (h : ¬ 0 < number) : turns = ones n := by
  have : number = 0 := by omega
  subst this
  have e : ones 0 = 0 := by unfold ones; rw [show (0 : Int).toNat = 0 from rfl, pop_zero]; rfl
  omega
-- letters' number
def llen (x : Int) : Int := ((digs x.toNat).length : Int)
theorem log2_16 {n : Nat} (h : 16 ≤ n) : n.log2 = (n / 16).log2 + 4 := by
  rw [log2_half (n := n) (by omega), log2_half (n := n / 2) (by omega), log2_half (n := n / 2 / 2) (by omega), log2_half (n := n / 2 / 2 / 2) (by omega)]
  have e : n / 2 / 2 / 2 / 2 = n / 16 := by omega
  rw [e]
theorem digs_log : ∀ n : Nat, n ≠ 0 → (digs n).length = (n.log2 + 4) / 4 := by
  intro n
  induction n using Nat.strongRecOn with
  | ind n ih =>
    intro h
    rw [digs_rec h, List.length_append]
    by_cases h16 : 16 ≤ n
    · rw [ih (n / 16) (by omega) (by omega), log2_16 h16]
      simp only [List.length_nil, List.length_cons]
      omega
    · have e : n / 16 = 0 := by omega
      rw [e, digs_zero]
      have h4 : n.log2 < 4 := by
        have := (Nat.log2_lt h (k := 4)).2 (by omega)
        exact this
      simp only [List.length_nil, List.length_cons]
      omega
theorem llen_eq {x : Int} (h : 0 ≤ x ∧ x < 4294967296) : llen x = (((Builtin.Int.intBits x : Int) - 1) + 4).fdiv 4 ∧ 0 ≤ llen x ∧ llen x ≤ 8 := by
  have h8 : (digs x.toNat).length ≤ 8 := digs_len 8 _ (by have : (16 : Nat) ^ 8 = 4294967296 := by decide
                                                          rw [this]; omega)
  refine ⟨?_, by unfold llen; omega, by unfold llen; omega⟩
  unfold llen
  by_cases h0 : x = 0
  · subst h0
    rw [show (0 : Int).toNat = 0 from rfl, digs_zero]
    rfl
  · have e : Builtin.Int.intBits x = x.toNat.log2 + 1 := by
      unfold Builtin.Int.intBits
      have : (x == 0) = false := by simp; omega
      rw [this]
      have e2 : x.natAbs = x.toNat := by omega
      rw [e2]
      rfl
    rw [e, digs_log _ (by omega), Int.fdiv_eq_ediv_of_nonneg _ (by decide)]
    omega
theorem ap_val {num x : Int} {val : Array UInt8} (h : letters num ++ val = letters (if x < 0 then -x else x)) (h1 : num = 0) (hx : 0 ≤ x ∧ x < 4294967296) : val = letters x := by
  subst h1
  rw [letters_zero, Array.empty_append, if_neg (by omega)] at h
  exact h
theorem ap_size {num x : Int} {val : Array UInt8} (h : letters num ++ val = letters (if x < 0 then -x else x)) (h1 : num = 0) (hx : 0 ≤ x ∧ x < 4294967296) : (val.size : Int) = llen x := by
  rw [ap_val h h1 hx, letters_size]
  rfl
end Mine
end
section
open PySem PySem.W PyProof.Rows PySem.Calls PySem.Spec PyProof.V
namespace Mine
theorem and_half (a b : Nat) : a &&& b = 2 * ((a / 2) &&& (b / 2)) + (if a % 2 = 1 ∧ b % 2 = 1 then 1 else 0) := by
  have h := kbt_halves (a : Int) (b : Int)
  rw [bitAnd_pp (by omega) (by omega), show ((a : Int) / 2) = ((a / 2 : Nat) : Int) by omega, show ((b : Int) / 2) = ((b / 2 : Nat) : Int) by omega, bitAnd_pp (by omega) (by omega)] at h
  simp only [Int.toNat_natCast] at h
  by_cases hc : a % 2 = 1 ∧ b % 2 = 1
  · rw [if_pos hc]
    rw [if_pos (by omega)] at h
    omega
  · rw [if_neg hc]
    rw [if_neg (by omega)] at h
    omega
theorem and_laws : ∀ (k a b : Nat), a < 2 ^ k → b < 2 ^ k → (a &&& b) ≤ a ∧ (a &&& b) ≤ b ∧ a + b - (a &&& b) < 2 ^ k ∧ pop (a + b - (a &&& b)) + pop (a &&& b) = pop a + pop b ∧ pop (a + b - 2 * (a &&& b)) + 2 * pop (a &&& b) = pop a + pop b := by
  intro k
  induction k with
  | zero =>
    intro a b ha hb
    have h1 : a = 0 := by simpa using ha
    have h2 : b = 0 := by simpa using hb
    subst h1 h2
    simp [pop_zero]
  | succ k ih =>
    intro a b ha hb
    rw [Nat.pow_succ] at ha hb ⊢
    obtain ⟨i1, i2, i3, i4, i5⟩ := ih (a / 2) (b / 2) (by omega) (by omega)
    have e := and_half a b
    generalize (a &&& b) = A at *
    generalize (a / 2 &&& b / 2) = B at *
    rw [pop_rec (a + b - A), pop_rec A, pop_rec a, pop_rec b, pop_rec (a + b - 2 * A)]
    by_cases hc : a % 2 = 1 ∧ b % 2 = 1
    · rw [if_pos hc] at e
      have e1 : (a + b - A) / 2 = a / 2 + b / 2 - B := by omega
      have e2 : (a + b - A) % 2 = 1 := by omega
      have e3 : A / 2 = B := by omega
      have e4 : (a + b - 2 * A) / 2 = a / 2 + b / 2 - 2 * B := by omega
      have e5 : (a + b - 2 * A) % 2 = 0 := by omega
      rw [e1, e2, e3, e4, e5]
      omega
    · rw [if_neg hc] at e
      have e1 : (a + b - A) / 2 = a / 2 + b / 2 - B := by omega
      have e2 : (a + b - A) % 2 = a % 2 + b % 2 := by omega
      have e3 : A / 2 = B := by omega
      have e4 : (a + b - 2 * A) / 2 = a / 2 + b / 2 - 2 * B := by omega
      have e5 : (a + b - 2 * A) % 2 = a % 2 + b % 2 := by omega
      rw [e1, e2, e3, e4, e5]
      omega
theorem laws32 {x y : Int} (hx : 0 ≤ x ∧ x < 4294967296) (hy : 0 ≤ y ∧ y < 4294967296) : (x.toNat &&& y.toNat) ≤ x.toNat ∧ (x.toNat &&& y.toNat) ≤ y.toNat ∧ x.toNat + y.toNat - (x.toNat &&& y.toNat) < 4294967296 ∧ pop (x.toNat + y.toNat - (x.toNat &&& y.toNat)) + pop (x.toNat &&& y.toNat) = pop x.toNat + pop y.toNat ∧ pop (x.toNat + y.toNat - 2 * (x.toNat &&& y.toNat)) + 2 * pop (x.toNat &&& y.toNat) = pop x.toNat + pop y.toNat := by
  have e : (2 : Nat) ^ 32 = 4294967296 := by decide
  have := and_laws 32 x.toNat y.toNat (by rw [e]; omega) (by rw [e]; omega)
  rw [e] at this
  exact this
theorem and_in {x y : Int} (hx : 0 ≤ x ∧ x < 4294967296) (hy : 0 ≤ y ∧ y < 4294967296) : 0 ≤ Builtin.bitAnd x y ∧ Builtin.bitAnd x y < 4294967296 := by
  obtain ⟨h1, h2, _⟩ := laws32 hx hy
  rw [bitAnd_pp hx.1 hy.1]
  omega
theorem or_in {x y : Int} (hx : 0 ≤ x ∧ x < 4294967296) (hy : 0 ≤ y ∧ y < 4294967296) : (0 ≤ Builtin.bitOr x y ∧ Builtin.bitOr x y < 4294967296) ∧ ones (Builtin.bitAnd x y) + ones (Builtin.bitOr x y) = ones x + ones y := by
  obtain ⟨h1, h2, h3, h4, _⟩ := laws32 hx hy
  rw [bitOr_and, bitAnd_pp hx.1 hy.1]
  refine ⟨by omega, ?_⟩
  unfold ones
  have e : (x + y - ((x.toNat &&& y.toNat : Nat) : Int)).toNat = x.toNat + y.toNat - (x.toNat &&& y.toNat) := by omega
  rw [e, Int.toNat_natCast]
  omega
theorem xor_in {x y : Int} (hx : 0 ≤ x ∧ x < 4294967296) (hy : 0 ≤ y ∧ y < 4294967296) : (0 ≤ Builtin.bitXor x y ∧ Builtin.bitXor x y < 4294967296) ∧ ones (Builtin.bitXor x y) = ones x + ones y - 2 * ones (Builtin.bitAnd x y) := by
  obtain ⟨h1, h2, h3, _, h4⟩ := laws32 hx hy
  rw [bitXor_and, bitAnd_pp hx.1 hy.1]
  refine ⟨by omega, ?_⟩
  unfold ones
  have e : (x + y - 2 * ((x.toNat &&& y.toNat : Nat) : Int)).toNat = x.toNat + y.toNat - 2 * (x.toNat &&& y.toNat) := by omega
  rw [e, Int.toNat_natCast]
  omega
theorem and_self_nat (m : Nat) : m &&& m = m := Nat.and_self m
theorem single_nat : ∀ n : Nat, n ≠ 0 → ((n &&& (n - 1)) = 0 ↔ pop n = 1) := by
  intro n
  induction n using Nat.strongRecOn with
  | ind n ih =>
    intro h
    rw [and_half, pop_rec n]
    by_cases h2 : n % 2 = 1
    · have e1 : (n - 1) / 2 = n / 2 := by omega
      rw [e1, if_neg (by omega), Nat.and_self]
      by_cases h0 : n / 2 = 0
      · rw [h0, pop_zero]; omega
      · have := pop_pos (n / 2) h0
        omega
    · have e1 : (n - 1) / 2 = n / 2 - 1 := by omega
      rw [e1, if_neg (by omega)]
      have := ih (n / 2) (by omega) (by omega)
      omega
theorem single_eq {n : Int} (h : 0 ≤ n ∧ n < 4294967296) (h0 : n ≠ 0) : decide (Builtin.bitAnd n (n - 1) = 0) = decide (ones n = 1) := by
  unfold ones
  rw [bitAnd_pp h.1 (by omega)]
  have e : (n - 1).toNat = n.toNat - 1 := by omega
  have := single_nat n.toNat (by omega)
  rw [e]
  by_cases hp : pop n.toNat = 1
  · rw [decide_eq_true (by omega), decide_eq_true (by omega)]
  · rw [decide_eq_false (by omega), decide_eq_false (by omega)]
-- the letters of a power of two
def inBCEI (k : Array UInt8) : Bool := [[66], [67], [69], [73]].any fun c => c == k.toList
theorem digs_head : ∀ n : Nat, n ≠ 0 → ∃ d r, digs n = d :: r ∧ d ≠ 0 := by
  intro n
  induction n using Nat.strongRecOn with
  | ind n ih =>
    intro h
    rw [digs_rec h]
    by_cases h0 : n / 16 = 0
    · rw [h0, digs_zero]
      exact ⟨n % 16, [], rfl, by omega⟩
    · obtain ⟨d, r, e, hd⟩ := ih (n / 16) (by omega) h0
      rw [e]
      exact ⟨d, r ++ [n % 16], rfl, hd⟩
theorem pick_head (v : List UInt8) : (KBy.picked v.toArray none (some 1)).toList = v.take 1 := by
  rw [KBc.picked_eq]
  have hc : clipAt v.length 1 = min 1 v.length := KBc.clip_lit _ 1
  simp only [Option.elim, List.drop_zero, Nat.sub_zero, List.size_toArray]
  rw [hc]
  cases v with
  | nil => rfl
  | cons a r => simp [show min 1 (r.length + 1) = 1 by omega]
theorem pick_tail (v : List UInt8) : (KBy.picked v.toArray (some 1) none).toList = v.drop 1 := by
  rw [KBc.picked_eq]
  have hc : clipAt v.length 1 = min 1 v.length := KBc.clip_lit _ 1
  simp only [Option.elim, List.size_toArray]
  rw [hc]
  cases v with
  | nil => rfl
  | cons a r => simp [show min 1 (r.length + 1) = 1 by omega]
theorem bcei (d : Fin 16) : ([[66], [67], [69], [73]].any fun c => c == [UInt8.ofNat (65 + d.val)]) = decide (tbl.getD d.val 0 = 1) := by
  revert d; decide +kernel
theorem tbl_big (d : Fin 16) : 0 ≤ tbl.getD d.val 0 ∧ (tbl.getD d.val 0 = 0 ↔ d.val = 0) := by
  revert d; decide
theorem tail_sum : ∀ r : List Nat, (∀ d ∈ r, d < 16) → 0 ≤ (r.map fun d => tbl.getD d 0).sum ∧ ((r.map fun d => tbl.getD d 0).sum = 0 ↔ (r.map fun d => UInt8.ofNat (65 + d)) = List.replicate r.length 65)
  | [], _ => by simp
  | d :: r, h => by
    obtain ⟨i1, i2⟩ := tail_sum r fun x hx => h x (List.mem_cons_of_mem _ hx)
    have hd := h d List.mem_cons_self
    obtain ⟨b1, b2⟩ := tbl_big ⟨d, hd⟩
    dsimp only at b1 b2
    have hc : UInt8.ofNat (65 + d) = 65 ↔ d = 0 := by
      constructor
      · intro e
        have e2 := congrArg UInt8.toNat e
        rw [UInt8.toNat_ofNat'] at e2
        have e3 : (65 : UInt8).toNat = 65 := by decide
        rw [e3] at e2
        omega
      · intro e; subst e; rfl
    simp only [List.map_cons, List.sum_cons, List.length_cons, List.replicate_succ, List.cons.injEq]
    rw [hc]
    refine ⟨by omega, ?_⟩
    rw [← i2, ← b2]
    omega
theorem letters_list (x : Int) : letters x = ((digs x.toNat).map fun d => UInt8.ofNat (65 + d)).toArray := rfl
theorem alone_case {x : Int} (hx : 0 ≤ x ∧ x < 4294967296) : (x = 0 ∧ letters x = #[] ∧ ones x = 0) ∨ ∃ d r, digs x.toNat = d :: r ∧ d ≠ 0 ∧ d < 16 ∧ (∀ e ∈ r, e < 16) ∧ ones x = tbl.getD d 0 + (r.map fun d => tbl.getD d 0).sum := by
  by_cases h0 : x = 0
  · left
    subst h0
    refine ⟨rfl, letters_zero, ?_⟩
    unfold ones; rw [show (0 : Int).toNat = 0 from rfl, pop_zero]; rfl
  · right
    obtain ⟨d, r, e, hd⟩ := digs_head x.toNat (by omega)
    have hl := digs_lt x.toNat
    rw [e] at hl
    refine ⟨d, r, e, hd, hl d List.mem_cons_self, fun y hy => hl y (List.mem_cons_of_mem _ hy), ?_⟩
    unfold ones
    rw [← digs_sum, e]
    simp
theorem alone_no {num x : Int} {val : Array UInt8} (h : letters num ++ val = letters (if x < 0 then -x else x)) (h1 : num = 0) (hx : 0 ≤ x ∧ x < 4294967296) (hb : inBCEI (KBy.picked val none (some 1)) = false) : inBCEI (KBy.picked val none (some 1)) = decide (ones x = 1) := by
  have hv := ap_val h h1 hx
  subst hv
  rw [hb]
  rcases alone_case hx with ⟨_, _, h3⟩ | ⟨d, r, e, hd, hd16, hr, ho⟩
  · rw [h3]; rfl
  · unfold inBCEI at hb
    rw [letters_list, pick_head, e] at hb
    simp only [List.map_cons, List.take_succ_cons, List.take_zero] at hb
    have hk := bcei ⟨d, hd16⟩
    dsimp only at hk
    rw [hk] at hb
    have hne := of_decide_eq_false hb
    obtain ⟨b1, b2⟩ := tbl_big ⟨d, hd16⟩
    dsimp only at b1 b2
    have ht := (tail_sum r hr).1
    symm
    apply decide_eq_false
    omega
theorem alone_yes {num x : Int} {val : Array UInt8} (h : letters num ++ val = letters (if x < 0 then -x else x)) (h1 : num = 0) (hx : 0 ≤ x ∧ x < 4294967296) (hb : inBCEI (KBy.picked val none (some 1)) = true) :
    ((KBy.picked val (some 1) none).toList == ((List.replicate (llen x - 1).toNat [65]).flatten.toArray).toList) = decide (ones x = 1) := by
  have hv := ap_val h h1 hx
  subst hv
  rcases alone_case hx with ⟨_, h2, _⟩ | ⟨d, r, e, hd, hd16, hr, ho⟩
  · rw [h2] at hb
    exact absurd hb (by decide)
  · unfold inBCEI at hb
    rw [letters_list, pick_head, e] at hb
    simp only [List.map_cons, List.take_succ_cons, List.take_zero] at hb
    have hk := bcei ⟨d, hd16⟩
    dsimp only at hk
    rw [hk] at hb
    have h1 := of_decide_eq_true hb
    rw [letters_list, pick_tail, e]
    have hl : (llen x - 1).toNat = r.length := by
      unfold llen
      rw [e, List.length_cons]
      omega
    have hrep : ∀ n : Nat, (List.replicate n [(65 : UInt8)]).flatten = List.replicate n 65 := fun n => by
      induction n with
      | zero => rfl
      | succ n ih => rw [List.replicate_succ, List.flatten_cons, ih, List.replicate_succ]; rfl
    rw [hl, hrep]
    simp only [List.map_cons, List.drop_succ_cons, List.drop_zero]
    obtain ⟨t1, t2⟩ := tail_sum r hr
    rw [h1] at ho
    by_cases hz : (r.map fun d => UInt8.ofNat (65 + d)) = List.replicate r.length 65
    · rw [hz]
      have := t2.2 hz
      rw [decide_eq_true (by omega)]
      simp
    · have : (r.map fun d => tbl.getD d 0).sum ≠ 0 := fun hh => hz (t2.1 hh)
      rw [decide_eq_false (by omega)]
      exact beq_false_of_ne hz
end Mine
end
section
open PySem PySem.W PyProof.Rows PySem.Calls PySem.Spec PyProof.V
namespace Mine
def tblF : List (Int × PySem.Str) := [(1, ⟨#[79, 80, 84, 73, 77, 73, 90, 69, 68]⟩), (2, ⟨#[78, 69, 87, 76, 79, 67, 65, 76, 83]⟩), (4, ⟨#[86, 65, 82, 65, 82, 71, 83]⟩), (8, ⟨#[86, 65, 82, 75, 69, 89, 87, 79, 82, 68, 83]⟩), (16, ⟨#[78, 69, 83, 84, 69, 68]⟩), (32, ⟨#[71, 69, 78, 69, 82, 65, 84, 79, 82]⟩), (64, ⟨#[78, 79, 70, 82, 69, 69]⟩), (128, ⟨#[67, 79, 82, 79, 85, 84, 73, 78, 69]⟩), (256, ⟨#[73, 84, 69, 82, 65, 66, 76, 69, 95, 67, 79, 82, 79, 85, 84, 73, 78, 69]⟩), (512, ⟨#[65, 83, 89, 78, 67, 95, 71, 69, 78, 69, 82, 65, 84, 79, 82]⟩)]
def nmL (f : Int) : List (Int × PySem.Str) → PySem.Str
  | [] => baseText "0x" 16 f
  | p :: r => if f = p.1 then p.2 else nmL f r
def nmF (f : Int) : PySem.Str := nmL f tblF
def nms (n i : Nat) : List PySem.Str := ((List.range i).filter n.testBit).map fun j => nmF ((2 ^ j : Nat) : Int)
def told (n : Int) : PySem.Str := Txt.join (PySem.Str.ofString ", ") (if n = 0 then [baseText "0x" 16 0] else nms n.toNat 32)
def PF (n : Int) (i : Nat) (fl : Int) (ns : List PySem.Str) : Prop := (0 ≤ n ∧ n < 4294967296) ∧ (0 ≤ fl ∧ fl ≤ n ∧ fl.toNat = n.toNat / 2 ^ i * 2 ^ i) ∧ ns = nms n.toNat i ∧ (n ≠ 0 → fl ≠ 0)
def goodN (s : PySem.Str) : Bool := s.cps.toList.all (· != 44) && decide (s.cps.size ≤ 20) && decide (s.cps.toList ≠ [48, 120, 48])
theorem nm_good (j : Fin 32) : goodN (nmF ((2 ^ j.val : Nat) : Int)) = true := by
  revert j; decide +kernel
theorem nms_good {n i : Nat} (hi : i ≤ 32) : ∀ s ∈ nms n i, goodN s = true := by
  intro s hs
  obtain ⟨j, hj, rfl⟩ := List.mem_map.1 hs
  have hj2 := List.mem_range.1 (List.mem_filter.1 hj).1
  exact nm_good ⟨j, by omega⟩
theorem nms_len (n i : Nat) : (nms n i).length ≤ i := by
  unfold nms
  rw [List.length_map]
  have := List.length_filter_le n.testBit (List.range i)
  rw [List.length_range] at this
  exact this
theorem nms_succ (n i : Nat) : nms n (i + 1) = nms n i ++ (if n.testBit i then [nmF ((2 ^ i : Nat) : Int)] else []) := by
  unfold nms
  rw [List.range_succ, List.filter_append, List.map_append]
  congr 1
  cases h : n.testBit i <;> simp [h]
theorem nms_high {n i : Nat} (h : n < 2 ^ i) : ∀ m, nms n (i + m) = nms n i := by
  intro m
  induction m with
  | zero => rfl
  | succ m ih =>
    rw [show i + (m + 1) = (i + m) + 1 from rfl, nms_succ, ih]
    have : n.testBit (i + m) = false := Nat.testBit_lt_two_pow (Nat.lt_of_lt_of_le h (Nat.pow_le_pow_right (by decide) (by omega)))
    rw [this]
    simp
theorem flagE (i : Nat) : (1 * 2 ^ (i : Int).toNat : Int) = ((2 ^ i : Nat) : Int) := by simp
theorem testB (n i : Nat) : n.testBit i = decide (n / 2 ^ i % 2 = 1) := by
  rw [Nat.testBit_eq_decide_div_mod_eq]
theorem and_flag {fl : Int} {n i : Nat} (h0 : 0 ≤ fl) (h : fl.toNat = n / 2 ^ i * 2 ^ i) : Builtin.bitAnd fl ((2 ^ i : Nat) : Int) = ((n / 2 ^ i % 2 * 2 ^ i : Nat) : Int) := by
  rw [bitAnd_pp h0 (Int.natCast_nonneg _), Int.toNat_natCast, kbt_nat, h, Nat.mul_div_cancel _ (Nat.pow_pos (by decide))]
theorem half_pow (n i : Nat) : n / 2 ^ (i + 1) * 2 ^ (i + 1) + n / 2 ^ i % 2 * 2 ^ i = n / 2 ^ i * 2 ^ i := by
  rw [Nat.pow_succ, ← Nat.div_div_eq_div_mul]
  generalize n / 2 ^ i = q
  generalize 2 ^ i = p
  have hq : q = 2 * (q / 2) + q % 2 := by omega
  have e : q / 2 * (p * 2) + q % 2 * p = (2 * (q / 2) + q % 2) * p := by
    rw [Nat.add_mul, Nat.mul_comm p 2, ← Nat.mul_assoc, Nat.mul_comm (q / 2) 2]
  rw [e, ← hq]
theorem pf_start {n : Int} (h : 0 ≤ n ∧ n < 4294967296) : PF n 0 n [] :=
  ⟨h, ⟨h.1, Int.le_refl _, by simp⟩, rfl, fun h => h⟩
theorem app_fit {n : Int} {i : Nat} {fl : Int} {ns : List PySem.Str} {vs : List Value} (h : PF n i fl ns) (hi : i ≤ 32) (hs : StrsAre vs ns) : vs.toArray.size ≤ sizeLine := by
  rw [List.size_toArray, StrsAre.length hs, h.2.2.1, sizeLine_eq]
  have := nms_len n.toNat i
  omega
theorem pf_skip {n : Int} {i : Nat} {fl : Int} {ns : List PySem.Str} (h : PF n i fl ns) (hi : i < 32) (hb : Builtin.bitAnd fl (1 * 2 ^ (i : Int).toNat) = 0) : PF n (i + 1) fl ns := by
  obtain ⟨h1, ⟨h2, h3, h4⟩, h5, h6⟩ := h
  rw [flagE, and_flag h2 h4] at hb
  have hp : 0 < 2 ^ i := Nat.pow_pos (by decide)
  have hq : n.toNat / 2 ^ i % 2 = 0 := by
    rcases Nat.eq_zero_or_pos (n.toNat / 2 ^ i % 2) with h | h
    · exact h
    · have := Nat.mul_pos h hp
      omega
  have hh := half_pow n.toNat i
  rw [hq, Nat.zero_mul, Nat.add_zero] at hh
  refine ⟨h1, ⟨h2, h3, by rw [hh]; exact h4⟩, ?_, h6⟩
  rw [nms_succ, testB, hq, h5]
  simp
theorem bit_set {fl : Int} {n i : Nat} (h2 : 0 ≤ fl) (h4 : fl.toNat = n / 2 ^ i * 2 ^ i) (hb : Builtin.bitAnd fl (1 * 2 ^ (i : Int).toNat) ≠ 0) : n / 2 ^ i % 2 = 1 ∧ Builtin.bitXor fl (1 * 2 ^ (i : Int).toNat) = ((n / 2 ^ (i + 1) * 2 ^ (i + 1) : Nat) : Int) := by
  rw [flagE] at hb ⊢
  rw [bitXor_and, and_flag h2 h4]
  rw [and_flag h2 h4] at hb
  have hq : n / 2 ^ i % 2 = 1 := by
    rcases Nat.lt_or_ge (n / 2 ^ i % 2) 1 with h | h
    · have : n / 2 ^ i % 2 = 0 := by omega
      rw [this] at hb
      simp at hb
    · omega
  refine ⟨hq, ?_⟩
  have hh := half_pow n i
  rw [hq, Nat.one_mul] at hh ⊢
  omega
theorem pf_take {n : Int} {i : Nat} {fl : Int} {ns : List PySem.Str} (h : PF n i fl ns) (hi : i < 32) (hb : Builtin.bitAnd fl (1 * 2 ^ (i : Int).toNat) ≠ 0) (hx : Builtin.bitXor fl (1 * 2 ^ (i : Int).toNat) ≠ 0) : PF n (i + 1) (Builtin.bitXor fl (1 * 2 ^ (i : Int).toNat)) (ns ++ [nmF (1 * 2 ^ (i : Int).toNat)]) := by
  obtain ⟨h1, ⟨h2, h3, h4⟩, h5, h6⟩ := h
  obtain ⟨hq, hxe⟩ := bit_set h2 h4 hb
  have hh := half_pow n.toNat i
  refine ⟨h1, ⟨by rw [hxe]; omega, by rw [hxe]; omega, by rw [hxe]; omega⟩, ?_, fun _ => hx⟩
  rw [nms_succ, testB, hq, h5, flagE]
  simp
theorem pf_brk {n : Int} {i : Nat} {fl : Int} {ns : List PySem.Str} (h : PF n i fl ns) (hi : i < 32) (hb : Builtin.bitAnd fl (1 * 2 ^ (i : Int).toNat) ≠ 0) (hx : Builtin.bitXor fl (1 * 2 ^ (i : Int).toNat) = 0) : Txt.join (PySem.Str.ofString ", ") (ns ++ [nmF (1 * 2 ^ (i : Int).toNat)]) = told n := by
  obtain ⟨h1, ⟨h2, h3, h4⟩, h5, h6⟩ := h
  obtain ⟨hq, hxe⟩ := bit_set h2 h4 hb
  rw [hxe] at hx
  have hp : 0 < 2 ^ (i + 1) := Nat.pow_pos (by decide)
  have hz : n.toNat / 2 ^ (i + 1) = 0 := by
    rcases Nat.eq_zero_or_pos (n.toNat / 2 ^ (i + 1)) with h | h
    · exact h
    · have := Nat.mul_pos h hp
      omega
  have hlt : n.toNat < 2 ^ (i + 1) := by
    rcases Nat.div_eq_zero_iff.1 hz with h | h
    · omega
    · exact h
  have hn : n ≠ 0 := by
    intro e
    subst e
    simp at hq
  unfold told
  rw [if_neg hn]
  have e32 : nms n.toNat 32 = nms n.toNat (i + 1) := by
    have := nms_high hlt (32 - (i + 1))
    rw [show i + 1 + (32 - (i + 1)) = 32 by omega] at this
    exact this
  rw [e32, nms_succ, testB, hq, h5, flagE]
  simp
theorem pf_zero {n : Int} {fl : Int} {ns : List PySem.Str} (h : PF n 32 fl ns) : n = 0 ∧ fl = 0 ∧ ns = [] := by
  obtain ⟨h1, ⟨h2, h3, h4⟩, h5, h6⟩ := h
  have e : (2 : Nat) ^ 32 = 4294967296 := by decide
  rw [e, Nat.div_eq_of_lt (by omega), Nat.zero_mul] at h4
  have hf : fl = 0 := by omega
  have hn : n = 0 := by
    by_cases hn : n = 0
    · exact hn
    · exact absurd hf (h6 hn)
  refine ⟨hn, hf, ?_⟩
  subst hn
  rw [h5]
  decide
theorem pf_els {n : Int} {fl : Int} {ns : List PySem.Str} (h : PF n 32 fl ns) : Txt.join (PySem.Str.ofString ", ") (ns ++ [baseText "0x" 16 fl]) = told n := by
  obtain ⟨rfl, rfl, rfl⟩ := pf_zero h
  unfold told
  rw [if_pos rfl]
  rfl
theorem good_len {s : PySem.Str} (h : goodN s = true) : s.length ≤ 20 := by
  unfold goodN at h
  simp only [Bool.and_eq_true, decide_eq_true_eq] at h
  exact h.1.2
theorem sum_len : ∀ l : List PySem.Str, (∀ s ∈ l, s.length ≤ 20) → (l.map (·.length)).sum ≤ 20 * l.length
  | [], _ => by simp
  | a :: l, h => by
    have := sum_len l fun s hs => h s (List.mem_cons_of_mem _ hs)
    have ha := h a List.mem_cons_self
    simp only [List.map_cons, List.sum_cons, List.length_cons]
    omega
theorem pf_w1 {n : Int} {i : Nat} {fl : Int} {ns : List PySem.Str} (h : PF n i fl ns) (hi : i < 32) : ((ns ++ [nmF (1 * 2 ^ (i : Int).toNat)]).map (·.length)).sum + (ns ++ [nmF (1 * 2 ^ (i : Int).toNat)]).length ≤ 1048576 := by
  have hs := sum_len (ns ++ [nmF (1 * 2 ^ (i : Int).toNat)]) (by
    intro s hs
    rcases List.mem_append.1 hs with hs | hs
    · rw [h.2.2.1] at hs
      exact good_len (nms_good (by omega) s hs)
    · rw [List.mem_singleton.1 hs, flagE]
      exact good_len (nm_good ⟨i, hi⟩))
  have hl := nms_len n.toNat i
  rw [← h.2.2.1] at hl
  rw [List.length_append, List.length_singleton] at *
  omega
theorem hex0 : (baseText "0x" 16 0).cps = #[48, 120, 48] := by decide +kernel
theorem pf_w2 {n : Int} {fl : Int} {ns : List PySem.Str} (h : PF n 32 fl ns) : ((ns ++ [baseText "0x" 16 fl]).map (·.length)).sum + (ns ++ [baseText "0x" 16 fl]).length ≤ 1048576 := by
  obtain ⟨rfl, rfl, rfl⟩ := pf_zero h
  have e : (baseText "0x" 16 0).length = 3 := by
    show (baseText "0x" 16 0).cps.size = 3
    rw [hex0]; rfl
  simp [e]
end Mine
end
section
open PySem PySem.W PyProof.Rows PySem.Calls PySem.Spec PyProof.V
open PySem.Builtin PySem.Builtin.Str
namespace Mine
def joinL : List (List Nat) → List Nat
  | [] => []
  | [x] => x
  | x :: r => x ++ 44 :: 32 :: joinL r
theorem sepE : PySem.Str.ofString ", " = ⟨#[44, 32]⟩ := by decide +kernel
theorem join_toList : ∀ ns : List PySem.Str, (PySem.Str.join ⟨#[44, 32]⟩ ns).cps.toList = joinL (ns.map (·.cps.toList))
  | [] => rfl
  | [x] => rfl
  | x :: y :: r => by
    have ih := join_toList (y :: r)
    show ((x ++ (⟨#[44, 32]⟩ : PySem.Str)) ++ PySem.Str.join ⟨#[44, 32]⟩ (y :: r)).cps.toList = x.cps.toList ++ 44 :: 32 :: joinL ((y :: r).map (·.cps.toList))
    rw [← ih, PySem.Str.cps_append, PySem.Str.cps_append]
    simp
theorem told_toList (n : Int) : (told n).cps.toList = joinL ((if n = 0 then [baseText "0x" 16 0] else nms n.toNat 32).map (·.cps.toList)) := by
  rw [← join_toList]
  unfold told Txt.join
  rw [sepE, StrLaws.glued_eq_join]
def Spaced (l : List Nat) : Prop := ∀ k : Nat, l[k]? = some 44 → l[k + 1]? = some 32
theorem joinL_spaced : ∀ ls : List (List Nat), (∀ l ∈ ls, 44 ∉ l) → Spaced (joinL ls)
  | [], _ => fun k h => by simp [joinL] at h
  | [x], hx => fun k h => absurd (List.mem_of_getElem? h) (hx x List.mem_cons_self)
  | x :: y :: r, hx => fun k h => by
    have ih := joinL_spaced (y :: r) fun l hl => hx l (List.mem_cons_of_mem _ hl)
    have hx0 := hx x List.mem_cons_self
    show (x ++ 44 :: 32 :: joinL (y :: r))[k + 1]? = some 32
    have h' : (x ++ 44 :: 32 :: joinL (y :: r))[k]? = some 44 := h
    by_cases h1 : k < x.length
    · rw [List.getElem?_append_left h1] at h'
      exact absurd (List.mem_of_getElem? h') hx0
    · rw [List.getElem?_append_right (by omega)] at h' ⊢
      obtain ⟨m, hm⟩ : ∃ m, k = x.length + m := ⟨k - x.length, by omega⟩
      subst hm
      rw [show x.length + m - x.length = m by omega] at h'
      rw [show x.length + m + 1 - x.length = m + 1 by omega]
      match m with
      | 0 => rfl
      | 1 => simp at h'
      | m + 2 => exact ih m (by simpa using h')
theorem joinL_count : ∀ ls : List (List Nat), (∀ l ∈ ls, 44 ∉ l) → (joinL ls).count 44 = ls.length - 1
  | [], _ => rfl
  | [x], hx => List.count_eq_zero.2 (hx x List.mem_cons_self)
  | x :: y :: r, hx => by
    have ih := joinL_count (y :: r) fun l hl => hx l (List.mem_cons_of_mem _ hl)
    show (x ++ 44 :: 32 :: joinL (y :: r)).count 44 = _
    rw [List.count_append, List.count_eq_zero.2 (hx x List.mem_cons_self), List.count_cons_self, List.count_cons_of_ne (by decide), ih]
    simp only [List.length_cons]
    omega
theorem at_iff {x : PySem.Str} (hs : Spaced x.cps.toList) (k : Nat) : StrLaws.At x ⟨#[44, 32]⟩ x.length k ↔ x.cps.toList[k]? = some 44 := by
  unfold StrLaws.At
  rw [StrLaws.subAt_eq]
  show (k + 2 ≤ x.cps.size ∧ ((x.cps.toList.drop k).take 2 == [44, 32]) = true) ↔ _
  rw [← Array.length_toList]
  constructor
  · rintro ⟨h1, h2⟩
    have h3 := eq_of_beq h2
    have h4 : ((x.cps.toList.drop k).take 2)[0]? = some 44 := by rw [h3]; rfl
    rw [List.getElem?_take_of_lt (by decide), List.getElem?_drop, Nat.add_zero] at h4
    exact h4
  · intro h
    have h2 := hs k h
    obtain ⟨hlt, he⟩ := List.getElem?_eq_some_iff.1 h2
    obtain ⟨hlt1, he1⟩ := List.getElem?_eq_some_iff.1 h
    refine ⟨by omega, ?_⟩
    rw [List.drop_eq_getElem_cons hlt1, List.drop_eq_getElem_cons hlt, he, he1]
    rfl
theorem cnt_none {l : List Nat} {a : Nat} (h : ∀ k, a ≤ k → l[k]? ≠ some 44) : (l.drop a).count 44 = 0 := by
  refine List.count_eq_zero.2 fun hm => ?_
  obtain ⟨j, hj⟩ := List.getElem?_of_mem hm
  rw [List.getElem?_drop] at hj
  exact h (a + j) (by omega) hj
theorem cnt_skip {l : List Nat} {c : Nat} : ∀ (m a : Nat), a + m = c → (∀ k, a ≤ k → k < c → l[k]? ≠ some 44) → (l.drop a).count 44 = (l.drop c).count 44
  | 0, a, e, _ => by rw [show c = a by omega]
  | m + 1, a, e, h => by
    rw [← cnt_skip m (a + 1) (by omega) fun k h1 h2 => h k (by omega) h2]
    by_cases hl : a < l.length
    · rw [List.drop_eq_getElem_cons hl, List.count_cons_of_ne]
      intro e2
      exact h a (Nat.le_refl _) (by omega) (by rw [List.getElem?_eq_getElem hl, e2])
    · rw [List.drop_eq_nil_of_le (by omega), List.drop_eq_nil_of_le (by omega)]
theorem chain_count {x : PySem.Str} (hs : Spaced x.cps.toList) : ∀ (cuts : List Nat) (a f : Nat), StrLaws.ChainG x ⟨#[44, 32]⟩ x.length a cuts f → (∀ k, f ≤ k → ¬ StrLaws.At x ⟨#[44, 32]⟩ x.length k) → cuts.length = (x.cps.toList.drop a).count 44
  | [], a, f, h, hn => by
    have e : f = a := h
    subst e
    rw [cnt_none fun k hk hh => hn k hk ((at_iff hs k).2 hh)]
    rfl
  | c :: r, a, f, h, hn => by
    obtain ⟨h1, h2, h3, h4⟩ := h
    have ih := chain_count hs r (c + 2) f h4 hn
    rw [cnt_skip (c := c) (c - a) a (by omega) fun k k1 k2 hh => h3 k k1 k2 ((at_iff hs k).2 hh)]
    have hc := (at_iff hs c).1 h2
    have hc2 := hs c hc
    obtain ⟨hlt, he⟩ := List.getElem?_eq_some_iff.1 hc2
    obtain ⟨hlt1, he1⟩ := List.getElem?_eq_some_iff.1 hc
    rw [List.drop_eq_getElem_cons hlt1, List.drop_eq_getElem_cons hlt, he, he1, List.count_cons_self, List.count_cons_of_ne (by decide), List.length_cons, ih]
theorem split_count {x : PySem.Str} (hs : Spaced x.cps.toList) : (Txt.split x ⟨#[44, 32]⟩).length = x.cps.toList.count 44 + 1 := by
  obtain ⟨f, hG, hn⟩ := StrLaws.occ_tight x ⟨#[44, 32]⟩ (by decide)
  have hc := chain_count hs _ 0 f hG hn
  rw [List.drop_zero] at hc
  have hk : PySem.Builtin.Str.strKind ⟨#[44, 32]⟩ = 1 := by decide +kernel
  have hkx : 1 ≤ PySem.Builtin.Str.strKind x := by
    unfold PySem.Builtin.Str.strKind
    split
    · omega
    · split <;> omega
  unfold Txt.split
  split
  · rename_i h1
    have hlen : x.length < 2 := by
      rw [hk] at h1
      simp only [Bool.or_eq_true, decide_eq_true_eq] at h1
      rcases h1 with h1 | h1
      · exact h1
      · omega
    have h0 : x.cps.toList.count 44 = 0 := by
      refine List.count_eq_zero.2 fun hm => ?_
      obtain ⟨j, hj⟩ := List.getElem?_of_mem hm
      have hj2 := hs j hj
      obtain ⟨hlt, _⟩ := List.getElem?_eq_some_iff.1 hj2
      rw [Array.length_toList] at hlt
      have : x.cps.size < 2 := hlen
      omega
    rw [h0]
    rfl
  · split
    · rename_i h2
      rw [List.isEmpty_iff.1 h2] at hc
      rw [← hc]
      rfl
    · rw [len_partsBetween, ← hc]
theorem good_no44 {s : PySem.Str} (h : goodN s = true) : 44 ∉ s.cps.toList := by
  unfold goodN at h
  simp only [Bool.and_eq_true] at h
  intro hm
  have := List.all_eq_true.1 h.1.1 44 hm
  exact absurd this (by decide)
theorem nms_no44 {n i : Nat} (hi : i ≤ 32) : ∀ l ∈ (nms n i).map (·.cps.toList), 44 ∉ l := by
  intro l hl
  obtain ⟨s, hs, rfl⟩ := List.mem_map.1 hl
  exact good_no44 (nms_good hi s hs)
theorem filter_pop : ∀ (k n : Nat), n < 2 ^ k → ((List.range k).filter n.testBit).length = pop n := by
  intro k
  induction k with
  | zero => intro n h; have : n = 0 := by simpa using h
            subst this; simp [pop_zero]
  | succ k ih =>
    intro n h
    rw [List.range_succ_eq_map, List.filter_cons, List.filter_map]
    have e : (n.testBit ∘ Nat.succ) = (n / 2).testBit := by
      funext j
      show n.testBit (j + 1) = (n / 2).testBit j
      rw [Nat.testBit_succ]
    rw [e, pop_rec n]
    have ih' := ih (n / 2) (by rw [Nat.pow_succ] at h; omega)
    have hb : n.testBit 0 = decide (n % 2 = 1) := by rw [testB]; simp
    rw [hb]
    by_cases h2 : n % 2 = 1
    · rw [h2]
      simp [ih']
      omega
    · have : n % 2 = 0 := by omega
      rw [this]
      simp [ih']
theorem nms_pop {x : Int} (h : 0 ≤ x ∧ x < 4294967296) : ((nms x.toNat 32).length : Int) = ones x := by
  unfold nms ones
  rw [List.length_map, filter_pop 32 _ (by have : (2 : Nat) ^ 32 = 4294967296 := by decide
                                           rw [this]; omega)]
theorem told_spaced (x : Int) (h0 : x ≠ 0) : Spaced (told x).cps.toList := by
  rw [told_toList, if_neg h0]
  exact joinL_spaced _ (nms_no44 (Nat.le_refl _))
theorem told_count (x : Int) (h0 : x ≠ 0) : (told x).cps.toList.count 44 = (nms x.toNat 32).length - 1 := by
  rw [told_toList, if_neg h0, joinL_count _ (nms_no44 (Nat.le_refl _)), List.length_map]
theorem nms_pos {x : Int} (h : 0 ≤ x ∧ x < 4294967296) (h0 : x ≠ 0) : 1 ≤ (nms x.toNat 32).length := by
  have e := nms_pop h
  have := pop_pos x.toNat (by omega)
  unfold ones at e
  omega
theorem told_parts {x : Int} (h : 0 ≤ x ∧ x < 4294967296) (h0 : x ≠ 0) : ((Txt.split (told x) (PySem.Str.ofString ", ")).length : Int) = ones x := by
  rw [sepE, split_count (told_spaced x h0), told_count x h0, ← nms_pop h]
  have := nms_pos h h0
  omega
theorem told_len (x : Int) (h : 0 ≤ x ∧ x < 4294967296) : (told x).length + 2 ≤ sizeLine := by
  unfold told Txt.join
  rw [StrLaws.glued_eq_join]
  refine Nat.le_trans (Nat.add_le_add_right (StrLaws.join_length_le _ _) 2) ?_
  rw [sepE, sizeLine_eq]
  show _ + _ * 2 + 2 ≤ _
  by_cases h0 : x = 0
  · rw [if_pos h0]
    have e : (baseText "0x" 16 0).length = 3 := by
      show (baseText "0x" 16 0).cps.size = 3
      rw [hex0]; rfl
    simp [e]
  · rw [if_neg h0]
    have h1 := sum_len (nms x.toNat 32) fun s hs => good_len (nms_good (Nat.le_refl _) s hs)
    have h2 := nms_len x.toNat 32
    omega
theorem told_ne {x : Int} (h : 0 ≤ x ∧ x < 4294967296) (h0 : x ≠ 0) : told x ≠ PySem.Str.ofString "0x0" := by
  intro e
  have e0 : (PySem.Str.ofString "0x0").cps.toList = [48, 120, 48] := by decide +kernel
  have hc := told_count x h0
  rw [e, e0] at hc
  have hp := nms_pos h h0
  have h1 : (nms x.toNat 32).length = 1 := by
    have : List.count 44 [48, 120, 48] = 0 := by decide
    omega
  obtain ⟨s, hs⟩ := List.length_eq_one_iff.1 h1
  have hg := nms_good (n := x.toNat) (Nat.le_refl 32) s (by rw [hs]; exact List.mem_singleton.2 rfl)
  have ht := told_toList x
  rw [if_neg h0, hs, e, e0] at ht
  unfold goodN at hg
  simp only [Bool.and_eq_true, decide_eq_true_eq] at hg
  exact hg.2 ht.symm
theorem told_zero {x : Int} (h : 0 ≤ x ∧ x < 4294967296) : (told x == PySem.Str.ofString "0x0") = decide (x = 0) := by
  by_cases h0 : x = 0
  · subst h0
    decide +kernel
  · rw [decide_eq_false h0]
    exact beq_false_of_ne (told_ne h h0)
end Mine
end
section
open PySem PySem.W PyProof.Rows PySem.Calls PySem.Spec PyProof.V
namespace Mine
theorem top_eq {n : Int} (h0 : 0 < n) : (1 * 2 ^ ((Builtin.Int.intBits n : Int) - 1).toNat : Int) = top n := by
  have e : Builtin.Int.intBits n = n.toNat.log2 + 1 := by
    unfold Builtin.Int.intBits
    have : (n == 0) = false := by simp; omega
    rw [this]
    have e2 : n.natAbs = n.toNat := by omega
    rw [e2]
    rfl
  rw [e]
  unfold top
  have e3 : (((n.toNat.log2 + 1 : Nat) : Int) - 1).toNat = n.toNat.log2 := by omega
  rw [e3]
  simp
theorem taken_start {n : Int} (h : 0 ≤ n ∧ n < 4294967296) : 0 ≤ n ∧ n < 4294967296 ∧ 0 + ones n = ones n := ⟨h.1, h.2, by omega⟩
theorem flag_in {i : Nat} (h : i < 32) : 0 ≤ (1 * 2 ^ (i : Int).toNat : Int) ∧ (1 * 2 ^ (i : Int).toNat : Int) < 4294967296 := by
  have e : (1 * 2 ^ (i : Int).toNat : Int) = ((2 ^ i : Nat) : Int) := by simp
  have h2 : 2 ^ i ≤ 2 ^ 31 := Nat.pow_le_pow_right (by decide) (by omega)
  rw [e]
  generalize 2 ^ i = q at h2
  omega
theorem pf_in {n : Int} {i : Nat} {fl : Int} {ns : List PySem.Str} (h : PF n i fl ns) : 0 ≤ fl ∧ fl < 4294967296 := by
  obtain ⟨h1, ⟨h2, h3, _⟩, _⟩ := h
  omega
def JoinPost (N : PySem.Str) (s : Shared) : Value → Shared → Prop := fun r s' => (∃ t, r = .str N t) ∧ ∃ k, s' = { s with toks := k }
section
variable {prog : Program} {w : World} {A : Around} {E : Value → Shared → Prop} {s : Shared} {h₀ : Heap} {L D : Addr} {news : List (Addr × Obj)} {Q : Value → Shared → Prop}
theorem joinR {vs : List Value} {ns : List PySem.Str} {x : PySem.Str} {t tj : Tok} {cap : Nat}
    (N : News h₀ L s.heap news) (hm : (D, W.listOf (vs.toArray.push (.str x t)) cap) ∈ news) (hi : StrsAre vs ns) (hw : ((ns ++ [x]).map (·.length)).sum + (ns ++ [x]).length ≤ 1048576)
    (h : ∀ t' k, Q (.str (Txt.join (PySem.Str.ofString ", ") (ns ++ [x])) t') { s with toks := k }) : wpAny (model prog w) A (call (.builtin "str.join") [.str (PySem.Str.ofString ", ") tj, .ref D]) Q E s :=
  join_listW (N.isList hm) (by rw [List.push_toArray, List.toList_toArray]; exact StrsAre.append' hi (.cons _ _ .nil)) (by decide) hw h
theorem shlH {n : Int} {t u : Tok} (h0 : 0 < n) (h1 : n < 4294967296) (h : ∀ t', Q (.int (top n) t') { s with toks := s.toks + 1 }) :
    wpAny (model prog w) A (binaryOp .LShift (.int 1 t) (.int ((Builtin.Int.intBits n : Int) - 1) u)) Q E s := by
  have e : Builtin.Int.intBits n ≠ 0 := by
    unfold Builtin.Int.intBits
    have : (n == 0) = false := by simp; omega
    rw [this]
    simp
  have e2 : Builtin.Int.intBits n ≤ 32 := intBits_le (k := 32) (by omega)
  refine lshift_int_small (by omega) (by omega) (by decide) ?_
  rw [top_eq h0]
  exact h _
theorem hexR {i : Int} {t : Tok} (hb : 0 ≤ i ∧ i < 4294967296) (h : Q (.str (baseText "0x" 16 i) s.toks) { s with toks := s.toks + 1 }) :
    wpAny (model prog w) A (call (.builtin "hex") [.int i t]) Q E s := P.hex_of_int h (baseText_under (by decide) (by decide) (by omega))
theorem get_join {d : Value} {i : Int} {t : Tok} {v : Value} (h1 : wpAny (model prog w) A (call (.builtin "dict.get") [d, .int i t, v]) (JoinPost (nmF i) s) E s) (h2 : ∀ t' k, Q (.str (nmF i) t') { s with toks := k }) :
    wpAny (model prog w) A (call (.builtin "dict.get") [d, .int i t, v]) Q E s := wpAny_mono h1 (fun r s' h => by obtain ⟨⟨t, rfl⟩, k, rfl⟩ := h; exact h2 t k) fun _ _ e => e
theorem each_nm {g : Heap} {f : Int} {P : Value → Prop} {els : Prop} : ∀ (L : List (Int × PySem.Str)), (∀ t, P (.str (nmL f L) t)) → ((∀ t, P (.str (baseText "0x" 16 f) t)) → els) → KTD.Each g f P els (L.map fun p => (p.1, KTD.Dat.flat (.str p.2)))
  | [], h, he => he h
  | p :: L, h, he => by
    show if decide (f = p.1) = true then KTD.Opened g P (KTD.Dat.flat (.str p.2)) else KTD.Each g f P els (L.map fun p => (p.1, KTD.Dat.flat (.str p.2)))
    by_cases hf : f = p.1
    · rw [if_pos (decide_eq_true hf)]
      intro t
      have := h t
      unfold nmL at this
      rwa [if_pos hf] at this
    · rw [if_neg (by simp [hf])]
      refine each_nm L (fun t => ?_) he
      have := h t
      unfold nmL at this
      rwa [if_neg hf] at this
end
end Mine
end
section
open PySem PySem.W PyProof.Rows PySem.Calls PySem.Spec PyProof.V
namespace Mine
theorem single_zero {n : Int} (h : n = 0) : false = decide (ones n = 1) := by subst h; unfold ones; rw [show (0 : Int).toNat = 0 from rfl, pop]; simp
theorem val_small {num N : Int} {val : Array UInt8} (h : letters num ++ val = letters N) (hN : N < 4294967296) : val.size ≤ 16777216 := Nat.le_trans (src_size h hN) (by decide)
theorem eqGives_bytes (b c : Array UInt8) (t u : Tok) : MeetsSeq.EqGives (.bytes b t) (.bytes c u) (b.toList == c.toList) := by
  intro prog w A E s Q h
  unfold eqBool
  refine wpAny_holding ?_
  refine wpAny_ite_split (fun hab => ?_) (fun hab => ?_)
  · have e : b = c := by have := eq_of_beq hab; injection this
    subst e
    exact wpAny_bind (wpAny_rule (wpAny_pure (by simpa using h)))
  · exact wpAny_bind (richCompare_gives (typeIs_bytes s b t) (typeIs_bytes s c u) FB.slot_bytes_eq FB.entry_bytes_eq (FB.args_bytes_eq_2 _ _) (gives_bytes_eq b c t u) (by simp [Made.takes]) (wpAny_truthy_bool h))
def isB (k : Array UInt8) : Value → Bool
  | .bytes b _ => b.toList == k.toList
  | _ => false
def AlonePost (h₀ : Heap) (L : Addr) (m : PySem.Str → Option Value) (news : List (Addr × Obj)) (s : Shared) (b : Bool) : Value → Shared → Prop := fun r s' => r = .bool b ∧ ∃ h' k, s' = { s with heap := h', toks := k } ∧ Fr h₀ L h' m ∧ News h₀ L h' news
theorem int_eq {a b : Int} {t : Tok} (h : a = b) : Value.int a t = Value.int b t := by rw [h]
def IfPost (h₀ : Heap) (L : Addr) (m : PySem.Str → Option Value) (news : List (Addr × Obj)) (s : Shared) (b : Int) : Value → Shared → Prop := fun r s' => ∃ t, r = .int b t ∧ ∃ h' k, s' = { s with heap := h', toks := k } ∧ Fr h₀ L h' m ∧ News h₀ L h' news
section
variable {prog : Program} {w : World} {A : Around} {E : Value → Shared → Prop} {s : Shared} {h₀ : Heap} {L D : Addr} {m : PySem.Str → Option Value} {news : List (Addr × Obj)} {Q : Value → Shared → Prop}
theorem in_four {k : Array UInt8} {t t1 t2 t3 t4 : Tok} {cap : Nat} (N : News h₀ L s.heap news) (hm : (D, W.listOf #[.bytes #[66] t1, .bytes #[67] t2, .bytes #[69] t3, .bytes #[73] t4] cap) ∈ news)
    (h : Q (.bool (inBCEI k)) s) : wpAny (model prog w) A (compareOp .In (.bytes k t) (.ref D)) Q E s := by
  refine SeqInW.in_listW (isB k) (fun y hy => ?_) (N.isList hm) (by rw [← Array.any_toList]; exact h)
  simp only [List.mem_toArray, List.mem_cons, List.not_mem_nil, or_false] at hy
  rcases hy with rfl | rfl | rfl | rfl <;> exact eqGives_bytes _ _ _ _
theorem eqT {x : Int} {t u : Tok} (hx : 0 ≤ x ∧ x < 4294967296) (h : 0 ≤ ones x → ones x ≤ 32 → ones x ≤ 32 * x → Q (.bool (decide (x = 0))) s) : wpAny (model prog w) A (compareOp .Eq (.str (told x) t) (.str (PySem.Str.ofString "0x0") u)) Q E s := by
  refine eq_str ?_
  rw [told_zero hx]
  exact h (ones_fact hx).1 (ones_fact hx).2.1 (ones_fact hx).2.2
theorem splitT {x : Int} {t u : Tok} (hF : Fr h₀ L s.heap m) (hN : News h₀ L s.heap news) (hx : 0 ≤ x ∧ x < 4294967296) (h0 : x ≠ 0)
    (h : ∀ D l h' k, ((strValues l).length : Int) = ones x → Fr h₀ L h' m → News h₀ L h' ((D, W.listOf (strValues l).toArray 0) :: news) → (∀ p ∈ news, p.1 < D) → Q (.ref D) { s with heap := h', toks := k }) :
    wpAny (model prog w) A (call (.builtin "str.split") [.str (told x) t, .str (PySem.Str.ofString ", ") u]) Q E s :=
  KSpl.split1 hF hN (by decide) (fun D l h' k e _ F N l1 => h D l h' k (by
    rw [← told_parts hx h0, ← e]
    simp [strValues]) F N l1) (told_len x hx)
theorem lenT {x : Int} {l : List (PySem.Str × Tok)} (N : News h₀ L s.heap news) (hm : (D, W.listOf (strValues l).toArray 0) ∈ news) (hk : ((strValues l).length : Int) = ones x) (hb : ones x ≤ 32)
    (h : ∀ t k, Q (.int (ones x) t) { s with toks := k }) : wpAny (model prog w) A (call (.builtin "len") [.ref D]) Q E s := by
  refine kst_len N hm rfl (by omega) ?_
  rw [hk]
  exact h _ _
theorem lenAP {num x : Int} {val : Array UInt8} {t : Tok} (hv : letters num ++ val = letters (if x < 0 then -x else x)) (h1 : num = 0) (hx : 0 ≤ x ∧ x < 4294967296)
    (h : ∀ t k, llen x = (((Builtin.Int.intBits x : Int) - 1) + 4).fdiv 4 → 0 ≤ llen x → llen x ≤ 8 → Q (.int (llen x) t) { s with toks := k }) : wpAny (model prog w) A (call (.builtin "len") [.bytes val t]) Q E s := by
  have e := ap_size hv h1 hx
  obtain ⟨e1, e2, e3⟩ := llen_eq hx
  refine len_bytes (by omega) ?_
  rw [e]
  exact h _ _ e1 e2 e3
theorem alone_join {e : PySem.Expr} {env : Env} {b : Bool} (F₉ : Fr h₀ L s.heap m) (N₉ : News h₀ L s.heap news) (h1 : wpAny (model prog w) A (eval e env) (AlonePost h₀ L m news s b) E s)
    (h2 : ∀ h' k, Fr h₀ L h' m → News h₀ L h' news → Q (.bool b) { s with heap := h', toks := k }) : wpAny (model prog w) A (eval e env) Q E s :=
  wpAny_mono h1 (fun r s' h => by obtain ⟨rfl, h', k, rfl, F', N'⟩ := h; exact h2 h' k F' N') fun _ _ e => e
theorem if_join {e : PySem.Expr} {env : Env} {b : Int} (F₉ : Fr h₀ L s.heap m) (N₉ : News h₀ L s.heap news) (h1 : wpAny (model prog w) A (eval e env) (IfPost h₀ L m news s b) E s)
    (h2 : ∀ h' t k, Fr h₀ L h' m → News h₀ L h' news → Q (.int b t) { s with heap := h', toks := k }) : wpAny (model prog w) A (eval e env) Q E s :=
  wpAny_mono h1 (fun r s' h => by obtain ⟨t, rfl, h', k, rfl, F', N'⟩ := h; exact h2 h' t k F' N') fun _ _ e => e
theorem andR {x y : Int} {t u : Tok} (hx : 0 ≤ x ∧ x < 4294967296) (hy : 0 ≤ y ∧ y < 4294967296) (h : ∀ t k, 0 ≤ Builtin.bitAnd x y → Builtin.bitAnd x y < 4294967296 → Q (.int (Builtin.bitAnd x y) t) { s with toks := k }) :
    wpAny (model prog w) A (binaryOp .BitAnd (.int x t) (.int y u)) Q E s := and_int (h _ _ (and_in hx hy).1 (and_in hx hy).2)
theorem orR {x y : Int} {t u : Tok} (hx : 0 ≤ x ∧ x < 4294967296) (hy : 0 ≤ y ∧ y < 4294967296) (h : ∀ t k, 0 ≤ Builtin.bitOr x y → Builtin.bitOr x y < 4294967296 → ones (Builtin.bitAnd x y) + ones (Builtin.bitOr x y) = ones x + ones y → Q (.int (Builtin.bitOr x y) t) { s with toks := k }) :
    wpAny (model prog w) A (binaryOp .BitOr (.int x t) (.int y u)) Q E s := or_int (h _ _ (or_in hx hy).1.1 (or_in hx hy).1.2 (or_in hx hy).2)
theorem xorR {x y : Int} {t u : Tok} (hx : 0 ≤ x ∧ x < 4294967296) (hy : 0 ≤ y ∧ y < 4294967296) (h : ∀ t k, 0 ≤ Builtin.bitXor x y → Builtin.bitXor x y < 4294967296 → ones (Builtin.bitXor x y) = ones x + ones y - 2 * ones (Builtin.bitAnd x y) → Q (.int (Builtin.bitXor x y) t) { s with toks := k }) :
    wpAny (model prog w) A (binaryOp .BitXor (.int x t) (.int y u)) Q E s := xor_int (h _ _ (xor_in hx hy).1.1 (xor_in hx hy).1.2 (xor_in hx hy).2)
end
end Mine
end
open PySem PySem.W PyProof.Rows
local macro_rules | `(tactic| walk_at "call builtin:dict.get") => `(tactic| (k_here; (fail_if_success (with_reducible show wpAny _ _ _ (Mine.JoinPost _ _) _ _)); ((refine' Mine.get_join ?a ?b); (case a => ((walk_at "call builtin:dict.get"); all_goals ((with_unfolding_all exact Mine.each_nm Mine.tblF (fun t => ⟨⟨t, rfl⟩, _, rfl⟩) (fun h => h))))); intro _ _)))
local macro_rules | `(tactic| walk_at "binaryOp LShift int int") => `(tactic| (k_here; (with_reducible show wpAny _ _ (binaryOp Operator.LShift (Value.int _ _) (Value.int ((Builtin.Int.intBits _ : Int) - 1) _)) _ _ _); (refine Mine.shlH (by omega) (by omega) ?_); intro _))
local macro_rules | `(tactic| walk_at "compareOp Eq str str") => `(tactic| (k_here; (with_reducible show wpAny _ _ (compareOp CmpOp.Eq (Value.str (Mine.told _) _) (Value.str _ _)) _ _ _); (refine Mine.eqT (by omega) ?_); intro hE1 hE2 hE3))
local macro_rules | `(tactic| walk_at "call builtin:str.split") => `(tactic| (k_here; (with_reducible show wpAny _ _ (call (Value.builtin "str.split") [Value.str (Mine.told _) _, _]) _ _ _); k_dflt (refine' Mine.splitT ?k1 ?k2 ?k3 ?k4 ?_; (case k1 => k_asm); (case k2 => k_asm); (case k3 => omega); (case k4 => omega); k_whole); intro D' l' h' k' hk' F' N' l1; (try k_lt l1)))
local macro_rules | `(tactic| walk_at "call builtin:len") => `(tactic| (k_here; (with_reducible show wpAny _ _ (call (Value.builtin "len") [Value.ref _]) _ _ _); k_dflt (refine' Mine.lenT ?k1 ?k2 ?k3 ?k4 ?_; (case k1 => k_asm); (case k2 => k_memK); (case k3 => assumption); (case k4 => omega); k_whole); intro _ _))
local macro_rules | `(tactic| walk_at "call builtin:len") => `(tactic| (k_here; (with_reducible show wpAny _ _ (call (Value.builtin "len") [Value.bytes _ _]) _ _ _); k_dflt (refine' Mine.lenAP ?k1 ?k2 ?k3 ?_; (case k1 => assumption); (case k2 => assumption); (case k3 => omega); k_whole); intro _ _ hL1 hL2 hL3))
local macro_rules | `(tactic| walk_at "binaryOp BitAnd int int") => `(tactic| (k_here; k_dflt (refine' Mine.andR ?k1 ?k2 ?_; (case k1 => omega); (case k2 => omega); k_whole); intro _ _ hN1 hN2))
local macro_rules | `(tactic| walk_at "binaryOp BitOr int int") => `(tactic| (k_here; k_dflt (refine' Mine.orR ?k1 ?k2 ?_; (case k1 => omega); (case k2 => omega); k_whole); intro _ _ hO1 hO2 hO3))
local macro_rules | `(tactic| walk_at "binaryOp BitXor int int") => `(tactic| (k_here; k_dflt (refine' Mine.xorR ?k1 ?k2 ?_; (case k1 => omega); (case k2 => omega); k_whole); intro _ _ hX1 hX2 hX3))
local macro_rules | `(tactic| walk_at "subscriptTail Name Slice bytes ref") => `(tactic| (k_here; (with_reducible show wpAny _ _ (subscriptTail _ (Expr.Slice _ _ none _) (Value.bytes _ _) (Value.ref _)) _ _ _); (with_reducible rename Fr _ _ _ _ => F'); (with_reducible rename News _ _ _ _ => N'); (refine KBc.slice_K (s := ⟨_, _, _, _, _⟩) F' N' rfl (by constructor) (by constructor) (by rw [KBw.ints_length]; exact Mine.val_small (by assumption) (by split <;> omega)) ?_); intro _ _ _ _ _ _))
local macro_rules | `(tactic| walk_at "InvEndN") => `(tactic| (k_here; (rename News _ _ _ _ => nE'); k_dflt (refine' kst_end () ?a nE' ?b ?c ?d True.intro (List.forall_mem_nil _) ?e ?f; (case a => assumption); (case b => kst_in); (case c => intro p hp; kst_mem); (case d => rfl); (case e => kst_same); (case f => exact True.intro))))
local macro_rules | `(tactic| k_room) => `(tactic| ktr_room)
set_option maxRecDepth 100000 in
set_option maxHeartbeats 8000000 in
theorem PySem.Challenge.cw_xh0002_01_holds : PySem.Challenge.rw_xh0002_01.Holds := by
  k_with "pyIter ref" => k_search (fun _ => True)
  k_with "subscriptTail Name Name ref int" => (k_dflt (refine' Mine.item32N ?k0 ?k1 ?k2 ?k3 ?k4 ?k5 ?k6 ?_; (case k0 => k_asm); (case k1 => k_memK); (case k2 => assumption); (case k3 => simp only [List.length_map] at *; omega); (case k4 => simp only [List.length_map] at *; omega); (case k5 => simp only [List.length_map] at *; omega); (case k6 => exact Mine.all32 _)); intro xA tA hA0 hA1; (try dsimp only))
  k_with "subscriptTail Name BinOp ref int" => (k_dflt (refine' Mine.item32N ?k0 ?k1 ?k2 ?k3 ?k4 ?k5 ?k6 ?_; (case k0 => k_asm); (case k1 => k_memK); (case k2 => assumption); (case k3 => simp only [List.length_map] at *; omega); (case k4 => simp only [List.length_map] at *; omega); (case k5 => simp only [List.length_map] at *; omega); (case k6 => exact Mine.all32 _)); intro xB tB hB0 hB1; (try dsimp only))
  k_with "call ref" => k_call_by "_law_ones" Mine.ones (fun n => 0 ≤ n ∧ n < 4294967296)
  k_with "call ref" => k_call_by "_law_taken" Mine.ones (fun n => 0 ≤ n ∧ n < 4294967296)
  k_with "call ref" => k_call_by "pretty_flags" Mine.told (fun n => 0 ≤ n ∧ n < 4294967296)
  k_with "call ref" => k_call_by "_is_single_bit" (fun n => decide (Mine.ones n = 1)) (fun n => 0 ≤ n ∧ n < 4294967296)
  k_with "exec While Name cons nil" => k_while_given ["num!"] (fun n0 _ num val => 0 ≤ num ∧ Mine.letters num ++ val = Mine.letters n0) (fun _ _ num _ => num.toNat) "num" "val"
  k_with "subscriptTail Name Slice bytes ref" => ((with_reducible rename Fr _ _ _ _ => F'); (with_reducible rename News _ _ _ _ => N'); (refine Mine.cutAP (s := ⟨_, _, _, _, _⟩) F' N' (fmod_lo _ (by decide)) (fmod_hi _ (by decide)) ?_); intro _ _ _ _ _)
  k_with "binaryOp Add bytes bytes" => (refine KBy.add_bytes (Mine.sz_ok (by assumption) (by split <;> omega) rfl) ?_; intro _ _)
  k_with "state" => exact Mine.ap_start _ (by split <;> omega)
  k_with "state" => exact Mine.ap_turn (by assumption) (by assumption) (by assumption)
  k_with "measure" => exact Mine.ap_less (by assumption) (by assumption)
  k_with "eval ListComp" => k_dflt (refine Mine.ListComp_B (F₉ := by k_asm) (by rfl) (by decide) (by rfl) (by decide) (by rfl) ?_)
  k_with "SrcB" => ((refine' Mine.SrcB_ints (fun k => Mine.tbl.getD (k - 65).toNat 0) ?k1 ?k2 ?k3 ?k4 ?k5 ?_ ?_; (case k1 => rfl); (case k2 => k_asm); (case k3 => k_asm); (case k4 => exact Mine.src_size (by assumption) (by split <;> omega)); (case k5 => exact Mine.src_range (by assumption))); (rotate_left 1; intro g' ys' hys'; rotate_left 1); (intro g' k' t' I' oI' C' oC' D' m' ys' h' tk' E' hlo' hhi' hC' hx' F' N' off' ne'; have hMark' : KPfMark := True.intro; (try (simp only [LCg.Off3, and_true] at off'))))
  k_with "KCfEl" => exact ⟨rfl, _, rfl⟩
  k_with "tree" => exact Mine.ones_end (N := 0) (by assumption) (by assumption) (by assumption)
  k_with "exec While Compare cons nil" => k_while_given ["number!"] (fun n0 _ number turns => 0 ≤ number ∧ number < 4294967296 ∧ turns + Mine.ones number = Mine.ones n0) (fun _ _ number _ => number.toNat) "number" "turns"
  k_with "exec For Name Call cons cons" => k_dflt (refine Mine.For_else ?_)
  k_with "pyIter ref" => ((with_reducible show wpAny _ _ (pyIter (Value.ref _)) (fun it s₂ => Mine.ElseAt _ _ _ _ _ _ _ _ _ _ it s₂) _ _); (rename Fr _ _ _ _ => lF'); (rename News _ _ _ _ => lN'); (rename IsRange _ _ _ _ _ _ _ _ => rgX); (with_unfolding_all refine' Mine.pf_loop (Mine.PF _) (by rfl) (by rfl) (by rfl) rgX lF' lN' (by rfl) ?kp ?_ ?_); (case kp => exact Mine.pf_start (by assumption)); (all_goals (try clear lF' lN')); (all_goals (have kMark : KstMark := kstMark)); (rotate_left 1; intro fl tfl vs ns cap u h tk hSA hPF F' N'; rotate_left 1); (intro i fl tfl vs ns cap t u h tk own hi hoff hSA hPF F' N'))
  k_with "state" => exact Mine.pf_skip (by assumption) (by assumption) (by assumption)
  k_with "state" => exact Mine.pf_take (by assumption) (by assumption) (by assumption) (by assumption)
  k_with "tree" => exact Mine.pf_brk (by assumption) (by assumption) (by assumption) (by assumption)
  k_with "tree" => exact Mine.pf_els (by assumption)
  k_with "call builtin:str.join" => (k_dflt (refine' Mine.joinR ?k1 ?k2 ?k3 ?k4 ?_; (case k1 => k_asm); (case k2 => k_memK); (case k3 => assumption); (case k4 => first | exact Mine.pf_w1 (by assumption) (by assumption) | exact Mine.pf_w2 (by assumption))); intro _ _)
  k_with "call builtin:list.append" => (k_dflt (refine' append_K ?k1 ?k2 ?k3 ?_ ?z; (case k1 => k_asm); (case k2 => k_asm); (case k3 => k_upd); (case z => exact Mine.app_fit (by assumption) (by first | omega | decide) (by assumption)); k_whole); intro h' F' N'; (try k_sweep))
  k_with "call builtin:hex" => (k_dflt (refine' Mine.hexR ?k1 ?_); (case k1 => first | exact Mine.flag_in (by assumption) | exact Mine.pf_in (by assumption)))
  k_with "InvEndN" => ((rename News _ _ _ _ => nE'); (try simp only [List.push_toArray] at nE'); (with_unfolding_all refine Mine.pf_end (by assumption) nE' (by first | assumption | exact StrsAre.append' (by assumption) (.cons _ _ .nil)) (by rfl) (by kst_same) (by (try dsimp only); k_extra "state")))
  k_with "state" => exact Mine.taken_start (by assumption)
  k_with "state" => exact Mine.taken_turn (by assumption) (by assumption) (by assumption) (by assumption)
  k_with "measure" => exact Mine.taken_less (by assumption)
  k_with "tree" => exact Mine.taken_end (by assumption) (by assumption) (by assumption)
  k_with "compareOp In bytes ref" => (k_dflt (refine' Mine.in_four ?k1 ?k2 ?_; (case k1 => k_asm); (case k2 => k_memK); k_whole))
  k_with "eval BoolOp" => ((fail_if_success (with_reducible show wpAny _ _ _ (Mine.AlonePost _ _ _ _ _ _) _ _)); (refine' Mine.alone_join (b := decide (Mine.ones xA = 1)) ?k1 ?k2 ?_ ?_; (case k1 => k_asm); (case k2 => k_asm)); rotate_left 1; intro h' k' F' N'; rotate_left 1)
  k_with "AlonePost" => (k_dflt (refine' ⟨?v, _, _, rfl, ?f, ?n⟩; (case f => k_asm); (case n => ((rename News _ _ _ _ => nA9); (first | exact nA9 | exact fun p9 hp9 => nA9 p9 (List.Mem.tail _ hp9) | (refine' cb_drop ?cbN ?cbS; (case cbN => assumption); (case cbS => kcj_all))))); (case v => (refine congrArg Value.bool ?_; (rename (Mine.letters _ ++ _ = Mine.letters _) => hR9); (rename (Mine.inBCEI _ = _) => hI9); first | (refine' Mine.alone_no hR9 ?h1 ?hx hI9; (case h1 => assumption); (case hx => omega)) | (refine' Mine.alone_yes hR9 ?h1 ?hx hI9; (case h1 => assumption); (case hx => omega))))))
  k_with "tree" => exact Mine.single_zero (by assumption)
  k_with "tree" => exact Mine.single_eq (by assumption) (by assumption)
  k_with "eval IfExp" => ((fail_if_success (with_reducible show wpAny _ _ _ (Mine.IfPost _ _ _ _ _ _) _ _)); (refine' Mine.if_join (b := Mine.ones xA) ?k1 ?k2 ?_ ?_; (case k1 => k_asm); (case k2 => k_asm)); rotate_left 1; intro h' t' k' F' N'; rotate_left 1)
  k_with "IfPost" => (k_dflt (refine' ⟨_, ?v, _, _, rfl, ?f, ?n⟩; (case f => k_asm); (case n => ((rename News _ _ _ _ => nA9); (first | exact nA9 | exact fun p9 hp9 => nA9 p9 (List.Mem.tail _ hp9) | (refine' cb_drop ?cbN ?cbS; (case cbN => assumption); (case cbS => kcj_all))))); (case v => first | rfl | (refine Mine.int_eq ?_; omega))))
  k_with "end" => (exfalso; first | omega | contradiction)
  open_k
