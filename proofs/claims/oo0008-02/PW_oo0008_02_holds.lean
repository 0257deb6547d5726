import PyProof.Rows.All
import Wide.All
import OpenK.AllK
import Wide.FinOn
import PySem.Challenge.RW_oo0008_02
open PySem PySem.W PyProof.Rows PySem.Calls
set_option Elab.async false
set_option maxRecDepth 100000 in
set_option maxHeartbeats 8000000 in
open_top hd for PySem.Challenge.rw_oo0008_02
namespace Mine
/-- a mark at which the walk halts -/
def Halt (P : Prop) : Prop := P
theorem halt_of {P : Prop} (h : Halt P) : P := h
theorem halt_in {P : Prop} (h : P) : Halt P := h

theorem wpAny_halt {α : Type} {M : Model} {A : Around} {t : Sem α} {Q : α → Shared → Prop} {E : Value → Shared → Prop} {s : Shared} (h : wpAny M A t (fun a s' => Halt (Q a s')) E s) : wpAny M A t Q E s := h

theorem keeps_refl (s : Shared) : Keeps s s := ⟨s.heap, s.toks, rfl, fun _ _ e => e⟩

section
variable {prog : Program} {w : World} {A : Around} {E : Value → Shared → Prop} {s : Shared} {h₀ : Heap} {L : Addr} {m : Str → Option Value} {env : Env}

theorem nameGB_K {M : Model} {K : Frag} {mg mb : Str → Option Value} {p : Program} {loose : List Str} {x : Str} {pos : Pos} {v : Value} {Q : Value → Shared → Prop} (F : Fr h₀ L s.heap m) (X : K.In h₀) (T : TopRead p loose mg mb h₀)
    (e : nsIn K mainGlobals x = some none) (hv : bootBuiltins x = some v) (hn : x ≠ "__name__") (h : Q v s) (hg : env.globals = mainGlobals) (hb : env.builtins = builtinsNs) (hk : env.scope.kind = .function) (hx : env.kindOf x = some .globalImplicit) (hd : (x == ("__debug__" : Str)) = false) :
    wpAny M A (eval (.Name x pos) env) Q E s :=
  Name_function_global hk hx (loadGlobal_builtin (env := env) (by rw [hg]; exact T.g.keeps F.keep) (mg_none_of X T.g e) (by rw [hb]; exact T.b.keeps F.keep) ((T.builtins x hn).trans hv) h) hd

theorem paired_str {d : Nat → PyData} : ∀ {vs ys : List Value} {cs : List Nat}, vs.length = cs.length → (∀ (j : Nat) v, vs[j]? = some v → ∃ c u, cs[j]? = some c ∧ v = .str ⟨#[c]⟩ u) →
    Paired (fun v y => ∃ c u, v = .str ⟨#[c]⟩ u ∧ Carried y (d c)) vs ys → CarriedAll ys (cs.map d)
  | [], _, [], _, _, h => by cases h; exact .nil
  | [], _, _ :: _, h, _, _ => nomatch h
  | _ :: _, _, [], h, _, _ => nomatch h
  | v :: vs, _, c :: cs, hl, hg, h => by
    cases h with
    | cons hv hr =>
      obtain ⟨c', u, e1, e2⟩ := hg 0 v rfl
      obtain ⟨c'', u', e3, hc⟩ := hv
      cases e1
      rw [e2] at e3
      cases e3
      exact .cons hc (paired_str (Nat.succ.inj hl) (fun j v' hv' => hg (j + 1) v' hv') hr)

theorem filter_t {α : Type} (l : List α) : l.filter (fun _ => true) = l := List.filter_eq_self.mpr fun _ _ => rfl

/-- a comprehension over a text's signs, no test -/
theorem lc_str {elt iter : Expr} {x : Str} {px : Pos} {scope : Scope} {cl : List (Str × Addr)} {pos : Pos} {Q : Value → Shared → Prop} (d : Nat → PyData)
    (hh : A.handled = none) (hclos : closureFor scope env = pure cl) (hcell : ∀ y ∈ scope.names, y.2 ≠ .cell) (hkind : scope.kind = .function)
    (hnames : ∀ y ∈ scope.names, y.2 = .local → scope.names.lookup y.1 = some .local) (hx : scope.names.lookup x = some .local)
    (h : wpAny (model prog w) A (eval iter env) (fun xv s₁ => ∃ (news : List (Addr × Obj)) (y : Str) (t : Tok), xv = .str y t ∧ y.length ≤ sizeLine ∧ Fr h₀ L s₁.heap m ∧ News h₀ L s₁.heap news ∧
      (∀ C c u s₂ m₂ E', s₁.heap.objs.size ≤ C → c ∈ y.cps.toList → s₂.heap.Ns (compEnvC scope cl C env).locals m₂ → m₂ x = some (.str ⟨#[c]⟩ u) → (∀ b o, s₁.heap.get? b = some o → s₂.heap.get? b = some o) →
        wpAny (model prog w) A (eval elt (compEnvC scope cl C env)) (fun r s₃ => Carried r (d c) ∧ Keeps s₂ s₃) E' s₂) ∧
      (∀ D (ys : List Value) k h' tk, Fr h₀ L h' m → News h₀ L h' ((D, listOf ys.toArray k) :: news) → (∀ p ∈ news, p.1 ≠ D) → CarriedAll ys (y.cps.toList.map d) → Q (.ref D) { s₁ with heap := h', toks := tk })) E s)
    (hs : ∀ x, foldedSetIterable iter env x = pure x) :
    wpAny (model prog w) A (eval (.ListComp elt [⟨.Name x px, iter, [], 0⟩] scope pos) env) Q E s := by
  refine wpAny_ListComp_free (fun _ => true) (fun v y => ∃ c u, v = .str ⟨#[c]⟩ u ∧ Carried y (d c)) hclos hcell hkind hnames hx (wpAny_mono h (fun xv s₁ h₁ => ?_) fun _ _ e => e) hs
  obtain ⟨news, y, t, rfl, hsz, F, N, helt, hQ⟩ := h₁
  refine wpAny_pyIter_str fun o St W hst => ?_
  have up : ∀ (h' : Heap), (∀ b o', b ∉ [s₁.heap.objs.size] → (s₁.heap.push o).get? b = some o' → h'.get? b = some o') → ∀ b o', s₁.heap.get? b = some o' → h'.get? b = some o' :=
    fun h' hk b o' e => hk b o' (old_not_new e) (Heap.get?_push_of_some _ e)
  refine ⟨s₁.heap.objs.size, [s₁.heap.objs.size], [s₁.heap.objs.size], y.cps.size, SignAt y, St, rfl, W A hh, hsz, hst, ?_, ⟨?_, ?_⟩, ?_⟩
  · intro b hb
    show b < (s₁.heap.push o).objs.size
    rw [Heap.size_push, List.mem_singleton.mp hb]
    exact Nat.lt_succ_self _
  · intro C i v s₃ m₃ E' hC hP hn hm hk _
    exact wpAny_tests_nil ⟨rfl, keeps_refl s₃⟩
  · intro C i v s₃ m₃ E' hC hP _ hn hm hk _
    obtain ⟨c, u, hc, rfl⟩ := hP
    have hmem : c ∈ y.cps.toList := by
      rw [Array.mem_toList_iff]
      exact Array.mem_of_getElem? hc
    exact wpAny_mono (helt C c u s₃ m₃ E' (Nat.le_of_succ_le (by simpa [Heap.size_push] using hC)) hmem hn hm (up s₃.heap hk)) (fun r s₄ h₄ => ⟨⟨c, u, rfl, h₄.1⟩, h₄.2⟩) fun _ _ e => e
  · intro D h' tk ys vs hnew hlD hplD hlen hP hF hk
    rw [filter_t] at hF
    have NP : NewPlain h' news D ys.toList.toArray := ⟨by rw [Array.toArray_toList]; exact hplD, fun p hp e => by rw [← e, Heap.get?_push_of_some _ (N p hp).1] at hnew; cases hnew⟩
    have hD : h₀.get? D = none := by
      cases e : h₀.get? D with
      | none => rfl
      | some o' => rw [Heap.get?_push_of_some _ (F.keep _ _ e)] at hnew; cases hnew
    obtain ⟨k, NX⟩ := made_enters NP (F.keeps (up h' hk)) (N.grown (up h' hk)) hD
    exact hQ D ys.toList k h' tk (F.keeps (up h' hk)) NX NP.2
      (paired_str (by rw [hlen, Array.length_toList]) (fun j v hv => by obtain ⟨c, u, hc, e⟩ := hP j v hv; exact ⟨c, u, by simpa using hc, e⟩) hF)

/-- a comprehension over a range from nought, no test -/
theorem lc_range {elt iter : Expr} {x : Str} {px : Pos} {scope : Scope} {cl : List (Str × Addr)} {pos : Pos} {Q : Value → Shared → Prop} {news : List (Addr × Obj)} (_F0 : Fr h₀ L s.heap m) (_N0 : News h₀ L s.heap news) (d : Int → PyData)
    (hh : A.handled = none) (hclos : closureFor scope env = pure cl) (hcell : ∀ y ∈ scope.names, y.2 ≠ .cell) (hkind : scope.kind = .function)
    (hnames : ∀ y ∈ scope.names, y.2 = .local → scope.names.lookup y.1 = some .local) (hx : scope.names.lookup x = some .local)
    (hs : ∀ x, foldedSetIterable iter env x = pure x)
    (h : wpAny (model prog w) A (eval iter env) (fun xv s₁ => Halt (∃ (r : Addr) (b₀ : Int) (t₀ u₀ v₀ : Tok) (n : Nat), xv = .ref r ∧ IsRange s₁.heap r 0 b₀ 1 t₀ u₀ v₀ ∧ Builtin.Range.small 0 b₀ 1 = true ∧ Builtin.Range.rangeSize 0 b₀ 1 = (n : Int) ∧ n ≤ sizeLine ∧ Fr h₀ L s₁.heap m ∧ News h₀ L s₁.heap news ∧
      (∀ C a t s₂ m₂ E', s₁.heap.objs.size ≤ C → 0 ≤ a → a < (n : Int) → s₂.heap.Ns (compEnvC scope cl C env).locals m₂ → m₂ x = some (.int a t) → (∀ b o, s₁.heap.get? b = some o → s₂.heap.get? b = some o) →
        wpAny (model prog w) A (eval elt (compEnvC scope cl C env)) (fun r s₃ => Carried r (d a) ∧ Keeps s₂ s₃) E' s₂) ∧
      (∀ D (ys : List Value) k h' tk, Fr h₀ L h' m → News h₀ L h' ((D, listOf ys.toArray k) :: news) → (∀ p ∈ news, p.1 ≠ D) → CarriedAll ys ((rangeInts 0 1 n).map d) → Q (.ref D) { s₁ with heap := h', toks := tk }))) E s) :
    wpAny (model prog w) A (eval (.ListComp elt [⟨.Name x px, iter, [], 0⟩] scope pos) env) Q E s := by
  refine ListComp_DCr (h₀ := h₀) (L := L) (m := m) (pz := fun _ => true) (d := d) hh hclos hcell hkind hnames hx (wpAny_mono h (fun xv s₁ h₁ => ?_) fun _ _ e => e) hs
  obtain ⟨r, b₀, t₀, u₀, v₀, n, rfl, hr, hsm, hn, hz, F, N, helt, hQ⟩ := h₁
  refine ⟨news, r, 0, b₀, 1, t₀, u₀, v₀, n, rfl, hr, hsm, hn, hz, F, N, fun C a v s₂ m₂ E' _ _ _ _ _ _ => wpAny_tests_nil ⟨rfl, keeps_refl s₂⟩, fun C a v s₂ m₂ E' hC ha hv _ hn hm hk => ?_, fun D ys h' tk F' N' hD _ NP hc => ?_⟩
  · obtain ⟨t, rfl⟩ := ItemKind.int_is hv
    have hb := mem_rangeInts ha
    exact helt C a t s₂ m₂ E' hC hb.1 (by omega) hn hm hk
  · obtain ⟨k, NX⟩ := made_enters NP F' N' hD
    rw [filter_t] at hc
    exact hQ D ys k h' tk F' NX NP.2 hc

/-- a comprehension over a list of ints, no test -/
theorem lc_ints {elt iter : Expr} {x : Str} {px : Pos} {scope : Scope} {cl : List (Str × Addr)} {pos : Pos} {Q : Value → Shared → Prop} {news : List (Addr × Obj)} (_F0 : Fr h₀ L s.heap m) (_N0 : News h₀ L s.heap news) (d : Int → PyData)
    (hh : A.handled = none) (hclos : closureFor scope env = pure cl) (hcell : ∀ y ∈ scope.names, y.2 ≠ .cell) (hkind : scope.kind = .function)
    (hnames : ∀ y ∈ scope.names, y.2 = .local → scope.names.lookup y.1 = some .local) (hx : scope.names.lookup x = some .local)
    (hs : ∀ x, foldedSetIterable iter env x = pure x)
    (h : wpAny (model prog w) A (eval iter env) (fun xv s₁ => Halt (∃ (l : Addr) (vs : List Value) (ns : List Int), xv = .ref l ∧ s₁.heap.IsList l vs.toArray ∧ IntsAre vs ns ∧ ns.length ≤ sizeLine ∧ Fr h₀ L s₁.heap m ∧ News h₀ L s₁.heap news ∧
      (∀ C a t s₂ m₂ E', s₁.heap.objs.size ≤ C → a ∈ ns → s₂.heap.Ns (compEnvC scope cl C env).locals m₂ → m₂ x = some (.int a t) → (∀ b o, s₁.heap.get? b = some o → s₂.heap.get? b = some o) →
        wpAny (model prog w) A (eval elt (compEnvC scope cl C env)) (fun r s₃ => Carried r (d a) ∧ Keeps s₂ s₃) E' s₂) ∧
      (∀ D (ys : List Value) k h' tk, Fr h₀ L h' m → News h₀ L h' ((D, listOf ys.toArray k) :: news) → (∀ p ∈ news, p.1 ≠ D) → CarriedAll ys (ns.map d) → Q (.ref D) { s₁ with heap := h', toks := tk }))) E s) :
    wpAny (model prog w) A (eval (.ListComp elt [⟨.Name x px, iter, [], 0⟩] scope pos) env) Q E s := by
  refine ListComp_DCn (h₀ := h₀) (L := L) (m := m) (K := ItemKind.int) (pz := fun _ => true) (d := d) hh hclos hcell hkind hnames hx (wpAny_mono h (fun xv s₁ h₁ => ?_) fun _ _ e => e) hs
  obtain ⟨l, vs, ns, rfl, hl, hi, hz, F, N, helt, hQ⟩ := h₁
  refine ⟨news, l, vs, ns, rfl, hl, hi.areOf, hz, F, N, fun C a v s₂ m₂ E' _ _ _ _ _ _ => wpAny_tests_nil ⟨rfl, keeps_refl s₂⟩, fun C a v s₂ m₂ E' hC ha hv _ hn hm hk => ?_, fun D ys h' tk F' N' hD _ NP hc => ?_⟩
  · obtain ⟨t, rfl⟩ := ItemKind.int_is hv
    exact helt C a t s₂ m₂ E' hC ha hn hm hk
  · obtain ⟨k, NX⟩ := made_enters NP F' N' hD
    rw [filter_t] at hc
    exact hQ D ys k h' tk F' NX NP.2 hc
/-- the same, its list stored under a name -/
theorem asg_str {elt iter : Expr} {x y : Str} {px py : Pos} {scope : Scope} {cl : List (Str × Addr)} {pos spos : Pos} {Q : Flow → Shared → Prop} {news : List (Addr × Obj)} (_F0 : Fr h₀ L s.heap m) (_N0 : News h₀ L s.heap news) (d : Nat → PyData)
    (hsw : swapsWith (.ListComp elt [⟨.Name x px, iter, [], 0⟩] scope pos) (some (.Name y py)) spos.line env = pure true) (hL : env.locals = L)
    (hh : A.handled = none) (hclos : closureFor scope env = pure cl) (hcell : ∀ y ∈ scope.names, y.2 ≠ .cell) (hkind : scope.kind = .function)
    (hnames : ∀ y ∈ scope.names, y.2 = .local → scope.names.lookup y.1 = some .local) (hx : scope.names.lookup x = some .local)
    (hy : env.kindOf y = some .local) (hp : (env.scope.kind == .class || (env.scope.kind == .module && env.locals != env.globals)) = false)
    (hs : ∀ x, foldedSetIterable iter env x = pure x)
    (h : wpAny (model prog w) A (eval iter env) (fun xv s₁ => Halt (∃ (z : Str) (t : Tok), xv = .str z t ∧ z.length ≤ sizeLine ∧ Fr h₀ L s₁.heap m ∧ News h₀ L s₁.heap news ∧
      (∀ C c u s₂ m₂ E', s₁.heap.objs.size ≤ C → c ∈ z.cps.toList → s₂.heap.Ns (compEnvC scope cl C env).locals m₂ → m₂ x = some (.str ⟨#[c]⟩ u) → (∀ b o, s₁.heap.get? b = some o → s₂.heap.get? b = some o) →
        wpAny (model prog w) A (eval elt (compEnvC scope cl C env)) (fun r s₃ => Carried r (d c) ∧ Keeps s₂ s₃) E' s₂) ∧
      (∀ D (ys : List Value) k h' tk, Fr h₀ L h' (fun z => if z = y then some (.ref D) else m z) → News h₀ L h' ((D, listOf ys.toArray k) :: news) → (∀ p ∈ news, p.1 ≠ D) → CarriedAll ys (z.cps.toList.map d) → Q .next { s₁ with heap := h', toks := tk }))) E s) :
    wpAny (model prog w) A (exec (.Assign [.Name y py] (.ListComp elt [⟨.Name x px, iter, [], 0⟩] scope pos) spos) env) Q E s := by
  subst hL
  refine wpAny_Assign_ListComp_free (fun _ => true) (fun v y => ∃ c u, v = .str ⟨#[c]⟩ u ∧ Carried y (d c)) hsw hclos hcell hkind hnames hx hy hp (wpAny_mono h (fun xv s₁ h₁ => ?_) fun _ _ e => e) hs
  obtain ⟨z, t, rfl, hsz, F, N, helt, hQ⟩ := h₁
  refine wpAny_pyIter_str fun o St W hst => ?_
  have up : ∀ (h' : Heap), (∀ b o', b ∉ [s₁.heap.objs.size] → (s₁.heap.push o).get? b = some o' → h'.get? b = some o') → ∀ b o', s₁.heap.get? b = some o' → h'.get? b = some o' :=
    fun h' hk b o' e => hk b o' (old_not_new e) (Heap.get?_push_of_some _ e)
  refine ⟨s₁.heap.objs.size, [s₁.heap.objs.size], [s₁.heap.objs.size], z.cps.size, SignAt z, St, m, rfl, W A hh, hsz, hst, ?_, ?_, F.ns.push _, ⟨?_, ?_⟩, ?_⟩
  · intro b hb
    show b < (s₁.heap.push o).objs.size
    rw [Heap.size_push, List.mem_singleton.mp hb]
    exact Nat.lt_succ_self _
  · intro hm
    exact Nat.lt_irrefl _ ((List.mem_singleton.mp hm) ▸ F.ns.lt)
  · intro C i v s₃ m₃ E' hC hP hn hm hk _
    exact wpAny_tests_nil ⟨rfl, keeps_refl s₃⟩
  · intro C i v s₃ m₃ E' hC hP _ hn hm hk _
    obtain ⟨c, u, hc, rfl⟩ := hP
    have hmem : c ∈ z.cps.toList := by
      rw [Array.mem_toList_iff]
      exact Array.mem_of_getElem? hc
    exact wpAny_mono (helt C c u s₃ m₃ E' (Nat.le_of_succ_le (by simpa [Heap.size_push] using hC)) hmem hn hm (up s₃.heap hk)) (fun r s₄ h₄ => ⟨⟨c, u, rfl, h₄.1⟩, h₄.2⟩) fun _ _ e => e
  · intro D h' tk ys vs hnew hlD hplD hlen hP hF hn' hk
    rw [filter_t] at hF
    have keep : ∀ b o', b ≠ env.locals → s₁.heap.get? b = some o' → h'.get? b = some o' := fun b o' hb e =>
      hk b o' hb (old_not_new e) (Heap.get?_push_of_some _ e)
    have F' : Fr h₀ env.locals h' (fun z => if z = y then some (.ref D) else m z) := ⟨hn', fun b o e => keep b o (Nat.ne_of_lt (Nat.lt_of_lt_of_le (Heap.lt_size e) F.above)) (F.keep b o e), F.above⟩
    have N' : News h₀ env.locals h' news := fun p hp => ⟨keep _ _ (N p hp).2.1 (N p hp).1, (N p hp).2⟩
    have NP : NewPlain h' news D ys.toList.toArray := ⟨by rw [Array.toArray_toList]; exact hplD, fun p hp e => by rw [← e, Heap.get?_push_of_some _ (N p hp).1] at hnew; cases hnew⟩
    have hD : h₀.get? D = none := by
      cases e : h₀.get? D with
      | none => rfl
      | some o' => rw [Heap.get?_push_of_some _ (F.keep _ _ e)] at hnew; cases hnew
    obtain ⟨k, NX⟩ := made_enters NP F' N' hD
    exact hQ D ys.toList k h' tk F' NX NP.2
      (paired_str (by rw [hlen, Array.length_toList]) (fun j v hv => by obtain ⟨c, u, hc, e⟩ := hP j v hv; exact ⟨c, u, by simpa using hc, e⟩) hF)

theorem asg_ints {elt iter : Expr} {x y : Str} {px py : Pos} {scope : Scope} {cl : List (Str × Addr)} {pos spos : Pos} {Q : Flow → Shared → Prop} {news : List (Addr × Obj)} (_F0 : Fr h₀ L s.heap m) (_N0 : News h₀ L s.heap news) (d : Int → PyData)
    (hsw : swapsWith (.ListComp elt [⟨.Name x px, iter, [], 0⟩] scope pos) (some (.Name y py)) spos.line env = pure true) (hL : env.locals = L)
    (hh : A.handled = none) (hclos : closureFor scope env = pure cl) (hcell : ∀ y ∈ scope.names, y.2 ≠ .cell) (hkind : scope.kind = .function)
    (hnames : ∀ y ∈ scope.names, y.2 = .local → scope.names.lookup y.1 = some .local) (hx : scope.names.lookup x = some .local)
    (hy : env.kindOf y = some .local) (hp : (env.scope.kind == .class || (env.scope.kind == .module && env.locals != env.globals)) = false)
    (hs : ∀ x, foldedSetIterable iter env x = pure x)
    (h : wpAny (model prog w) A (eval iter env) (fun xv s₁ => Halt (∃ (l : Addr) (vs : List Value) (ns : List Int), xv = .ref l ∧ s₁.heap.IsList l vs.toArray ∧ IntsAre vs ns ∧ ns.length ≤ sizeLine ∧ Fr h₀ L s₁.heap m ∧ News h₀ L s₁.heap news ∧
      (∀ C a t s₂ m₂ E', s₁.heap.objs.size ≤ C → a ∈ ns → s₂.heap.Ns (compEnvC scope cl C env).locals m₂ → m₂ x = some (.int a t) → (∀ b o, s₁.heap.get? b = some o → s₂.heap.get? b = some o) →
        wpAny (model prog w) A (eval elt (compEnvC scope cl C env)) (fun r s₃ => Carried r (d a) ∧ Keeps s₂ s₃) E' s₂) ∧
      (∀ D (ys : List Value) k h' tk, Fr h₀ L h' (fun z => if z = y then some (.ref D) else m z) → News h₀ L h' ((D, listOf ys.toArray k) :: news) → (∀ p ∈ news, p.1 ≠ D) → CarriedAll ys (ns.map d) → Q .next { s₁ with heap := h', toks := tk }))) E s) :
    wpAny (model prog w) A (exec (.Assign [.Name y py] (.ListComp elt [⟨.Name x px, iter, [], 0⟩] scope pos) spos) env) Q E s := by
  refine Assign_ListComp_DCn (h₀ := h₀) (L := L) (m := m) (K := ItemKind.int) (pz := fun _ => true) (d := d) hsw hL hh hclos hcell hkind hnames hx hy hp (wpAny_mono h (fun xv s₁ h₁ => ?_) fun _ _ e => e) hs
  obtain ⟨l, vs, ns, rfl, hl, hi, hz, F, N, helt, hQ⟩ := h₁
  refine ⟨news, l, vs, ns, rfl, hl, hi.areOf, hz, F, N, fun C a v s₂ m₂ E' _ _ _ _ _ _ => wpAny_tests_nil ⟨rfl, keeps_refl s₂⟩, fun C a v s₂ m₂ E' hC ha hv _ hn hm hk => ?_, fun D ys h' tk F' N' hD _ NP hc => ?_⟩
  · obtain ⟨t, rfl⟩ := ItemKind.int_is hv
    exact helt C a t s₂ m₂ E' hC ha hn hm hk
  · obtain ⟨k, NX⟩ := made_enters NP F' N' hD
    rw [filter_t] at hc
    exact hQ D ys k h' tk F' NX NP.2 hc

theorem asg_range {elt iter : Expr} {x y : Str} {px py : Pos} {scope : Scope} {cl : List (Str × Addr)} {pos spos : Pos} {Q : Flow → Shared → Prop} {news : List (Addr × Obj)} (_F0 : Fr h₀ L s.heap m) (_N0 : News h₀ L s.heap news) (d : Int → PyData)
    (hsw : swapsWith (.ListComp elt [⟨.Name x px, iter, [], 0⟩] scope pos) (some (.Name y py)) spos.line env = pure true) (hL : env.locals = L)
    (hh : A.handled = none) (hclos : closureFor scope env = pure cl) (hcell : ∀ y ∈ scope.names, y.2 ≠ .cell) (hkind : scope.kind = .function)
    (hnames : ∀ y ∈ scope.names, y.2 = .local → scope.names.lookup y.1 = some .local) (hx : scope.names.lookup x = some .local)
    (hy : env.kindOf y = some .local) (hp : (env.scope.kind == .class || (env.scope.kind == .module && env.locals != env.globals)) = false)
    (hs : ∀ x, foldedSetIterable iter env x = pure x)
    (h : wpAny (model prog w) A (eval iter env) (fun xv s₁ => Halt (∃ (r : Addr) (b₀ : Int) (t₀ u₀ v₀ : Tok) (n : Nat), xv = .ref r ∧ IsRange s₁.heap r 0 b₀ 1 t₀ u₀ v₀ ∧ Builtin.Range.small 0 b₀ 1 = true ∧ Builtin.Range.rangeSize 0 b₀ 1 = (n : Int) ∧ n ≤ sizeLine ∧ Fr h₀ L s₁.heap m ∧ News h₀ L s₁.heap news ∧
      (∀ C a t s₂ m₂ E', s₁.heap.objs.size ≤ C → 0 ≤ a → a < (n : Int) → s₂.heap.Ns (compEnvC scope cl C env).locals m₂ → m₂ x = some (.int a t) → (∀ b o, s₁.heap.get? b = some o → s₂.heap.get? b = some o) →
        wpAny (model prog w) A (eval elt (compEnvC scope cl C env)) (fun r s₃ => Carried r (d a) ∧ Keeps s₂ s₃) E' s₂) ∧
      (∀ D (ys : List Value) k h' tk, Fr h₀ L h' (fun z => if z = y then some (.ref D) else m z) → News h₀ L h' ((D, listOf ys.toArray k) :: news) → (∀ p ∈ news, p.1 ≠ D) → CarriedAll ys ((rangeInts 0 1 n).map d) → Q .next { s₁ with heap := h', toks := tk }))) E s) :
    wpAny (model prog w) A (exec (.Assign [.Name y py] (.ListComp elt [⟨.Name x px, iter, [], 0⟩] scope pos) spos) env) Q E s := by
  refine Assign_ListComp_DCr (h₀ := h₀) (L := L) (m := m) (pz := fun _ => true) (d := d) hsw hL hh hclos hcell hkind hnames hx hy hp (wpAny_mono h (fun xv s₁ h₁ => ?_) fun _ _ e => e) hs
  obtain ⟨r, b₀, t₀, u₀, v₀, n, rfl, hr, hsm, hn, hz, F, N, helt, hQ⟩ := h₁
  refine ⟨news, r, 0, b₀, 1, t₀, u₀, v₀, n, rfl, hr, hsm, hn, hz, F, N, fun C a v s₂ m₂ E' _ _ _ _ _ _ => wpAny_tests_nil ⟨rfl, keeps_refl s₂⟩, fun C a v s₂ m₂ E' hC ha hv _ hn hm hk => ?_, fun D ys h' tk F' N' hD _ NP hc => ?_⟩
  · obtain ⟨t, rfl⟩ := ItemKind.int_is hv
    have hb := mem_rangeInts ha
    exact helt C a t s₂ m₂ E' hC hb.1 (by omega) hn hm hk
  · obtain ⟨k, NX⟩ := made_enters NP F' N' hD
    rw [filter_t] at hc
    exact hQ D ys k h' tk F' NX NP.2 hc
end


local macro_rules | `(tactic| walk_at "eval Name") => `(tactic| (k_here; k_inBlock; (with_reducible rename Fr _ _ _ _ => kF); k_dflt (refine' nameGB_K kF ?k1 ?k2 ?k3 ?k8 ?k9 ?_ ?k4 ?kb ?k5 ?k6 ?k7; (case k4 => rfl); (case kb => rfl); (case k5 => rfl); (case k6 => rfl); (case k7 => decide); (case k1 => k_asm); (case k2 => k_asm); (case k3 => k_is); (case k8 => boot_by_name); (case k9 => decide); k_whole)))
end Mine

namespace Mine
/-- a code's table of the codes within it -/
abbrev tblO (ps : Array Value) : Obj := { cls := .none, data := .fields ps }
/-- the code at c, whose table lies at P (the table itself is not said) -/
def CodeOf (h : Heap) (c P : Addr) : Prop :=
  ∃ o vs file tf flags tg inF text tt, h.get? c = some o ∧ o.cls = .type "code" ∧ o.data = .fields vs ∧ vs[11]? = some (.ref P) ∧ vs.getD 11 .none = .ref P ∧ vs.getD 18 .none = .str file tf ∧
    vs.getD 7 .none = .int flags tg ∧ vs.getD 9 .none = .bool inF ∧ vs.getD 10 .none = .int text tt ∧ c ≠ P
theorem CodeOf.keeps {h h' : Heap} {c P : Addr} (C : CodeOf h c P) (hk : ∀ b o, h.get? b = some o → h'.get? b = some o) : CodeOf h' c P :=
  let ⟨o, vs, file, tf, flags, tg, inF, text, tt, a, r⟩ := C
  ⟨o, vs, file, tf, flags, tg, inF, text, tt, hk _ _ a, r⟩
theorem CodeOf.isCode {h : Heap} {c P : Addr} {ps : Array Value} (C : CodeOf h c P) (hP : h.get? P = some (tblO ps)) (ht : TriplesOk ps.toList) : h.IsCode c P ps :=
  let ⟨o, vs, file, tf, flags, tg, inF, text, tt, a, _, b, _, d, e, f, g, i, j⟩ := C
  ⟨o, vs, file, tf, flags, tg, inF, text, tt, _, a, b, d, e, f, g, i, hP, rfl, ht, j⟩
theorem CodeOf.tableAt {h : Heap} {c P : Addr} {ps : Array Value} (C : CodeOf h c P) (hP : h.get? P = some (tblO ps)) : h.TableAt c P ps :=
  let ⟨o, vs, _, _, _, _, _, _, _, a, k, b, l, _⟩ := C
  ⟨⟨o, vs, a, k, b, l⟩, hP⟩
theorem CodeOf.of {h : Heap} {c P : Addr} {ps : Array Value} (hc : h.IsCode c P ps) (ht : h.TableAt c P ps) : CodeOf h c P := by
  obtain ⟨o, vs, file, tf, flags, tg, inF, text, tt, op, ho, hd, h11, h2, h7, h9, h10, hop, hpd, htr, hne⟩ := hc
  obtain ⟨⟨o', vs', ho', hcls, hd', h11'⟩, _⟩ := ht
  rw [ho] at ho'
  cases ho'
  rw [hd] at hd'
  cases hd'
  exact ⟨o, vs, file, tf, flags, tg, inF, text, tt, ho, hcls, hd, h11', h11, h2, h7, h9, h10, hne⟩

section
variable {prog : Program} {w : World} {A : Around} {E : Value → Shared → Prop} {s : Shared} {h₀ : Heap} {L c P : Addr} {m mg : Str → Option Value} {bm : Addr} {ob : Obj} {env : Env}

theorem pass_all (n : Nat) : passing (fun _ => true) n 0 = List.range n := by simp [passing]

/-- a generator expression over a text's signs, no test: the generator, the table in the ledger -/
theorem ge_str {elt iter : Expr} {x : Str} {px : Pos} {scope : Scope} {cl : List (Str × Addr)} {pos : Pos} {Q : Value → Shared → Prop} {news : List (Addr × Obj)} {ps : Array Value} (q : Nat → Bool)
    (_F0 : Fr h₀ L s.heap m) (hne : ∀ p ∈ news, p.1 ≠ P) (C : CodeOf h₀ c P) (htr : TriplesOk ps.toList) (M : BMod h₀ env.globals mg bm ob) (hl₀ : h₀.NoLimit)
    (hcode : env.code = .ref c) (hh : A.handled = none) (hco : scope.isCoroutine = false) (hclos : closureFor scope env = pure cl) (hcell : ∀ y ∈ scope.names, y.2 ≠ .cell) (h0 : scope.names.lookup (".0" : Str) = some NameKind.local)
    (hx : scope.names.lookup x = some .local) (hkind : scope.kind = .function) (hroom : A.depth < recursionLimit) (hs : ∀ x, genFold iter env x = pure x)
    (h : wpAny (model prog w) A (eval iter env) (fun xv s₁ => Halt (∃ (y : Str) (t : Tok), xv = .str y t ∧ Fr h₀ L s₁.heap m ∧ News h₀ L s₁.heap ((P, tblO ps) :: news) ∧ AllBare s₁.gens ∧
      (∀ (c' : Value) (C : Addr) (A' : Around) E' (cc : Nat) (u : Tok) (st : Shared) m₂, A'.handled = none → A'.depth ≤ A.depth + 1 → A'.units ≤ A.units + 8 → cc ∈ y.cps.toList → Fr h₀ C st.heap m₂ → m₂ x = some (.str ⟨#[cc]⟩ u) →
        wpAny (model prog w) A' (eval elt (genEnv scope cl C c' builtinsNs env)) (fun r s₃ => Carried r (.bool (q cc)) ∧ Keeps st s₃) E' st) ∧
      (∀ (a Kb : Addr) (s₅ : Shared) (ps' : Array Value), Fr h₀ L s₅.heap m → News h₀ L s₅.heap ((P, tblO ps') :: news) → TriplesOk ps'.toList → (∃ more, ps' = ps ++ more) → AllBare s₅.gens → s₅.os = s₁.os →
        GenOnD prog w A Kb a y.cps.toList (fun _ => true) (fun k => .bool (q k)) s₅ → L ≤ Kb → (∀ p ∈ (P, tblO ps') :: news, p.1 ≤ Kb) → Q (.ref a) s₅))) E s) :
    wpAny (model prog w) A (eval (.GeneratorExp elt [⟨.Name x px, iter, [], 0⟩] scope pos) env) Q E s := by
  refine wpAny_GeneratorExp_walksQD hh hco hclos hcell h0 hx hkind hroom (wpAny_mono h (fun xv s₁ h₁' => ?_) fun _ _ e => e) hs
  obtain ⟨y, t, rfl, F₁, N₁, G₁, helt, hQ⟩ := h₁'
  refine wpAny_pyIter_str fun o St W hst => ?_
  have pushK : ∀ b o', s₁.heap.get? b = some o' → (s₁.heap.push o).get? b = some o' := fun _ _ e => Heap.get?_push_of_some _ e
  have F₂ : Fr h₀ L (s₁.heap.push o) m := F₁.keeps pushK
  have N₂ : News h₀ L (s₁.heap.push o) ((P, tblO ps) :: news) := N₁.grown pushK
  have hPs : s₁.heap.get? P = some (tblO ps) := (N₁ _ (.head _)).1
  have hP₂ : (s₁.heap.push o).get? P = some (tblO ps) := (N₂ _ (.head _)).1
  have hPlt : P < s₁.heap.objs.size := Heap.lt_size hPs
  have hLlt : L < s₁.heap.objs.size := F₁.ns.lt
  have hPL : P ≠ L := (N₁ _ (.head _)).2.1
  have hP0 : h₀.get? P = none := (N₁ _ (.head _)).2.2
  have C₂ : CodeOf (s₁.heap.push o) c P := C.keeps F₂.keep
  have hlim₂ : (s₁.heap.push o).NoLimit := hl₀.keeps F₂.keep
  have M₂ : BMod (s₁.heap.push o) env.globals mg bm ob := M.keeps F₂.keep
  -- what stands behind the code, made or found
  have step : ∀ (h₃ : Heap) (ps' : Array Value), Heap.ExtBut P (s₁.heap.push o) h₃ → h₃.get? P = some (tblO ps') →
      Fr h₀ L h₃ m ∧ News h₀ L h₃ ((P, tblO ps') :: news) ∧ BMod h₃ env.globals mg bm ob ∧ h₃.NoLimit := by
    intro h₃ ps' hx₃ hP₃
    have hk : ∀ b o', h₀.get? b = some o' → h₃.get? b = some o' := fun b o' e => hx₃ b o' (fun eb => by rw [eb, hP0] at e; cases e) (F₂.keep b o' e)
    refine ⟨⟨F₂.ns.extBut hx₃ (Ne.symm hPL), hk, F₂.above⟩, ?_, M.keeps hk, hl₀.keeps hk⟩
    intro p hp
    rcases List.mem_cons.mp hp with rfl | hp
    · exact ⟨hP₃, hPL, hP0⟩
    · have z := N₂ p (.tail _ hp)
      exact ⟨hx₃ _ _ (hne p hp) z.1, z.2⟩
  have main : ∀ (code : Value) (h₃ : Heap) (tk₃ : Nat) (ps' : Array Value), Heap.ExtBut P (s₁.heap.push o) h₃ → h₃.get? P = some (tblO ps') → TriplesOk ps'.toList → (∃ more, ps' = ps ++ more) → (s₁.heap.push o).objs.size ≤ h₃.objs.size →
      wpAny (model prog w) A (builtinsFor env.globals env.builtins) (fun bi s₄ =>
        ∃ I fp wr n₀ P₀ St₀ pz F, Value.ref s₁.heap.objs.size = .ref I ∧ (∀ A' : Around, A'.handled = none → Walks prog w A' I fp wr n₀ P₀ St₀) ∧ St₀ 0 s₄.heap ∧ (∀ b ∈ fp, b < s₄.heap.objs.size) ∧ s₄.heap.NoLimit ∧ cStatics ∉ wr ∧
          (∀ href : Heap, (∀ b o, s₄.heap.get? b = some o → href.get? b = some o) →
            QuietGenD prog w (genEnv scope cl s₄.heap.objs.size code bi env) x [] elt (List.range s₄.heap.objs.size) wr P₀ pz F href (A.depth + 1) (A.units + 8)) ∧
          (∀ a h₅ tk gs, gs.bare = true → s₄.heap.objs.size < a → h₅.objs.size = a + 1 → (∀ b o, s₄.heap.get? b = some o → h₅.get? b = some o) →
            WalksS prog w A.in4 a (a :: s₄.heap.objs.size :: List.range s₄.heap.objs.size) (s₄.heap.objs.size :: wr) (GenOnlyQ s₄.gens.size) (passing pz n₀ 0).length
              (fun j y => ∃ i, (passing pz n₀ 0)[j]? = some i ∧ F i y) (GenAt prog w A.in4 a s₄.gens.size s₄.heap.objs.size (List.range s₄.heap.objs.size) wr pz n₀ F) →
            GenAt prog w A.in4 a s₄.gens.size s₄.heap.objs.size (List.range s₄.heap.objs.size) wr pz n₀ F 0 { s₄ with gens := s₄.gens.push gs, toks := tk, heap := h₅ } →
            Q (.ref a) { s₄ with gens := s₄.gens.push gs, toks := tk, heap := h₅ })) E { s₁ with heap := h₃, toks := tk₃ } := by
    intro code h₃ tk₃ ps' hx₃ hP₃ htr' hmore hsz
    obtain ⟨F₃, N₃, M₃, hl₃⟩ := step h₃ ps' hx₃ hP₃
    rw [Heap.size_push] at hsz
    refine wpAny_builtinsFor M₃.ns M₃.name M₃.ne M₃.obj M₃.cls M₃.dict M₃.data ?_
    have hcw : cStatics ∉ [s₁.heap.objs.size] := fun hm => by
      obtain ⟨_, hn, _⟩ := hl₀
      obtain ⟨oS, es, ep, ho, _⟩ := hn
      have h1 := Heap.lt_size (F₁.keep _ _ ho)
      exact absurd h1 ((List.mem_singleton.mp hm) ▸ Nat.lt_irrefl _)
    refine ⟨s₁.heap.objs.size, [s₁.heap.objs.size], [s₁.heap.objs.size], y.cps.size, SignAt y, St, (fun _ => true), (fun i r => ∃ b, y.cps.toList[i]? = some b ∧ Carried r (.bool (q b))), rfl, W,
      (W A hh).frame _ _ _ hst (fun b hb o' e => hx₃ b o' (fun eb => by rw [List.mem_singleton.mp hb] at eb; exact absurd hPlt (eb ▸ Nat.lt_irrefl _)) e), ?_, hl₃, hcw, fun href hhref => ?_, fun a h₅ tk gs hgb hag hsz₅ hk₅ W' hat => ?_⟩
    · intro b hb
      rw [List.mem_singleton.mp hb]
      show s₁.heap.objs.size < h₃.objs.size
      omega
    · have inB : ∀ (t : Shared) m₂, t.heap.Ns h₃.objs.size m₂ → (∀ b ∈ List.range h₃.objs.size, b ∉ [s₁.heap.objs.size] → ∀ o, href.get? b = some o → t.heap.get? b = some o) → Fr h₀ h₃.objs.size t.heap m₂ := fun t m₂ hn hkp =>
        ⟨hn, fun b o' e => hkp b (List.mem_range.mpr (Heap.lt_size (F₃.keep b o' e))) (fun hm => by
            rw [List.mem_singleton.mp hm] at e
            exact absurd (Heap.lt_size (F₁.keep _ _ e)) (Nat.lt_irrefl _)) o' (hhref b o' (F₃.keep b o' e)), Nat.le_trans F₃.above (Nat.le_of_lt F₃.ns.lt)⟩
      refine ⟨fun A' E' i v t m₂ hA hD hU hP hn hm hkp => wpAny_tests_nil ⟨rfl, keeps_refl t⟩, fun A' E' i v t m₂ hA hD hU hP hp hn hm hkp => ?_⟩
      obtain ⟨cc, u, hc, rfl⟩ := hP
      have hmem : cc ∈ y.cps.toList := by
        rw [Array.mem_toList_iff]
        exact Array.mem_of_getElem? hc
      exact wpAny_mono (helt code _ A' E' cc u t m₂ hA hD hU hmem (inB t m₂ hn hkp) hm) (fun r s₃ z => ⟨⟨cc, by simpa using hc, z.1⟩, z.2⟩) fun _ _ e => e
    · refine hQ a (s₁.heap.objs.size - 1) _ ps' (F₃.keeps hk₅) (N₃.grown hk₅) htr' hmore (G₁.push hgb) rfl ?_ (Nat.le_sub_one_of_lt hLlt) ?_
      · have hlen : (passing (fun _ => true) y.cps.size 0).length = (y.cps.toList.filter fun _ => true).length := by rw [pass_all, filter_t, List.length_range, Array.length_toList]
        show Gen prog w A _ a _ _ _
        rw [← hlen]
        refine ⟨_, _, _, _, W'.imp fun j r hy => ?_, hat, (fun i s' st => st.1.typeIs), List.mem_cons_self, ?_, ?_⟩
        · obtain ⟨i, hij, b, hb, hc⟩ := hy
          refine ⟨b, ?_, hc⟩
          rw [pass_all] at hij
          rw [filter_t]
          have : i = j := by
            have h1 := fun hj => List.getElem?_range (i := j) (n := y.cps.size) hj
            by_cases hj : j < y.cps.size
            · rw [h1 hj] at hij; exact (Option.some.inj hij).symm
            · rw [List.getElem?_eq_none (by rw [List.length_range]; omega)] at hij; cases hij
          rw [← this]
          exact hb
        · intro b hb
          show b < h₅.objs.size
          rw [hsz₅]
          rcases List.mem_cons.mp hb with rfl | hb
          · exact Nat.lt_succ_self _
          · rcases List.mem_cons.mp hb with rfl | hb
            · exact Nat.lt_succ_of_lt hag
            · exact Nat.lt_succ_of_lt (Nat.lt_trans (List.mem_range.mp hb) hag)
        · intro b hb
          rcases List.mem_cons.mp hb with rfl | hb
          · exact Nat.lt_of_le_of_lt (Nat.sub_le _ _) hsz
          · rw [List.mem_singleton.mp hb]; exact Nat.sub_lt (Nat.lt_of_le_of_lt (Nat.zero_le _) hLlt) Nat.one_pos
      · intro p hp
        have : p.1 < s₁.heap.objs.size := by
          rcases List.mem_cons.mp hp with rfl | hp
          · exact hPlt
          · exact Heap.lt_size (N₁ p (.tail _ hp)).1
        exact Nat.le_sub_one_of_lt this
  refine ⟨hlim₂, ?_⟩
  cases hnf : codeAmong pos ps.toList with
  | some cv =>
    exact wpAny_genexprCode_hit hcode (C₂.isCode hP₂ htr) hnf (main cv _ _ ps (Heap.ExtBut.refl _ _) hP₂ htr ⟨#[], by simp⟩ (Nat.le_refl _))
  | none =>
    refine wpAny_genexprCodeX hcode (C₂.isCode hP₂ htr) (C₂.tableAt hP₂) hnf fun c' h₃ tk₃ hx₃ hge hlt hcode₃ _ htab₃ _ => ?_
    have htr' : TriplesOk (ps ++ #[rawInt pos.line, rawInt pos.col, .ref c']).toList := by
      rw [Array.toList_append]
      exact TriplesOk_snoc _ _ _ _ htr
    exact main _ h₃ tk₃ _ hx₃ htab₃.2 htr' ⟨_, rfl⟩ (Nat.le_of_lt (Nat.lt_of_le_of_lt hge hlt))
end
end Mine

namespace Mine
/-- a call of the text's own def, from any frame of a def, over any ledger -/
def Cl (w : World) (mean : ExcName → Option Value) (mg mb : Str → Option Value) (k : Nat) (f : Addr) (args : List Value) (news : List (Addr × Obj))
    (Ret : Heap → Addr → (Str → Option Value) → Shared → (Value → Shared → Prop) → Prop) : Prop :=
  ∀ (p : Program) (loose : List Str) (dp un : Nat) (gd : Option (List Code)) (cn : Str) (cs : Scope) (a : Addr) (ccd : Value) (cl : List (Str × Addr)) (outer : List Env) (A₀ : Around) (base h₀ : Heap) (L : Addr) (m : Str → Option Value) (s : Shared) (Q E : Value → Shared → Prop),
    Below A₀ base outer h₀ → Fr h₀ L s.heap m → (hd.heap_39 w.params).In h₀ → News h₀ L s.heap news → Top p loose mean mg mb h₀ → cs.kind = .function →
    dp + k < recursionLimit → un + 8 * k < cLine → Ret h₀ L m s Q →
    wpAny (model PySem.Challenge.rw_oo0008_02.row.prog w) (ktrTop dp un gd cn cs L a ccd cl outer) (call (.ref f) args) Q E s

theorem Cl.use {w : World} {mean : ExcName → Option Value} {mg mb : Str → Option Value} {k : Nat} {f : Addr} {args : List Value} {news : List (Addr × Obj)} {Ret : Heap → Addr → (Str → Option Value) → Shared → (Value → Shared → Prop) → Prop}
    (C : Cl w mean mg mb k f args news Ret)
    {p : Program} {loose : List Str} {dp un : Nat} {gd : Option (List Code)} {cn : Str} {cs : Scope} {a : Addr} {ccd : Value} {cl : List (Str × Addr)} {outer : List Env} {A₀ : Around} {base h₀ : Heap} {L : Addr} {m : Str → Option Value} {s : Shared} {Q E : Value → Shared → Prop}
    (B : Below A₀ base outer h₀) (F : Fr h₀ L s.heap m) (X : (hd.heap_39 w.params).In h₀) (N : News h₀ L s.heap news) (T : Top p loose mean mg mb h₀) (hk : cs.kind = .function)
    (h1 : dp + k < recursionLimit) (h2 : un + 8 * k < cLine) (R : Ret h₀ L m s Q) :
    wpAny (model PySem.Challenge.rw_oo0008_02.row.prog w) (ktrTop dp un gd cn cs L a ccd cl outer) (call (.ref f) args) Q E s :=
  C _ _ _ _ _ _ _ _ _ _ _ _ _ _ _ _ _ _ _ B F X N T hk h1 h2 R
/-- an int comes back -/
abbrev RetI (news : List (Addr × Obj)) (x : Int) (h₀ : Heap) (L : Addr) (m : Str → Option Value) (s : Shared) (Q : Value → Shared → Prop) : Prop :=
  ∀ (t : Tok) (h' : Heap) (tk' : Nat), Fr h₀ L h' m → News h₀ L h' news → Q (.int x t) { s with heap := h', toks := tk' }
/-- a bool comes back -/
abbrev RetB (news : List (Addr × Obj)) (x : Bool) (h₀ : Heap) (L : Addr) (m : Str → Option Value) (s : Shared) (Q : Value → Shared → Prop) : Prop :=
  ∀ (h' : Heap) (tk' : Nat), Fr h₀ L h' m → News h₀ L h' news → Q (.bool x) { s with heap := h', toks := tk' }
/-- a text comes back -/
abbrev RetS (news : List (Addr × Obj)) (x : Str) (h₀ : Heap) (L : Addr) (m : Str → Option Value) (s : Shared) (Q : Value → Shared → Prop) : Prop :=
  ∀ (t : Tok) (h' : Heap) (tk' : Nat), Fr h₀ L h' m → News h₀ L h' news → Q (.str x t) { s with heap := h', toks := tk' }
/-- a new list of ints comes back -/
abbrev RetL (news : List (Addr × Obj)) (ns : List Int) (h₀ : Heap) (L : Addr) (m : Str → Option Value) (s : Shared) (Q : Value → Shared → Prop) : Prop :=
  ∀ (l : Addr) (us : List Value) (k : Nat) (h' : Heap) (tk' : Nat), Fr h₀ L h' m → News h₀ L h' ((l, listOf us.toArray k) :: news) → (∀ p ∈ news, p.1 ≠ l) → IntsAre us ns → Q (.ref l) { s with heap := h', toks := tk' }
theorem retL_end {news all : List (Addr × Obj)} {ns : List Int} {h₀ h' : Heap} {L l : Addr} {m : Str → Option Value} {s : Shared} {Q : Value → Shared → Prop} {us : List Value} {k tk' : Nat} (R : RetL news ns h₀ L m s Q) (F : Fr h₀ L h' m) (N : News h₀ L h' all)
    (hl : (l, listOf us.toArray k) ∈ all) (hs : ∀ p ∈ news, p ∈ all) (hne : ∀ p ∈ news, p.1 ≠ l) (I : IntsAre us ns) : Q (.ref l) { s with heap := h', toks := tk' } :=
  R l us k h' tk' F (fun p hp => (List.mem_cons.mp hp).elim (fun e => e ▸ N _ hl) fun hp => N p (hs p hp)) hne I
end Mine

namespace Mine
theorem band_small (x : Int) : (Builtin.bitAnd x 33554431).natAbs < 2 ^ 64 := by
  have h := kbt_mask x 25
  have e : (2 : Int) ^ 25 - 1 = 33554431 := by decide
  rw [e] at h
  rw [h]
  omega
def genZ : List Int := [996825010, 642813549, 513874426, 1027748829, 705979059]
def istep (top : Int) (c i : Int) : Int := Builtin.bitXor c (if Builtin.bitAnd (top.fdiv (2 ^ i.toNat)) 1 ≠ 0 then genZ.getD i.toNat 0 else 0)
def stepZ (chk v : Int) : Int := [0, 1, 2, 3, 4].foldl (istep (chk.fdiv (2 ^ 25))) (Builtin.bitXor (Builtin.bitAnd chk 33554431 * 2 ^ 5) v)
theorem in_start {d X v : Int} {f : Int → Int → Int} (h : d = X) : Builtin.bitXor (Builtin.bitAnd d 33554431 * 2 ^ Int.toNat 5) v = List.foldl f (Builtin.bitXor (Builtin.bitAnd X 33554431 * 2 ^ 5) v) [] := by subst h; rfl
theorem in_one {c d X Z k : Int} {pre : List Int} (h1 : d = X) (h2 : c = pre.foldl (istep (X.fdiv (2 ^ 25))) Z) (h3 : Builtin.bitAnd ((d.fdiv (2 ^ Int.toNat 25)).fdiv (2 ^ k.toNat)) 1 ≠ 0) :
    Builtin.bitXor c ([996825010, 642813549, 513874426, 1027748829, 705979059].getD k.toNat 0) = (pre ++ [k]).foldl (istep (X.fdiv (2 ^ 25))) Z := by
  subst h1; subst h2
  rw [List.foldl_append]
  show _ = istep _ _ k
  unfold istep genZ
  exact (congrArg _ (if_pos h3)).symm
theorem in_zero {c d X Z k : Int} {pre : List Int} (h1 : d = X) (h2 : c = pre.foldl (istep (X.fdiv (2 ^ 25))) Z) (h3 : Builtin.bitAnd ((d.fdiv (2 ^ Int.toNat 25)).fdiv (2 ^ k.toNat)) 1 = 0) :
    Builtin.bitXor c 0 = (pre ++ [k]).foldl (istep (X.fdiv (2 ^ 25))) Z := by
  subst h1; subst h2
  rw [List.foldl_append]
  show _ = istep _ _ k
  unfold istep
  exact (congrArg _ (if_neg (fun q => q h3))).symm
theorem out_turn {c d v : Int} {pre : List Int} (h1 : d = pre.foldl stepZ 1) (h2 : c = (rangeKs 0 (5 - 0 : Int).toNat).foldl (istep ((pre.foldl stepZ 1).fdiv (2 ^ 25))) (Builtin.bitXor (Builtin.bitAnd (pre.foldl stepZ 1) 33554431 * 2 ^ 5) v)) :
    c = (pre ++ [v]).foldl stepZ 1 := by
  subst h2
  have e : rangeKs 0 (5 - 0 : Int).toNat = [0, 1, 2, 3, 4] := by decide
  rw [List.foldl_append, e]
  simp only [List.foldl_cons, List.foldl_nil, stepZ]
theorem start0 : (1 : Int) = List.foldl stepZ 1 [] := by rw [List.foldl_nil]
set_option maxRecDepth 100000 in
set_option maxHeartbeats 1000000 in
theorem polymod_con (w : World) (mean : ExcName → Option Value) (mg mb : Str → Option Value) (news : List (Addr × Obj)) (l : Addr) (vs : List Value) (ns : List Int) (n : Nat)
  (hl : (l, listOf vs.toArray n) ∈ news) (hi : IntsAre vs ns) (hlen : ns.length < 2 ^ 20) : Cl w mean mg mb 1 21 [.ref l] news (RetI news (ns.foldl stepZ 1)) := by
  unfold Cl
  k_fill
  intro p loose dp un gd cn cs a ccd cl outer A₀ base h₀ L m s Q E B F X N T hk hd' hu hret
  have N2 : News h₀ L s.heap ((l, listOf vs.toArray n) :: news) := fun p hp => (List.mem_cons.mp hp).elim (fun e => e ▸ N _ hl) (N p)
  clear N hl
  refine wpAny_call ?_
  k_dflt ktr_enter
  (k_with "pyIter ref" => (k_of "value" => k_state (fun pre chk => chk = pre.foldl stepZ 1) "chk"))
  (k_with "pyIter ref" => (k_of "i" => k_state_short (fun pre chk => chk = pre.foldl (istep ((kPre.foldl stepZ 1).fdiv (2 ^ 25))) (Builtin.bitXor (Builtin.bitAnd (kPre.foldl stepZ 1) 33554431 * 2 ^ 5) kN)) "chk"))
  (k_with "state" => with_reducible (first | exact start0 | exact in_start (by assumption) | exact in_one (by assumption) (by assumption) (by assumption) | exact in_zero (by assumption) (by assumption) (by assumption) | exact out_turn (by assumption) (by assumption)))
  (k_with "binaryOp LShift int int" => (refine lshift_int_small (by decide) (by decide) (band_small _) ?_))
  k_steps
  rename Fr _ _ _ _ => Fz
  rename News _ _ _ _ => Nz
  subst kInv
  exact hret _ _ _ Fz (cb_drop Nz fun p hp => .tail _ (.tail _ hp))
end Mine

namespace Mine
local macro_rules | `(tactic| walk_at "eval Name") => `(tactic| (k_here; k_inBlock; (with_reducible rename Fr _ _ _ _ => kF); k_dflt (refine' nameGB_K kF ?k1 ?k2 ?k3 ?k8 ?k9 ?_ ?k4 ?kb ?k5 ?k6 ?k7; (case k4 => rfl); (case kb => rfl); (case k5 => rfl); (case k6 => rfl); (case k7 => decide); (case k1 => k_asm); (case k2 => k_asm); (case k3 => k_is); (case k8 => boot_by_name); (case k9 => decide); k_whole)))
local macro_rules | `(tactic| walk_at "eval ListComp") => `(tactic| (k_here; refine halt_of ?_))
def expandZ (x : Str) : List Int := x.cps.toList.map (fun c : Nat => (c : Int).fdiv (2 ^ 5)) ++ [0] ++ x.cps.toList.map (fun c : Nat => Builtin.bitAnd (c : Int) 31)
theorem expandZ_length (x : Str) : (expandZ x).length = 2 * x.length + 1 := by
  simp only [expandZ, List.length_append, List.length_map, Array.length_toList, List.length_cons, List.length_nil, Str.length]
  omega
set_option maxRecDepth 100000 in
set_option maxHeartbeats 1000000 in
theorem expand_con (w : World) (mean : ExcName → Option Value) (mg mb : Str → Option Value) (news : List (Addr × Obj)) (x : Str) (tx : Tok) (hlen : x.length < 2 ^ 10) :
  Cl w mean mg mb 1 26 [.str x tx] news (RetL news (expandZ x)) := by
  unfold Cl
  k_fill
  intro p loose dp un gd cn cs a ccd cl outer A₀ base h₀ L m s Q E B F X N T hk hd' hu hret
  have hxl : x.cps.toList.length < 2 ^ 10 := by rw [Array.length_toList]; exact hlen
  refine wpAny_call ?_
  k_dflt ktr_enter
  k_steps
  refine halt_in ?_
  rename Fr _ _ _ _ => F1
  rename News _ _ _ _ => N1
  with_unfolding_all refine lc_str (fun c => .int ((c : Int).fdiv (2 ^ 5))) rfl rfl (by decide) rfl (by decide) rfl (ld F1 rfl ⟨_, x, tx, rfl, ?_, F1, N1, ?_, ?_⟩) (by intro _; rfl)
  · rw [sizeLine_eq]; omega
  · intro C c u s₂ m₂ E' hC hc hn hm hkp
    have F2 := Fr.keeps F1 hkp
    have cE := InElt.start s₂.heap
    k_steps
    all_goals first | exact .int _ _ | exact ⟨_, _, rfl, cE⟩
  intro D1 ys1 n1 h1 tk1 F1' NX1 NP1 CA1
  have i1 := CA1.intsOf
  clear CA1
  k_steps
  refine halt_in ?_
  rename Fr _ _ _ _ => F2
  rename News _ _ _ _ => N2
  with_unfolding_all refine lc_str (fun c => .int (Builtin.bitAnd (c : Int) 31)) rfl rfl (by decide) rfl (by decide) rfl (ld F2 rfl ⟨_, x, tx, rfl, ?_, F2, N2, ?_, ?_⟩) (by intro _; rfl)
  · rw [sizeLine_eq]; omega
  · intro C c u s₂ m₂ E' hC hc hn hm hkp
    have F2 := Fr.keeps F2 hkp
    have cE := InElt.start s₂.heap
    k_steps
    all_goals first | exact .int _ _ | exact ⟨_, _, rfl, cE⟩
  intro D2 ys2 n2 h2 tk2 F2' NX2 NP2 CA2
  have i2 := CA2.intsOf
  clear CA2
  k_steps
  rename Fr _ _ _ _ => Fz
  rename News _ _ _ _ => Nz
  rename IntsAre _ _ => Iz
  rename _ ∧ _ ∧ _ ∧ _ ∧ AllLt _ _ => Lz
  exact retL_end hret Fz Nz (.head _) (fun p hp => by repeat (first | assumption | apply List.Mem.tail)) (fun p hp => Nat.ne_of_lt (kst_ltOf Lz.2.2.2.2 p hp)) Iz
end Mine

namespace Mine
local macro_rules | `(tactic| walk_at "call ref") => `(tactic| (k_here; refine halt_of ?_))
local macro_rules | `(tactic| tb_start) => `(tactic| ((case k1 => k_asm); (case k2 => k_asm); (case k3 => k_asm); (case k4 => k_asm); (case k5 => k_asm); (case kK => first | exact rfl | assumption); (case kd => ktr_room); (case ku => ktr_units)))
set_option maxRecDepth 100000 in
set_option maxHeartbeats 1000000 in
theorem verify_con (w : World) (mean : ExcName → Option Value) (mg mb : Str → Option Value) (news : List (Addr × Obj)) (x : Str) (tx : Tok) (l : Addr) (vs : List Value) (ns : List Int) (n : Nat)
  (hlen : x.length < 2 ^ 10) (hl : (l, listOf vs.toArray n) ∈ news) (hi : IntsAre vs ns) (hlen2 : ns.length < 2 ^ 10) : Cl w mean mg mb 3 33 [.str x tx, .ref l] news (RetB news ((expandZ x ++ ns).foldl stepZ 1 == 1)) := by
  unfold Cl
  k_fill
  intro p loose dp un gd cn cs a ccd cl outer A₀ base h₀ L m s Q E B F X N T hk hd' hu hret
  have N2 : News h₀ L s.heap ((l, listOf vs.toArray n) :: news) := fun p hp => (List.mem_cons.mp hp).elim (fun e => e ▸ N _ hl) (N p)
  clear N hl
  refine wpAny_call ?_
  k_dflt ktr_enter
  have hE : (expandZ x).length < 2 ^ 12 := by rw [expandZ_length]; omega
  k_steps
  refine halt_in ?_
  with_unfolding_all refine' Cl.use (expand_con w mean mg mb _ x tx hlen) ?k1 ?k2 ?k3 ?k4 ?k5 ?kK ?kd ?ku ?_
  tb_start
  intro l1 us1 j1 h1 tk1 F1 N1 ne1 I1
  dsimp only
  k_steps
  refine halt_in ?_
  rename IntsAre _ _ => Iz
  with_unfolding_all refine' Cl.use (polymod_con w mean mg mb _ _ _ _ _ (.head _) Iz ?hq) ?k1 ?k2 ?k3 ?k4 ?k5 ?kK ?kd ?ku ?_
  tb_start
  case hq => rw [List.length_append]; omega
  intro t2 h2 tk2 F2 N2
  dsimp only
  k_steps
  rename Fr _ _ _ _ => Fz
  rename News _ _ _ _ => Nz
  exact hret _ _ Fz (cb_drop Nz (fun p hp => by repeat (first | assumption | apply List.Mem.tail)))
end Mine

namespace Mine
/-- list(dv) makes a new list of ns -/
def CanList (dv : Value) (news : List (Addr × Obj)) (ns : List Int) : Prop :=
  ∀ {prog : Program} {w : World} {A : Around} {E : Value → Shared → Prop} {s : Shared} {h₀ : Heap} {L : Addr} {m : Str → Option Value} {all : List (Addr × Obj)} {Q : Value → Shared → Prop},
    A.handled = none → Fr h₀ L s.heap m → News h₀ L s.heap all → (∀ p ∈ news, p ∈ all) →
    (∀ D us c h' tk', Fr h₀ L h' m → News h₀ L h' ((D, listOf us.toArray c) :: all) → (∀ q ∈ all, q.1 < D) → IntsAre us ns → Q (.ref D) { s with heap := h', toks := tk' }) →
    wpAny (model prog w) A (call (.type "list") [dv]) Q E s
theorem CanList.mono {dv : Value} {news news' : List (Addr × Obj)} {ns : List Int} (h : CanList dv news ns) (hs : ∀ p ∈ news, p ∈ news') : CanList dv news' ns := by
  intro prog w A E s h₀ L m all Q hA F N hs' k
  exact h hA F N (fun p hp => hs' p (hs p hp)) k
theorem canList_list {l : Addr} {news : List (Addr × Obj)} {vs : List Value} {ns : List Int} {n : Nat} (hl : (l, listOf vs.toArray n) ∈ news) (hi : IntsAre vs ns) (hz : ns.length < 2 ^ 20) : CanList (.ref l) news ns := by
  intro prog w A E s h₀ L m all Q _ F N hs h
  exact list_copyK F N ⟨_, (N _ (hs _ hl)).1, rfl, n, rfl⟩ (fun D c h' F' N' hlt => h D vs c h' s.toks F' N' hlt hi) (by rw [List.size_toArray, hi.length, sizeLine_eq]; omega)
theorem canList_tuple {l : Addr} {news : List (Addr × Obj)} {vs : List Value} {ns : List Int} {n : Nat} (hl : (l, ({ cls := .type "tuple", data := .seq vs.toArray n } : Obj)) ∈ news) (hi : IntsAre vs ns) (hz : ns.length < 2 ^ 20) : CanList (.ref l) news ns := by
  intro prog w A E s h₀ L m all Q _ F N hs h
  exact list_copyKT F N ⟨_, (N _ (hs _ hl)).1, rfl, n, rfl⟩ (fun D c h' F' N' hlt => h D vs c h' s.toks F' N' hlt hi) (by rw [List.size_toArray, hi.length, sizeLine_eq]; omega)
local macro_rules | `(tactic| walk_at "call ref") => `(tactic| (k_here; refine halt_of ?_))
local macro_rules | `(tactic| walk_at "call type:list") => `(tactic| (k_here; refine halt_of ?_))
local macro_rules | `(tactic| walk_at "eval ListComp") => `(tactic| (k_here; refine halt_of ?_))
local macro_rules | `(tactic| tb_start) => `(tactic| ((case k1 => k_asm); (case k2 => k_asm); (case k3 => k_asm); (case k4 => k_asm); (case k5 => k_asm); (case kK => first | exact rfl | assumption); (case kd => ktr_room); (case ku => ktr_units)))
def createZ (x : Str) (ns : List Int) : List Int := (rangeInts 0 1 6).map fun i => Builtin.bitAnd ((Builtin.bitXor ((expandZ x ++ ns ++ [0, 0, 0, 0, 0, 0]).foldl stepZ 1) 1).fdiv (2 ^ (5 * (5 - i)).toNat)) 31
theorem createZ_length (x : Str) (ns : List Int) : (createZ x ns).length = 6 := by simp only [createZ, List.length_map, rangeInts_length]
set_option maxRecDepth 100000 in
set_option maxHeartbeats 1000000 in
theorem create_con (w : World) (mean : ExcName → Option Value) (mg mb : Str → Option Value) (news : List (Addr × Obj)) (x : Str) (tx : Tok) (dv : Value) (ns : List Int)
  (hlen : x.length < 2 ^ 10) (hcl : CanList dv news ns) (hlen2 : ns.length < 2 ^ 10) : Cl w mean mg mb 3 38 [.str x tx, dv] news (RetL news (createZ x ns)) := by
  unfold Cl
  k_fill
  intro p loose dp un gd cn cs a ccd cl outer A₀ base h₀ L m s Q E B F X N T hk hd' hu hret
  have hE : (expandZ x).length < 2 ^ 12 := by rw [expandZ_length]; omega
  refine wpAny_call ?_
  k_dflt (refine' code_defC ?k1 ?k2 ?k3 ?k4 ?k5 ?kA ?kF ?kK ?k6 ?k7 ?k8 ?k9 ?kB ?kD ?_ ?c2 ?c3 ?c4; (case kA => exact rfl); (case kF => exact rfl); (case kK => assumption); (case k1 => k_asm); (case k2 => k_asm); (case k3 => k_asm); (case k4 => k_asm); (case k5 => k_asm); (case k6 => k_is); (case k7 => k_is); (case k8 => ktr_room); (case k9 => exact BindsTo.of_eq rfl); (case kB => exact rfl); (case kD => decide +kernel); (case c2 => exact rfl); (case c3 => exact rfl); (case c4 => exact rfl); k_whole)
  intro g' L' h' tk' cells' FG' F' N' Y' B' X' T' ltL
  obtain ⟨o1, hE1, d1⟩ := CellsAre.one Y'
  subst hE1
  clear Y'
  try simp only [List.cons_append, List.nil_append] at N'
  try dsimp only
  try k_fold
  k_steps
  refine halt_in ?_
  with_unfolding_all refine' Cl.use (expand_con w mean mg mb _ x tx hlen) ?k1 ?k2 ?k3 ?k4 ?k5 ?kK ?kd ?ku ?_
  tb_start
  intro l1 us1 j1 h1 tk1 F1 N1 ne1 I1
  dsimp only
  k_steps
  refine halt_in ?_
  rename News _ _ _ _ => N1
  rename Fr _ _ _ _ => F1
  refine hcl rfl F1 N1 (fun p hp => by repeat (first | assumption | apply List.Mem.tail)) ?_
  intro D2 us2 c2 h2 tk2 F2 N2 lt2 I2
  dsimp only
  k_steps
  refine halt_in ?_
  rename IntsAre _ _ => Iz
  with_unfolding_all refine' Cl.use (polymod_con w mean mg mb _ _ _ _ _ (.head _) Iz ?hq) ?k1 ?k2 ?k3 ?k4 ?k5 ?kK ?kd ?ku ?_
  tb_start
  case hq => simp only [List.length_append, List.length_cons, List.length_nil]; omega
  intro t3 h3 tk3 F3 N3
  dsimp only
  k_steps
  have N4 := cb_drop N3 (news := (L' + 1, o1) :: news) (List.forall_mem_cons.mpr ⟨by repeat (first | exact List.Mem.head _ | apply List.Mem.tail), fun p hp => by repeat (first | assumption | apply List.Mem.tail)⟩)
  clear N3
  with_unfolding_all refine storeX_C F3 N4 (c := L' + 1) (o := o1) rfl (.head fun p hp => Nat.ne_of_lt (Nat.lt_succ_of_lt (ltL p hp))) d1 ?_ rfl rfl
  intro h4 o4 F4 N4 d4
  dsimp only
  k_steps
  refine halt_in ?_
  with_unfolding_all refine lc_range (cl := [(Str.ofString "polymod", L' + 1)]) F4 N4 (fun i => .int (Builtin.bitAnd ((Builtin.bitXor ((expandZ x ++ ns ++ [0, 0, 0, 0, 0, 0]).foldl stepZ 1) 1).fdiv (2 ^ (5 * (5 - i)).toNat)) 31)) rfl rfl (by decide) rfl (by decide) rfl (by intro _; rfl) ?_
  k_steps
  refine halt_in ?_
  rename IsRange _ _ _ _ _ _ _ _ => R5
  rename Fr _ _ _ _ => F5
  rename News _ _ _ _ => N5
  refine ⟨_, _, _, _, _, 6, rfl, R5, by decide, by rfl, by rw [sizeLine_eq]; omega, F5, N5, ?_, ?_⟩
  · intro C i t s₂ m₂ E' hC ha0 ha1 hn hm hkp
    have F6 := Fr.keeps F5 hkp
    have cE := InElt.start s₂.heap
    have hget : s₂.heap.get? (L' + 1) = some o4 := hkp _ _ (N5 _ (.head _)).1
    (k_with "eval Name" => (with_unfolding_all refine ldCellK (c := L' + 1) rfl ⟨o4, hget, d4⟩ ?_))
    k_steps
    all_goals first | exact .int _ _ | exact ⟨_, _, rfl, cE⟩
  · intro D6 ys6 k6 h6 tk6 F6 N6 ne6 C6
    have I6 := C6.intsOf
    dsimp only
    k_steps
    rename Fr _ _ _ _ => Fz
    rename News _ _ _ _ => Nz
    exact retL_end hret Fz Nz (.head _) (fun p hp => by repeat (first | assumption | apply List.Mem.tail)) (fun p hp => ne6 p (.tail _ hp)) I6
end Mine

namespace Mine
def charset : Str := ⟨#[113, 112, 122, 114, 121, 57, 120, 56, 103, 102, 50, 116, 118, 100, 119, 48, 115, 51, 106, 110, 53, 52, 107, 104, 99, 101, 54, 109, 117, 97, 55, 108]⟩
/-- the sign of a number -/
def signOf (d : Int) : Nat := charset.cps.toList.getD d.toNat 0
def charsetO : Str := Str.ofString "qpzry9x8gf2tvdw0s3jn54khce6mua7l"
theorem item_sign_fin : ∀ i : Fin 32, Txt.item charsetO ((i.val : Nat) : Int) = ⟨#[signOf ((i.val : Nat) : Int)]⟩ := by decide +kernel
theorem item_sign {i : Int} (h0 : 0 ≤ i) (h1 : i < 32) : Txt.item charsetO i = ⟨#[signOf i]⟩ := by
  have h := item_sign_fin ⟨i.toNat, by omega⟩
  have e : ((i.toNat : Nat) : Int) = i := by omega
  simpa only [e] using h
theorem charsetO_length : charsetO.length = 32 := by decide +kernel
theorem item_charset {prog : Program} {w : World} {A : Around} {E : Value → Shared → Prop} {s : Shared} {value slice : Expr} {t u : Tok} {i : Int} {Q : Value → Shared → Prop} (h0 : 0 ≤ i) (h1 : i < 32) (h : Q (.str ⟨#[signOf i]⟩ s.toks) { s with toks := s.toks + 1 })
    (hs : subscripted slice false (.str charsetO t) (.int i u) = operate [.str charsetO t, .int i u] (getItem (.str charsetO t) (.int i u)) := by with_unfolding_all rfl)
    (ht : ∀ r, letTemporaryGo value (.str charsetO t) r = pure () := by intro _; with_unfolding_all rfl) :
    wpAny (model prog w) A (subscriptTail value slice (.str (Str.ofString "qpzry9x8gf2tvdw0s3jn54khce6mua7l") t) (.int i u)) Q E s :=
  item_str (x := charsetO) (fitsSsize_of (N := 9223372036854775808) (by omega) (by omega) (Int.le_refl _)) (by rw [charsetO_length]; omega) (by rw [charsetO_length]; omega) (fun _ => (item_sign h0 h1).symm ▸ h) hs ht
theorem join_signs (f : Int → Nat) (l : List Int) : Txt.join (Str.ofString "") (l.map fun i => (⟨#[f i]⟩ : Str)) = ⟨(l.map f).toArray⟩ := by
  have h := join_nil_signs ⟨(l.map f).toArray⟩
  have e : signs ⟨(l.map f).toArray⟩ = l.map fun i => (⟨#[f i]⟩ : Str) := by
    simp only [signs, List.map_map]; rfl
  rw [e] at h
  have e0 : Str.ofString "" = ⟨#[]⟩ := by decide +kernel
  rw [e0]
  exact (StrLaws.glued_eq_join _ _).trans h
theorem sum_ones (f : Int → Nat) (l : List Int) : ((l.map fun i => (⟨#[f i]⟩ : Str)).map (·.length)).sum = l.length := by
  induction l with
  | nil => rfl
  | cons a r ih => simp only [List.map_cons, List.sum_cons, List.length_cons] at ih ⊢; rw [ih]; show 1 + r.length = _; omega
/-- what bech32_encode writes -/
def encZ (x : Str) (ns : List Int) : Str := x ++ Str.ofString "1" ++ ⟨((ns ++ createZ x ns).map signOf).toArray⟩
theorem createZ_lt (x : Str) (ns : List Int) : ∀ d ∈ createZ x ns, 0 ≤ d ∧ d < 32 := by
  intro d hd
  obtain ⟨i, _, rfl⟩ := List.mem_map.mp hd
  have h : ∀ z : Int, Builtin.bitAnd z 31 = z % 32 := bitAnd_m5
  rw [h]
  omega
local macro_rules | `(tactic| walk_at "call ref") => `(tactic| (k_here; refine halt_of ?_))
local macro_rules | `(tactic| walk_at "call type:list") => `(tactic| (k_here; refine halt_of ?_))
local macro_rules | `(tactic| walk_at "subscriptTail Name Name str int") => `(tactic| refine item_charset (by assumption) (by assumption) ?_)
local macro_rules | `(tactic| walk_at "call builtin:str.join") => `(tactic| (k_here; refine halt_of ?_))
local macro_rules | `(tactic| walk_at "binaryOp Add str str") => `(tactic| (k_here; refine halt_of ?_))
local macro_rules | `(tactic| walk_at "eval ListComp") => `(tactic| (k_here; refine halt_of ?_))
local macro_rules | `(tactic| tb_start) => `(tactic| ((case k1 => k_asm); (case k2 => k_asm); (case k3 => k_asm); (case k4 => k_asm); (case k5 => k_asm); (case kK => first | exact rfl | assumption); (case kd => ktr_room); (case ku => ktr_units)))
set_option maxRecDepth 100000 in
set_option maxHeartbeats 1000000 in
theorem encode_con (w : World) (mean : ExcName → Option Value) (mg mb : Str → Option Value) (news : List (Addr × Obj)) (x : Str) (tx : Tok) (dv : Value) (ns : List Int)
  (hlen : x.length < 2 ^ 10) (hcl : CanList dv news ns) (hlen2 : ns.length < 2 ^ 10) (hb : ∀ d ∈ ns, 0 ≤ d ∧ d < 32) : Cl w mean mg mb 5 43 [.str x tx, dv] news (RetS news (encZ x ns)) := by
  unfold Cl
  k_fill
  intro p loose dp un gd cn cs a ccd cl outer A₀ base h₀ L m s Q E B F X N T hk hd' hu hret
  have hE : (expandZ x).length < 2 ^ 12 := by rw [expandZ_length]; omega
  have hC := createZ_length x ns
  refine wpAny_call ?_
  k_dflt ktr_enter
  k_steps
  refine halt_in ?_
  rename News _ _ _ _ => N1
  rename Fr _ _ _ _ => F1
  refine hcl rfl F1 N1 (fun p hp => by repeat (first | assumption | apply List.Mem.tail)) ?_
  intro D2 us2 c2 h2 tk2 F2 N2 lt2 I2
  dsimp only
  k_steps
  refine halt_in ?_
  with_unfolding_all refine' Cl.use (create_con w mean mg mb ((D2, listOf us2.toArray c2) :: news) x tx dv ns hlen (hcl.mono fun p hp => .tail _ hp) hlen2) ?k1 ?k2 ?k3 ?k4 ?k5 ?kK ?kd ?ku ?_
  tb_start
  intro l3 us3 j3 h3 tk3 F3 N3 ne3 I3
  dsimp only
  k_steps
  refine halt_in ?_
  refine PyProof.Rows.add_str ?_ (by rw [show (Str.ofString "1").length = 1 from by decide +kernel, sizeLine_eq]; omega)
  intro t8 k8
  dsimp only
  k_steps
  refine halt_in ?_
  rename IntsAre _ _ => I4
  rename News _ _ _ _ => N4
  rename Fr _ _ _ _ => F4
  with_unfolding_all refine lc_ints F4 N4 (fun i => .str ⟨#[signOf i]⟩) rfl rfl (by decide) rfl (by decide) rfl (by intro _; rfl) (ld F4 rfl (halt_in ⟨_, _, _, rfl, News.isList N4 (.head _), I4, ?_, F4, N4, ?_, ?_⟩))
  · simp only [List.length_append, sizeLine_eq]; omega
  · intro C i t s₂ m₂ E' hC hi hn hm hkp
    have F6 := Fr.keeps F4 hkp
    have cE := InElt.start s₂.heap
    have hi2 : 0 ≤ i ∧ i < 32 := (List.mem_append.mp hi).elim (hb i) (createZ_lt x ns i)
    have hi0 := hi2.1
    have hi1 := hi2.2
    k_steps
    all_goals first | exact .str _ _ | exact ⟨_, _, rfl, cE⟩
  · intro D6 ys6 k6 h6 tk6 F6 N6 ne6 C6
    have I6 := C6.strsOf
    dsimp only
    k_steps
    refine halt_in ?_
    refine join_list (News.isList N6 (.head _)) I6 ?_ ?_
    · rw [sum_ones, List.length_map, List.length_append, show (Str.ofString "").length = 0 from by decide +kernel]; omega
    rw [join_signs]
    intro t7 k7
    dsimp only
    k_steps
    refine halt_in ?_
    refine PyProof.Rows.add_str ?_ ?_
    · intro t9 k9
      dsimp only
      k_steps
      rename Fr _ _ _ _ => Fz
      rename News _ _ _ _ => Nz
      exact hret _ _ _ Fz (cb_drop Nz (fun p hp => by repeat (first | assumption | apply List.Mem.tail)))
    · rw [Str.length_append, show (Str.ofString "1").length = 1 from by decide +kernel, sizeLine_eq]
      show _ + (List.toArray _).size ≤ _
      rw [List.size_toArray, List.length_map, List.length_append]
      omega
end Mine

namespace Mine
theorem signNe_fin : ∀ i : Fin 32, signOf ((i.val : Nat) : Int) ≠ 49 := by decide +kernel
theorem dec_cps {x b : Str} {ds : List Int} (hB : b = x ++ Str.ofString "1" ++ ⟨(ds.map signOf).toArray⟩) : b.cps.toList = x.cps.toList ++ ([49] ++ ds.map signOf) := by
  rw [hB]
  have e1 : ∀ u v : Str, (u ++ v).cps.toList = u.cps.toList ++ v.cps.toList := fun u v => Array.toList_append
  rw [e1, e1, show (Str.ofString "1").cps.toList = [49] from by decide +kernel, List.append_assoc]
theorem dec_len {x b : Str} {ds : List Int} (hB : b = x ++ Str.ofString "1" ++ ⟨(ds.map signOf).toArray⟩) : b.length = x.length + (1 + ds.length) := by
  have h := congrArg List.length (dec_cps hB)
  simp only [List.length_append, Array.length_toList, List.length_map, List.length_cons, List.length_nil] at h
  exact h
theorem str_of_toList {x y : Str} (h : x.cps.toList = y.cps.toList) : x = y := by
  cases x; cases y
  rw [Str.mk.injEq]
  exact Array.toList_inj.mp h
theorem dec_at {x b : Str} {ds : List Int} (hb : ∀ d ∈ ds, 0 ≤ d ∧ d < 32) (hB : b = x ++ Str.ofString "1" ++ ⟨(ds.map signOf).toArray⟩) : Txt.rfind b (Str.ofString "1") = (x.length : Int) := by
  have one : (Str.ofString "1").length = 1 := by decide +kernel
  have oneL : (Str.ofString "1").cps.toList = [49] := by decide +kernel
  have hl := dec_len hB
  have xl : x.cps.toList.length = x.length := Array.length_toList
  have hat : StrLaws.At b (Str.ofString "1") b.length x.length := by
    refine ⟨by rw [one]; omega, ?_⟩
    rw [StrLaws.subAt_eq, one, oneL, dec_cps hB]
    rw [List.drop_append_of_le_length (by omega), List.drop_of_length_le (by omega)]
    rfl
  rcases rfind_whole b (Str.ofString "1") with ⟨_, hn⟩ | ⟨i, he, hi, hn⟩
  · exact absurd hat (hn _)
  · rw [he]
    by_cases h1 : i < x.length
    · exact absurd hat (hn _ h1)
    by_cases h2 : i = x.length
    · rw [h2]
    have h3 : x.length < i := by omega
    obtain ⟨hi1, hi2⟩ := hi
    rw [one] at hi1
    rw [StrLaws.subAt_eq, one, oneL, dec_cps hB, List.drop_append, List.drop_of_length_le (by omega)] at hi2
    have h4 : i - x.cps.toList.length = (i - x.length - 1) + 1 := by omega
    rw [h4] at hi2
    have h5 : i - x.length - 1 < ds.length := by omega
    simp only [List.nil_append, List.cons_append, List.drop_succ_cons] at hi2
    rw [← List.map_drop, List.drop_eq_getElem_cons h5] at hi2
    simp only [List.map_cons, List.take_succ_cons, List.take_zero, beq_iff_eq, List.cons.injEq, and_true] at hi2
    have hd := hb _ (List.getElem_mem h5)
    have hs := signNe_fin ⟨(ds[i - x.length - 1]).toNat, by omega⟩
    have e : (((ds[i - x.length - 1]).toNat : Nat) : Int) = ds[i - x.length - 1] := by omega
    simp only [e] at hs
    exact absurd hi2 hs
theorem dec_fst {x b : Str} {ds : List Int} (hB : b = x ++ Str.ofString "1" ++ ⟨(ds.map signOf).toArray⟩) : Txt.slice b none (some (x.length : Int)) = x := by
  have hl := dec_len hB
  have xl : x.cps.toList.length = x.length := Array.length_toList
  rw [eq_of_beq (slice_closes_toL (x := b) (j := (x.length : Int)) (by omega) (by omega))]
  refine str_of_toList ?_
  show List.take _ (List.drop _ b.cps.toList) = _
  rw [dec_cps hB]
  have e : ((x.length : Int) - 0).toNat = x.length := by omega
  rw [e]
  show List.take _ (x.cps.toList ++ _) = _
  rw [List.take_append_of_le_length (by omega), List.take_of_length_le (by omega)]
theorem dec_snd {x b : Str} {ds : List Int} (hB : b = x ++ Str.ofString "1" ++ ⟨(ds.map signOf).toArray⟩) : Txt.slice b (some ((x.length : Int) + 1)) none = ⟨(ds.map signOf).toArray⟩ := by
  have hl := dec_len hB
  have xl : x.cps.toList.length = x.length := Array.length_toList
  rw [eq_of_beq (slice_closes_fromL (x := b) (i := (x.length : Int) + 1) (by omega) (by omega) rfl)]
  refine str_of_toList ?_
  show List.take _ (List.drop _ b.cps.toList) = ds.map signOf
  rw [dec_cps hB]
  have e : ((x.length : Int) + 1).toNat = x.length + 1 := by omega
  have e2 : ((b.length : Int) - ((x.length : Int) + 1)).toNat = ds.length := by omega
  rw [e, e2, List.drop_append, List.drop_of_length_le (by omega)]
  have e3 : x.length + 1 - x.cps.toList.length = 1 := by omega
  rw [e3]
  show List.take _ (ds.map signOf) = _
  rw [List.take_of_length_le (by rw [List.length_map]; omega)]
theorem find_fin : ∀ i : Fin 32, Txt.find charsetO ⟨#[signOf ((i.val : Nat) : Int)]⟩ = ((i.val : Nat) : Int) := by decide +kernel
theorem dec_find {ds : List Int} (hb : ∀ d ∈ ds, 0 ≤ d ∧ d < 32) : (⟨(ds.map signOf).toArray⟩ : Str).cps.toList.map (fun c => Txt.find charsetO ⟨#[c]⟩) = ds := by
  show (ds.map signOf).map _ = ds
  rw [List.map_map]
  refine Eq.trans (List.map_congr_left fun d hd => ?_) (List.map_id ds)
  have h := find_fin ⟨d.toNat, by have := hb d hd; omega⟩
  have e : ((d.toNat : Nat) : Int) = d := by have := hb d hd; omega
  simp only [e] at h
  exact h
end Mine

namespace Mine
/-- what bech32_decode hands back -/
abbrev RetD (news : List (Addr × Obj)) (P : Addr) (ps : Array Value) (x : Str) (ns : List Int) (h₀ : Heap) (L : Addr) (m : Str → Option Value) (s : Shared) (Q : Value → Shared → Prop) : Prop :=
  ∀ (tp l : Addr) (us : List Value) (k kt : Nat) (t : Tok) (ps' : Array Value) (s' : Shared), Fr h₀ L s'.heap m →
    News h₀ L s'.heap ((tp, ({ cls := .type "tuple", data := .seq [Value.str x t, Value.ref l].toArray kt } : Obj)) :: (l, listOf us.toArray k) :: (P, tblO ps') :: news) →
    (∀ p ∈ (l, listOf us.toArray k) :: (P, tblO ps') :: news, p.1 ≠ tp) → (∀ p ∈ (P, tblO ps') :: news, p.1 ≠ l) → IntsAre us ns → TriplesOk ps'.toList → (∃ more, ps' = ps ++ more) → AllBare s'.gens → s'.os = s.os → Q (.ref tp) s'
theorem retD_end {news : List (Addr × Obj)} {P : Addr} {ps : Array Value} {x : Str} {ns : List Int} {h₀ : Heap} {L : Addr} {m : Str → Option Value} {s : Shared} {Q : Value → Shared → Prop}
    (R : RetD news P ps x ns h₀ L m s Q) {tp l D : Addr} {us : List Value} {k kt : Nat} {t : Tok} {ps' : Array Value} {o : Obj} {s' : Shared} (F : Fr h₀ L s'.heap m)
    (N : News h₀ L s'.heap ((tp, ({ cls := .type "tuple", data := .seq [Value.str x t, Value.ref l].toArray kt } : Obj)) :: (l, listOf us.toArray k) :: (D, o) :: (P, tblO ps') :: news))
    (h1 : l < tp ∧ D < tp ∧ P < tp ∧ AllLt tp news) (h2 : D < l ∧ P < l ∧ AllLt l news) (I : IntsAre us ns) (ht : TriplesOk ps'.toList) (hm : ∃ more, ps' = ps ++ more) (hg : AllBare s'.gens) (ho : s'.os = s.os) : Q (.ref tp) s' := by
  refine R tp l us k kt t ps' s' F (cb_drop N fun p hp => ?_) (fun p hp => ?_) (fun p hp => ?_) I ht hm hg ho
  · rcases List.mem_cons.mp hp with rfl | hp
    · exact .head _
    rcases List.mem_cons.mp hp with rfl | hp
    · exact .tail _ (.head _)
    exact .tail _ (.tail _ (.tail _ hp))
  · rcases List.mem_cons.mp hp with rfl | hp
    · exact Nat.ne_of_lt h1.1
    rcases List.mem_cons.mp hp with rfl | hp
    · exact Nat.ne_of_lt h1.2.2.1
    exact Nat.ne_of_lt (kst_ltOf h1.2.2.2 p hp)
  · rcases List.mem_cons.mp hp with rfl | hp
    · exact Nat.ne_of_lt h2.2.1
    exact Nat.ne_of_lt (kst_ltOf h2.2.2 p hp)
local macro_rules | `(tactic| walk_at "call ref") => `(tactic| (k_here; refine halt_of ?_))
local macro_rules | `(tactic| walk_at "call builtin:any") => `(tactic| (k_here; refine halt_of ?_))
local macro_rules | `(tactic| walk_at "call builtin:all") => `(tactic| (k_here; refine halt_of ?_))
local macro_rules | `(tactic| walk_at "eval Name") => `(tactic| (k_here; (with_reducible show wpAny _ _ (eval (PySem.Expr.Name _ _) (genEnv _ _ _ _ _ _)) _ _ _); (with_reducible rename Fr _ _ _ _ => kF); first
  | (with_unfolding_all refine ldVarG kF (by assumption) ?_)
  | (k_dflt (refine' nameGB_K kF ?k1 ?k2 ?k3 ?k8 ?k9 ?_ ?k4 ?kb ?k5 ?k6 ?k7; (case k4 => rfl); (case kb => rfl); (case k5 => rfl); (case k6 => rfl); (case k7 => decide); (case k1 => k_asm); (case k2 => k_asm); (case k3 => k_is); (case k8 => boot_by_name); (case k9 => decide); k_whole))
  | (k_dflt (refine' nameG_K kF ?k1 ?k2 ?k3 ?_ ?k4 ?k5 ?k6 ?k7; (case k4 => rfl); (case k5 => rfl); (case k6 => rfl); (case k7 => decide); (case k1 => k_asm); (case k2 => k_asm); (case k3 => k_is); k_whole))))
local macro_rules | `(tactic| walk_at "eval ListComp") => `(tactic| (k_here; refine halt_of ?_))
local macro_rules | `(tactic| walk_at "exec Assign cons ListComp") => `(tactic| (k_here; refine halt_of ?_))
local macro_rules | `(tactic| walk_at "eval GeneratorExp") => `(tactic| (k_here; refine halt_of ?_))
local macro_rules | `(tactic| tb_start) => `(tactic| ((case k1 => k_asm); (case k2 => k_asm); (case k3 => k_asm); (case k4 => k_asm); (case k5 => k_asm); (case kK => first | exact rfl | assumption); (case kd => ktr_room); (case ku => ktr_units)))
local macro_rules | `(tactic| walk_at "call builtin:str.lower") => `(tactic| (k_here; refine halt_of ?_))
local macro_rules | `(tactic| walk_at "call builtin:str.rfind") => `(tactic| (k_here; refine halt_of ?_))
local macro_rules | `(tactic| walk_at "compareOp NotEq str str") => `(tactic| (k_here; refine halt_of ?_))
theorem in_fin : ∀ i : Fin 32, (!(Builtin.Str.occurrences (Str.ofString "qpzry9x8gf2tvdw0s3jn54khce6mua7l") ⟨#[signOf ((i.val : Nat) : Int)]⟩ 0 (Str.ofString "qpzry9x8gf2tvdw0s3jn54khce6mua7l").length 1).isEmpty) = true := by decide +kernel
theorem dec_in {ds : List Int} {c : Nat} (hb : ∀ d ∈ ds, 0 ≤ d ∧ d < 32) (hc : c ∈ (⟨(ds.map signOf).toArray⟩ : Str).cps.toList) : (!(Builtin.Str.occurrences (Str.ofString "qpzry9x8gf2tvdw0s3jn54khce6mua7l") ⟨#[c]⟩ 0 (Str.ofString "qpzry9x8gf2tvdw0s3jn54khce6mua7l").length 1).isEmpty) = true := by
  obtain ⟨d, hd, rfl⟩ := List.mem_map.mp (show c ∈ ds.map signOf from hc)
  have h := in_fin ⟨d.toNat, by have := hb d hd; omega⟩
  have e : ((d.toNat : Nat) : Int) = d := by have := hb d hd; omega
  simpa only [e] using h
def okS (c : Nat) : Prop := 33 ≤ c ∧ c ≤ 126 ∧ ¬ (65 ≤ c ∧ c ≤ 90)
theorem sign_fin : ∀ i : Fin 32, 48 ≤ signOf ((i.val : Nat) : Int) ∧ signOf ((i.val : Nat) : Int) ≤ 122 ∧ signOf ((i.val : Nat) : Int) ≠ 49 ∧ ¬ (65 ≤ signOf ((i.val : Nat) : Int) ∧ signOf ((i.val : Nat) : Int) ≤ 90) := by decide +kernel
theorem sign_ok {d : Int} (h0 : 0 ≤ d) (h1 : d < 32) : 48 ≤ signOf d ∧ signOf d ≤ 122 ∧ signOf d ≠ 49 ∧ ¬ (65 ≤ signOf d ∧ signOf d ≤ 90) := by
  have h := sign_fin ⟨d.toNat, by omega⟩
  have e : ((d.toNat : Nat) : Int) = d := by omega
  simpa only [e] using h
theorem enc_cps {x b : Str} {ds : List Int} (hB : b = x ++ Str.ofString "1" ++ ⟨(ds.map signOf).toArray⟩) : b.cps.toList = x.cps.toList ++ [49] ++ ds.map signOf := by
  rw [hB]
  have e1 : ∀ u v : Str, (u ++ v).cps.toList = u.cps.toList ++ v.cps.toList := fun u v => Array.toList_append
  rw [e1, e1, show (Str.ofString "1").cps.toList = [49] from by decide +kernel]
theorem enc_ok {x b : Str} {ds : List Int} (hB : b = x ++ Str.ofString "1" ++ ⟨(ds.map signOf).toArray⟩) (hb : ∀ d ∈ ds, 0 ≤ d ∧ d < 32) (hx : ∀ c ∈ x.cps.toList, okS c) : ∀ c ∈ b.cps.toList, okS c := by
  rw [enc_cps hB]
  intro c hc
  rcases List.mem_append.mp hc with hc | hc
  · rcases List.mem_append.mp hc with hc | hc
    · exact hx c hc
    · rw [List.mem_singleton.mp hc]; exact ⟨by decide, by decide, by decide⟩
  · obtain ⟨d, hd, rfl⟩ := List.mem_map.mp hc
    have h := sign_ok (hb d hd).1 (hb d hd).2
    exact ⟨by omega, by omega, h.2.2.2⟩
theorem carried_bool {a b : Bool} (h : a = b) : Carried (.bool a) (.bool b) := h ▸ .bool _
set_option maxRecDepth 100000 in
set_option maxHeartbeats 400000 in
theorem decode_con (w : World) (mean : ExcName → Option Value) (mg mb : Str → Option Value) (news : List (Addr × Obj)) (P : Addr) (ps : Array Value) (x b : Str) (tx : Tok) (ds : List Int)
  (hx1 : 1 ≤ x.length) (hx2 : x.length ≤ 83) (hlen2 : ds.length < 2 ^ 9) (hlen3 : 6 ≤ ds.length) (hb : ∀ d ∈ ds, 0 ≤ d ∧ d < 32) (hx : ∀ c ∈ x.cps.toList, okS c)
  (hB : b = x ++ Str.ofString "1" ++ ⟨(ds.map signOf).toArray⟩)
  (hP : (expandZ x ++ ds).foldl stepZ 1 = 1)
  (hne : ∀ p ∈ news, p.1 ≠ P) (htr : TriplesOk ps.toList) : Cl w mean mg mb 8 48 [.str b tx] ((P, tblO ps) :: news) (fun h₀ L m s Q => CodeOf h₀ 47 P ∧ AllBare s.gens ∧ RetD news P ps x (ds.take (ds.length - 6)) h₀ L m s Q) := by
  unfold Cl
  k_fill
  intro p loose dp un gd cn cs a ccd cl outer A₀ base h₀ L m s Q E B F X N T hk hd' hu ⟨hC, hG, hret⟩
  have hlb : b.length = x.length + 1 + ds.length := by
    rw [hB, Str.length_append, Str.length_append, show (Str.ofString "1").length = 1 from by decide +kernel]
    show _ + (List.toArray _).size = _
    rw [List.size_toArray, List.length_map]
  have hS := enc_ok hB hb hx
  have hS2 : KXs.Still b := fun c hc => by have h := hS c hc; unfold okS at h; omega
  refine wpAny_call ?_
  k_dflt ktr_enter
  rename Below _ _ _ _ => B1
  rename Top _ _ _ _ _ _ => T1
  rename Fr h₀ _ _ _ => FG
  have C1 : CodeOf _ 47 P := CodeOf.keeps hC (Fr.keep FG)
  obtain ⟨bm, ob, M1⟩ := bmod_of_top T1
  have hl1 := T1.nolimit
  k_steps
  refine halt_in ?_
  rename Fr _ _ _ _ => F1
  rename News _ _ _ _ => N1
  with_unfolding_all refine ge_str (c := 47) (cl := []) (fun _ => false) F1 hne C1 htr M1 hl1 rfl rfl rfl rfl (by decide) rfl rfl rfl (by ktr_room) (by intro _; rfl) (ld F1 rfl (halt_in ⟨b, tx, rfl, F1, N1, hG, ?_, ?_⟩))
  · intro c' C A' E' cc u st m₂ hA hAd hAu hcc F2 hm2
    have h33 := (hS cc hcc).1
    have h126 := (hS cc hcc).2.1
    k_steps
    all_goals first | exact ⟨_, _, rfl, fun _ _ e => e⟩ | (refine carried_bool (decide_eq_false ?_); omega)
  · intro a1 Kb1 s1 ps1 F2 N2 ht2 hmore2 hG2 hos2 X2 hLK hKb
    try dsimp only
    k_steps
    refine halt_in ?_
    refine any_genD F2 hG2 X2 hLK ?_
    intro s2 F3 hG3 hos3 hk3
    have N3 : News _ _ s2.heap ((P, tblO ps1) :: news) := fun p hp => ⟨hk3 _ _ (hKb p hp) (N2 p hp).1, (N2 p hp).2⟩
    rw [show (b.cps.toList.filter fun _ => true).any (fun _ => false) = false from List.any_eq_false.mpr fun _ _ => Bool.false_ne_true]
    clear N2 F2 X2 hk3
    try dsimp only
    k_steps
    refine halt_in ?_
    refine KXs.lower_K hS2 (by omega) ?_
    intro t3 k3
    try dsimp only
    k_steps
    refine halt_in ?_
    refine PyProof.Rows.ne_str ?_
    rw [bne_self_eq_false]
    try dsimp only
    k_steps
    refine halt_in ?_
    refine KXs.lower_K hS2 (by omega) ?_
    intro t4 k4
    try dsimp only
    k_steps
    refine halt_in ?_
    refine SC.rfind ?_
    rw [dec_at hb hB]
    try dsimp only
    k_steps
    refine halt_in ?_
    rename Fr _ _ _ _ => F4
    rename News _ _ _ _ => N4
    obtain ⟨more2, hm2⟩ := hmore2
    with_unfolding_all refine ge_str (c := 47) (cl := []) (fun _ => true) F4 hne C1 ht2 M1 hl1 rfl rfl rfl rfl (by decide) rfl rfl rfl (by ktr_room) (by intro _; rfl) ?_
    k_steps
    refine halt_in ?_
    rw [dec_snd hB]
    rename Fr _ _ _ _ => F4b
    rename News _ _ _ _ => N4b
    refine ⟨_, _, rfl, F4b, N4b, hG3, ?_, ?_⟩
    · intro c' C A' E' cc u st m₂ hA hAd hAu hcc F5 hm5
      have hin := dec_in hb hcc
      k_steps
      all_goals first | exact ⟨_, _, rfl, fun _ _ e => e⟩ | exact carried_bool hin
    intro a5 Kb5 s5 ps5 F5 N5 ht5 hmore5 hG5 hos5 X5 hLK5 hKb5
    try dsimp only
    k_steps
    refine halt_in ?_
    refine all_genD F5 hG5 X5 hLK5 ?_
    intro s6 F6 hG6 hos6 hk6
    have N6 : News _ _ s6.heap ((P, tblO ps5) :: news) := fun p hp => ⟨hk6 _ _ (hKb5 p hp) (N5 p hp).1, (N5 p hp).2⟩
    rw [List.all_eq_true.mpr fun _ _ => rfl]
    clear N5 F5 X5 hk6
    try dsimp only
    k_steps
    refine halt_in ?_
    rename Fr _ _ _ _ => F7
    rename News _ _ _ _ => N7
    rw [dec_fst hB] at F7
    with_unfolding_all refine asg_str F7 N7 (fun c => .int (Txt.find charsetO ⟨#[c]⟩)) rfl rfl rfl rfl (by decide) rfl (by decide) rfl rfl rfl (by intro _; rfl) ?_
    k_steps
    refine halt_in ?_
    rename Fr _ _ _ _ => F8
    rename News _ _ _ _ => N8
    rw [dec_snd hB]
    refine ⟨_, _, rfl, ?_, F8, N8, ?_, ?_⟩
    · rw [sizeLine_eq]
      show (List.toArray _).size ≤ _
      rw [List.size_toArray, List.length_map]
      omega
    · intro C c u s₂ m₂ E' hC hc hn hm hkp
      have F9 := Fr.keeps F8 hkp
      have cE := InElt.start s₂.heap
      k_steps
      all_goals first | exact .int _ _ | exact ⟨_, _, rfl, cE⟩
    intro D9 ys9 k9 h9 tk9 F9 N9 ne9 CA9
    have I9 := CA9.intsOf
    rw [dec_find hb] at I9
    clear CA9
    try dsimp only
    k_steps
    refine halt_in ?_
    with_unfolding_all refine' Cl.use (verify_con w mean mg mb ((D9, listOf ys9.toArray k9) :: (P, tblO ps5) :: news) x _ D9 ys9 ds k9 (by omega) (by exact .head _) I9 (by omega)) ?k1 ?k2 ?k3 ?k4 ?k5 ?kK ?kd ?ku ?_
    tb_start
    intro h10 tk10 F10 N10
    rw [show ((expandZ x ++ ds).foldl stepZ 1 == 1) = true from by rw [hP]; rfl]
    dsimp only
    k_steps
    rename Fr _ _ _ _ => Fz
    rename News _ _ _ _ => Nz
    rename _ < _ ∧ _ < _ ∧ _ < _ ∧ AllLt _ _ => Lz
    rename _ < _ ∧ _ < _ ∧ AllLt _ _ => Ly
    rename IntsAre _ (List.take _ _) => Iz
    obtain ⟨more5, hm5⟩ := hmore5
    exact retD_end hret Fz Nz Lz Ly Iz ht5 ⟨more2 ++ more5, by rw [hm5, hm2, Array.append_assoc]⟩ hG6 (hos6.trans (hos5.trans (hos3.trans hos2)))
end Mine

namespace Mine
section
variable {prog : Program} {w : World} {A : Around} {E : Value → Shared → Prop} {s : Shared} {env : Env} {h₀ : Heap} {x : Str} {body : List Stmt} {Q : Flow → Shared → Prop}
/-- a loop over an iterator just made whose source is of the ledger -/
theorem iter_heldN {ax : Addr} {oax oi : Obj} {n : Nat} {Pv : Nat → Value → Prop} {St : Nat → Heap → Prop} {m₀ : Str → Option Value} {news : List (Addr × Obj)} (J : Nat → (Str → Option Value) → List (Addr × Obj) → Prop)
    (hax : (ax, oax) ∈ news) (W : Walks prog w A s.heap.objs.size [s.heap.objs.size, ax] [s.heap.objs.size] n Pv St) (hst : St 0 (s.heap.push oi))
    (F : Fr h₀ env.locals s.heap m₀) (N : News h₀ env.locals s.heap news) (hj : J 0 m₀ news)
    (turn : ∀ i v m₁ news₁ h tk own, i < n → Pv i v → (ax, oax) ∈ news₁ → OwnOff own (news.map (·.1)) → J i m₁ news₁ → Fr h₀ env.locals h (fun y => if y = x then some v else m₁ y) → News h₀ env.locals h (news₁ ++ own) →
      wpAny (model prog w) A (execs body env) (InvPostN h₀ env.locals (fun m' nx => (ax, oax) ∈ nx ∧ J (i + 1) m' nx) own (news.map (·.1)) { s with heap := h, toks := tk } Q) E { s with heap := h, toks := tk })
    (done : ∀ m₁ news₁ h tk, J n m₁ news₁ → Fr h₀ env.locals h m₁ → News h₀ env.locals h news₁ → Q .next { s with heap := h, toks := tk }) :
    LoopAtV prog w A h₀ env x body Q E (.ref s.heap.objs.size) { s with heap := s.heap.push oi } := by
  have small : ∀ p ∈ news, p.1 ≠ s.heap.objs.size := fun p hp e => absurd (Heap.lt_size (N p hp).1) (by rw [e]; exact Nat.lt_irrefl _)
  refine ⟨_, _, _, n, _, _, m₀, news, (fun i m nx => nx.map (·.1) = news.map (·.1) ∧ (ax, oax) ∈ nx ∧ J i m nx), rfl, W, ?_, ?_, ?_, hst, F.push _, (fun p hp => ⟨Heap.get?_push_of_some _ (N p hp).1, (N p hp).2⟩), ⟨rfl, hax, hj⟩, ?_, ?_⟩
  · intro hm
    rcases List.mem_cons.mp hm with e | hm
    · exact absurd F.ns.lt (e ▸ Nat.lt_irrefl _)
    · exact (N _ hax).2.1 ((List.mem_singleton.mp hm).symm)
  · intro b hb
    rw [List.mem_singleton.mp hb]
    exact next_is_new F
  · intro p hp hI
    exact small p hp (List.mem_singleton.mp hI)
  · rintro i v m₁ news₁ s₁ own ⟨hh', tk', rfl⟩ hin hP ⟨hadr, hl₁, hJ⟩ _ hown hget _ _ F₁ N₁
    -- what the turn may not touch: the iterator alone
    let mine := own.filter fun p => decide (p.1 = s.heap.objs.size)
    have hmine : ∀ p ∈ mine, p ∈ own ∧ p.1 = s.heap.objs.size := fun p hp => ⟨(List.mem_filter.mp hp).1, of_decide_eq_true (List.mem_filter.mp hp).2⟩
    have hsep : OwnOff mine (news.map (·.1)) := by
      intro p hp b hb e
      obtain ⟨q, hq, rfl⟩ := List.mem_map.mp hb
      exact small q hq (e.symm.trans (hmine p hp).2)
    have N₂ : News h₀ env.locals hh' (news₁ ++ mine) := fun p hp => N₁ p ((List.mem_append.mp hp).elim (fun h => List.mem_append.mpr (.inr h)) fun h => List.mem_append.mpr (.inl (hmine p h).1))
    have hao : hh'.get? ax = some oax := (N₁ _ (List.mem_append.mpr (.inr hl₁))).1
    refine wpAny_mono (turn i v m₁ news₁ hh' tk' mine hin hP hl₁ hsep hJ F₁ N₂) (fun f s₂ p => ?_) fun _ _ e => e
    have fin : InvEndN h₀ env.locals (fun m' nx => (ax, oax) ∈ nx ∧ J (i + 1) m' nx) mine (news.map (·.1)) { s with heap := hh', toks := tk' } s₂ →
        LoopStepU h₀ env.locals [s.heap.objs.size] own (fun m nx => nx.map (·.1) = news.map (·.1) ∧ (ax, oax) ∈ nx ∧ J (i + 1) m nx) { s with heap := hh', toks := tk' } .next s₂ := by
      rintro ⟨h', tk, m', news', nx, e, F', N', hn, ho, ha, hm⟩
      refine ⟨rfl, h', tk, m', nx, e, F', fun p hp => (List.mem_append.mp hp).elim (fun h => ?_) (fun h => N' p (hn p h)), fun p hp hI => ?_, ha, hm⟩
      · rcases List.mem_cons.mp (hown p h) with h2 | h2
        · exact N' p (ho p (List.mem_filter.mpr ⟨h, decide_eq_true h2⟩))
        · have h1 : p.1 = ax := List.mem_singleton.mp h2
          have h3 := hget p h
          rw [h1] at h3
          have h4 : p = (ax, oax) := Prod.ext h1 (Option.some.inj (h3.symm.trans hao))
          rw [h4]
          exact N' _ (hn _ hm.1)
      · have h1 : p.1 ∈ nx.map (·.1) := List.mem_map.mpr ⟨p, hp, rfl⟩
        rw [ha] at h1
        obtain ⟨q, hq, e⟩ := List.mem_map.mp h1
        exact small q hq (e.trans (List.mem_singleton.mp hI))
    cases f with
    | ret v => exact .ret p
    | brk => exact .brk p
    | next => exact .next (fin p)
    | cont => exact .cont (fin p)
  · rintro h' tk m' news' F' N' _ ⟨_, _, hJ⟩
    exact done m' news' h' tk hJ F' N'
end
/-- a for over dv takes the ints ns -/
def CanWalk (dv : Value) (news : List (Addr × Obj)) (ns : List Int) : Prop :=
  ∀ {prog : Program} {w : World} {A : Around} {E : Value → Shared → Prop} {s : Shared} {env : Env} {h₀ : Heap} {x : Str} {body : List Stmt} {Q : Flow → Shared → Prop} {σ : Type} {m₀ : Str → Option Value}
    (Led : σ → List (Addr × Obj)) (ps : σ → List (Str × Value)) (Facts : σ → Prop) (stored : List Str) (P : List Int → σ → Prop) (c₀ : σ),
    A.handled = none → (∀ c : σ, ∀ p ∈ news, p ∈ Led c) → Fr h₀ env.locals s.heap m₀ → News h₀ env.locals s.heap (Led c₀) → Facts c₀ → (∀ p ∈ ps c₀, m₀ p.1 = some p.2) → P [] c₀ →
    (∀ (c : σ) pre post n t (u : Str → Option Value) h tk own, ns = pre ++ n :: post → n ∈ ns → OwnOff own ((Led c₀).map (·.1)) → Facts c → P pre c →
      Fr h₀ env.locals h (fun y => if y = x then some (.int n t) else kstB (fun z => if stored.contains z then u z else m₀ z) (ps c) y) → News h₀ env.locals h (Led c ++ own) →
      wpAny (model prog w) A (execs body env) (InvPostN h₀ env.locals (KstS Led ps Facts x stored m₀ P (pre ++ [n])) own ((Led c₀).map (·.1)) { s with heap := h, toks := tk } Q) E { s with heap := h, toks := tk }) →
    (∀ (c : σ) (u : Str → Option Value) h tk, Facts c → P ns c → Fr h₀ env.locals h (fun y => if y = x then u y else kstB (fun z => if stored.contains z then u z else m₀ z) (ps c) y) → News h₀ env.locals h (Led c) → Q .next { s with heap := h, toks := tk }) →
    wpAny (model prog w) A (pyIter dv) (fun it s₂ => LoopAtV prog w A h₀ env x body Q E it s₂) E s
theorem CanWalk.mono {dv : Value} {news news' : List (Addr × Obj)} {ns : List Int} (h : CanWalk dv news ns) (hs : ∀ p ∈ news, p ∈ news') : CanWalk dv news' ns := by
  intro prog w A E s env h₀ x body Q σ m₀ Led ps Facts stored P c₀ hA hL
  exact h Led ps Facts stored P c₀ hA (fun c p hp => hL c p (hs p hp))
theorem canWalk_list {l : Addr} {news : List (Addr × Obj)} {vs : List Value} {ns : List Int} {n : Nat} (hl : (l, listOf vs.toArray n) ∈ news) (hi : IntsAre vs ns) : CanWalk (.ref l) news ns := by
  intro prog w A E s env h₀ x body Q σ m₀ Led ps Facts stored P c₀ hA hL F N hf hk hp turn done
  exact kst_listL Led ps Facts stored P c₀ hA (fun c => hL c _ hl) hi F N hf hk hp turn done
/-- one step of the list's own counting -/
theorem take_step {ns : List Int} {i : Nat} {n : Int} (hn : ns[i]? = some n) : ns.take (i + 1) = ns.take i ++ [n] ∧ ns = ns.take i ++ n :: ns.drop (i + 1) := by
  have hs : ns.take (i + 1) = ns.take i ++ [n] := by simp [List.take_add_one, hn]
  refine ⟨hs, ?_⟩
  have ht := List.take_append_drop (i + 1) ns
  rw [hs, List.append_assoc] at ht
  exact ht.symm
theorem canWalk_tuple {l : Addr} {news : List (Addr × Obj)} {vs : List Value} {ns : List Int} {n : Nat} (hl : (l, ({ cls := .type "tuple", data := .seq vs.toArray n } : Obj)) ∈ news) (hi : IntsAre vs ns) : CanWalk (.ref l) news ns := by
  intro prog w A E s env h₀ x body Q σ m₀ Led ps Facts stored P c₀ hA hL F N hf hk hp turn done
  have hol := (N _ (hL c₀ _ hl)).1
  have ht : s.heap.IsTuple l vs.toArray := ⟨_, hol, rfl, n, rfl⟩
  have hne : l ≠ s.heap.objs.size := Nat.ne_of_lt (Heap.lt_size hol)
  refine wpAny_pyIter_tuple ht ?_
  have W := Walks.tuple (prog := prog) (w := w) hA s.heap.objs.size l hne vs.toArray
  have hlen : vs.toArray.size = ns.length := by rw [List.size_toArray, hi.length]
  rw [hlen] at W
  refine iter_heldN (fun i m nx => KstS Led ps Facts x stored m₀ P (ns.take i) m nx) (hL c₀ _ hl) W ⟨⟨_, Heap.get?_push_size _ rfl, rfl, rfl⟩, ht.at fun o e => Heap.get?_push_of_some _ e⟩ F N ⟨c₀, rfl, hf, hk, fun _ _ _ _ => rfl, by simpa using hp⟩ ?_ ?_
  · rintro i v m₁ nx h tk own hin hP _ hoff ⟨c, rfl, hf', h1, h2, hp'⟩ F₁ N₁
    obtain ⟨t, hx⟩ := hi.get i ns[i] (by simp [hin])
    have hv : v = .int ns[i] t := by
      have hP' : vs[i]? = some v := by simpa using hP
      rw [hx] at hP'
      exact (Option.some.inj hP').symm
    subst hv
    obtain ⟨hs, e⟩ := take_step (ns := ns) (i := i) (n := ns[i]) (by simp [hin])
    rw [hs]
    refine wpAny_mono (turn c _ _ _ t m₁ h tk own e (List.getElem_mem hin) hoff hf' hp' (kst_fr h1 h2 F₁) N₁) (fun f s₂ p => ?_) fun _ _ x => x
    have up : InvEndN h₀ env.locals (KstS Led ps Facts x stored m₀ P (ns.take i ++ [ns[i]])) own ((Led c₀).map (·.1)) { s with heap := h, toks := tk } s₂ → InvEndN h₀ env.locals (fun m' nx => (l, ({ cls := .type "tuple", data := .seq vs.toArray n } : Obj)) ∈ nx ∧ KstS Led ps Facts x stored m₀ P (ns.take i ++ [ns[i]]) m' nx) own ((Led c₀).map (·.1)) { s with heap := h, toks := tk } s₂ := by
      rintro ⟨h', tk', m', news', nx', e', F', N', hn', ho', ha, hS⟩
      refine ⟨h', tk', m', news', nx', e', F', N', hn', ho', ha, ?_, hS⟩
      obtain ⟨c', rfl, _⟩ := hS
      exact hL c' _ hl
    cases f with
    | ret v => exact p
    | brk => exact p
    | next => exact up p
    | cont => exact up p
  · rintro m₁ nx h tk ⟨c, rfl, hf', h1, h2, hp'⟩ F₁ N₁
    rw [List.take_length] at hp'
    exact done c m₁ h tk hf' hp' (kst_frOut h1 h2 F₁) N₁
end Mine

namespace Mine
section
variable {prog : Program} {w : World} {A : Around} {E : Value → Shared → Prop} {s : Shared}
set_option maxRecDepth 100000
theorem ext_bytes {R : Result → Shared → Prop} (hh : A.handled = none) (b : Array UInt8) (t : Tok) (S : Addr) (res : Value) (c₀ : Nat) (hS : s.heap.get? S = some { cls := .type "list", data := .seq #[] c₀ })
    (hR : ∀ h' tk acc' c', (∀ a o, a ≠ S → s.heap.get? a = some o → h'.get? a = some o) → h'.get? S = some { cls := .type "list", dict := none, data := .seq acc' c', slots := #[] } →
      ItemsOf (fun i v => ∃ c u, b[i]? = some c ∧ v = .int (c.toNat : Int) u) acc' b.size → R (.ok (.ret res)) { s with heap := h', toks := tk }) (hn : b.size ≤ sizeLine) :
    wpAny (model prog w) A.in1 (Builtin.List.listExtendWith (.ref S) (.bytes b t) res)
      (fun fin s' => match fin with | .done f => R (.ok f) s' | .again c' => c'.quiet = true ∧ codeAny (model prog w) A c' R s') (fun e s' => R (.error e) s') s := by
  have hSI : S ≠ s.heap.objs.size := Nat.ne_of_lt (Heap.lt_size hS)
  have hSf : S ∉ [s.heap.objs.size] := fun hm => hSI (List.mem_singleton.mp hm)
  unfold Builtin.List.listExtendWith
  refine wpAny_bind (wpAny_typeOf (T := "bytes") (v := .bytes b t) rfl ?_)
  have h1 : Builtin.List.listSameRef (.ref S) (.bytes b t) = false := rfl
  have h2 : (Value.type "bytes" == Value.type "list") = false := by decide
  have h3 : (Value.type "bytes" == Value.type "tuple") = false := by decide
  simp only [h1, h2, h3, Bool.or_false, Bool.false_eq_true, if_false]
  refine wpAny_bind (KBw.pyIter_bytes ?_)
  refine wpAny_bind (wpAny_holding ?_)
  unfold Builtin.List.listLengthHint
  refine wpAny_bind (wpAny_specialOf (T := "bytes") (v := .bytes b t) rfl FB.slot_bytes_len.lookup ?_)
  wp_delta
  refine wpAny_bind (wpAny_isInstance (T := "bytes") (v := .bytes b t) (b := true) rfl (by rw [isSubtype_type]; kernel_rfl) ?_)
  show wpAny _ _ (typeOf (Value.bytes b t) >>= _) _ _ _
  refine wpAny_bind (wpAny_typeOf (T := "bytes") (v := .bytes b t) rfl ?_)
  refine wpAny_pure ?_
  rw [if_neg (by decide)]
  have W := KBw.walks (prog := prog) (w := w) (A := A.in1) hh s.heap.objs.size b t
  refine wpAny_pure ⟨plainId_quiet F.plain_extend_loop _, codeAny_extend_loopS W.toS hn _ hSf _ b.size 0 _ _ _ rfl (Nat.zero_le _) ⟨_, Heap.get?_push_size _ rfl, rfl, rfl⟩ (Heap.get?_push_of_some _ hS) (ItemsOf.nil _) fun s' acc' c' hm hS' hacc => ?_⟩
  rw [Moved.eq_with hm]
  refine hR s'.heap s'.toks acc' c' (fun a ob hb e => hm.heap a ob (fun hmem => ?_) (Heap.get?_push_of_some _ e)) hS' hacc
  rcases List.mem_cons.mp hmem with e' | hmem
  · exact hb e'
  · exact absurd (Heap.lt_size e) (by rw [List.mem_singleton.mp hmem]; exact Nat.lt_irrefl _)
theorem init_bytes {R : Result → Shared → Prop} (hh : A.handled = none) (b : Array UInt8) (t : Tok) (S : Addr) (hS : s.heap.get? S = some { cls := .type "list", data := .seq #[] })
    (hR : ∀ h' tk acc' c', (∀ a o, a ≠ S → s.heap.get? a = some o → h'.get? a = some o) → h'.get? S = some { cls := .type "list", dict := none, data := .seq acc' c', slots := #[] } →
      ItemsOf (fun i v => ∃ c u, b[i]? = some c ∧ v = .int (c.toNat : Int) u) acc' b.size → R (.ok (.ret .none)) { s with heap := h', toks := tk }) (hn : b.size ≤ sizeLine) :
    wpAny (model prog w) A.in1 (Builtin.«list.__init__» ⟨[.ref S, .bytes b t], []⟩)
      (fun fin s' => match fin with | .done f => R (.ok f) s' | .again c' => c'.quiet = true ∧ codeAny (model prog w) A c' R s') (fun e s' => R (.error e) s') s := by
  show wpAny _ _ (do let old ← Builtin.List.listItems (.ref S); Builtin.List.listUpdate (.ref S) (fun _ => #[]); letGo old.toList.reverse; Builtin.List.listExtendWith (.ref S) (.bytes b t) .none) _ _ s
  refine wpAny_bind ?_
  unfold Builtin.List.listItems
  refine wpAny_bind (wpAny_seqItems hS rfl (wpAny_pure ?_))
  show wpAny _ _ (updateSeq S (fun _ => #[]) >>= fun _ => letGo (#[] : Array Value).toList.reverse >>= fun _ => Builtin.List.listExtendWith (.ref S) (.bytes b t) .none) _ _ s
  refine wpAny_bind (wpAny_updateSeq hS rfl ?_)
  have hS₂ := Heap.get?_update_self (Obj.mapSeq (fun _ => (#[] : Array Value))) hS rfl
  have oth : ∀ a o, a ≠ S → s.heap.get? a = some o → (s.heap.update S (Obj.mapSeq (fun _ => (#[] : Array Value)))).get? a = some o :=
    fun a o hb e => (Heap.get?_update_other _ _ (Ne.symm hb)).trans e
  refine wpAny_bind (wpAny_letGo ?_)
  refine ext_bytes hh b t S .none _ hS₂ (fun h' tk acc' c' hk hS' hacc => ?_) hn
  exact hR h' tk acc' c' (fun a o hb e => hk a o hb (oth a o hb e)) hS' hacc
theorem call_list_bytes {Q : Value → Shared → Prop} (hh : A.handled = none) (b : Array UInt8) (t : Tok)
    (hQ : ∀ h' tk acc' c', (∀ a o, s.heap.get? a = some o → h'.get? a = some o) →
      h'.get? s.heap.objs.size = some { cls := .type "list", dict := none, data := .seq acc' c', slots := #[] } → ItemsOf (fun i v => ∃ c u, b[i]? = some c ∧ v = .int (c.toNat : Int) u) acc' b.size → Q (.ref s.heap.objs.size) { s with heap := h', toks := tk }) (hn : b.size ≤ sizeLine) :
    wpAny (model prog w) A (call (.type "list") [.bytes b t]) Q E s := by
  refine callType_codes (Q₁ := fun obj s₁ => obj = .ref s.heap.objs.size ∧ s₁ = { s with heap := s.heap.push { cls := .type "list", data := .seq #[] } }) F.called_list (F.typeCall_list_1 _) F.entry_list_init
    (code_list_new _ ⟨rfl, rfl⟩) fun obj s₁ h₁ => ?_
  obtain ⟨rfl, rfl⟩ := h₁
  have hS : (s.heap.push { cls := .type "list", data := .seq #[] }).get? s.heap.objs.size = some { cls := .type "list", data := .seq #[] } := Heap.get?_push_size _ rfl
  refine ⟨⟨_, hS, rfl⟩, F.args_list_init_2 _ _, init_bytes (A := A.in1) hh b t _ hS (fun h' tk acc' c' hk hS' hacc => ?_) hn⟩
  exact ⟨rfl, hQ h' tk acc' c' (fun a o e => hk a o (Nat.ne_of_lt (Heap.lt_size e)) (Heap.get?_push_of_some _ e)) hS' hacc⟩
end
theorem ints_of_get : ∀ (vs : List Value) (ns : List Int), vs.length = ns.length → (∀ (j : Nat) v, vs[j]? = some v → ∃ n t, ns[j]? = some n ∧ v = .int n t) → IntsAre vs ns
  | [], [], _, _ => IntsAre.nil
  | [], _ :: _, h, _ => nomatch h
  | _ :: _, [], h, _ => nomatch h
  | v :: vs, n :: ns, hl, h => by
    obtain ⟨n', t, e, rfl⟩ := h 0 v rfl
    cases e
    exact IntsAre.cons n t (ints_of_get vs ns (Nat.succ.inj hl) fun j v' hv => h (j + 1) v' hv)
theorem canList_bytes {b : Array UInt8} {tb : Tok} {news : List (Addr × Obj)} {ns : List Int} (hb : KBw.bInts b = ns) (hz : ns.length < 2 ^ 20) : CanList (.bytes b tb) news ns := by
  subst hb
  intro prog w A E s h₀ L m all Q hA F N hs h
  have hsz : b.size < 2 ^ 20 := by rw [KBw.ints_length] at hz; exact hz
  refine call_list_bytes hA b tb (fun h' tk acc c hk hD hI => ?_) (by rw [sizeLine_eq]; omega)
  have hD' : h'.get? s.heap.objs.size = some (listOf (List.toArray acc.toList) c) := by
    rw [Array.toArray_toList]
    exact hD
  refine h _ acc.toList c h' tk (F.keeps hk) (news_pushed F N hk hD' rfl) (fun p hp => Heap.lt_size (N p hp).1) (ints_of_get _ _ (by rw [Array.length_toList, KBw.ints_length]; exact hI.1) fun j v hj => ?_)
  obtain ⟨c, u, hc, rfl⟩ := hI.2 j v (by rw [← hj, Array.getElem?_toList])
  exact ⟨_, u, KBw.ints_get hc, rfl⟩
theorem canWalk_bytes {b : Array UInt8} {tb : Tok} {news : List (Addr × Obj)} {ns : List Int} (hb : KBw.bInts b = ns) : CanWalk (.bytes b tb) news ns := by
  subst hb
  intro prog w A E s env h₀ x body Q σ m₀ Led ps Facts stored P c₀ hA hL F N hf hk hp turn done
  refine KBw.pyIter_bytes ?_
  have W := KBw.walks (prog := prog) (w := w) (A := A) hA s.heap.objs.size b tb
  have old : ∀ p ∈ Led c₀, p.1 ∉ [s.heap.objs.size] := fun p hp hm => absurd (Heap.lt_size (N p hp).1) ((List.mem_singleton.mp hm) ▸ Nat.lt_irrefl _)
  refine loop_invN (fun i m nx => KstS Led ps Facts x stored m₀ P ((KBw.bInts b).take i) m nx) W ?_ ?_ old old ⟨_, Heap.get?_push_size _ rfl, rfl, rfl⟩ (F.push _) (fun p hp => ⟨Heap.get?_push_of_some _ (N p hp).1, (N p hp).2⟩) ⟨c₀, rfl, hf, hk, fun _ _ _ _ => rfl, by simpa using hp⟩ ?_ ?_
  · intro hm
    exact absurd F.ns.lt ((List.mem_singleton.mp hm) ▸ Nat.lt_irrefl _)
  · intro b' hb
    rw [List.mem_singleton.mp hb]
    exact next_is_new F
  · rintro i v m₁ nx h tk own hi ⟨c', t, hc, rfl⟩ _ hoff ⟨c, rfl, hf', h1, h2, hp'⟩ F₁ N₁
    obtain ⟨hs, e⟩ := take_step (KBw.ints_get hc)
    rw [hs]
    exact turn c _ _ _ t m₁ h tk own e (List.mem_of_getElem? (KBw.ints_get hc)) hoff hf' hp' (kst_fr h1 h2 F₁) N₁
  · rintro m₁ nx h tk ⟨c, rfl, hf', h1, h2, hp'⟩ F₁ N₁
    rw [List.take_of_length_le (by rw [KBw.ints_length]; exact Nat.le_refl _)] at hp'
    exact done c m₁ h tk hf' hp' (kst_frOut h1 h2 F₁) N₁
end Mine

namespace Mine
theorem p2_pos (k : Nat) : (0 : Int) < 2 ^ k := kbt_pos k
theorem and_low : ∀ (k : Nat) (a v : Int), 0 ≤ v → v < 2 ^ k → Builtin.bitAnd (a * 2 ^ k) v = 0
  | 0, a, v, h0, h1 => by
    have : v = 0 := by have : (2 : Int) ^ 0 = 1 := rfl; omega
    subst this
    have h := kbt_mask (a * 2 ^ 0) 0
    simp at h
    simpa using h
  | k + 1, a, v, h0, h1 => by
    rw [kbt_halves]
    have e : a * 2 ^ (k + 1) = 2 * (a * 2 ^ k) := by rw [Int.pow_succ, ← Int.mul_assoc, Int.mul_comm]
    rw [e]
    have e2 : (2 * (a * 2 ^ k)) / 2 = a * 2 ^ k := by omega
    have e3 : ¬ ((2 * (a * 2 ^ k)) % 2 = 1 ∧ v % 2 = 1) := by omega
    rw [e2, if_neg e3, and_low k a (v / 2) (by omega) (by rw [Int.pow_succ] at h1; omega)]
    rfl
theorem or_low (k : Nat) (a v : Int) (h0 : 0 ≤ v) (h1 : v < 2 ^ k) : Builtin.bitOr (a * 2 ^ k) v = a * 2 ^ k + v := by
  rw [bitOr_and, and_low k a v h0 h1]; omega
theorem ediv_of_low (k : Nat) (a v : Int) (h0 : 0 ≤ v) (h1 : v < 2 ^ k) : (a * 2 ^ k + v) / 2 ^ k = a := by
  have h := (kbt_both v a k).1
  rw [Int.ediv_eq_zero_of_lt h0 h1] at h
  simpa using h
/-- the pile after one item -/
theorem acc_step {f n : Nat} {V v A : Int} (h0 : 0 ≤ v) (h1 : v < 2 ^ f) (hA : A = V % 2 ^ n) : Builtin.bitAnd (Builtin.bitOr (A * 2 ^ f) v) (2 ^ n - 1) = (V * 2 ^ f + v) % 2 ^ n := by
  rw [or_low f A v h0 h1, kbt_mask, hA, Int.add_emod, Int.mul_emod, Int.emod_emod, ← Int.mul_emod, ← Int.add_emod]
theorem pow_split (a b : Nat) : (2 : Int) ^ (a + b) = 2 ^ a * 2 ^ b := Int.pow_add 2 a b
theorem mod_div (V : Int) (b t n : Nat) (h : b + t ≤ n) : (V % 2 ^ n / 2 ^ b) % 2 ^ t = (V / 2 ^ b) % 2 ^ t := by
  obtain ⟨d, rfl⟩ := Nat.exists_eq_add_of_le h
  have hb := p2_pos b
  have e : V = V % 2 ^ (b + t + d) + (2 ^ d * (V / 2 ^ (b + t + d)) * 2 ^ t) * 2 ^ b := by
    have h1 := Int.emod_add_mul_ediv V (2 ^ (b + t + d))
    have h2 : (2 : Int) ^ (b + t + d) = 2 ^ d * 2 ^ t * 2 ^ b := by rw [pow_split, pow_split, Int.mul_comm (2 ^ b), Int.mul_comm, Int.mul_assoc]
    calc V = V % 2 ^ (b + t + d) + 2 ^ (b + t + d) * (V / 2 ^ (b + t + d)) := h1.symm
      _ = _ := by
        congr 1
        generalize V / 2 ^ (b + t + d) = q
        rw [h2]
        simp only [Int.mul_assoc, Int.mul_comm, Int.mul_left_comm]
  have e2 : V / 2 ^ b = V % 2 ^ (b + t + d) / 2 ^ b + (2 ^ d * (V / 2 ^ (b + t + d))) * 2 ^ t := by
    conv => lhs; rw [e]
    rw [Int.add_mul_ediv_right _ _ (by omega)]
  rw [e2, Int.add_mul_emod_self_right]
theorem digit_eq {b t n : Nat} {V A : Int} (hA : A = V % 2 ^ n) (h : b + t ≤ n) : Builtin.bitAnd (A.fdiv (2 ^ b)) (2 ^ t - 1) = (V / 2 ^ b) % 2 ^ t := by
  rw [kbt_mask, Int.fdiv_eq_ediv_of_nonneg _ (Int.le_of_lt (p2_pos b)), hA, mod_div V b t n h]
theorem pad_eq {c t n : Nat} {V A : Int} (hA : A = V % 2 ^ n) (h : t ≤ n + c) : Builtin.bitAnd (A * 2 ^ c) (2 ^ t - 1) = (V * 2 ^ c) % 2 ^ t := by
  rw [kbt_mask, hA]
  have e : V * 2 ^ c = V % 2 ^ n * 2 ^ c + (2 ^ n * 2 ^ c) * (V / 2 ^ n) := by
    have h1 := Int.emod_add_mul_ediv V (2 ^ n)
    calc V * 2 ^ c = (V % 2 ^ n + 2 ^ n * (V / 2 ^ n)) * 2 ^ c := by rw [h1]
      _ = _ := by rw [Int.add_mul]; congr 1; simp only [Int.mul_assoc, Int.mul_comm, Int.mul_left_comm]
  obtain ⟨d, hd⟩ := Nat.exists_eq_add_of_le h
  rw [← pow_split, hd, pow_split, Int.mul_assoc] at e
  rw [e, Int.add_mul_emod_self_left]
/-- the number the items spell -/
def valZ (f : Nat) (ns : List Int) : Int := ns.foldl (fun a v => a * 2 ^ f + v) 0
theorem valZ_snoc (f : Nat) (ns : List Int) (v : Int) : valZ f (ns ++ [v]) = valZ f ns * 2 ^ f + v := by simp [valZ]
/-- the first r digits of t bits, of a number of B bits -/
def digsZ (t r : Nat) (V : Int) (B : Nat) : List Int := (List.range r).map fun k => (V / 2 ^ (B - t * (k + 1))) % 2 ^ t
theorem digsZ_length (t r : Nat) (V : Int) (B : Nat) : (digsZ t r V B).length = r := by simp [digsZ]
theorem digsZ_snoc (t r : Nat) (V : Int) (B : Nat) : digsZ t (r + 1) V B = digsZ t r V B ++ [(V / 2 ^ (B - t * (r + 1))) % 2 ^ t] := by simp [digsZ, List.range_succ]
theorem digsZ_more {t r f B : Nat} {V v : Int} (h0 : 0 ≤ v) (h1 : v < 2 ^ f) (hr : t * r ≤ B) : digsZ t r V B = digsZ t r (V * 2 ^ f + v) (B + f) := by
  unfold digsZ
  refine List.map_congr_left fun k hk => ?_
  have hk' : k + 1 ≤ r := List.mem_range.mp hk
  have h2 : t * (k + 1) ≤ B := Nat.le_trans (Nat.mul_le_mul_left t hk') hr
  have e : B + f - t * (k + 1) = f + (B - t * (k + 1)) := by omega
  rw [e, pow_split, ← Int.ediv_ediv_of_nonneg (Int.le_of_lt (p2_pos f)), ediv_of_low f V v h0 h1]
end Mine

namespace Mine
local macro_rules | `(tactic| walk_at "pyIter") => `(tactic| (k_here; refine halt_of ?_))
local macro_rules | `(tactic| walk_at "pyIter ref") => `(tactic| (k_here; refine halt_of ?_))
local macro_rules | `(tactic| walk_at "InvEndN") => `(tactic| (refine halt_of ?_))
local macro_rules | `(tactic| walk_at "KswEnd") => `(tactic| (refine halt_of ?_))
local macro_rules | `(tactic| walk_at "binaryOp BitAnd int int") => `(tactic| (k_here; refine halt_of ?_))
local macro_rules | `(tactic| walk_at "binaryOp RShift int int") => `(tactic| (k_here; refine halt_of ?_))
local macro_rules | `(tactic| walk_at "call builtin:list.append") => `(tactic| (k_here; refine halt_of ?_))
local macro_rules | `(tactic| walk_at "exec While Compare cons nil") => `(tactic| (k_here; refine halt_of ?_))
theorem news_hd {h₀ h : Heap} {L a : Addr} {o : Obj} {r : List (Addr × Obj)} (_N : News h₀ L h ((a, o) :: r)) : ∃ R, R = a := ⟨a, rfl⟩
/-- what the loop over the items keeps -/
def ConvI (f t : Nat) (pre : List Int) (acc bits : Int) (rs : List Int) : Prop :=
  acc = valZ f pre % 2 ^ (f + t - 1) ∧ 0 ≤ bits ∧ bits < t ∧ bits + ((t * rs.length : Nat) : Int) = ((f * pre.length : Nat) : Int) ∧ rs = digsZ t rs.length (valZ f pre) (f * pre.length)
theorem convI_start {f t : Nat} (ht : 1 ≤ t) : ConvI f t [] 0 0 [] := by
  refine ⟨?_, by omega, by omega, by simp, rfl⟩
  simp [valZ]
def WhileI (f t : Nat) (pre : List Int) (bits : Int) (rs : List Int) : Prop :=
  0 ≤ bits ∧ bits < f + t ∧ bits + ((t * rs.length : Nat) : Int) = ((f * pre.length : Nat) : Int) ∧ rs = digsZ t rs.length (valZ f pre) (f * pre.length)
theorem whileI_start {f t : Nat} {pre : List Int} {v bits : Int} {rs : List Int} (h0 : 0 ≤ v) (h1 : v < 2 ^ f) (hb0 : 0 ≤ bits) (hb1 : bits < t) (hbt : bits + ((t * rs.length : Nat) : Int) = ((f * pre.length : Nat) : Int))
    (hrs : rs = digsZ t rs.length (valZ f pre) (f * pre.length)) : WhileI f t (pre ++ [v]) (bits + f) rs := by
  have e : f * (pre ++ [v]).length = f * pre.length + f := by rw [List.length_append, Nat.mul_add]; simp
  refine ⟨by omega, by omega, by rw [e]; omega, ?_⟩
  rw [e, valZ_snoc, ← digsZ_more h0 h1 (by omega)]
  exact hrs
theorem whileI_step {f t n : Nat} {pre : List Int} {bits A d : Int} {rs : List Int} (h : WhileI f t pre bits rs) (hn : n = f + t - 1) (hA : A = valZ f pre % 2 ^ n) (hb : t ≤ bits)
    (hd : d = Builtin.bitAnd (A.fdiv (2 ^ (bits - t).toNat)) (2 ^ t - 1)) : WhileI f t pre (bits - t) (rs ++ [d]) := by
  obtain ⟨h0, h1, h2, h3⟩ := h
  have e : t * (rs ++ [d]).length = t * rs.length + t := by rw [List.length_append, Nat.mul_add]; simp
  refine ⟨by omega, by omega, by rw [e]; omega, ?_⟩
  rw [List.length_append]
  show _ = digsZ t (rs.length + 1) _ _
  rw [digsZ_snoc, ← h3]
  congr 2
  rw [hd, digit_eq hA (by omega)]
  have e2 : (bits - t).toNat = f * pre.length - t * (rs.length + 1) := by rw [Nat.mul_add]; omega
  rw [e2]
theorem bits_len {f t B r : Nat} {bits : Int} (h0 : 0 ≤ bits) (h2 : bits + ((t * r : Nat) : Int) = ((f * B : Nat) : Int)) (ht : 1 ≤ t) (hf : f ≤ 45) (hp : B ≤ 1025) : r ≤ 50000 := by
  have h3 : r ≤ t * r := Nat.le_mul_of_pos_left r ht
  have h4 : f * B ≤ 45 * 1025 := Nat.mul_le_mul hf hp
  omega
theorem whileI_end {f t : Nat} {pre : List Int} {bits A : Int} {rs : List Int} (h : WhileI f t pre bits rs) (hA : A = valZ f pre % 2 ^ (f + t - 1)) (hb : bits < t) : ConvI f t pre A bits rs := ⟨hA, h.1, hb, h.2.2.1, h.2.2.2⟩
/-- what convertbits hands back, padded -/
def convP (f t : Nat) (ns : List Int) : List Int := digsZ t (f * ns.length / t) (valZ f ns) (f * ns.length) ++ if f * ns.length % t = 0 then [] else [(valZ f ns * 2 ^ (t - f * ns.length % t)) % 2 ^ t]
theorem convI_out {f t : Nat} {ns : List Int} {acc bits : Int} {rs : List Int} (h : ConvI f t ns acc bits rs) : bits = ((f * ns.length % t : Nat) : Int) ∧ rs = digsZ t (f * ns.length / t) (valZ f ns) (f * ns.length) := by
  obtain ⟨ha, h0, h1, h2, h3⟩ := h
  obtain ⟨b, rfl⟩ := Int.eq_ofNat_of_zero_le h0
  have e : b + t * rs.length = f * ns.length := by exact_mod_cast h2
  have hb : b < t := by exact_mod_cast h1
  have hd : f * ns.length / t = rs.length := by
    rw [← e, Nat.add_mul_div_left _ _ (by omega), Nat.div_eq_of_lt hb, Nat.zero_add]
  have hm : f * ns.length % t = b := by
    rw [← e, Nat.add_mul_mod_self_left, Nat.mod_eq_of_lt hb]
  rw [hd, hm]
  exact ⟨rfl, h3⟩
theorem conv_whole {f t : Nat} {ns : List Int} {acc bits : Int} {rs : List Int} (h : ConvI f t ns acc bits rs) (hb : bits = 0) : rs = convP f t ns := by
  obtain ⟨h1, h2⟩ := convI_out h
  have h3 : f * ns.length % t = 0 := by omega
  rw [convP, if_pos h3, List.append_nil]
  exact h2
theorem conv_rest {f t : Nat} {ns : List Int} {acc bits d : Int} {rs : List Int} (h : ConvI f t ns acc bits rs) (hb : bits ≠ 0) (hd : d = Builtin.bitAnd (acc * 2 ^ (t - bits).toNat) (2 ^ t - 1)) : rs ++ [d] = convP f t ns := by
  obtain ⟨h1, h2⟩ := convI_out h
  have h3 : ¬ f * ns.length % t = 0 := by omega
  have hlt := h.2.2.1
  rw [convP, if_neg h3, ← h2, hd, pad_eq h.1 (by omega)]
  have e : (t - bits).toNat = t - f * ns.length % t := by omega
  rw [e]
theorem acc_small {f t : Nat} {ns : List Int} {acc : Int} (h : acc = valZ f ns % 2 ^ (f + t - 1)) (hft : f + t ≤ 45) : acc.natAbs < 2 ^ 64 := by
  have h0 := Int.emod_nonneg (valZ f ns) (Int.ne_of_gt (p2_pos (f + t - 1)))
  have h1 := Int.emod_lt_of_pos (valZ f ns) (p2_pos (f + t - 1))
  have h2 : (2 : Int) ^ (f + t - 1) ≤ 2 ^ 44 := by
    rw [← kbt_cast, ← kbt_cast]
    exact Int.ofNat_le.mpr (Nat.pow_le_pow_right (by decide) (by omega))
  have h3 : (2 : Int) ^ 44 = 17592186044416 := by decide
  have h4 : (2 : Nat) ^ 64 = 18446744073709551616 := by decide
  omega
theorem shift_out {f : Nat} {v : Int} (h0 : 0 ≤ v) (h1 : v < 2 ^ f) : v.fdiv (2 ^ (f : Int).toNat) = 0 := by
  rw [Int.toNat_natCast, Int.fdiv_eq_ediv_of_nonneg _ (Int.le_of_lt (p2_pos f)), Int.ediv_eq_zero_of_lt h0 h1]
set_option maxRecDepth 100000 in
set_option maxHeartbeats 1000000 in
theorem conv_con (w : World) (mean : ExcName → Option Value) (mg mb : Str → Option Value) (news : List (Addr × Obj)) (dv : Value) (ns : List Int) (f t : Nat) (tf tt : Tok)
  (hw : CanWalk dv news ns) (hf : 1 ≤ f) (ht : 1 ≤ t) (hft : f + t ≤ 45) (hlen : ns.length < 2 ^ 10) (hb : ∀ v ∈ ns, 0 ≤ v ∧ v < 2 ^ f) : Cl w mean mg mb 1 56 [dv, .int f tf, .int t tt] news (RetL news (convP f t ns)) := by
  unfold Cl
  k_fill
  intro p loose dp un gd cn cs a ccd cl outer A₀ base h₀ L m s Q E B F X N T hk hd' hu hret
  have XK : (hd.heap_39 w.params).In s.heap := Frag.In.keeps X (Fr.keep F)
  refine wpAny_call ?_
  k_dflt (refine' code_def ?k1 ?k2 ?k3 ?k4 ?k5 ?kA ?kF ?kK ?k6 ?k7 ?k8 ?k9 ?kB ?_ ?c2 ?c3 ?c4 ?c5; (case kA => exact rfl); (case kF => exact rfl); (case kK => assumption); (case k1 => k_asm); (case k2 => k_asm); (case k3 => k_asm); (case k4 => k_asm); (case k5 => k_asm); (case k6 => k_is); (case k7 => k_is); (case k8 => ktr_room); (case k9 => exact binds_K XK rfl (by k_is) rfl rfl rfl); (case c5 => decide); (case kB => exact locs rfl); (case c2 => exact rfl); (case c3 => exact rfl); (case c4 => exact rfl); k_whole; intro g' L' h' FG' F' N' B' X' T'; (try dsimp only); (try k_fold))
  (k_with "binaryOp LShift int int" => (refine lshift_int_small (by omega) (by omega) (by first | decide | assumption) ?_))
  k_steps
  rename Fr _ _ _ _ => F1
  rename News _ _ _ _ => N1
  obtain ⟨R, hR⟩ := news_hd N1
  subst hR
  rename ∀ p ∈ news, p.1 < R => hlt
  with_unfolding_all refine' For_invVF F1 ?k1 ?k2 ?_
  case k1 => exact rfl
  case k2 => exact rfl
  k_dflt (refine ld F1 (by rfl) ?_)
  with_unfolding_all refine' hw (σ := Int × Tok × Int × Tok × List Value × List Int × Nat) (fun c => (R, listOf c.2.2.2.2.1.toArray c.2.2.2.2.2.2) :: news) (fun c => [(Str.ofString "acc", .int c.1 c.2.1), (Str.ofString "bits", .int c.2.2.1 c.2.2.2.1)]) (fun c => IntsAre c.2.2.2.2.1 c.2.2.2.2.2.1) [] (fun pre c => ConvI f t pre c.1 c.2.2.1 c.2.2.2.2.2.1) (0, ?ta, 0, ?tb, [], [], 0) rfl (fun c p hp => .tail _ hp) F1 N1 .nil ?kk (convI_start ht) ?turn ?done 
  case kk => kst_all
  case turn =>
    rintro ⟨acc, ta, bits, tb, us, rs, kk⟩ pre post v tv u h tk own hE hm hoff hfacts hinv F2 N2
    obtain ⟨hacc, hb0, hb1, hbt, hrs⟩ := hinv
    dsimp only [kstB] at F2 N2 hfacts
    dsimp only at hacc hb0 hb1 hbt hrs
    simp only [List.cons_append] at N2
    have hv := hb v hm
    have hv0 := hv.1
    have hz : v.fdiv (2 ^ (f : Int).toNat) = 0 := shift_out hv.1 hv.2
    have hacc2 : acc.natAbs < 2 ^ 64 := acc_small hacc hft
    try k_fold
    have hpl : (pre ++ [v]).length ≤ 1025 := by
      have := congrArg List.length hE
      simp only [List.length_append, List.length_cons, List.length_nil] at this ⊢
      omega
    have hRN : ∀ p ∈ news ++ own, p.1 ≠ R := fun p hp => (List.mem_append.mp hp).elim (fun h => Nat.ne_of_lt (hlt p h)) (fun h => hoff p h R (.head _))
    k_steps
    refine halt_in ?_
    refine rshift_int (by omega) ?_
    rw [hz]
    k_steps
    refine halt_in ?_
    refine and_int ?_
    have hA : Builtin.bitAnd (Builtin.bitOr (acc * 2 ^ (f : Int).toNat) v) (1 * 2 ^ ((f : Int) + t - 1).toNat - 1) = valZ f (pre ++ [v]) % 2 ^ (f + t - 1) := by
      rw [valZ_snoc, show ((f : Int)).toNat = f from Int.toNat_natCast f, show ((f : Int) + t - 1).toNat = f + t - 1 from by omega, Int.one_mul]
      exact acc_step hv.1 hv.2 hacc
    rw [hA]
    try dsimp only
    k_steps
    refine halt_in ?_
    have hW := whileI_start hv.1 hv.2 hb0 hb1 hbt hrs
    k_while (fun (script : List Int) bits ret => WhileI f t (pre ++ [v]) bits ret) (fun script bits ret => bits.toNat) "bits" "ret"
    clear hW
    rename WhileI _ _ _ _ _ => hI
    have hI' := hI
    obtain ⟨i0, i1, i2, i3⟩ := hI'
    have hz2 := bits_len i0 i2 ht (by omega) hpl
    rename IntsAre _ _ => hJ
    have hz3 := hJ.length
    k_steps
    · refine halt_in ?_
      refine rshift_int (by omega) ?_
      k_steps
      refine halt_in ?_
      refine and_int ?_
      k_steps
      refine halt_in ?_
      rename News _ _ _ _ => nE'
      try simp only [List.push_toArray] at nE'
      refine append_K (by k_asm) (by k_asm) (.head hRN) ?_ (by rw [List.size_toArray, sizeLine_eq]; omega)
      intro hh F6 N6
      k_steps
      refine halt_in ?_
      rename News _ _ _ _ => nE'
      try simp only [List.push_toArray] at nE'
      refine ksw_end ⟨_, _, _, _, _⟩ (by assumption) nE' (by kst_in) (by kst_facts) (by kst_all) (by ksw_same) ?_ (by dsimp only; omega)
      exact whileI_step hI rfl rfl (by omega) (by rw [Int.one_mul, Int.toNat_natCast])
    · refine halt_in ?_
      rename News _ _ _ _ => nE'
      refine kst_end ⟨_, _, _, _, _, _, _⟩ (by assumption) nE' (by first | kst_in | kst_inAny) (by first | (intro p hp; kst_mem) | kst_anyIn) (by rfl) (by kst_facts) (by kst_all) (by kst_same) ?_
      exact whileI_end hI rfl (by dsimp only; omega)
  case done =>
    rintro ⟨acc, ta, bits, tb, us, rs, kk⟩ u h tk hfacts hinv F2 N2
    have hinv2 := hinv
    obtain ⟨hacc, hb0, hb1, hbt, hrs⟩ := hinv2
    dsimp only [kstB] at F2 N2 hfacts
    dsimp only at hacc hb0 hb1 hbt hrs hinv
    have hacc2 : acc.natAbs < 2 ^ 64 := acc_small hacc hft
    have hz2 := bits_len hb0 hbt ht (by omega) (by omega)
    have hz3 := hfacts.length
    have hRN : ∀ p ∈ news, p.1 ≠ R := fun p hp => Nat.ne_of_lt (hlt p hp)
    try k_fold
    k_steps
    · refine halt_in ?_
      refine and_int ?_
      k_steps
      refine append_K (by k_asm) (by k_asm) (.head hRN) ?_ (by rw [List.size_toArray, sizeLine_eq]; omega)
      intro hh F6 N6
      k_steps
      rename Fr _ _ _ _ => Fz
      rename News _ _ _ _ => Nz
      try simp only [List.push_toArray] at Nz
      have hc := conv_rest hinv (by assumption) rfl
      rw [Int.one_mul, Int.toNat_natCast] at Nz
      have I9 : ∀ tk0, IntsAre (us ++ [Value.int (Builtin.bitAnd (acc * 2 ^ ((t : Int) - bits).toNat) (2 ^ t - 1)) tk0]) (convP f t ns) := fun tk0 => hc ▸ hfacts.append (.cons _ tk0 .nil)
      exact retL_end hret Fz Nz (.head _) (fun p hp => .tail _ hp) hRN (I9 _)
    · rename Fr _ _ _ _ => Fz
      rename News _ _ _ _ => Nz
      rw [conv_whole hinv (by assumption)] at hfacts
      exact retL_end hret Fz Nz (.head _) (fun p hp => .tail _ hp) hRN hfacts
end Mine

namespace Mine
theorem nat_xor_and : ∀ a b : Nat, (a ^^^ b) + 2 * (a &&& b) = a + b := by
  intro a
  induction a using Nat.strongRecOn with
  | ind a ih =>
    intro b
    by_cases h : a = 0
    · subst h; simp
    · have h1 := ih (a / 2) (by omega) (b / 2)
      have x1 : (a ^^^ b) / 2 = a / 2 ^^^ b / 2 := by simpa using (Nat.xor_div_two_pow (a := a) (b := b) (n := 1))
      have a1 : (a &&& b) / 2 = a / 2 &&& b / 2 := by simpa using (Nat.and_div_two_pow (a := a) (b := b) (n := 1))
      have x2 : (a ^^^ b) % 2 = a % 2 ^^^ b % 2 := by simpa using (Nat.xor_mod_two_pow (a := a) (b := b) (n := 1))
      have a2 : (a &&& b) % 2 = a % 2 &&& b % 2 := by simpa using (Nat.and_mod_two_pow (a := a) (b := b) (n := 1))
      have c : (a % 2 ^^^ b % 2) + 2 * (a % 2 &&& b % 2) = a % 2 + b % 2 := by
        have ha : a % 2 = 0 ∨ a % 2 = 1 := by omega
        have hb : b % 2 = 0 ∨ b % 2 = 1 := by omega
        rcases ha with ha | ha <;> rcases hb with hb | hb <;> rw [ha, hb] <;> decide
      rw [← x1, ← a1] at h1
      rw [← x2, ← a2] at c
      omega
theorem bitXor_nat (a b : Nat) : Builtin.bitXor (a : Int) (b : Int) = ((a ^^^ b : Nat) : Int) := by
  rw [bitXor_and, bitAnd_pp (by omega) (by omega), Int.toNat_natCast, Int.toNat_natCast]
  have := nat_xor_and a b
  omega
/-- one generator, where the bit stands -/
def gsel (c i g : Nat) : Nat := if c.testBit (25 + i) then g else 0
theorem gsel_xor (a b i g : Nat) : gsel (a ^^^ b) i g = gsel a i g ^^^ gsel b i g := by
  unfold gsel
  rw [Nat.testBit_xor]
  cases a.testBit (25 + i) <;> cases b.testBit (25 + i) <;> simp
def stepN (c v : Nat) : Nat := (((((((c % 2 ^ 25) <<< 5) ^^^ v) ^^^ gsel c 0 996825010) ^^^ gsel c 1 642813549) ^^^ gsel c 2 513874426) ^^^ gsel c 3 1027748829) ^^^ gsel c 4 705979059
theorem stepN_xor (a b v w : Nat) : stepN (a ^^^ b) (v ^^^ w) = stepN a v ^^^ stepN b w := by
  unfold stepN
  rw [gsel_xor, gsel_xor, gsel_xor, gsel_xor, gsel_xor, Nat.xor_mod_two_pow, Nat.shiftLeft_xor_distrib]
  ac_rfl
theorem gsel_int (c i g : Nat) : (if Builtin.bitAnd (((c : Int).fdiv (2 ^ 25)).fdiv (2 ^ i)) 1 ≠ 0 then (g : Int) else 0) = ((gsel c i g : Nat) : Int) := by
  rw [bitAnd_m1, Int.fdiv_eq_ediv_of_nonneg _ (Int.le_of_lt (p2_pos 25)), Int.fdiv_eq_ediv_of_nonneg _ (Int.le_of_lt (p2_pos i)), Int.ediv_ediv_of_nonneg (Int.le_of_lt (p2_pos 25)), ← pow_split, ← kbt_cast]
  unfold gsel
  rw [Nat.testBit_eq_decide_div_mod_eq]
  have e : ((c : Int) / ((2 ^ (25 + i) : Nat) : Int)) % 2 = ((c / 2 ^ (25 + i) % 2 : Nat) : Int) := by push_cast; rfl
  rw [e]
  by_cases h : c / 2 ^ (25 + i) % 2 = 1
  · rw [if_pos (by rw [h]; decide), if_pos (by simpa using h)]
  · rw [if_neg (by omega), if_neg (by simpa using h)]; rfl
theorem stepZ_nat (c v : Nat) : stepZ (c : Int) (v : Int) = ((stepN c v : Nat) : Int) := by
  unfold stepZ stepN
  simp only [List.foldl_cons, List.foldl_nil, istep]
  have hm : Builtin.bitAnd (c : Int) 33554431 * (2 : Int) ^ 5 = (((c % 2 ^ 25) <<< 5 : Nat) : Int) := by
    have h := kbt_mask (c : Int) 25
    have e : (2 : Int) ^ 25 - 1 = 33554431 := by decide
    rw [e] at h
    rw [h, Nat.shiftLeft_eq]
    omega
  rw [hm, bitXor_nat]
  rw [show genZ.getD (0 : Int).toNat 0 = ((996825010 : Nat) : Int) from rfl, show genZ.getD (1 : Int).toNat 0 = ((642813549 : Nat) : Int) from rfl, show genZ.getD (2 : Int).toNat 0 = ((513874426 : Nat) : Int) from rfl,
    show genZ.getD (3 : Int).toNat 0 = ((1027748829 : Nat) : Int) from rfl, show genZ.getD (4 : Int).toNat 0 = ((705979059 : Nat) : Int) from rfl]
  rw [show (0 : Int).toNat = 0 from rfl, show (1 : Int).toNat = 1 from rfl, show (2 : Int).toNat = 2 from rfl, show (3 : Int).toNat = 3 from rfl, show (4 : Int).toNat = 4 from rfl]
  rw [gsel_int, gsel_int, gsel_int, gsel_int, gsel_int, bitXor_nat, bitXor_nat, bitXor_nat, bitXor_nat, bitXor_nat]
theorem gsel_low {c i g : Nat} (h : c < 2 ^ 25) : gsel c i g = 0 := by
  unfold gsel
  rw [Nat.testBit_lt_two_pow (Nat.lt_of_lt_of_le h (Nat.pow_le_pow_right (by decide) (by omega)))]
  rfl
theorem stepN_low {c v : Nat} (h : c < 2 ^ 25) (hv : v < 32) : stepN c v = c * 32 + v := by
  unfold stepN
  rw [gsel_low h, gsel_low h, gsel_low h, gsel_low h, gsel_low h, Nat.mod_eq_of_lt h]
  simp only [Nat.xor_zero]
  have h1 := nat_xor_and (c <<< 5) v
  have h2 := and_low 5 (c : Int) (v : Int) (by omega) (by omega)
  rw [show (c : Int) * (2 : Int) ^ 5 = ((c <<< 5 : Nat) : Int) from by rw [Nat.shiftLeft_eq]; omega, bitAnd_pp (by omega) (by omega), Int.toNat_natCast, Int.toNat_natCast] at h2
  have h3 : c <<< 5 = c * 32 := by rw [Nat.shiftLeft_eq]
  omega
theorem fold_nat : ∀ (vs : List Nat) (c : Nat), (vs.map fun v : Nat => (v : Int)).foldl stepZ (c : Int) = ((vs.foldl stepN c : Nat) : Int)
  | [], _ => rfl
  | v :: vs, c => by
    rw [List.map_cons, List.foldl_cons, List.foldl_cons, stepZ_nat]
    exact fold_nat vs _
theorem stepN_bound {c v : Nat} (hv : v < 2 ^ 30) : stepN c v < 2 ^ 30 := by
  have g : ∀ i k, k < 2 ^ 30 → gsel c i k < 2 ^ 30 := fun i k hk => by unfold gsel; split; exact hk; decide
  have hs : (c % 2 ^ 25) <<< 5 < 2 ^ 30 := by rw [Nat.shiftLeft_eq]; have := Nat.mod_lt c (show 2 ^ 25 > 0 by decide); omega
  unfold stepN
  exact Nat.xor_lt_two_pow (Nat.xor_lt_two_pow (Nat.xor_lt_two_pow (Nat.xor_lt_two_pow (Nat.xor_lt_two_pow (Nat.xor_lt_two_pow hs hv) (g _ _ (by decide))) (g _ _ (by decide))) (g _ _ (by decide))) (g _ _ (by decide))) (g _ _ (by decide))
/-- six numbers of five bits close the sum -/
theorem close6 (s : Nat) (M : Nat) (hM : M = [0, 0, 0, 0, 0, 0].foldl stepN s ^^^ 1) :
    [M / 2 ^ 25 % 32, M / 2 ^ 20 % 32, M / 2 ^ 15 % 32, M / 2 ^ 10 % 32, M / 2 ^ 5 % 32, M % 32].foldl stepN s = 1 := by
  have hb : M < 2 ^ 30 := by
    rw [hM]
    exact Nat.xor_lt_two_pow (stepN_bound (by decide)) (by decide)
  have key : ∀ c0 c1 c2 c3 c4 c5 : Nat, [c0, c1, c2, c3, c4, c5].foldl stepN s = [0, 0, 0, 0, 0, 0].foldl stepN s ^^^ [c0, c1, c2, c3, c4, c5].foldl stepN 0 := by
    intro c0 c1 c2 c3 c4 c5
    have z : ∀ v : Nat, v = 0 ^^^ v := fun v => (Nat.zero_xor v).symm
    have one : ∀ a b v : Nat, stepN (a ^^^ b) v = stepN a 0 ^^^ stepN b v := fun a b v => by
      have h := stepN_xor a b 0 v
      rw [Nat.zero_xor] at h
      exact h
    simp only [List.foldl_cons, List.foldl_nil]
    rw [← one, ← one, ← one, ← one, ← one, ← one, Nat.xor_zero]
  rw [key]
  have low : [M / 2 ^ 25 % 32, M / 2 ^ 20 % 32, M / 2 ^ 15 % 32, M / 2 ^ 10 % 32, M / 2 ^ 5 % 32, M % 32].foldl stepN 0 = M := by
    simp only [List.foldl_cons, List.foldl_nil]
    have e1 : stepN 0 (M / 2 ^ 25 % 32) = M / 2 ^ 25 := by rw [stepN_low (by decide) (by omega)]; omega
    have e2 : stepN (M / 2 ^ 25) (M / 2 ^ 20 % 32) = M / 2 ^ 20 := by rw [stepN_low (by omega) (by omega)]; omega
    have e3 : stepN (M / 2 ^ 20) (M / 2 ^ 15 % 32) = M / 2 ^ 15 := by rw [stepN_low (by omega) (by omega)]; omega
    have e4 : stepN (M / 2 ^ 15) (M / 2 ^ 10 % 32) = M / 2 ^ 10 := by rw [stepN_low (by omega) (by omega)]; omega
    have e5 : stepN (M / 2 ^ 10) (M / 2 ^ 5 % 32) = M / 2 ^ 5 := by rw [stepN_low (by omega) (by omega)]; omega
    have e6 : stepN (M / 2 ^ 5) (M % 32) = M := by rw [stepN_low (by omega) (by omega)]; omega
    rw [e1, e2, e3, e4, e5, e6]
  rw [low, hM, ← Nat.xor_assoc, Nat.xor_self, Nat.zero_xor]
theorem nats_of : ∀ (ns : List Int), (∀ d ∈ ns, 0 ≤ d) → ∃ vs : List Nat, ns = vs.map fun v : Nat => (v : Int)
  | [], _ => ⟨[], rfl⟩
  | d :: r, h => by
    obtain ⟨vs, e⟩ := nats_of r fun k hk => h k (.tail _ hk)
    obtain ⟨n, hn⟩ := Int.eq_ofNat_of_zero_le (h d (.head _))
    exact ⟨n :: vs, by rw [e, hn]; rfl⟩
theorem expandZ_nonneg (x : Str) : ∀ d ∈ expandZ x, 0 ≤ d := by
  intro d hd
  unfold expandZ at hd
  rcases List.mem_append.mp hd with hd | hd
  · rcases List.mem_append.mp hd with hd | hd
    · obtain ⟨c, _, rfl⟩ := List.mem_map.mp hd
      rw [Int.fdiv_eq_ediv_of_nonneg _ (Int.le_of_lt (p2_pos 5))]
      exact Int.ediv_nonneg (Int.natCast_nonneg _) (Int.le_of_lt (p2_pos 5))
    · rw [List.mem_singleton.mp hd]; decide
  · obtain ⟨c, _, rfl⟩ := List.mem_map.mp hd
    rw [bitAnd_pp (by omega) (by decide)]
    exact Int.natCast_nonneg _
theorem five_of (M k : Nat) : Builtin.bitAnd (((M : Nat) : Int).fdiv (2 ^ k)) 31 = ((M / 2 ^ k % 32 : Nat) : Int) := by
  have h : ∀ z : Int, Builtin.bitAnd z 31 = z % 32 := bitAnd_m5
  rw [h, Int.fdiv_eq_ediv_of_nonneg _ (Int.le_of_lt (p2_pos k)), ← kbt_cast]
  rfl
theorem checksum_ok (x : Str) (ns : List Int) (hb : ∀ d ∈ ns, 0 ≤ d ∧ d < 32) : (expandZ x ++ (ns ++ createZ x ns)).foldl stepZ 1 = 1 := by
  obtain ⟨vs, hvs⟩ := nats_of (expandZ x ++ ns) fun d hd => (List.mem_append.mp hd).elim (expandZ_nonneg x d) fun h => (hb d h).1
  rw [← List.append_assoc, List.foldl_append]
  have hs : (expandZ x ++ ns).foldl stepZ 1 = ((vs.foldl stepN 1 : Nat) : Int) := by rw [hvs]; exact fold_nat vs 1
  have h6 : (expandZ x ++ ns ++ [0, 0, 0, 0, 0, 0]).foldl stepZ 1 = (([0, 0, 0, 0, 0, 0].foldl stepN (vs.foldl stepN 1) : Nat) : Int) := by
    rw [List.foldl_append, hs]
    exact fold_nat [0, 0, 0, 0, 0, 0] _
  obtain ⟨M, hM⟩ : ∃ M, M = [0, 0, 0, 0, 0, 0].foldl stepN (vs.foldl stepN 1) ^^^ 1 := ⟨_, rfl⟩
  have hX : Builtin.bitXor ((expandZ x ++ ns ++ [0, 0, 0, 0, 0, 0]).foldl stepZ 1) 1 = ((M : Nat) : Int) := by
    rw [h6, hM]
    exact bitXor_nat _ 1
  have hc : createZ x ns = [M / 2 ^ 25 % 32, M / 2 ^ 20 % 32, M / 2 ^ 15 % 32, M / 2 ^ 10 % 32, M / 2 ^ 5 % 32, M % 32].map fun v : Nat => (v : Int) := by
    have h0 := five_of M 0
    rw [Nat.pow_zero, Nat.div_one] at h0
    unfold createZ
    rw [hX]
    show [Builtin.bitAnd ((M : Int).fdiv (2 ^ 25)) 31, Builtin.bitAnd ((M : Int).fdiv (2 ^ 20)) 31, Builtin.bitAnd ((M : Int).fdiv (2 ^ 15)) 31, Builtin.bitAnd ((M : Int).fdiv (2 ^ 10)) 31, Builtin.bitAnd ((M : Int).fdiv (2 ^ 5)) 31, Builtin.bitAnd ((M : Int).fdiv (2 ^ 0)) 31] = _
    rw [five_of, five_of, five_of, five_of, five_of, h0]
    rfl
  rw [hs, hc, fold_nat, close6 _ M hM]
  rfl
end Mine

namespace Mine
theorem snoc_rec {P : List Int → Prop} (h0 : P []) (h1 : ∀ pre v, P pre → P (pre ++ [v])) (ns : List Int) : P ns := by
  have key : ∀ rs : List Int, P rs.reverse := by
    intro rs
    induction rs with
    | nil => exact h0
    | cons r rs ih => rw [List.reverse_cons]; exact h1 _ _ ih
  have h := key ns.reverse
  rwa [List.reverse_reverse] at h
theorem digsZ_self (t : Nat) (ns : List Int) : (∀ d ∈ ns, 0 ≤ d ∧ d < 2 ^ t) → digsZ t ns.length (valZ t ns) (t * ns.length) = ns := by
  refine snoc_rec (P := fun ns => (∀ d ∈ ns, 0 ≤ d ∧ d < 2 ^ t) → digsZ t ns.length (valZ t ns) (t * ns.length) = ns) (fun _ => rfl) (fun pre v ih h => ?_) ns
  have hv := h v (List.mem_append.mpr (.inr (.head _)))
  have hp := ih fun d hd => h d (List.mem_append.mpr (.inl hd))
  have e : t * (pre ++ [v]).length = t * pre.length + t := by rw [List.length_append, Nat.mul_add]; simp
  rw [e, valZ_snoc, List.length_append]
  show digsZ t (pre.length + 1) _ _ = _
  rw [digsZ_snoc, ← digsZ_more hv.1 hv.2 (Nat.le_refl _), hp]
  have e2 : t * pre.length + t - t * (pre.length + 1) = 0 := by rw [Nat.mul_add]; omega
  rw [e2, Int.pow_zero, Int.ediv_one, (kbt_both v _ t).2, Int.emod_eq_of_lt hv.1 hv.2]
theorem conv55 (ns : List Int) (hb : ∀ d ∈ ns, 0 ≤ d ∧ d < 32) : convP 5 5 ns = ns := by
  have e1 : 5 * ns.length % 5 = 0 := Nat.mul_mod_right 5 _
  have e2 : 5 * ns.length / 5 = ns.length := Nat.mul_div_cancel_left _ (by decide)
  rw [convP, if_pos e1, List.append_nil, e2]
  exact digsZ_self 5 ns hb
theorem convP_length (f t : Nat) (ns : List Int) : (convP f t ns).length ≤ f * ns.length / t + 1 := by
  rw [convP, List.length_append, digsZ_length]
  split <;> simp
end Mine

namespace Mine
abbrev pairD (x : Str) (ns : List Int) : PyData := .tuple [.str x, .list (ns.map .int)]
abbrev tupO (items : Array Value) (n : Nat) : Obj := { cls := .type "tuple", data := .seq items n }
theorem reads_pair {h : Heap} {tp l : Addr} {x : Str} {t : Tok} {us : List Value} {ns : List Int} {n k : Nat} (h1 : h.get? tp = some (tupO [Value.str x t, Value.ref l].toArray k)) (h2 : h.get? l = some (listOf us.toArray n)) (hi : IntsAre us ns) :
    ∃ as, Reads h (.ref tp) (pairD x ns) as :=
  ⟨_, reads_tuple_at h1 rfl rfl (readsAll_cons_val (.str x t) (.cons (reads_of_ints ⟨_, h2, rfl, n, rfl⟩ hi) .nil))⟩
theorem shaped_pair (x : Str) (ns : List Int) (hx : PyData.strOk x = true) : SeqAt.shaped (pairD x ns) = true := by
  have h1 := PySem.W.depthAll_ints ns
  have h2 : PyData.depth (pairD x ns) ≤ 64 := by simp only [PyData.depth, PyData.depthAll]; omega
  show (PyData.canLay0 (pairD x ns) && decide (PyData.depth (pairD x ns) ≤ 64)) = true
  rw [Bool.and_eq_true]
  refine ⟨?_, decide_eq_true h2⟩
  simp only [PyData.canLay0, PyData.canLayAll0, canLayAll0_ints, Bool.and_true, hx]
theorem eqv_pair (x : Str) (ns : List Int) : PyData.eqv (pairD x ns) (pairD x ns) = true := by
  simp only [PyData.eqv, PyData.eqvAll, ked_eqvAll, decide_true, Bool.and_true, beq_self_eq_true]
section
variable {prog : Program} {w : World} {A : Around} {E : Value → Shared → Prop} {s : Shared} {Q : Value → Shared → Prop} {tp tq l m : Addr} {x : Str} {t t' : Tok} {us vs : List Value} {ns : List Int} {n k n' k' : Nat}
theorem ne_pair (h1 : s.heap.get? tp = some (tupO [Value.str x t, Value.ref l].toArray k)) (h2 : s.heap.get? l = some (listOf us.toArray n)) (hi : IntsAre us ns)
    (h3 : s.heap.get? tq = some (tupO [Value.str x t', Value.ref m].toArray k')) (h4 : s.heap.get? m = some (listOf vs.toArray n')) (hj : IntsAre vs ns) (hu : A.units + 64 < cLine) (hx : PyData.strOk x = true)
    (h : Q (.bool false) s) : wpAny (model prog w) A (compareOp .NotEq (.ref tp) (.ref tq)) Q E s := by
  obtain ⟨_, r1⟩ := reads_pair h1 h2 hi
  obtain ⟨_, r2⟩ := reads_pair h3 h4 hj
  exact ne_dataH r1 r2 (shaped_pair x ns hx) (shaped_pair x ns hx) hu (by rw [eqv_pair]; exact h)
theorem eq_pair (h1 : s.heap.get? tp = some (tupO [Value.str x t, Value.ref l].toArray k)) (h2 : s.heap.get? l = some (listOf us.toArray n)) (hi : IntsAre us ns)
    (h3 : s.heap.get? tq = some (tupO [Value.str x t', Value.ref m].toArray k')) (h4 : s.heap.get? m = some (listOf vs.toArray n')) (hj : IntsAre vs ns) (hu : A.units + 64 < cLine) (hx : PyData.strOk x = true)
    (h : Q (.bool true) s) : wpAny (model prog w) A (compareOp .Eq (.ref tp) (.ref tq)) Q E s := by
  obtain ⟨_, r1⟩ := reads_pair h1 h2 hi
  obtain ⟨_, r2⟩ := reads_pair h3 h4 hj
  exact eq_dataH r1 r2 (shaped_pair x ns hx) (shaped_pair x ns hx) hu (by rw [eqv_pair]; exact h)
theorem ne_ints (h2 : s.heap.IsList l us.toArray) (hi : IntsAre us ns) (h4 : s.heap.IsList m vs.toArray) (hj : IntsAre vs ns) (hu : A.units + 64 < cLine)
    (h : Q (.bool false) s) : wpAny (model prog w) A (compareOp .NotEq (.ref l) (.ref m)) Q E s :=
  ne_intsK h2 hi h4 hj hu (by rw [decide_eq_true rfl]; exact h)
theorem eq_ints (h2 : s.heap.IsList l us.toArray) (hi : IntsAre us ns) (h4 : s.heap.IsList m vs.toArray) (hj : IntsAre vs ns) (hu : A.units + 64 < cLine)
    (h : Q (.bool true) s) : wpAny (model prog w) A (compareOp .Eq (.ref l) (.ref m)) Q E s :=
  eq_intsK h2 hi h4 hj hu (by rw [decide_eq_true rfl]; exact h)
end
end Mine

namespace Mine
section
variable {prog : Program} {w : World} {A : Around} {E : Value → Shared → Prop} {s : Shared} {env : Env} {h₀ : Heap} {x : Str} {body : List Stmt} {Q : Flow → Shared → Prop}
/-- a loop over a list of any values of the ledger, whose turns leave all as it was -/
theorem iter_same {ax : Addr} {items : Array Value} {k0 : Nat} {m₀ : Str → Option Value} {news : List (Addr × Obj)} (hA : A.handled = none)
    (hax : (ax, listOf items k0) ∈ news) (F : Fr h₀ env.locals s.heap m₀) (N : News h₀ env.locals s.heap news)
    (turn : ∀ v h tk own, v ∈ items.toList → OwnOff own (news.map (·.1)) → Fr h₀ env.locals h (fun y => if y = x then some v else m₀ y) → News h₀ env.locals h (news ++ own) →
      wpAny (model prog w) A (execs body env) (InvPostN h₀ env.locals (fun m' nx => nx = news ∧ ∀ z, z ≠ x → m' z = m₀ z) own (news.map (·.1)) { s with heap := h, toks := tk } Q) E { s with heap := h, toks := tk })
    (done : ∀ (u : Option Value) h tk, Fr h₀ env.locals h (fun y => if y = x then u else m₀ y) → News h₀ env.locals h news → Q .next { s with heap := h, toks := tk }) :
    wpAny (model prog w) A (pyIter (.ref ax)) (fun it s₂ => LoopAtV prog w A h₀ env x body Q E it s₂) E s := by
  have hol := (N _ hax).1
  have hl : s.heap.IsList ax items := ⟨_, hol, rfl, k0, rfl⟩
  have hne : ax ≠ s.heap.objs.size := Nat.ne_of_lt (Heap.lt_size hol)
  refine wpAny_pyIter_list hl ?_
  have W := Walks.list (prog := prog) (w := w) hA s.heap.objs.size ax hne items
  refine iter_heldN (fun _ m nx => nx = news ∧ ∀ z, z ≠ x → m z = m₀ z) hax W ⟨⟨_, Heap.get?_push_size _ rfl, rfl, rfl⟩, hl.at fun o e => Heap.get?_push_of_some _ e⟩ F N ⟨rfl, fun _ _ => rfl⟩ ?_ ?_
  · rintro i v m₁ nx h tk own hin hP _ hoff ⟨rfl, hm⟩ F₁ N₁
    have e : (fun y => if y = x then some v else m₁ y) = fun y => if y = x then some v else m₀ y := by
      funext y
      by_cases hy : y = x
      · rw [if_pos hy, if_pos hy]
      · rw [if_neg hy, if_neg hy, hm y hy]
    rw [e] at F₁
    refine wpAny_mono (turn v h tk own (by rw [Array.mem_toList_iff]; exact Array.mem_of_getElem? hP) hoff F₁ N₁) (fun f s₂ p => ?_) fun _ _ x => x
    have up : InvEndN h₀ env.locals (fun m' nx' => nx' = nx ∧ ∀ z, z ≠ x → m' z = m₀ z) own (nx.map (·.1)) { s with heap := h, toks := tk } s₂ →
        InvEndN h₀ env.locals (fun m' nx' => (ax, listOf items k0) ∈ nx' ∧ nx' = nx ∧ ∀ z, z ≠ x → m' z = m₀ z) own (nx.map (·.1)) { s with heap := h, toks := tk } s₂ := by
      rintro ⟨h', tk', m', news', nx', e', F', N', hn', ho', ha, rfl, hS⟩
      exact ⟨h', tk', m', news', _, e', F', N', hn', ho', ha, hax, rfl, hS⟩
    cases f with
    | ret v => exact p
    | brk => exact p
    | next => exact up p
    | cont => exact up p
  · rintro m₁ nx h tk ⟨rfl, hm⟩ F₁ N₁
    refine done (m₁ x) h tk ?_ N₁
    have e : (fun y => if y = x then m₁ x else m₀ y) = m₁ := by
      funext y
      by_cases hy : y = x
      · rw [if_pos hy, hy]
      · rw [if_neg hy, hm y hy]
    rw [e]
    exact F₁
end
end Mine

namespace Mine
/-- the heap without one table -/
structure BaseOk (h hb : Heap) (P : Addr) : Prop where
  sub : ∀ b o, hb.get? b = some o → h.get? b = some o
  keep : ∀ b o, h.get? b = some o → b ≠ P → hb.get? b = some o
  none : hb.get? P = none
  size : hb.objs.size = h.objs.size
theorem base_of (h : Heap) (P : Addr) : ∃ hb, BaseOk h hb P :=
  ⟨hideAll h [P], fun _ _ e => of_hideAll _ e, fun _ _ e n => hideAll_get _ e (fun q => n (List.mem_singleton.mp q)), hideAll_none _ (.head _), hideAll_size _ _⟩
def pE : Program := { (default : Program) with main := { (default : Module) with body := [.Import [⟨Str.ofString "sys", none, default⟩] default] } }
section
variable {h hb : Heap} {P c : Addr} {ps : Array Value}
theorem BaseOk.ns (B : BaseOk h hb P) (hP : h.get? P = some (tblO ps)) {a : Addr} {m : Str → Option Value} (n : h.Ns a m) : hb.Ns a m := by
  obtain ⟨o, es, ep, ho, hd, r⟩ := n
  refine ⟨o, es, ep, B.keep _ _ ho (fun e => ?_), hd, r⟩
  rw [e, hP] at ho
  cases ho
  cases hd
theorem BaseOk.ofCls (B : BaseOk h hb P) (hP : h.get? P = some (tblO ps)) {a : Addr} {o : Obj} (ho : h.get? a = some o) (hc : o.cls ≠ .none) : hb.get? a = some o := by
  refine B.keep _ _ ho fun e => ?_
  rw [e, hP] at ho
  cases ho
  exact hc rfl
theorem BaseOk.ofK (B : BaseOk h hb P) (hP : h.get? P = some (tblO ps)) {K : Frag} {mg : Str → Option Value} (X : K.In h) (hg : h.Ns mainGlobals mg) (hl : h.NoLimit) (hK : kb_classed K = true) : K.In hb := by
  intro a o e
  have ha := X a o e
  have q := List.all_eq_true.mp hK (a, o) (kb_mem e)
  simp only [Bool.or_eq_true, decide_eq_true_eq, beq_iff_eq] at q
  rcases q with (q | q) | q
  · exact B.ofCls hP ha q
  · refine B.keep _ _ ha fun z => ?_
    obtain ⟨mc, ⟨o', es, ep, h1, h2, _⟩, _⟩ := hl
    rw [← q, z, hP] at h1
    cases h1
    cases h2
  · refine B.keep _ _ ha fun z => ?_
    obtain ⟨o', es, ep, h1, h2, _⟩ := hg
    rw [← q, z, hP] at h1
    cases h1
    cases h2
theorem BaseOk.list (B : BaseOk h hb P) (hP : h.get? P = some (tblO ps)) {a : Addr} {items : Array Value} (l : h.IsList a items) : hb.IsList a items := by
  obtain ⟨o, ho, hc, r⟩ := l
  exact ⟨o, B.ofCls hP ho (by rw [hc]; nofun), hc, r⟩
theorem BaseOk.fr (B : BaseOk h hb P) {L : Addr} {h₁ : Heap} {m : Str → Option Value} (F : Fr h L h₁ m) : Fr hb L h₁ m :=
  ⟨F.ns, fun b o e => F.keep b o (B.sub b o e), by rw [B.size]; exact F.above⟩
theorem BaseOk.news (B : BaseOk h hb P) (hP : h.get? P = some (tblO ps)) {L : Addr} {h₁ : Heap} {m : Str → Option Value} (F : Fr h L h₁ m) : News hb L h₁ [(P, tblO ps)] := by
  intro p hp
  rw [List.mem_singleton.mp hp]
  exact ⟨F.keep _ _ hP, fun e => absurd (Nat.lt_of_lt_of_le (Heap.lt_size hP) F.above) (by show ¬ P < L; rw [show P = L from e]; exact Nat.lt_irrefl _), B.none⟩
theorem BaseOk.code (B : BaseOk h hb P) (hP : h.get? P = some (tblO ps)) (C : CodeOf h c P) : CodeOf hb c P :=
  let ⟨o, vs, file, tf, flags, tg, inF, text, tt, a, k, r⟩ := C
  ⟨o, vs, file, tf, flags, tg, inF, text, tt, B.ofCls hP a (by rw [k]; nofun), k, r⟩
theorem BaseOk.top (B : BaseOk h hb P) (hP : h.get? P = some (tblO ps)) {p : Program} {loose : List Str} {mean : ExcName → Option Value} {mg mb : Str → Option Value} (T : Top p loose mean mg mb h) :
    ∃ loose', Top pE loose' mean mg mb hb := by
  refine ⟨loose ++ (recsOf p).map (·.name) ++ (litsOf p).map (·.1) ++ (clssOf p loose).map (·.name), B.ns hP T.g, B.ns hP T.b, ?_, ?_, ?_, ?_, ?_, ?_, T.builtins, ?_, ?_, ?_⟩
  · obtain ⟨mc, a, b⟩ := T.nolimit
    exact ⟨mc, B.ns hP a, b⟩
  · obtain ⟨mc, a, b⟩ := T.nodigits
    exact ⟨mc, B.ns hP a, b⟩
  · intro d hd
    have : recsOf pE = [] := rfl
    rw [this] at hd
    cases hd
  · intro d hd
    have : ownsOf pE = [] := rfl
    rw [this] at hd
    cases hd
  · intro x d hd
    have : valOf pE x = Option.none := rfl
    rw [this] at hd
    cases hd
  · intro x h1 h2 _ _ _
    simp only [List.mem_append, not_or] at h2
    exact T.free x h1 h2.1.1.1 h2.1.1.2 h2.1.2 h2.2
  · intro d hd
    have : recsOf pE = [] := rfl
    rw [this] at hd
    cases hd
  · obtain ⟨bm, ob, h1, h2, h3, h4, h5⟩ := T.bmain
    exact ⟨bm, ob, h1, h2, B.ofCls hP h3 (by rw [h4]; nofun), h4, h5⟩
  · intro hi
    have : importsNone pE = false := by decide +kernel
    rw [this] at hi
    cases hi
/-- one way on for an int that several ways bring -/
theorem cut_int {prog : Program} {w : World} {A : Around} {E : Value → Shared → Prop} {s : Shared} {h₀ : Heap} {L : Addr} {m : Str → Option Value} {t : Sem Value} {Q : Value → Shared → Prop} {news : List (Addr × Obj)} (_F : Fr h₀ L s.heap m) (_N : News h₀ L s.heap news) (R : Int → Prop)
    (h : wpAny (model prog w) A t (fun r s' => Halt (∃ (v : Int) (u : Tok) (h' : Heap) (tk' : Nat), r = .int v u ∧ R v ∧ s' = { s with heap := h', toks := tk' } ∧ Fr h₀ L h' m ∧ News h₀ L h' news)) E s)
    (k : ∀ (v : Int) (u : Tok) (h' : Heap) (tk' : Nat), R v → Fr h₀ L h' m → News h₀ L h' news → Q (.int v u) { s with heap := h', toks := tk' }) : wpAny (model prog w) A t Q E s := by
  refine wpAny_mono h (fun r s' p => ?_) fun _ _ e => e
  obtain ⟨v, u, h', tk', rfl, hR, rfl, F', N'⟩ := p
  exact k v u h' tk' hR F' N'
/-- one way on for a new list of ints that several ways bring -/
theorem cut_list {prog : Program} {w : World} {A : Around} {E : Value → Shared → Prop} {s : Shared} {h₀ : Heap} {L : Addr} {m : Str → Option Value} {t : Sem Value} {Q : Value → Shared → Prop} {news : List (Addr × Obj)} (_F : Fr h₀ L s.heap m) (_N : News h₀ L s.heap news) (R : List Int → Prop)
    (h : wpAny (model prog w) A t (fun r s' => Halt (∃ (l : Addr) (us : List Value) (ns : List Int) (n : Nat) (h' : Heap) (tk' : Nat), r = .ref l ∧ R ns ∧ s' = { s with heap := h', toks := tk' } ∧ Fr h₀ L h' m ∧ News h₀ L h' ((l, listOf us.toArray n) :: news) ∧ (∀ p ∈ news, p.1 ≠ l) ∧ IntsAre us ns)) E s)
    (k : ∀ (l : Addr) (us : List Value) (ns : List Int) (n : Nat) (h' : Heap) (tk' : Nat), R ns → Fr h₀ L h' m → News h₀ L h' ((l, listOf us.toArray n) :: news) → (∀ p ∈ news, p.1 ≠ l) → IntsAre us ns → Q (.ref l) { s with heap := h', toks := tk' }) : wpAny (model prog w) A t Q E s := by
  refine wpAny_mono h (fun r s' p => ?_) fun _ _ e => e
  obtain ⟨l, us, ns, n, h', tk', rfl, hR, rfl, F', N', hne, hI⟩ := p
  exact k l us ns n h' tk' hR F' N' hne hI
/-- the end: all is as it was but the table, which has grown -/
theorem BaseOk.old (B : BaseOk h hb P) (hC : CodeOf h c P) (hP : h.get? P = some (tblO ps)) {h' : Heap} {more : Array Value} (hk : ∀ b o, hb.get? b = some o → h'.get? b = some o) (hP' : h'.get? P = some (tblO (ps ++ more))) : OldK h h' := by
  refine ⟨fun b o e => ?_, fun b o e => ?_⟩
  · by_cases z : b = P
    · subst z
      rw [hP] at e
      cases e
      exact .inr (.inl ⟨(hC.tableAt hP).isCodeTable, rfl, ps, more, rfl, hP'⟩)
    · exact .inl (hk _ _ (B.keep _ _ e z))
  · by_cases z : b = P
    · subst z
      exact ⟨_, hP'⟩
    · exact ⟨o, hk _ _ (B.keep _ _ e z)⟩
end
end Mine

namespace Mine
local macro_rules | `(tactic| walk_at "call ref") => `(tactic| (k_here; refine halt_of ?_))
local macro_rules | `(tactic| walk_at "exec Assign cons ListComp") => `(tactic| (k_here; refine halt_of ?_))
local macro_rules | `(tactic| walk_at "eval ListComp") => `(tactic| (k_here; refine halt_of ?_))
local macro_rules | `(tactic| walk_at "compareOp NotEq ref ref") => `(tactic| (k_here; refine halt_of ?_))
local macro_rules | `(tactic| walk_at "compareOp Eq ref ref") => `(tactic| (k_here; refine halt_of ?_))
local macro_rules | `(tactic| walk_at "compareOp NotEq str str") => `(tactic| (k_here; refine halt_of ?_))
local macro_rules | `(tactic| walk_at "subscriptTail Name Name str int") => `(tactic| refine item_charset (by assumption) (by assumption) ?_)
local macro_rules | `(tactic| walk_at "call builtin:str.join") => `(tactic| (k_here; refine halt_of ?_))
local macro_rules | `(tactic| walk_at "binaryOp Add str str") => `(tactic| (k_here; refine halt_of ?_))
local macro_rules | `(tactic| walk_at "setItem ref int") => `(tactic| (k_here; refine halt_of ?_))
local macro_rules | `(tactic| walk_at "call builtin:list.append") => `(tactic| (k_here; refine halt_of ?_))
local macro_rules | `(tactic| walk_at "exec For Name List cons nil") => `(tactic| (k_here; refine halt_of ?_))
local macro_rules | `(tactic| walk_at "call type:bytes") => `(tactic| (k_here; refine halt_of ?_))
local macro_rules | `(tactic| walk_at "pyIter ref") => `(tactic| (k_here; refine halt_of ?_))
local macro_rules | `(tactic| walk_at "InvEndN") => `(tactic| (refine halt_of ?_))
local macro_rules | `(tactic| walk_at "subscriptTail Name Slice ref ref") => `(tactic| (k_here; (with_reducible show wpAny _ _ (subscriptTail _ (PySem.Expr.Slice (some (PySem.Expr.Call _ _ _ _)) none none _) (Value.ref _) (Value.ref _)) _ _ _); refine halt_of ?_))
local macro_rules | `(tactic| tb_start) => `(tactic| ((case k1 => k_asm); (case k2 => k_asm); (case k3 => k_asm); (case k4 => k_asm); (case k5 => k_asm); (case kK => first | exact rfl | assumption); (case kd => ktr_room); (case ku => ktr_units)))
theorem neP {news : List (Addr × Obj)} {l P : Addr} {ob : Obj} (h : ∀ p ∈ news, p.1 ≠ l) (hm : (P, ob) ∈ news) : l ≠ P := fun e => h _ hm e.symm
set_option maxRecDepth 100000 in
set_option maxHeartbeats 3000000 in
theorem law2 : PySem.Challenge.rw_oo0008_02.Holds := hd (by
  k_fill
  intro w s₀ s₁ mg mb G Y fa o pm cd doc dV kV ho hd hcd hD hmg hg args vals as hpre hlay hrd hwl hlo
  have KX := kIn_of Y
  have X := (Ground.X G).1
  have V := (Ground.X G).2
  refine Ground.open G ?_
  intro T B D TE TW
  try (refine guard_noD D (by decide +kernel) ?_; clear D)
  obtain ⟨_, _, M⟩ := bmod_of_top T
  have TA := at_of_top T
  try (obtain ⟨_, _, he, B0⟩ := based_of_top T rfl hmg ho hd; have he' : cd = _ := he; subst he'; clear he)
  clear hmg
  wrow_args hpre hlay hrd hwl hlo
  first | refine callC_kw (enter_call ?_) | refine enter_call ?_ | refine callC_kw (enter_callW ?_) | refine enter_callW ?_ | w_how
  w_top on
  have K0 := below_caller (Top.heap T)
  w_call any ho hd hcd hD T F
  clear hd TA
  k_drop
  obtain ⟨P, hC, hP⟩ : ∃ P, CodeOf s₁.heap 47 P ∧ s₁.heap.get? P = some (tblO #[]) := by
    have hd1 : (recsOf hd.view_39).any (fun d => d.name == Str.ofString "bech32_decode") = true := by decide +kernel
    obtain ⟨d, hd2, hd3⟩ := List.any_eq_true.mp hd1
    obtain ⟨a, o, fd, c, P, h1, h2, h3, h4, h5, h6⟩ := T.tab d hd2
    have hm := mg_of KX T.g (n := Str.ofString "bech32_decode") (v := .ref 48) (by k_is)
    rw [beq_iff_eq.mp hd3, hm] at h1
    cases h1
    have e48 : ∃ o fd, s₁.heap.get? 48 = some o ∧ o.data = .func fd ∧ fd.code = .ref 47 := by
      refine ⟨_, _, KX 48 _ (by k_is), rfl, rfl⟩
    obtain ⟨o', fd', g1, g2, g3⟩ := e48
    rw [h2] at g1
    cases g1
    rw [h3] at g2
    cases g2
    rw [h4] at g3
    cases g3
    exact ⟨P, CodeOf.of h5 h6, h6.2⟩
  obtain ⟨hb, BO⟩ := base_of s₁.heap P
  rename s₁.heap.IsList _ _ => hL1
  rename IntsAre _ _ => hI1
  have Kb := BO.ofK hP KX T.g T.nolimit (by kernel_rfl)
  obtain ⟨loose', Tb⟩ := BO.top hP T
  have Lb := BO.list hP hL1
  have Nb := BO.news hP F
  have Fb := BO.fr F
  have Cb := BO.code hP hC
  have Bb := below_caller hb
  have hmem : P < s₁.heap.objs.size := Heap.lt_size hP
  rename News s₁.heap _ _ _ => N00
  clear N00
  clear K0 hcd hD F V TE TW B G Y ho X T KX M hL1
  k_steps
  refine halt_in ?_
  rename Fr _ _ _ _ => F1
  rename News _ _ _ _ => N1
  refine cut_int F1 N1 (fun _ => True) ?_ ?_
  · refine wpAny_call ?_
    k_dflt (refine' code_def ?k1 ?k2 ?k3 ?k4 ?k5 ?kA ?kF ?kK ?k6 ?k7 ?k8 ?k9 ?kB ?_ ?c2 ?c3 ?c4 ?c5; (case kA => exact rfl); (case kF => exact rfl); (case kK => exact rfl); (case k1 => k_asm); (case k2 => k_asm); (case k3 => k_asm); (case k4 => k_asm); (case k5 => k_asm); (case k6 => k_is); (case k7 => k_is); (case k8 => ktr_room); (case k9 => exact BindsTo.of_eq rfl); (case c5 => decide); (case kB => exact locs rfl); (case c2 => exact rfl); (case c3 => exact rfl); (case c4 => exact rfl); k_whole; intro g' L' h' FG' F' N' B' X' T'; (try dsimp only); (try k_fold))
    have Lg := Lb.at fun o e => Fr.keep FG' _ o e
    k_steps
    all_goals (refine halt_in ?_; exact ⟨_, _, _, _, rfl, trivial, rfl, by k_asm, by k_asm⟩)
  intro v0 u0 h0 tk0 _ F2 N2
  ((try clear F1); (try clear N1))
  try dsimp only
  k_steps
  refine halt_in ?_
  rename Fr _ _ _ _ => F3
  rename News _ _ _ _ => N3
  obtain ⟨x, hx⟩ : ∃ x : Str, x = ⟨#[(97 + v0.fmod 26).toNat]⟩ := ⟨_, rfl⟩
  rw [← hx] at F3
  with_unfolding_all refine asg_ints F3 N3 (fun a => .int (a.fmod 32)) rfl rfl rfl rfl (by decide) rfl (by decide) rfl rfl rfl (by intro _; rfl) ?_
  refine cut_list F3 N3 (fun ns => 1 ≤ ns.length ∧ ns.length ≤ 4) ?_ ?_
  · k_steps
    · refine halt_in ?_
      rename Fr _ _ _ _ => Fz
      rename News _ _ _ _ => Nz
      rename IntsAre _ (List.take _ _) => Iz
      rename P < _ => lz
      refine ⟨_, _, _, _, _, _, rfl, ⟨?_, ?_⟩, rfl, Fz, Nz, fun p hp => by rw [List.mem_singleton.mp hp]; exact Nat.ne_of_lt lz, Iz⟩
      all_goals (simp only [List.length_take, List.length_drop]; omega)
    · refine halt_in ?_
      rename Fr _ _ _ _ => Fz
      rename News _ _ _ _ => Nz
      rename P < _ => lz
      exact ⟨_, [_, _, _], [1, 28, 21], _, _, _, rfl, ⟨by decide, by decide⟩, rfl, Fz, Nz, fun p hp => by rw [List.mem_singleton.mp hp]; exact Nat.ne_of_lt lz, .cons _ _ (.cons _ _ (.cons _ _ .nil))⟩
  intro l4 us4 ns4 n4 h4 tk4 hlen4 F4 N4 ne4 I4
  try dsimp only
  refine halt_in ?_
  refine ⟨l4, us4, ns4, rfl, News.isList N4 (.head _), I4, by rw [sizeLine_eq]; omega, F4, cb_drop N4 (fun p hp => .tail _ hp), ?_, ?_⟩
  · intro C a t s₂ m₂ E' hC ha hn hm hkp
    have F6 := Fr.keeps F4 hkp
    have cE := InElt.start s₂.heap
    k_steps
    all_goals first | exact .int _ _ | exact ⟨_, _, rfl, cE⟩
  intro D5 ys5 k5 h5 tk5 F5 N5 ne5 CA5
  have I5 := CA5.intsOf
  clear CA5 F4 N4 I4 F3 N3
  obtain ⟨rs, hrs⟩ : ∃ rs : List Int, rs = ns4.map (fun a => a.fmod 32) := ⟨_, rfl⟩
  rw [← hrs] at I5
  have hr1 : 1 ≤ rs.length ∧ rs.length ≤ 4 := by rw [hrs, List.length_map]; exact hlen4
  have hrb : ∀ d ∈ rs, 0 ≤ d ∧ d < 32 := by
    intro d hd
    rw [hrs] at hd
    obtain ⟨a, _, rfl⟩ := List.mem_map.mp hd
    exact ⟨Int.fmod_nonneg_of_pos _ (by decide), Int.fmod_lt_of_pos _ (by decide)⟩
  have hxl : x.length = 1 := by rw [hx]; rfl
  try dsimp only
  k_steps
  refine halt_in ?_
  rename Fr _ _ _ _ => F6
  rename News _ _ _ _ => N6
  with_unfolding_all refine asg_ints F6 N6 (fun a => .int a) rfl rfl rfl rfl (by decide) rfl (by decide) rfl rfl rfl (by intro _; rfl) (ld F6 rfl (halt_in ⟨_, _, _, rfl, News.isList N6 (.head _), I5, by rw [sizeLine_eq]; omega, F6, N6, ?_, ?_⟩))
  · intro C a t s₂ m₂ E' hC ha hn hm hkp
    have F7 := Fr.keeps F6 hkp
    have cE := InElt.start s₂.heap
    k_steps
    all_goals first | exact .int _ _ | exact ⟨_, _, rfl, cE⟩
  intro D7 ys7 k7 h7 tk7 F7 N7 ne7 CA7
  have I7 := CA7.intsOf
  rw [show rs.map (fun a => a) = rs from List.map_id' rs] at I7
  clear CA7
  try dsimp only
  k_steps
  refine halt_in ?_
  ((try clear F6); (try clear N6))
  -- text
  have hz : rs.length < 2 ^ 10 := by omega
  with_unfolding_all refine' Cl.use (encode_con w _ mg mb [(D7, listOf ys7.toArray k7), (D5, listOf ys5.toArray k5), (P, tblO #[])] x _ (.ref D5) rs (by omega) (canList_list (.tail _ (.head _)) I5 (by omega)) hz hrb) ?k1 ?k2 ?k3 ?k4 ?k5 ?kK ?kd ?ku ?_
  tb_start
  intro t8 h8 tk8 F8 N8
  try dsimp only
  k_steps
  refine halt_in ?_
  -- six
  with_unfolding_all refine' Cl.use (create_con w _ mg mb [(D7, listOf ys7.toArray k7), (D5, listOf ys5.toArray k5), (P, tblO #[])] x _ (.ref D5) rs (by omega) (canList_list (.tail _ (.head _)) I5 (by omega)) hz) ?k1 ?k2 ?k3 ?k4 ?k5 ?kK ?kd ?ku ?_
  tb_start
  intro l9 us9 k9 h9 tk9 F9 N9 ne9 I9
  have hcl := createZ_length x rs
  try dsimp only
  k_steps
  refine halt_in ?_
  -- due
  rename Fr _ _ _ _ => F10
  rename News _ _ _ _ => N10
  rename IntsAre _ (_ ++ _) => I10
  obtain ⟨lw, hlw⟩ := news_hd N10
  subst hlw
  rename List Value => ws10
  rename l9 < lw ∧ _ => lt10
  with_unfolding_all refine asg_ints F10 N10 (fun a => .int a) rfl rfl rfl rfl (by decide) rfl (by decide) rfl rfl rfl (by intro _; rfl) (ld F10 rfl (halt_in ⟨_, _, _, rfl, News.isList N10 (.head _), I10, by rw [List.length_append, sizeLine_eq]; omega, F10, N10, ?_, ?_⟩))
  · intro C a t s₂ m₂ E' hC ha hn hm hkp
    have F7 := Fr.keeps F10 hkp
    have cE := InElt.start s₂.heap
    k_steps
    all_goals first | exact .int _ _ | exact ⟨_, _, rfl, cE⟩
  intro D11 ys11 k11 h11 tk11 F11 N11 ne11 CA11
  have I11 := CA11.intsOf
  rw [show (rs ++ createZ x rs).map (fun a => a) = rs ++ createZ x rs from List.map_id' _] at I11
  clear CA11
  try dsimp only
  k_steps
  refine halt_in ?_
  ((try clear F10); (try clear N10); (try clear F9); (try clear N9); (try clear F8); (try clear N8); (try clear F7); (try clear N7))
  have hwl : (rs ++ createZ x rs).length < 2 ^ 10 := by rw [List.length_append]; omega
  have hwb : ∀ d ∈ rs ++ createZ x rs, 0 ≤ d ∧ d < 32 := fun d hd => (List.mem_append.mp hd).elim (hrb d) (createZ_lt x rs d)
  have hxc : ∀ c ∈ x.cps.toList, okS c := by
    rw [hx]
    intro c hc
    rw [show c = (97 + v0.fmod 26).toNat from by simpa using hc]
    have g0 := Int.fmod_nonneg_of_pos v0 (b := 26) (by decide)
    have g1 := Int.fmod_lt_of_pos v0 (b := 26) (by decide)
    exact ⟨by omega, by omega, by omega⟩
  have hsum := checksum_ok x rs hrb
  with_unfolding_all refine' Cl.use (verify_con w _ mg mb _ x _ _ _ (rs ++ createZ x rs) 0 (by omega) ?hl I10 hwl) ?k1 ?k2 ?k3 ?k4 ?k5 ?kK ?kd ?ku ?_
  tb_start
  case hl => exact .tail _ (.head _)
  intro h12 tk12 F12 N12
  rw [show ((expandZ x ++ (rs ++ createZ x rs)).foldl stepZ 1 == 1) = true from by rw [hsum]; rfl]
  try dsimp only
  k_steps
  refine halt_in ?_
  with_unfolding_all refine' Cl.use (conv_con w _ mg mb _ (.ref D5) rs 5 5 _ _ (canWalk_list (n := k5) ?hl I5) (by decide) (by decide) (by decide) hz hrb) ?k1 ?k2 ?k3 ?k4 ?k5 ?kK ?kd ?ku ?_
  tb_start
  case hl => (repeat (first | exact List.Mem.head _ | apply List.Mem.tail))
  intro l13 us13 k13 h13 tk13 F13 N13 ne13 I13
  rw [conv55 rs hrb] at I13
  try dsimp only
  k_steps
  refine halt_in ?_
  with_unfolding_all refine' Cl.use (conv_con w _ mg mb _ (.ref D5) rs 5 8 _ _ (canWalk_list (n := k5) ?hl I5) (by decide) (by decide) (by decide) hz hrb) ?k1 ?k2 ?k3 ?k4 ?k5 ?kK ?kd ?ku ?_
  tb_start
  case hl => (repeat (first | exact List.Mem.head _ | apply List.Mem.tail))
  intro l14 us14 k14 h14 tk14 F14 N14 ne14 I14
  try dsimp only
  k_steps
  refine halt_in ?_
  rename Fr _ _ _ _ => F15
  rename News _ _ _ _ => N15
  have hgl : (convP 5 8 rs).length < 2 ^ 10 := by have := convP_length 5 8 rs; omega
  with_unfolding_all refine asg_ints F15 N15 (fun a => .int a) rfl rfl rfl rfl (by decide) rfl (by decide) rfl rfl rfl (by intro _; rfl) (ld F15 rfl (halt_in ⟨_, _, _, rfl, News.isList N15 (.head _), I14, by rw [sizeLine_eq]; omega, F15, N15, ?_, ?_⟩))
  · intro C a t s₂ m₂ E' hC ha hn hm hkp
    have F7 := Fr.keeps F15 hkp
    have cE := InElt.start s₂.heap
    k_steps
    all_goals first | exact .int _ _ | exact ⟨_, _, rfl, cE⟩
  intro D16 ys16 k16 h16 tk16 F16 N16 ne16 CA16
  have I16 := CA16.intsOf
  rw [show (convP 5 8 rs).map (fun a => a) = convP 5 8 rs from List.map_id' _] at I16
  clear CA16
  ((try clear F15); (try clear N15); (try clear F14); (try clear N14); (try clear F13); (try clear N13); (try clear F12); (try clear N12); (try clear F11); (try clear N11))
  try dsimp only
  k_steps
  refine halt_in ?_
  rename Fr _ _ _ _ => F17
  rename News _ _ _ _ => N17


  have hneP : ∀ p ∈ [(D16, listOf ys16.toArray k16), (l14, listOf us14.toArray k14), (l13, listOf us13.toArray k13), (D11, listOf ys11.toArray k11), (lw, listOf ws10.toArray 0), (l9, listOf us9.toArray k9), (D7, listOf ys7.toArray k7), (D5, listOf ys5.toArray k5)], p.1 ≠ P := by
    intro p hp
    simp only [List.mem_cons, List.not_mem_nil, or_false] at hp
    rcases hp with rfl | rfl | rfl | rfl | rfl | rfl | rfl | rfl
    · exact neP ne16 (by k_mem)
    · exact neP ne14 (by k_mem)
    · exact neP ne13 (by k_mem)
    · exact neP ne11 (by k_mem)
    · exact (Nat.ne_of_lt lt10.2.2.2).symm
    · exact neP ne9 (by k_mem)
    · exact neP ne7 (by k_mem)
    · exact neP ne5 (by k_mem)
  have NP := cb_drop (news := (P, tblO #[]) :: [(D16, listOf ys16.toArray k16), (l14, listOf us14.toArray k14), (l13, listOf us13.toArray k13), (D11, listOf ys11.toArray k11), (lw, listOf ws10.toArray 0), (l9, listOf us9.toArray k9), (D7, listOf ys7.toArray k7), (D5, listOf ys5.toArray k5)]) N17 (fun p hp => (List.mem_cons.mp hp).elim (fun e => by rw [e]; k_mem) (fun hp => by
    simp only [List.mem_cons, List.not_mem_nil, or_false] at hp ⊢
    rcases hp with h | h | h | h | h | h | h | h <;> simp only [h, true_or, or_true]))
  have hgb : AllBare s₁.gens := AllBare.of_eq hg
  clear N17
  with_unfolding_all refine' Cl.use (decode_con w _ mg mb _ P #[] x (encZ x rs) _ (rs ++ createZ x rs) (by omega) (by omega) (by rw [List.length_append]; omega) (by rw [List.length_append]; omega) hwb hxc rfl hsum hneP (by trivial)) ?k1 ?k2 ?k3 ?k4 ?k5 ?kK ?kd ?ku ⟨Cb, hgb, ?_⟩
  tb_start
  intro tp l18 us18 k18 kt18 t18 ps18 s18 F18 N18 ne18 ne18b I18 htr18 hmore18 hG18 hos18
  rw [show (rs ++ createZ x rs).take ((rs ++ createZ x rs).length - 6) = rs from by rw [List.length_append, hcl, Nat.add_sub_cancel]; exact List.take_left] at I18
  clear NP F17
  have hxo : PyData.strOk x = true := by
    show (x.cps.all (· < 0x110000)) = true
    rw [hx]
    have g0 := Int.fmod_nonneg_of_pos v0 (b := 26) (by decide)
    have g1 := Int.fmod_lt_of_pos v0 (b := 26) (by decide)
    simp only [List.all_toArray, List.all_cons, List.all_nil, Bool.and_true, decide_eq_true_eq]
    omega
  try dsimp only
  k_steps
  refine halt_in ?_
  rename News _ _ _ _ => Nc
  refine ne_ints (News.isList Nc (by k_mem)) I5 (News.isList Nc (by k_mem)) I7 (by units_room) ?_
  k_steps
  refine halt_in ?_
  rename News _ _ _ _ => Nc
  refine ne_ints (News.isList Nc (by k_mem)) I10 (News.isList Nc (by k_mem)) I11 (by units_room) ?_
  k_steps
  refine halt_in ?_
  rename News _ _ _ _ => Nc
  refine ne_ints (News.isList Nc (by k_mem)) I13 (News.isList Nc (by k_mem)) I7 (by units_room) ?_
  k_steps
  refine halt_in ?_
  rename News _ _ _ _ => Nc
  obtain ⟨tq, htq⟩ := news_hd Nc
  subst htq
  refine ne_pair (Nc _ (.tail _ (.head _))).1 (Nc (l18, listOf us18.toArray k18) (by k_mem)).1 I18 (Nc _ (.head _)).1 (Nc (D7, listOf ys7.toArray k7) (by k_mem)).1 I7 (by units_room) hxo ?_
  k_steps
  · exfalso
    omega
  have hDD : (⟨((rs ++ createZ x rs).map signOf).toArray⟩ : Str).length = rs.length + 6 := by
    show (List.toArray _).size = _
    rw [List.size_toArray, List.length_map, List.length_append, hcl]
  refine halt_in ?_
  refine PyProof.Rows.add_str ?_ (by rw [show (Str.ofString "1").length = 1 from by decide +kernel, sizeLine_eq]; omega)
  intro t20 k20
  try dsimp only
  k_steps
  refine halt_in ?_
  rename Fr _ _ _ _ => F20
  rename News _ _ _ _ => N20
  with_unfolding_all refine lc_ints F20 N20 (fun i => .str ⟨#[signOf i]⟩) rfl rfl (by decide) rfl (by decide) rfl (by intro _; rfl) (ld F20 rfl (halt_in ⟨_, _, _, rfl, News.isList N20 (a := D11) (by k_mem), I11, by rw [sizeLine_eq]; omega, F20, N20, ?_, ?_⟩))
  · intro C i t s₂ m₂ E' hC hi hn hm hkp
    have F6 := Fr.keeps F20 hkp
    have cE := InElt.start s₂.heap
    have hi0 := (hwb i hi).1
    have hi1 := (hwb i hi).2
    k_steps
    all_goals first | exact .str _ _ | exact ⟨_, _, rfl, cE⟩
  intro D21 ys21 k21 h21 tk21 F21 N21 ne21 C21
  have I21 := C21.strsOf
  try dsimp only
  k_steps
  refine halt_in ?_
  refine join_list (News.isList N21 (.head _)) I21 ?_ ?_
  · rw [sum_ones, List.length_map, List.length_append, show (Str.ofString "").length = 0 from by decide +kernel]; omega
  rw [join_signs]
  intro t22 k22
  try dsimp only
  k_steps
  refine halt_in ?_
  refine PyProof.Rows.add_str ?_ (by rw [Str.length_append, show (Str.ofString "1").length = 1 from by decide +kernel, sizeLine_eq]; omega)
  intro t23 k23
  try dsimp only
  k_steps
  refine halt_in ?_
  refine PyProof.Rows.ne_str ?_
  rw [show (encZ x rs != x ++ Str.ofString "1" ++ ⟨((rs ++ createZ x rs).map signOf).toArray⟩) = false from bne_self_eq_false _]
  try dsimp only
  k_steps
  refine halt_in ?_
  have dl9 : ∀ p ∈ [(l13, listOf us13.toArray k13), (l14, listOf us14.toArray k14), (tp, tupO [Value.str x t18, Value.ref l18].toArray kt18), (l18, listOf us18.toArray k18), (P, tblO ps18), (D16, listOf ys16.toArray k16), (D11, listOf ys11.toArray k11), (D7, listOf ys7.toArray k7), (D5, listOf ys5.toArray k5)], p.1 ≠ l9 := by
    intro p hp
    simp only [List.mem_cons, List.not_mem_nil, or_false] at hp
    rcases hp with rfl | rfl | rfl | rfl | rfl | rfl | rfl | rfl | rfl
    · exact neP ne13 (by k_mem)
    · exact neP ne14 (by k_mem)
    · exact neP ne18 (by k_mem)
    · exact neP ne18b (by k_mem)
    · exact ne9 (P, tblO #[]) (by k_mem)
    · exact neP ne16 (by k_mem)
    · exact neP ne11 (by k_mem)
    · exact ne9 (D7, listOf ys7.toArray k7) (by k_mem)
    · exact ne9 (D5, listOf ys5.toArray k5) (by k_mem)
  have dl13 : ∀ p ∈ [(l14, listOf us14.toArray k14), (tp, tupO [Value.str x t18, Value.ref l18].toArray kt18), (l18, listOf us18.toArray k18), (P, tblO ps18), (D16, listOf ys16.toArray k16), (D11, listOf ys11.toArray k11), (D7, listOf ys7.toArray k7), (D5, listOf ys5.toArray k5)], p.1 ≠ l13 := by
    intro p hp
    simp only [List.mem_cons, List.not_mem_nil, or_false] at hp
    rcases hp with rfl | rfl | rfl | rfl | rfl | rfl | rfl | rfl
    · exact neP ne14 (by k_mem)
    · exact neP ne18 (by k_mem)
    · exact neP ne18b (by k_mem)
    · exact ne13 (P, tblO #[]) (by k_mem)
    · exact neP ne16 (by k_mem)
    · exact ne13 (D11, listOf ys11.toArray k11) (by k_mem)
    · exact ne13 (D7, listOf ys7.toArray k7) (by k_mem)
    · exact ne13 (D5, listOf ys5.toArray k5) (by k_mem)
  have dl14 : ∀ p ∈ [(tp, tupO [Value.str x t18, Value.ref l18].toArray kt18), (l18, listOf us18.toArray k18), (P, tblO ps18), (D16, listOf ys16.toArray k16), (D11, listOf ys11.toArray k11), (D7, listOf ys7.toArray k7), (D5, listOf ys5.toArray k5)], p.1 ≠ l14 := by
    intro p hp
    simp only [List.mem_cons, List.not_mem_nil, or_false] at hp
    rcases hp with rfl | rfl | rfl | rfl | rfl | rfl | rfl
    · exact neP ne18 (by k_mem)
    · exact neP ne18b (by k_mem)
    · exact ne14 (P, tblO #[]) (by k_mem)
    · exact neP ne16 (by k_mem)
    · exact ne14 (D11, listOf ys11.toArray k11) (by k_mem)
    · exact ne14 (D7, listOf ys7.toArray k7) (by k_mem)
    · exact ne14 (D5, listOf ys5.toArray k5) (by k_mem)
  have dl18 : ∀ p ∈ [(P, tblO ps18), (D16, listOf ys16.toArray k16), (D11, listOf ys11.toArray k11), (D7, listOf ys7.toArray k7), (D5, listOf ys5.toArray k5)], p.1 ≠ l18 := by
    intro p hp
    simp only [List.mem_cons, List.not_mem_nil, or_false] at hp
    rcases hp with rfl | rfl | rfl | rfl | rfl
    · exact ne18b (P, tblO ps18) (by k_mem)
    · exact ne18b (D16, listOf ys16.toArray k16) (by k_mem)
    · exact ne18b (D11, listOf ys11.toArray k11) (by k_mem)
    · exact ne18b (D7, listOf ys7.toArray k7) (by k_mem)
    · exact ne18b (D5, listOf ys5.toArray k5) (by k_mem)
  rename News _ _ _ _ => Nc
  have Nd := cb_drop (news := [(l9, listOf us9.toArray k9), (l13, listOf us13.toArray k13), (l14, listOf us14.toArray k14), (tp, tupO [Value.str x t18, Value.ref l18].toArray kt18), (l18, listOf us18.toArray k18), (P, tblO ps18), (D16, listOf ys16.toArray k16), (D11, listOf ys11.toArray k11), (D7, listOf ys7.toArray k7), (D5, listOf ys5.toArray k5)]) Nc (by intro p hp; simp only [List.mem_cons, List.not_mem_nil, or_false] at hp ⊢; rcases hp with h | h | h | h | h | h | h | h | h | h <;> simp only [h, true_or, or_true])
  clear Nc
  rename Fr _ _ _ _ => Fc
  refine ksa_set Fc Nd (.head dl9) I9 (by decide) (by rw [hcl]; decide) (by decide) ?_
  intro h24 F24 N24 _ _ _
  try dsimp only
  k_steps
  refine halt_in ?_
  rename News _ _ _ _ => Nc
  have Nd := cb_drop (news := [(l13, listOf us13.toArray k13), (l14, listOf us14.toArray k14), (tp, tupO [Value.str x t18, Value.ref l18].toArray kt18), (l18, listOf us18.toArray k18), (P, tblO ps18), (D16, listOf ys16.toArray k16), (D11, listOf ys11.toArray k11), (D7, listOf ys7.toArray k7), (D5, listOf ys5.toArray k5)]) Nc (by intro p hp; simp only [List.mem_cons, List.not_mem_nil, or_false] at hp ⊢; rcases hp with h | h | h | h | h | h | h | h | h <;> simp only [h, true_or, or_true])
  clear Nc
  rename Fr _ _ _ _ => Fc
  refine append_K Fc Nd (.head dl13) ?_ (by have := I13.length; rw [List.size_toArray, sizeLine_eq]; omega)
  intro h25 F25 N25
  try dsimp only
  k_steps
  refine halt_in ?_
  rename News _ _ _ _ => Nc
  have Nd := cb_drop (news := [(l14, listOf us14.toArray k14), (tp, tupO [Value.str x t18, Value.ref l18].toArray kt18), (l18, listOf us18.toArray k18), (P, tblO ps18), (D16, listOf ys16.toArray k16), (D11, listOf ys11.toArray k11), (D7, listOf ys7.toArray k7), (D5, listOf ys5.toArray k5)]) Nc (by intro p hp; simp only [List.mem_cons, List.not_mem_nil, or_false] at hp ⊢; rcases hp with h | h | h | h | h | h | h | h <;> simp only [h, true_or, or_true])
  clear Nc
  rename Fr _ _ _ _ => Fc
  refine append_K Fc Nd (.head dl14) ?_ (by have := I14.length; rw [List.size_toArray, sizeLine_eq]; omega)
  intro h26 F26 N26
  try dsimp only
  k_steps
  refine halt_in ?_
  rename News _ _ _ _ => Nc
  have Nd := cb_drop (news := [(l18, listOf us18.toArray k18), (P, tblO ps18), (D16, listOf ys16.toArray k16), (D11, listOf ys11.toArray k11), (D7, listOf ys7.toArray k7), (D5, listOf ys5.toArray k5)]) Nc (by intro p hp; simp only [List.mem_cons, List.not_mem_nil, or_false] at hp ⊢; rcases hp with h | h | h | h | h | h <;> simp only [h, true_or, or_true])
  clear Nc
  rename Fr _ _ _ _ => Fc
  refine append_K Fc Nd (.head dl18) ?_ (by have := I18.length; rw [List.size_toArray, sizeLine_eq]; omega)
  intro h27 F27 N27
  have N28 := cb_drop (news := [(P, tblO ps18), (D16, listOf ys16.toArray k16), (D11, listOf ys11.toArray k11), (D7, listOf ys7.toArray k7), (D5, listOf ys5.toArray k5)]) N27 (fun p hp => .tail _ hp)
  clear N27
  try dsimp only
  k_steps
  refine halt_in ?_
  rename Fr _ _ _ _ => Fc
  with_unfolding_all refine' For_invVF Fc ?k1 ?k2 ?_
  case k1 => exact rfl
  case k2 => exact rfl
  k_steps
  refine halt_in ?_
  rename Fr _ _ _ _ => Fc
  rename News _ _ _ _ => Nc
  have hIn : KBa.In rs := fun k hk => ⟨(hrb k hk).1, Int.lt_trans (hrb k hk).2 (by decide)⟩
  refine KBa.make_K Fc Nc rfl (News.isList Nc (a := D7) (by k_mem)) I7 hIn (by omega) ?_
  intro h29 t29 k29 F29 N29 _
  obtain ⟨bb, hbb⟩ : ∃ bb, bb = byteArr rs := ⟨_, rfl⟩
  have hbi : KBw.bInts bb = rs := by rw [hbb]; exact KBa.ints_make hIn
  rw [← hbb]
  obtain ⟨lt, hlt⟩ := news_hd N29
  subst hlt
  try dsimp only
  k_steps
  refine halt_in ?_
  rename Fr _ _ _ _ => Fc
  rename News _ _ _ _ => Nc
  obtain ⟨lk, hlk⟩ := news_hd Nc
  subst hlk
  have hkinds : ∀ v ∈ (#[Value.ref D5, Value.ref lt, Value.bytes bb t29] : Array Value).toList, CanList v [(lk, listOf #[Value.ref D5, Value.ref lt, Value.bytes bb t29] 0), (lt, tupO ys7.toArray 0), (P, tblO ps18), (D16, listOf ys16.toArray k16), (D11, listOf ys11.toArray k11), (D7, listOf ys7.toArray k7), (D5, listOf ys5.toArray k5)] rs ∧ CanWalk v [(lk, listOf #[Value.ref D5, Value.ref lt, Value.bytes bb t29] 0), (lt, tupO ys7.toArray 0), (P, tblO ps18), (D16, listOf ys16.toArray k16), (D11, listOf ys11.toArray k11), (D7, listOf ys7.toArray k7), (D5, listOf ys5.toArray k5)] rs := by
    intro v hv
    simp only [List.mem_cons, List.not_mem_nil, or_false] at hv
    rcases hv with rfl | rfl | rfl
    · exact ⟨canList_list (n := k5) (by k_mem) I5 (by omega), canWalk_list (n := k5) (by k_mem) I5⟩
    · exact ⟨canList_tuple (n := 0) (vs := ys7) (by k_mem) I7 (by omega), canWalk_tuple (n := 0) (vs := ys7) (by k_mem) I7⟩
    · exact ⟨canList_bytes hbi (by omega), canWalk_bytes hbi⟩
  with_unfolding_all refine' iter_same rfl (.head _) Fc Nc ?turn ?done
  case turn =>
    intro v h tk own hv hoff F1 N1
    obtain ⟨hcl9, hcw9⟩ := hkinds v hv
    clear hv hkinds
    simp only [List.cons_append, List.nil_append] at N1
    have hsub : ∀ p ∈ [(lk, listOf #[Value.ref D5, Value.ref lt, Value.bytes bb t29] 0), (lt, tupO ys7.toArray 0), (P, tblO ps18), (D16, listOf ys16.toArray k16), (D11, listOf ys11.toArray k11), (D7, listOf ys7.toArray k7), (D5, listOf ys5.toArray k5)], p ∈ (lk, listOf #[Value.ref D5, Value.ref lt, Value.bytes bb t29] 0) :: (lt, tupO ys7.toArray 0) :: (P, tblO ps18) :: (D16, listOf ys16.toArray k16) :: (D11, listOf ys11.toArray k11) :: (D7, listOf ys7.toArray k7) :: (D5, listOf ys5.toArray k5) :: own := by
      intro p hp
      simp only [List.mem_cons, List.not_mem_nil, or_false] at hp ⊢
      rcases hp with h | h | h | h | h | h | h <;> simp only [h, true_or, or_true]
    try k_fold
    k_steps
    refine halt_in ?_
    with_unfolding_all refine' Cl.use (encode_con w _ mg mb ((lk, listOf #[Value.ref D5, Value.ref lt, Value.bytes bb t29] 0) :: (lt, tupO ys7.toArray 0) :: (P, tblO ps18) :: (D16, listOf ys16.toArray k16) :: (D11, listOf ys11.toArray k11) :: (D7, listOf ys7.toArray k7) :: (D5, listOf ys5.toArray k5) :: own) x _ v rs (by omega) (hcl9.mono hsub) hz hrb) ?k1 ?k2 ?k3 ?k4 ?k5 ?kK ?kd ?ku ?_
    tb_start
    intro t31 h31 tk31 F31 N31
    try dsimp only
    k_steps
    refine halt_in ?_
    refine PyProof.Rows.ne_str ?_
    rw [show (encZ x rs != encZ x rs) = false from bne_self_eq_false _]
    try dsimp only
    k_steps
    refine halt_in ?_
    with_unfolding_all refine' Cl.use (conv_con w _ mg mb ((lk, listOf #[Value.ref D5, Value.ref lt, Value.bytes bb t29] 0) :: (lt, tupO ys7.toArray 0) :: (P, tblO ps18) :: (D16, listOf ys16.toArray k16) :: (D11, listOf ys11.toArray k11) :: (D7, listOf ys7.toArray k7) :: (D5, listOf ys5.toArray k5) :: own) v rs 5 8 _ _ (hcw9.mono hsub) (by decide) (by decide) (by decide) hz hrb) ?k1 ?k2 ?k3 ?k4 ?k5 ?kK ?kd ?ku ?_
    tb_start
    intro l32 us32 k32 h32 tk32 F32 N32 ne32 I32
    try dsimp only
    k_steps
    refine halt_in ?_
    rename News _ _ _ _ => Nc
    refine ne_ints (News.isList Nc (.head _)) I32 (News.isList Nc (a := D16) (by k_mem)) I16 (by units_room) ?_
    k_steps
    refine halt_in ?_
    rename News _ _ _ _ => Nc
    rename Fr _ _ _ _ => Fc
    have Nd := cb_drop (news := ((lk, listOf #[Value.ref D5, Value.ref lt, Value.bytes bb t29] 0) :: (lt, tupO ys7.toArray 0) :: (P, tblO ps18) :: (D16, listOf ys16.toArray k16) :: (D11, listOf ys11.toArray k11) :: (D7, listOf ys7.toArray k7) :: (D5, listOf ys5.toArray k5) :: own)) Nc (fun p hp => .tail _ hp)
    clear Nc
    with_unfolding_all refine' Cl.use (conv_con w _ mg mb ((lk, listOf #[Value.ref D5, Value.ref lt, Value.bytes bb t29] 0) :: (lt, tupO ys7.toArray 0) :: (P, tblO ps18) :: (D16, listOf ys16.toArray k16) :: (D11, listOf ys11.toArray k11) :: (D7, listOf ys7.toArray k7) :: (D5, listOf ys5.toArray k5) :: own) v rs 5 5 _ _ (hcw9.mono hsub) (by decide) (by decide) (by decide) hz hrb) ?k1 ?k2 ?k3 ?k4 ?k5 ?kK ?kd ?ku ?_
    tb_start
    intro l33 us33 k33 h33 tk33 F33 N33 ne33 I33
    rw [conv55 rs hrb] at I33
    try dsimp only
    k_steps
    refine halt_in ?_
    rename News _ _ _ _ => Nc
    refine ne_ints (News.isList Nc (.head _)) I33 (News.isList Nc (a := D7) (by k_mem)) I7 (by units_room) ?_
    k_steps
    refine halt_in ?_
    rename News _ _ _ _ => Nc
    rename Fr _ _ _ _ => Fc
    refine InvEndN.intro Fc Nc ⟨rfl, fun z h1 => ?_⟩ rfl ?_ ?_
    · first | rfl | (simp [h1]; done)
    · intro p hp
      exact .tail _ (hsub p hp)
    · intro p hp
      repeat (first | assumption | apply List.Mem.tail)
  case done =>
    intro u h30 tk30 F30 N30
    try k_fold
    k_steps
    refine halt_in ?_
    rename News _ _ _ _ => Nc
    refine eq_ints (News.isList Nc (a := D5) (by k_mem)) I5 (News.isList Nc (a := D7) (by k_mem)) I7 (by units_room) ?_
    k_steps
    refine halt_in ?_
    rename News _ _ _ _ => Nc
    have Nd := cb_drop (news := [(P, tblO ps18), (D11, listOf ys11.toArray k11), (D7, listOf ys7.toArray k7), (D5, listOf ys5.toArray k5)]) Nc (by intro p hp; simp only [List.mem_cons, List.not_mem_nil, or_false] at hp ⊢; rcases hp with h | h | h | h <;> simp only [h, true_or, or_true])
    clear Nc
    with_unfolding_all refine' Cl.use (create_con w _ mg mb [(P, tblO ps18), (D11, listOf ys11.toArray k11), (D7, listOf ys7.toArray k7), (D5, listOf ys5.toArray k5)] x _ (.ref D5) rs (by omega) (canList_list (n := k5) (by k_mem) I5 (by omega)) hz) ?k1 ?k2 ?k3 ?k4 ?k5 ?kK ?kd ?ku ?_
    tb_start
    intro l34 us34 k34 h34 tk34 F34 N34 ne34 I34
    try dsimp only
    k_steps
    refine halt_in ?_
    have hm : IntsAre (slicePick ys11.toArray (some ((rs.length : Nat) : Int)) none none).toList (createZ x rs) := by
      have e := kmk_from (x := ((rs.length : Nat) : Int)) I11 (Int.natCast_nonneg _)
      rw [Int.toNat_natCast, List.drop_left] at e
      exact e
    k_dflt (refine' kmk_slice_ints ?zF ?zN ?zl ?zp ?zq I11 hm rfl ?_ ?zs ?zt ?zz; (case zF => k_asm); (case zN => k_asm); (case zl => exact News.isList (a := D11) (by k_asm) (by k_mem)); (case zp => exact IsPart.int _ _); (case zq => exact IsPart.none); (case zs => with_unfolding_all rfl); (case zt => intro _; with_unfolding_all rfl); (case zz => rw [List.size_toArray, I11.length, List.length_append, sizeLine_eq]; omega))
    intro D35 ws35 h35 F35 N35 lt35 I35 _ _
    try dsimp only
    k_steps
    refine halt_in ?_
    rename News _ _ _ _ => Nc
    refine eq_ints (News.isList Nc (a := l34) (by k_mem)) I34 (News.isList Nc (a := D35) (by k_mem)) I35 (by units_room) ?_
    k_steps
    refine halt_in ?_
    rename News _ _ _ _ => Nc
    have Nd := cb_drop (news := [(P, tblO ps18), (D7, listOf ys7.toArray k7)]) Nc (by intro p hp; simp only [List.mem_cons, List.not_mem_nil, or_false] at hp ⊢; rcases hp with h | h <;> simp only [h, true_or, or_true])
    clear Nc
    have hneP7 : ∀ p ∈ [(D7, listOf ys7.toArray k7)], p.1 ≠ P := by
      intro p hp
      rw [List.mem_singleton.mp hp]
      exact neP ne7 (by k_mem)
    with_unfolding_all refine' Cl.use (decode_con w _ mg mb [(D7, listOf ys7.toArray k7)] P ps18 x (encZ x rs) _ (rs ++ createZ x rs) (by omega) (by omega) (by rw [List.length_append]; omega) (by rw [List.length_append]; omega) hwb hxc rfl hsum hneP7 htr18) ?k1 ?k2 ?k3 ?k4 ?k5 ?kK ?kd ?ku ⟨Cb, hG18, ?_⟩
    tb_start
    intro tp2 l36 us36 k36 kt36 t36 ps36 s36 F36 N36 ne36 ne36b I36 htr36 hmore36 hG36 hos36
    rw [show (rs ++ createZ x rs).take ((rs ++ createZ x rs).length - 6) = rs from by rw [List.length_append, hcl, Nat.add_sub_cancel]; exact List.take_left] at I36
    clear Nd
    try dsimp only
    k_steps
    refine halt_in ?_
    rename News _ _ _ _ => Nc
    obtain ⟨tq2, htq2⟩ := news_hd Nc
    subst htq2
    refine eq_pair (Nc _ (.tail _ (.head _))).1 (Nc (l36, listOf us36.toArray k36) (by k_mem)).1 I36 (Nc _ (.head _)).1 (Nc (D7, listOf ys7.toArray k7) (by k_mem)).1 I7 (by units_room) hxo ?_
    k_steps
    rename Fr _ _ _ _ => Fz
    rename News _ _ _ _ => Nz
    obtain ⟨more18, hm18⟩ := hmore18
    obtain ⟨more36, hm36⟩ := hmore36
    have hPz := (Nz (P, tblO ps36) (by k_mem)).1
    rw [show ps36 = #[] ++ (more18 ++ more36) from by rw [hm36, hm18, Array.append_assoc]] at hPz
    have hOld := BO.old hC hP Fz.keep hPz
    refine ⟨.inl ⟨_, .bool true, [], rfl, raisesW_false (by wrow_none_raised), ReadsW.bool _, ?_, unshared_nil⟩, hOld, ?_, hG36⟩
    · wrow_post
    · exact hos36.trans hos18)
end Mine
theorem PySem.Challenge.cw_oo0008_02_holds : PySem.Challenge.rw_oo0008_02.Holds := by
  exact Mine.law2
