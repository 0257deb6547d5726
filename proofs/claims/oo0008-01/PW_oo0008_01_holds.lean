import PyProof.Rows.All
import Wide.All
import OpenK.AllK
import Wide.FinOn
import PySem.Challenge.RW_oo0008_01
open PySem PySem.W PyProof.Rows PySem.Calls
set_option Elab.async false
set_option maxRecDepth 100000 in
set_option maxHeartbeats 8000000 in
open_top hd for PySem.Challenge.rw_oo0008_01
namespace Mine
/-- a mark at which the walk halts -/
def Halt (P : Prop) : Prop := P
theorem halt_of {P : Prop} (h : Halt P) : P := h
theorem halt_in {P : Prop} (h : P) : Halt P := h

theorem wpAny_halt {α : Type} {M : Model} {A : Around} {t : Sem α} {Q : α → Shared → Prop} {E : Value → Shared → Prop} {s : Shared} (h : wpAny M A t (fun a s' => Halt (Q a s')) E s) : wpAny M A t Q E s := h

theorem keeps_refl (s : Shared) : Keeps s s := ⟨s.heap, s.toks, rfl, fun _ _ e => e⟩

section
variable {prog : Program} {w : World} {A : Around} {E : Value → Shared → Prop} {s : Shared} {h₀ : Heap} {L : Addr} {m : Str → Option Value} {env : Env}

theorem nameGB_K {M : Model} {K : Frag} {mg mb : Str → Option Value} {p : Program} {loose : List Str} {x : Str} {pos : Pos} {v : Value} {Q : Value → Shared → Prop} (F : Fr h₀ L s.heap m) (X : K.In h₀) (T : TopRead p loose mg mb h₀)
    (e : nsIn K mainGlobals x = some none) (hv : bootBuiltins x = some v) (hn : x ≠ "__name__") (h : Q v s) (hg : env.globals = mainGlobals) (hb : env.builtins = builtinsNs) (hk : env.scope.kind = .function) (hx : env.kindOf x = some .globalImplicit) (hd : (x == ("__debug__" : Str)) = false) :
    wpAny M A (eval (.Name x pos) env) Q E s :=
  Name_function_global hk hx (loadGlobal_builtin (env := env) (by rw [hg]; exact T.g.keeps F.keep) (mg_none_of X T.g e) (by rw [hb]; exact T.b.keeps F.keep) ((T.builtins x hn).trans hv) h) hd

theorem paired_str {d : Nat → PyData} : ∀ {vs ys : List Value} {cs : List Nat}, vs.length = cs.length → (∀ (j : Nat) v, vs[j]? = some v → ∃ c u, cs[j]? = some c ∧ v = .str ⟨#[c]⟩ u) →
    Paired (fun v y => ∃ c u, v = .str ⟨#[c]⟩ u ∧ Carried y (d c)) vs ys → CarriedAll ys (cs.map d)
  | [], _, [], _, _, h => by cases h; exact .nil
  | [], _, _ :: _, h, _, _ => nomatch h
  | _ :: _, _, [], h, _, _ => nomatch h
  | v :: vs, _, c :: cs, hl, hg, h => by
    cases h with
    | cons hv hr =>
      obtain ⟨c', u, e1, e2⟩ := hg 0 v rfl
      obtain ⟨c'', u', e3, hc⟩ := hv
      cases e1
      rw [e2] at e3
      cases e3
      exact .cons hc (paired_str (Nat.succ.inj hl) (fun j v' hv' => hg (j + 1) v' hv') hr)

theorem filter_t {α : Type} (l : List α) : l.filter (fun _ => true) = l := List.filter_eq_self.mpr fun _ _ => rfl

/-- a comprehension over a text's signs, no test -/
theorem lc_str {elt iter : Expr} {x : Str} {px : Pos} {scope : Scope} {cl : List (Str × Addr)} {pos : Pos} {Q : Value → Shared → Prop} (d : Nat → PyData)
    (hh : A.handled = none) (hclos : closureFor scope env = pure cl) (hcell : ∀ y ∈ scope.names, y.2 ≠ .cell) (hkind : scope.kind = .function)
    (hnames : ∀ y ∈ scope.names, y.2 = .local → scope.names.lookup y.1 = some .local) (hx : scope.names.lookup x = some .local)
    (h : wpAny (model prog w) A (eval iter env) (fun xv s₁ => ∃ (news : List (Addr × Obj)) (y : Str) (t : Tok), xv = .str y t ∧ y.length ≤ sizeLine ∧ Fr h₀ L s₁.heap m ∧ News h₀ L s₁.heap news ∧
      (∀ C c u s₂ m₂ E', s₁.heap.objs.size ≤ C → c ∈ y.cps.toList → s₂.heap.Ns (compEnvC scope cl C env).locals m₂ → m₂ x = some (.str ⟨#[c]⟩ u) → (∀ b o, s₁.heap.get? b = some o → s₂.heap.get? b = some o) →
        wpAny (model prog w) A (eval elt (compEnvC scope cl C env)) (fun r s₃ => Carried r (d c) ∧ Keeps s₂ s₃) E' s₂) ∧
      (∀ D (ys : List Value) k h' tk, Fr h₀ L h' m → News h₀ L h' ((D, listOf ys.toArray k) :: news) → (∀ p ∈ news, p.1 ≠ D) → CarriedAll ys (y.cps.toList.map d) → Q (.ref D) { s₁ with heap := h', toks := tk })) E s)
    (hs : ∀ x, foldedSetIterable iter env x = pure x) :
    wpAny (model prog w) A (eval (.ListComp elt [⟨.Name x px, iter, [], 0⟩] scope pos) env) Q E s := by
  refine wpAny_ListComp_free (fun _ => true) (fun v y => ∃ c u, v = .str ⟨#[c]⟩ u ∧ Carried y (d c)) hclos hcell hkind hnames hx (wpAny_mono h (fun xv s₁ h₁ => ?_) fun _ _ e => e) hs
  obtain ⟨news, y, t, rfl, hsz, F, N, helt, hQ⟩ := h₁
  refine wpAny_pyIter_str fun o St W hst => ?_
  have up : ∀ (h' : Heap), (∀ b o', b ∉ [s₁.heap.objs.size] → (s₁.heap.push o).get? b = some o' → h'.get? b = some o') → ∀ b o', s₁.heap.get? b = some o' → h'.get? b = some o' :=
    fun h' hk b o' e => hk b o' (old_not_new e) (Heap.get?_push_of_some _ e)
  refine ⟨s₁.heap.objs.size, [s₁.heap.objs.size], [s₁.heap.objs.size], y.cps.size, SignAt y, St, rfl, W A hh, hsz, hst, ?_, ⟨?_, ?_⟩, ?_⟩
  · intro b hb
    show b < (s₁.heap.push o).objs.size
    rw [Heap.size_push, List.mem_singleton.mp hb]
    exact Nat.lt_succ_self _
  · intro C i v s₃ m₃ E' hC hP hn hm hk _
    exact wpAny_tests_nil ⟨rfl, keeps_refl s₃⟩
  · intro C i v s₃ m₃ E' hC hP _ hn hm hk _
    obtain ⟨c, u, hc, rfl⟩ := hP
    have hmem : c ∈ y.cps.toList := by
      rw [Array.mem_toList_iff]
      exact Array.mem_of_getElem? hc
    exact wpAny_mono (helt C c u s₃ m₃ E' (Nat.le_of_succ_le (by simpa [Heap.size_push] using hC)) hmem hn hm (up s₃.heap hk)) (fun r s₄ h₄ => ⟨⟨c, u, rfl, h₄.1⟩, h₄.2⟩) fun _ _ e => e
  · intro D h' tk ys vs hnew hlD hplD hlen hP hF hk
    rw [filter_t] at hF
    have NP : NewPlain h' news D ys.toList.toArray := ⟨by rw [Array.toArray_toList]; exact hplD, fun p hp e => by rw [← e, Heap.get?_push_of_some _ (N p hp).1] at hnew; cases hnew⟩
    have hD : h₀.get? D = none := by
      cases e : h₀.get? D with
      | none => rfl
      | some o' => rw [Heap.get?_push_of_some _ (F.keep _ _ e)] at hnew; cases hnew
    obtain ⟨k, NX⟩ := made_enters NP (F.keeps (up h' hk)) (N.grown (up h' hk)) hD
    exact hQ D ys.toList k h' tk (F.keeps (up h' hk)) NX NP.2
      (paired_str (by rw [hlen, Array.length_toList]) (fun j v hv => by obtain ⟨c, u, hc, e⟩ := hP j v hv; exact ⟨c, u, by simpa using hc, e⟩) hF)

/-- a comprehension over a range from nought, no test -/
theorem lc_range {elt iter : Expr} {x : Str} {px : Pos} {scope : Scope} {cl : List (Str × Addr)} {pos : Pos} {Q : Value → Shared → Prop} {news : List (Addr × Obj)} (_F0 : Fr h₀ L s.heap m) (_N0 : News h₀ L s.heap news) (d : Int → PyData)
    (hh : A.handled = none) (hclos : closureFor scope env = pure cl) (hcell : ∀ y ∈ scope.names, y.2 ≠ .cell) (hkind : scope.kind = .function)
    (hnames : ∀ y ∈ scope.names, y.2 = .local → scope.names.lookup y.1 = some .local) (hx : scope.names.lookup x = some .local)
    (hs : ∀ x, foldedSetIterable iter env x = pure x)
    (h : wpAny (model prog w) A (eval iter env) (fun xv s₁ => Halt (∃ (r : Addr) (b₀ : Int) (t₀ u₀ v₀ : Tok) (n : Nat), xv = .ref r ∧ IsRange s₁.heap r 0 b₀ 1 t₀ u₀ v₀ ∧ Builtin.Range.small 0 b₀ 1 = true ∧ Builtin.Range.rangeSize 0 b₀ 1 = (n : Int) ∧ n ≤ sizeLine ∧ Fr h₀ L s₁.heap m ∧ News h₀ L s₁.heap news ∧
      (∀ C a t s₂ m₂ E', s₁.heap.objs.size ≤ C → 0 ≤ a → a < (n : Int) → s₂.heap.Ns (compEnvC scope cl C env).locals m₂ → m₂ x = some (.int a t) → (∀ b o, s₁.heap.get? b = some o → s₂.heap.get? b = some o) →
        wpAny (model prog w) A (eval elt (compEnvC scope cl C env)) (fun r s₃ => Carried r (d a) ∧ Keeps s₂ s₃) E' s₂) ∧
      (∀ D (ys : List Value) k h' tk, Fr h₀ L h' m → News h₀ L h' ((D, listOf ys.toArray k) :: news) → (∀ p ∈ news, p.1 ≠ D) → CarriedAll ys ((rangeInts 0 1 n).map d) → Q (.ref D) { s₁ with heap := h', toks := tk }))) E s) :
    wpAny (model prog w) A (eval (.ListComp elt [⟨.Name x px, iter, [], 0⟩] scope pos) env) Q E s := by
  refine ListComp_DCr (h₀ := h₀) (L := L) (m := m) (pz := fun _ => true) (d := d) hh hclos hcell hkind hnames hx (wpAny_mono h (fun xv s₁ h₁ => ?_) fun _ _ e => e) hs
  obtain ⟨r, b₀, t₀, u₀, v₀, n, rfl, hr, hsm, hn, hz, F, N, helt, hQ⟩ := h₁
  refine ⟨news, r, 0, b₀, 1, t₀, u₀, v₀, n, rfl, hr, hsm, hn, hz, F, N, fun C a v s₂ m₂ E' _ _ _ _ _ _ => wpAny_tests_nil ⟨rfl, keeps_refl s₂⟩, fun C a v s₂ m₂ E' hC ha hv _ hn hm hk => ?_, fun D ys h' tk F' N' hD _ NP hc => ?_⟩
  · obtain ⟨t, rfl⟩ := ItemKind.int_is hv
    have hb := mem_rangeInts ha
    exact helt C a t s₂ m₂ E' hC hb.1 (by omega) hn hm hk
  · obtain ⟨k, NX⟩ := made_enters NP F' N' hD
    rw [filter_t] at hc
    exact hQ D ys k h' tk F' NX NP.2 hc

/-- a comprehension over a list of ints, no test -/
theorem lc_ints {elt iter : Expr} {x : Str} {px : Pos} {scope : Scope} {cl : List (Str × Addr)} {pos : Pos} {Q : Value → Shared → Prop} {news : List (Addr × Obj)} (_F0 : Fr h₀ L s.heap m) (_N0 : News h₀ L s.heap news) (d : Int → PyData)
    (hh : A.handled = none) (hclos : closureFor scope env = pure cl) (hcell : ∀ y ∈ scope.names, y.2 ≠ .cell) (hkind : scope.kind = .function)
    (hnames : ∀ y ∈ scope.names, y.2 = .local → scope.names.lookup y.1 = some .local) (hx : scope.names.lookup x = some .local)
    (hs : ∀ x, foldedSetIterable iter env x = pure x)
    (h : wpAny (model prog w) A (eval iter env) (fun xv s₁ => Halt (∃ (l : Addr) (vs : List Value) (ns : List Int), xv = .ref l ∧ s₁.heap.IsList l vs.toArray ∧ IntsAre vs ns ∧ ns.length ≤ sizeLine ∧ Fr h₀ L s₁.heap m ∧ News h₀ L s₁.heap news ∧
      (∀ C a t s₂ m₂ E', s₁.heap.objs.size ≤ C → a ∈ ns → s₂.heap.Ns (compEnvC scope cl C env).locals m₂ → m₂ x = some (.int a t) → (∀ b o, s₁.heap.get? b = some o → s₂.heap.get? b = some o) →
        wpAny (model prog w) A (eval elt (compEnvC scope cl C env)) (fun r s₃ => Carried r (d a) ∧ Keeps s₂ s₃) E' s₂) ∧
      (∀ D (ys : List Value) k h' tk, Fr h₀ L h' m → News h₀ L h' ((D, listOf ys.toArray k) :: news) → (∀ p ∈ news, p.1 ≠ D) → CarriedAll ys (ns.map d) → Q (.ref D) { s₁ with heap := h', toks := tk }))) E s) :
    wpAny (model prog w) A (eval (.ListComp elt [⟨.Name x px, iter, [], 0⟩] scope pos) env) Q E s := by
  refine ListComp_DCn (h₀ := h₀) (L := L) (m := m) (K := ItemKind.int) (pz := fun _ => true) (d := d) hh hclos hcell hkind hnames hx (wpAny_mono h (fun xv s₁ h₁ => ?_) fun _ _ e => e) hs
  obtain ⟨l, vs, ns, rfl, hl, hi, hz, F, N, helt, hQ⟩ := h₁
  refine ⟨news, l, vs, ns, rfl, hl, hi.areOf, hz, F, N, fun C a v s₂ m₂ E' _ _ _ _ _ _ => wpAny_tests_nil ⟨rfl, keeps_refl s₂⟩, fun C a v s₂ m₂ E' hC ha hv _ hn hm hk => ?_, fun D ys h' tk F' N' hD _ NP hc => ?_⟩
  · obtain ⟨t, rfl⟩ := ItemKind.int_is hv
    exact helt C a t s₂ m₂ E' hC ha hn hm hk
  · obtain ⟨k, NX⟩ := made_enters NP F' N' hD
    rw [filter_t] at hc
    exact hQ D ys k h' tk F' NX NP.2 hc
/-- the same, its list stored under a name -/
theorem asg_str {elt iter : Expr} {x y : Str} {px py : Pos} {scope : Scope} {cl : List (Str × Addr)} {pos spos : Pos} {Q : Flow → Shared → Prop} {news : List (Addr × Obj)} (_F0 : Fr h₀ L s.heap m) (_N0 : News h₀ L s.heap news) (d : Nat → PyData)
    (hsw : swapsWith (.ListComp elt [⟨.Name x px, iter, [], 0⟩] scope pos) (some (.Name y py)) spos.line env = pure true) (hL : env.locals = L)
    (hh : A.handled = none) (hclos : closureFor scope env = pure cl) (hcell : ∀ y ∈ scope.names, y.2 ≠ .cell) (hkind : scope.kind = .function)
    (hnames : ∀ y ∈ scope.names, y.2 = .local → scope.names.lookup y.1 = some .local) (hx : scope.names.lookup x = some .local)
    (hy : env.kindOf y = some .local) (hp : (env.scope.kind == .class || (env.scope.kind == .module && env.locals != env.globals)) = false)
    (hs : ∀ x, foldedSetIterable iter env x = pure x)
    (h : wpAny (model prog w) A (eval iter env) (fun xv s₁ => Halt (∃ (z : Str) (t : Tok), xv = .str z t ∧ z.length ≤ sizeLine ∧ Fr h₀ L s₁.heap m ∧ News h₀ L s₁.heap news ∧
      (∀ C c u s₂ m₂ E', s₁.heap.objs.size ≤ C → c ∈ z.cps.toList → s₂.heap.Ns (compEnvC scope cl C env).locals m₂ → m₂ x = some (.str ⟨#[c]⟩ u) → (∀ b o, s₁.heap.get? b = some o → s₂.heap.get? b = some o) →
        wpAny (model prog w) A (eval elt (compEnvC scope cl C env)) (fun r s₃ => Carried r (d c) ∧ Keeps s₂ s₃) E' s₂) ∧
      (∀ D (ys : List Value) k h' tk, Fr h₀ L h' (fun z => if z = y then some (.ref D) else m z) → News h₀ L h' ((D, listOf ys.toArray k) :: news) → (∀ p ∈ news, p.1 ≠ D) → CarriedAll ys (z.cps.toList.map d) → Q .next { s₁ with heap := h', toks := tk }))) E s) :
    wpAny (model prog w) A (exec (.Assign [.Name y py] (.ListComp elt [⟨.Name x px, iter, [], 0⟩] scope pos) spos) env) Q E s := by
  subst hL
  refine wpAny_Assign_ListComp_free (fun _ => true) (fun v y => ∃ c u, v = .str ⟨#[c]⟩ u ∧ Carried y (d c)) hsw hclos hcell hkind hnames hx hy hp (wpAny_mono h (fun xv s₁ h₁ => ?_) fun _ _ e => e) hs
  obtain ⟨z, t, rfl, hsz, F, N, helt, hQ⟩ := h₁
  refine wpAny_pyIter_str fun o St W hst => ?_
  have up : ∀ (h' : Heap), (∀ b o', b ∉ [s₁.heap.objs.size] → (s₁.heap.push o).get? b = some o' → h'.get? b = some o') → ∀ b o', s₁.heap.get? b = some o' → h'.get? b = some o' :=
    fun h' hk b o' e => hk b o' (old_not_new e) (Heap.get?_push_of_some _ e)
  refine ⟨s₁.heap.objs.size, [s₁.heap.objs.size], [s₁.heap.objs.size], z.cps.size, SignAt z, St, m, rfl, W A hh, hsz, hst, ?_, ?_, F.ns.push _, ⟨?_, ?_⟩, ?_⟩
  · intro b hb
    show b < (s₁.heap.push o).objs.size
    rw [Heap.size_push, List.mem_singleton.mp hb]
    exact Nat.lt_succ_self _
  · intro hm
    exact Nat.lt_irrefl _ ((List.mem_singleton.mp hm) ▸ F.ns.lt)
  · intro C i v s₃ m₃ E' hC hP hn hm hk _
    exact wpAny_tests_nil ⟨rfl, keeps_refl s₃⟩
  · intro C i v s₃ m₃ E' hC hP _ hn hm hk _
    obtain ⟨c, u, hc, rfl⟩ := hP
    have hmem : c ∈ z.cps.toList := by
      rw [Array.mem_toList_iff]
      exact Array.mem_of_getElem? hc
    exact wpAny_mono (helt C c u s₃ m₃ E' (Nat.le_of_succ_le (by simpa [Heap.size_push] using hC)) hmem hn hm (up s₃.heap hk)) (fun r s₄ h₄ => ⟨⟨c, u, rfl, h₄.1⟩, h₄.2⟩) fun _ _ e => e
  · intro D h' tk ys vs hnew hlD hplD hlen hP hF hn' hk
    rw [filter_t] at hF
    have keep : ∀ b o', b ≠ env.locals → s₁.heap.get? b = some o' → h'.get? b = some o' := fun b o' hb e =>
      hk b o' hb (old_not_new e) (Heap.get?_push_of_some _ e)
    have F' : Fr h₀ env.locals h' (fun z => if z = y then some (.ref D) else m z) := ⟨hn', fun b o e => keep b o (Nat.ne_of_lt (Nat.lt_of_lt_of_le (Heap.lt_size e) F.above)) (F.keep b o e), F.above⟩
    have N' : News h₀ env.locals h' news := fun p hp => ⟨keep _ _ (N p hp).2.1 (N p hp).1, (N p hp).2⟩
    have NP : NewPlain h' news D ys.toList.toArray := ⟨by rw [Array.toArray_toList]; exact hplD, fun p hp e => by rw [← e, Heap.get?_push_of_some _ (N p hp).1] at hnew; cases hnew⟩
    have hD : h₀.get? D = none := by
      cases e : h₀.get? D with
      | none => rfl
      | some o' => rw [Heap.get?_push_of_some _ (F.keep _ _ e)] at hnew; cases hnew
    obtain ⟨k, NX⟩ := made_enters NP F' N' hD
    exact hQ D ys.toList k h' tk F' NX NP.2
      (paired_str (by rw [hlen, Array.length_toList]) (fun j v hv => by obtain ⟨c, u, hc, e⟩ := hP j v hv; exact ⟨c, u, by simpa using hc, e⟩) hF)

theorem asg_ints {elt iter : Expr} {x y : Str} {px py : Pos} {scope : Scope} {cl : List (Str × Addr)} {pos spos : Pos} {Q : Flow → Shared → Prop} {news : List (Addr × Obj)} (_F0 : Fr h₀ L s.heap m) (_N0 : News h₀ L s.heap news) (d : Int → PyData)
    (hsw : swapsWith (.ListComp elt [⟨.Name x px, iter, [], 0⟩] scope pos) (some (.Name y py)) spos.line env = pure true) (hL : env.locals = L)
    (hh : A.handled = none) (hclos : closureFor scope env = pure cl) (hcell : ∀ y ∈ scope.names, y.2 ≠ .cell) (hkind : scope.kind = .function)
    (hnames : ∀ y ∈ scope.names, y.2 = .local → scope.names.lookup y.1 = some .local) (hx : scope.names.lookup x = some .local)
    (hy : env.kindOf y = some .local) (hp : (env.scope.kind == .class || (env.scope.kind == .module && env.locals != env.globals)) = false)
    (hs : ∀ x, foldedSetIterable iter env x = pure x)
    (h : wpAny (model prog w) A (eval iter env) (fun xv s₁ => Halt (∃ (l : Addr) (vs : List Value) (ns : List Int), xv = .ref l ∧ s₁.heap.IsList l vs.toArray ∧ IntsAre vs ns ∧ ns.length ≤ sizeLine ∧ Fr h₀ L s₁.heap m ∧ News h₀ L s₁.heap news ∧
      (∀ C a t s₂ m₂ E', s₁.heap.objs.size ≤ C → a ∈ ns → s₂.heap.Ns (compEnvC scope cl C env).locals m₂ → m₂ x = some (.int a t) → (∀ b o, s₁.heap.get? b = some o → s₂.heap.get? b = some o) →
        wpAny (model prog w) A (eval elt (compEnvC scope cl C env)) (fun r s₃ => Carried r (d a) ∧ Keeps s₂ s₃) E' s₂) ∧
      (∀ D (ys : List Value) k h' tk, Fr h₀ L h' (fun z => if z = y then some (.ref D) else m z) → News h₀ L h' ((D, listOf ys.toArray k) :: news) → (∀ p ∈ news, p.1 ≠ D) → CarriedAll ys (ns.map d) → Q .next { s₁ with heap := h', toks := tk }))) E s) :
    wpAny (model prog w) A (exec (.Assign [.Name y py] (.ListComp elt [⟨.Name x px, iter, [], 0⟩] scope pos) spos) env) Q E s := by
  refine Assign_ListComp_DCn (h₀ := h₀) (L := L) (m := m) (K := ItemKind.int) (pz := fun _ => true) (d := d) hsw hL hh hclos hcell hkind hnames hx hy hp (wpAny_mono h (fun xv s₁ h₁ => ?_) fun _ _ e => e) hs
  obtain ⟨l, vs, ns, rfl, hl, hi, hz, F, N, helt, hQ⟩ := h₁
  refine ⟨news, l, vs, ns, rfl, hl, hi.areOf, hz, F, N, fun C a v s₂ m₂ E' _ _ _ _ _ _ => wpAny_tests_nil ⟨rfl, keeps_refl s₂⟩, fun C a v s₂ m₂ E' hC ha hv _ hn hm hk => ?_, fun D ys h' tk F' N' hD _ NP hc => ?_⟩
  · obtain ⟨t, rfl⟩ := ItemKind.int_is hv
    exact helt C a t s₂ m₂ E' hC ha hn hm hk
  · obtain ⟨k, NX⟩ := made_enters NP F' N' hD
    rw [filter_t] at hc
    exact hQ D ys k h' tk F' NX NP.2 hc

theorem asg_range {elt iter : Expr} {x y : Str} {px py : Pos} {scope : Scope} {cl : List (Str × Addr)} {pos spos : Pos} {Q : Flow → Shared → Prop} {news : List (Addr × Obj)} (_F0 : Fr h₀ L s.heap m) (_N0 : News h₀ L s.heap news) (d : Int → PyData)
    (hsw : swapsWith (.ListComp elt [⟨.Name x px, iter, [], 0⟩] scope pos) (some (.Name y py)) spos.line env = pure true) (hL : env.locals = L)
    (hh : A.handled = none) (hclos : closureFor scope env = pure cl) (hcell : ∀ y ∈ scope.names, y.2 ≠ .cell) (hkind : scope.kind = .function)
    (hnames : ∀ y ∈ scope.names, y.2 = .local → scope.names.lookup y.1 = some .local) (hx : scope.names.lookup x = some .local)
    (hy : env.kindOf y = some .local) (hp : (env.scope.kind == .class || (env.scope.kind == .module && env.locals != env.globals)) = false)
    (hs : ∀ x, foldedSetIterable iter env x = pure x)
    (h : wpAny (model prog w) A (eval iter env) (fun xv s₁ => Halt (∃ (r : Addr) (b₀ : Int) (t₀ u₀ v₀ : Tok) (n : Nat), xv = .ref r ∧ IsRange s₁.heap r 0 b₀ 1 t₀ u₀ v₀ ∧ Builtin.Range.small 0 b₀ 1 = true ∧ Builtin.Range.rangeSize 0 b₀ 1 = (n : Int) ∧ n ≤ sizeLine ∧ Fr h₀ L s₁.heap m ∧ News h₀ L s₁.heap news ∧
      (∀ C a t s₂ m₂ E', s₁.heap.objs.size ≤ C → 0 ≤ a → a < (n : Int) → s₂.heap.Ns (compEnvC scope cl C env).locals m₂ → m₂ x = some (.int a t) → (∀ b o, s₁.heap.get? b = some o → s₂.heap.get? b = some o) →
        wpAny (model prog w) A (eval elt (compEnvC scope cl C env)) (fun r s₃ => Carried r (d a) ∧ Keeps s₂ s₃) E' s₂) ∧
      (∀ D (ys : List Value) k h' tk, Fr h₀ L h' (fun z => if z = y then some (.ref D) else m z) → News h₀ L h' ((D, listOf ys.toArray k) :: news) → (∀ p ∈ news, p.1 ≠ D) → CarriedAll ys ((rangeInts 0 1 n).map d) → Q .next { s₁ with heap := h', toks := tk }))) E s) :
    wpAny (model prog w) A (exec (.Assign [.Name y py] (.ListComp elt [⟨.Name x px, iter, [], 0⟩] scope pos) spos) env) Q E s := by
  refine Assign_ListComp_DCr (h₀ := h₀) (L := L) (m := m) (pz := fun _ => true) (d := d) hsw hL hh hclos hcell hkind hnames hx hy hp (wpAny_mono h (fun xv s₁ h₁ => ?_) fun _ _ e => e) hs
  obtain ⟨r, b₀, t₀, u₀, v₀, n, rfl, hr, hsm, hn, hz, F, N, helt, hQ⟩ := h₁
  refine ⟨news, r, 0, b₀, 1, t₀, u₀, v₀, n, rfl, hr, hsm, hn, hz, F, N, fun C a v s₂ m₂ E' _ _ _ _ _ _ => wpAny_tests_nil ⟨rfl, keeps_refl s₂⟩, fun C a v s₂ m₂ E' hC ha hv _ hn hm hk => ?_, fun D ys h' tk F' N' hD _ NP hc => ?_⟩
  · obtain ⟨t, rfl⟩ := ItemKind.int_is hv
    have hb := mem_rangeInts ha
    exact helt C a t s₂ m₂ E' hC hb.1 (by omega) hn hm hk
  · obtain ⟨k, NX⟩ := made_enters NP F' N' hD
    rw [filter_t] at hc
    exact hQ D ys k h' tk F' NX NP.2 hc
end


local macro_rules | `(tactic| walk_at "eval Name") => `(tactic| (k_here; k_inBlock; (with_reducible rename Fr _ _ _ _ => kF); k_dflt (refine' nameGB_K kF ?k1 ?k2 ?k3 ?k8 ?k9 ?_ ?k4 ?kb ?k5 ?k6 ?k7; (case k4 => rfl); (case kb => rfl); (case k5 => rfl); (case k6 => rfl); (case k7 => decide); (case k1 => k_asm); (case k2 => k_asm); (case k3 => k_is); (case k8 => boot_by_name); (case k9 => decide); k_whole)))
end Mine

namespace Mine
/-- a code's table of the codes within it -/
abbrev tblO (ps : Array Value) : Obj := { cls := .none, data := .fields ps }
/-- the code at c, whose table lies at P (the table itself is not said) -/
def CodeOf (h : Heap) (c P : Addr) : Prop :=
  ∃ o vs file tf flags tg inF text tt, h.get? c = some o ∧ o.cls = .type "code" ∧ o.data = .fields vs ∧ vs[11]? = some (.ref P) ∧ vs.getD 11 .none = .ref P ∧ vs.getD 18 .none = .str file tf ∧
    vs.getD 7 .none = .int flags tg ∧ vs.getD 9 .none = .bool inF ∧ vs.getD 10 .none = .int text tt ∧ c ≠ P
theorem CodeOf.keeps {h h' : Heap} {c P : Addr} (C : CodeOf h c P) (hk : ∀ b o, h.get? b = some o → h'.get? b = some o) : CodeOf h' c P :=
  let ⟨o, vs, file, tf, flags, tg, inF, text, tt, a, r⟩ := C
  ⟨o, vs, file, tf, flags, tg, inF, text, tt, hk _ _ a, r⟩
theorem CodeOf.isCode {h : Heap} {c P : Addr} {ps : Array Value} (C : CodeOf h c P) (hP : h.get? P = some (tblO ps)) (ht : TriplesOk ps.toList) : h.IsCode c P ps :=
  let ⟨o, vs, file, tf, flags, tg, inF, text, tt, a, _, b, _, d, e, f, g, i, j⟩ := C
  ⟨o, vs, file, tf, flags, tg, inF, text, tt, _, a, b, d, e, f, g, i, hP, rfl, ht, j⟩
theorem CodeOf.tableAt {h : Heap} {c P : Addr} {ps : Array Value} (C : CodeOf h c P) (hP : h.get? P = some (tblO ps)) : h.TableAt c P ps :=
  let ⟨o, vs, _, _, _, _, _, _, _, a, k, b, l, _⟩ := C
  ⟨⟨o, vs, a, k, b, l⟩, hP⟩
theorem CodeOf.of {h : Heap} {c P : Addr} {ps : Array Value} (hc : h.IsCode c P ps) (ht : h.TableAt c P ps) : CodeOf h c P := by
  obtain ⟨o, vs, file, tf, flags, tg, inF, text, tt, op, ho, hd, h11, h2, h7, h9, h10, hop, hpd, htr, hne⟩ := hc
  obtain ⟨⟨o', vs', ho', hcls, hd', h11'⟩, _⟩ := ht
  rw [ho] at ho'
  cases ho'
  rw [hd] at hd'
  cases hd'
  exact ⟨o, vs, file, tf, flags, tg, inF, text, tt, ho, hcls, hd, h11', h11, h2, h7, h9, h10, hne⟩

section
variable {prog : Program} {w : World} {A : Around} {E : Value → Shared → Prop} {s : Shared} {h₀ : Heap} {L c P : Addr} {m mg : Str → Option Value} {bm : Addr} {ob : Obj} {env : Env}

theorem pass_all (n : Nat) : passing (fun _ => true) n 0 = List.range n := by simp [passing]

/-- a generator expression over a text's signs, no test: the generator, the table in the ledger -/
theorem ge_str {elt iter : Expr} {x : Str} {px : Pos} {scope : Scope} {cl : List (Str × Addr)} {pos : Pos} {Q : Value → Shared → Prop} {news : List (Addr × Obj)} {ps : Array Value} (q : Nat → Bool)
    (_F0 : Fr h₀ L s.heap m) (hne : ∀ p ∈ news, p.1 ≠ P) (C : CodeOf h₀ c P) (htr : TriplesOk ps.toList) (M : BMod h₀ env.globals mg bm ob) (hl₀ : h₀.NoLimit)
    (hcode : env.code = .ref c) (hh : A.handled = none) (hco : scope.isCoroutine = false) (hclos : closureFor scope env = pure cl) (hcell : ∀ y ∈ scope.names, y.2 ≠ .cell) (h0 : scope.names.lookup (".0" : Str) = some NameKind.local)
    (hx : scope.names.lookup x = some .local) (hkind : scope.kind = .function) (hroom : A.depth < recursionLimit) (hs : ∀ x, genFold iter env x = pure x)
    (h : wpAny (model prog w) A (eval iter env) (fun xv s₁ => Halt (∃ (y : Str) (t : Tok), xv = .str y t ∧ Fr h₀ L s₁.heap m ∧ News h₀ L s₁.heap ((P, tblO ps) :: news) ∧ AllBare s₁.gens ∧
      (∀ (c' : Value) (C : Addr) (A' : Around) E' (cc : Nat) (u : Tok) (st : Shared) m₂, A'.handled = none → A'.depth ≤ A.depth + 1 → A'.units ≤ A.units + 8 → cc ∈ y.cps.toList → Fr h₀ C st.heap m₂ → m₂ x = some (.str ⟨#[cc]⟩ u) →
        wpAny (model prog w) A' (eval elt (genEnv scope cl C c' builtinsNs env)) (fun r s₃ => Carried r (.bool (q cc)) ∧ Keeps st s₃) E' st) ∧
      (∀ (a Kb : Addr) (s₅ : Shared) (ps' : Array Value), Fr h₀ L s₅.heap m → News h₀ L s₅.heap ((P, tblO ps') :: news) → TriplesOk ps'.toList → (∃ more, ps' = ps ++ more) → AllBare s₅.gens → s₅.os = s₁.os →
        GenOnD prog w A Kb a y.cps.toList (fun _ => true) (fun k => .bool (q k)) s₅ → L ≤ Kb → (∀ p ∈ (P, tblO ps') :: news, p.1 ≤ Kb) → Q (.ref a) s₅))) E s) :
    wpAny (model prog w) A (eval (.GeneratorExp elt [⟨.Name x px, iter, [], 0⟩] scope pos) env) Q E s := by
  refine wpAny_GeneratorExp_walksQD hh hco hclos hcell h0 hx hkind hroom (wpAny_mono h (fun xv s₁ h₁' => ?_) fun _ _ e => e) hs
  obtain ⟨y, t, rfl, F₁, N₁, G₁, helt, hQ⟩ := h₁'
  refine wpAny_pyIter_str fun o St W hst => ?_
  have pushK : ∀ b o', s₁.heap.get? b = some o' → (s₁.heap.push o).get? b = some o' := fun _ _ e => Heap.get?_push_of_some _ e
  have F₂ : Fr h₀ L (s₁.heap.push o) m := F₁.keeps pushK
  have N₂ : News h₀ L (s₁.heap.push o) ((P, tblO ps) :: news) := N₁.grown pushK
  have hPs : s₁.heap.get? P = some (tblO ps) := (N₁ _ (.head _)).1
  have hP₂ : (s₁.heap.push o).get? P = some (tblO ps) := (N₂ _ (.head _)).1
  have hPlt : P < s₁.heap.objs.size := Heap.lt_size hPs
  have hLlt : L < s₁.heap.objs.size := F₁.ns.lt
  have hPL : P ≠ L := (N₁ _ (.head _)).2.1
  have hP0 : h₀.get? P = none := (N₁ _ (.head _)).2.2
  have C₂ : CodeOf (s₁.heap.push o) c P := C.keeps F₂.keep
  have hlim₂ : (s₁.heap.push o).NoLimit := hl₀.keeps F₂.keep
  have M₂ : BMod (s₁.heap.push o) env.globals mg bm ob := M.keeps F₂.keep
  -- what stands behind the code, made or found
  have step : ∀ (h₃ : Heap) (ps' : Array Value), Heap.ExtBut P (s₁.heap.push o) h₃ → h₃.get? P = some (tblO ps') →
      Fr h₀ L h₃ m ∧ News h₀ L h₃ ((P, tblO ps') :: news) ∧ BMod h₃ env.globals mg bm ob ∧ h₃.NoLimit := by
    intro h₃ ps' hx₃ hP₃
    have hk : ∀ b o', h₀.get? b = some o' → h₃.get? b = some o' := fun b o' e => hx₃ b o' (fun eb => by rw [eb, hP0] at e; cases e) (F₂.keep b o' e)
    refine ⟨⟨F₂.ns.extBut hx₃ (Ne.symm hPL), hk, F₂.above⟩, ?_, M.keeps hk, hl₀.keeps hk⟩
    intro p hp
    rcases List.mem_cons.mp hp with rfl | hp
    · exact ⟨hP₃, hPL, hP0⟩
    · have z := N₂ p (.tail _ hp)
      exact ⟨hx₃ _ _ (hne p hp) z.1, z.2⟩
  have main : ∀ (code : Value) (h₃ : Heap) (tk₃ : Nat) (ps' : Array Value), Heap.ExtBut P (s₁.heap.push o) h₃ → h₃.get? P = some (tblO ps') → TriplesOk ps'.toList → (∃ more, ps' = ps ++ more) → (s₁.heap.push o).objs.size ≤ h₃.objs.size →
      wpAny (model prog w) A (builtinsFor env.globals env.builtins) (fun bi s₄ =>
        ∃ I fp wr n₀ P₀ St₀ pz F, Value.ref s₁.heap.objs.size = .ref I ∧ (∀ A' : Around, A'.handled = none → Walks prog w A' I fp wr n₀ P₀ St₀) ∧ St₀ 0 s₄.heap ∧ (∀ b ∈ fp, b < s₄.heap.objs.size) ∧ s₄.heap.NoLimit ∧ cStatics ∉ wr ∧
          (∀ href : Heap, (∀ b o, s₄.heap.get? b = some o → href.get? b = some o) →
            QuietGenD prog w (genEnv scope cl s₄.heap.objs.size code bi env) x [] elt (List.range s₄.heap.objs.size) wr P₀ pz F href (A.depth + 1) (A.units + 8)) ∧
          (∀ a h₅ tk gs, gs.bare = true → s₄.heap.objs.size < a → h₅.objs.size = a + 1 → (∀ b o, s₄.heap.get? b = some o → h₅.get? b = some o) →
            WalksS prog w A.in4 a (a :: s₄.heap.objs.size :: List.range s₄.heap.objs.size) (s₄.heap.objs.size :: wr) (GenOnlyQ s₄.gens.size) (passing pz n₀ 0).length
              (fun j y => ∃ i, (passing pz n₀ 0)[j]? = some i ∧ F i y) (GenAt prog w A.in4 a s₄.gens.size s₄.heap.objs.size (List.range s₄.heap.objs.size) wr pz n₀ F) →
            GenAt prog w A.in4 a s₄.gens.size s₄.heap.objs.size (List.range s₄.heap.objs.size) wr pz n₀ F 0 { s₄ with gens := s₄.gens.push gs, toks := tk, heap := h₅ } →
            Q (.ref a) { s₄ with gens := s₄.gens.push gs, toks := tk, heap := h₅ })) E { s₁ with heap := h₃, toks := tk₃ } := by
    intro code h₃ tk₃ ps' hx₃ hP₃ htr' hmore hsz
    obtain ⟨F₃, N₃, M₃, hl₃⟩ := step h₃ ps' hx₃ hP₃
    rw [Heap.size_push] at hsz
    refine wpAny_builtinsFor M₃.ns M₃.name M₃.ne M₃.obj M₃.cls M₃.dict M₃.data ?_
    have hcw : cStatics ∉ [s₁.heap.objs.size] := fun hm => by
      obtain ⟨_, hn, _⟩ := hl₀
      obtain ⟨oS, es, ep, ho, _⟩ := hn
      have h1 := Heap.lt_size (F₁.keep _ _ ho)
      exact absurd h1 ((List.mem_singleton.mp hm) ▸ Nat.lt_irrefl _)
    refine ⟨s₁.heap.objs.size, [s₁.heap.objs.size], [s₁.heap.objs.size], y.cps.size, SignAt y, St, (fun _ => true), (fun i r => ∃ b, y.cps.toList[i]? = some b ∧ Carried r (.bool (q b))), rfl, W,
      (W A hh).frame _ _ _ hst (fun b hb o' e => hx₃ b o' (fun eb => by rw [List.mem_singleton.mp hb] at eb; exact absurd hPlt (eb ▸ Nat.lt_irrefl _)) e), ?_, hl₃, hcw, fun href hhref => ?_, fun a h₅ tk gs hgb hag hsz₅ hk₅ W' hat => ?_⟩
    · intro b hb
      rw [List.mem_singleton.mp hb]
      show s₁.heap.objs.size < h₃.objs.size
      omega
    · have inB : ∀ (t : Shared) m₂, t.heap.Ns h₃.objs.size m₂ → (∀ b ∈ List.range h₃.objs.size, b ∉ [s₁.heap.objs.size] → ∀ o, href.get? b = some o → t.heap.get? b = some o) → Fr h₀ h₃.objs.size t.heap m₂ := fun t m₂ hn hkp =>
        ⟨hn, fun b o' e => hkp b (List.mem_range.mpr (Heap.lt_size (F₃.keep b o' e))) (fun hm => by
            rw [List.mem_singleton.mp hm] at e
            exact absurd (Heap.lt_size (F₁.keep _ _ e)) (Nat.lt_irrefl _)) o' (hhref b o' (F₃.keep b o' e)), Nat.le_trans F₃.above (Nat.le_of_lt F₃.ns.lt)⟩
      refine ⟨fun A' E' i v t m₂ hA hD hU hP hn hm hkp => wpAny_tests_nil ⟨rfl, keeps_refl t⟩, fun A' E' i v t m₂ hA hD hU hP hp hn hm hkp => ?_⟩
      obtain ⟨cc, u, hc, rfl⟩ := hP
      have hmem : cc ∈ y.cps.toList := by
        rw [Array.mem_toList_iff]
        exact Array.mem_of_getElem? hc
      exact wpAny_mono (helt code _ A' E' cc u t m₂ hA hD hU hmem (inB t m₂ hn hkp) hm) (fun r s₃ z => ⟨⟨cc, by simpa using hc, z.1⟩, z.2⟩) fun _ _ e => e
    · refine hQ a (s₁.heap.objs.size - 1) _ ps' (F₃.keeps hk₅) (N₃.grown hk₅) htr' hmore (G₁.push hgb) rfl ?_ (Nat.le_sub_one_of_lt hLlt) ?_
      · have hlen : (passing (fun _ => true) y.cps.size 0).length = (y.cps.toList.filter fun _ => true).length := by rw [pass_all, filter_t, List.length_range, Array.length_toList]
        show Gen prog w A _ a _ _ _
        rw [← hlen]
        refine ⟨_, _, _, _, W'.imp fun j r hy => ?_, hat, (fun i s' st => st.1.typeIs), List.mem_cons_self, ?_, ?_⟩
        · obtain ⟨i, hij, b, hb, hc⟩ := hy
          refine ⟨b, ?_, hc⟩
          rw [pass_all] at hij
          rw [filter_t]
          have : i = j := by
            have h1 := fun hj => List.getElem?_range (i := j) (n := y.cps.size) hj
            by_cases hj : j < y.cps.size
            · rw [h1 hj] at hij; exact (Option.some.inj hij).symm
            · rw [List.getElem?_eq_none (by rw [List.length_range]; omega)] at hij; cases hij
          rw [← this]
          exact hb
        · intro b hb
          show b < h₅.objs.size
          rw [hsz₅]
          rcases List.mem_cons.mp hb with rfl | hb
          · exact Nat.lt_succ_self _
          · rcases List.mem_cons.mp hb with rfl | hb
            · exact Nat.lt_succ_of_lt hag
            · exact Nat.lt_succ_of_lt (Nat.lt_trans (List.mem_range.mp hb) hag)
        · intro b hb
          rcases List.mem_cons.mp hb with rfl | hb
          · exact Nat.lt_of_le_of_lt (Nat.sub_le _ _) hsz
          · rw [List.mem_singleton.mp hb]; exact Nat.sub_lt (Nat.lt_of_le_of_lt (Nat.zero_le _) hLlt) Nat.one_pos
      · intro p hp
        have : p.1 < s₁.heap.objs.size := by
          rcases List.mem_cons.mp hp with rfl | hp
          · exact hPlt
          · exact Heap.lt_size (N₁ p (.tail _ hp)).1
        exact Nat.le_sub_one_of_lt this
  refine ⟨hlim₂, ?_⟩
  cases hnf : codeAmong pos ps.toList with
  | some cv =>
    exact wpAny_genexprCode_hit hcode (C₂.isCode hP₂ htr) hnf (main cv _ _ ps (Heap.ExtBut.refl _ _) hP₂ htr ⟨#[], by simp⟩ (Nat.le_refl _))
  | none =>
    refine wpAny_genexprCodeX hcode (C₂.isCode hP₂ htr) (C₂.tableAt hP₂) hnf fun c' h₃ tk₃ hx₃ hge hlt hcode₃ _ htab₃ _ => ?_
    have htr' : TriplesOk (ps ++ #[rawInt pos.line, rawInt pos.col, .ref c']).toList := by
      rw [Array.toList_append]
      exact TriplesOk_snoc _ _ _ _ htr
    exact main _ h₃ tk₃ _ hx₃ htab₃.2 htr' ⟨_, rfl⟩ (Nat.le_of_lt (Nat.lt_of_le_of_lt hge hlt))
end
end Mine

namespace Mine
/-- a call of the text's own def, from any frame of a def, over any ledger -/
def Cl (w : World) (mean : ExcName → Option Value) (mg mb : Str → Option Value) (k : Nat) (f : Addr) (args : List Value) (news : List (Addr × Obj))
    (Ret : Heap → Addr → (Str → Option Value) → Shared → (Value → Shared → Prop) → Prop) : Prop :=
  ∀ (p : Program) (loose : List Str) (dp un : Nat) (gd : Option (List Code)) (cn : Str) (cs : Scope) (a : Addr) (ccd : Value) (cl : List (Str × Addr)) (outer : List Env) (A₀ : Around) (base h₀ : Heap) (L : Addr) (m : Str → Option Value) (s : Shared) (Q E : Value → Shared → Prop),
    Below A₀ base outer h₀ → Fr h₀ L s.heap m → (hd.heap_39 w.params).In h₀ → News h₀ L s.heap news → Top p loose mean mg mb h₀ → cs.kind = .function →
    dp + k < recursionLimit → un + 8 * k < cLine → Ret h₀ L m s Q →
    wpAny (model PySem.Challenge.rw_oo0008_01.row.prog w) (ktrTop dp un gd cn cs L a ccd cl outer) (call (.ref f) args) Q E s

theorem Cl.use {w : World} {mean : ExcName → Option Value} {mg mb : Str → Option Value} {k : Nat} {f : Addr} {args : List Value} {news : List (Addr × Obj)} {Ret : Heap → Addr → (Str → Option Value) → Shared → (Value → Shared → Prop) → Prop}
    (C : Cl w mean mg mb k f args news Ret)
    {p : Program} {loose : List Str} {dp un : Nat} {gd : Option (List Code)} {cn : Str} {cs : Scope} {a : Addr} {ccd : Value} {cl : List (Str × Addr)} {outer : List Env} {A₀ : Around} {base h₀ : Heap} {L : Addr} {m : Str → Option Value} {s : Shared} {Q E : Value → Shared → Prop}
    (B : Below A₀ base outer h₀) (F : Fr h₀ L s.heap m) (X : (hd.heap_39 w.params).In h₀) (N : News h₀ L s.heap news) (T : Top p loose mean mg mb h₀) (hk : cs.kind = .function)
    (h1 : dp + k < recursionLimit) (h2 : un + 8 * k < cLine) (R : Ret h₀ L m s Q) :
    wpAny (model PySem.Challenge.rw_oo0008_01.row.prog w) (ktrTop dp un gd cn cs L a ccd cl outer) (call (.ref f) args) Q E s :=
  C _ _ _ _ _ _ _ _ _ _ _ _ _ _ _ _ _ _ _ B F X N T hk h1 h2 R
/-- an int comes back -/
abbrev RetI (news : List (Addr × Obj)) (x : Int) (h₀ : Heap) (L : Addr) (m : Str → Option Value) (s : Shared) (Q : Value → Shared → Prop) : Prop :=
  ∀ (t : Tok) (h' : Heap) (tk' : Nat), Fr h₀ L h' m → News h₀ L h' news → Q (.int x t) { s with heap := h', toks := tk' }
/-- a bool comes back -/
abbrev RetB (news : List (Addr × Obj)) (x : Bool) (h₀ : Heap) (L : Addr) (m : Str → Option Value) (s : Shared) (Q : Value → Shared → Prop) : Prop :=
  ∀ (h' : Heap) (tk' : Nat), Fr h₀ L h' m → News h₀ L h' news → Q (.bool x) { s with heap := h', toks := tk' }
/-- a text comes back -/
abbrev RetS (news : List (Addr × Obj)) (x : Str) (h₀ : Heap) (L : Addr) (m : Str → Option Value) (s : Shared) (Q : Value → Shared → Prop) : Prop :=
  ∀ (t : Tok) (h' : Heap) (tk' : Nat), Fr h₀ L h' m → News h₀ L h' news → Q (.str x t) { s with heap := h', toks := tk' }
/-- a new list of ints comes back -/
abbrev RetL (news : List (Addr × Obj)) (ns : List Int) (h₀ : Heap) (L : Addr) (m : Str → Option Value) (s : Shared) (Q : Value → Shared → Prop) : Prop :=
  ∀ (l : Addr) (us : List Value) (k : Nat) (h' : Heap) (tk' : Nat), Fr h₀ L h' m → News h₀ L h' ((l, listOf us.toArray k) :: news) → (∀ p ∈ news, p.1 ≠ l) → IntsAre us ns → Q (.ref l) { s with heap := h', toks := tk' }
theorem retL_end {news all : List (Addr × Obj)} {ns : List Int} {h₀ h' : Heap} {L l : Addr} {m : Str → Option Value} {s : Shared} {Q : Value → Shared → Prop} {us : List Value} {k tk' : Nat} (R : RetL news ns h₀ L m s Q) (F : Fr h₀ L h' m) (N : News h₀ L h' all)
    (hl : (l, listOf us.toArray k) ∈ all) (hs : ∀ p ∈ news, p ∈ all) (hne : ∀ p ∈ news, p.1 ≠ l) (I : IntsAre us ns) : Q (.ref l) { s with heap := h', toks := tk' } :=
  R l us k h' tk' F (fun p hp => (List.mem_cons.mp hp).elim (fun e => e ▸ N _ hl) fun hp => N p (hs p hp)) hne I
end Mine

namespace Mine
theorem band_small (x : Int) : (Builtin.bitAnd x 33554431).natAbs < 2 ^ 64 := by
  have h := kbt_mask x 25
  have e : (2 : Int) ^ 25 - 1 = 33554431 := by decide
  rw [e] at h
  rw [h]
  omega
def genZ : List Int := [996825010, 642813549, 513874426, 1027748829, 705979059]
def istep (top : Int) (c i : Int) : Int := Builtin.bitXor c (if Builtin.bitAnd (top.fdiv (2 ^ i.toNat)) 1 ≠ 0 then genZ.getD i.toNat 0 else 0)
def stepZ (chk v : Int) : Int := [0, 1, 2, 3, 4].foldl (istep (chk.fdiv (2 ^ 25))) (Builtin.bitXor (Builtin.bitAnd chk 33554431 * 2 ^ 5) v)
theorem in_start {d X v : Int} {f : Int → Int → Int} (h : d = X) : Builtin.bitXor (Builtin.bitAnd d 33554431 * 2 ^ Int.toNat 5) v = List.foldl f (Builtin.bitXor (Builtin.bitAnd X 33554431 * 2 ^ 5) v) [] := by subst h; rfl
theorem in_one {c d X Z k : Int} {pre : List Int} (h1 : d = X) (h2 : c = pre.foldl (istep (X.fdiv (2 ^ 25))) Z) (h3 : Builtin.bitAnd ((d.fdiv (2 ^ Int.toNat 25)).fdiv (2 ^ k.toNat)) 1 ≠ 0) :
    Builtin.bitXor c ([996825010, 642813549, 513874426, 1027748829, 705979059].getD k.toNat 0) = (pre ++ [k]).foldl (istep (X.fdiv (2 ^ 25))) Z := by
  subst h1; subst h2
  rw [List.foldl_append]
  show _ = istep _ _ k
  unfold istep genZ
  exact (congrArg _ (if_pos h3)).symm
theorem in_zero {c d X Z k : Int} {pre : List Int} (h1 : d = X) (h2 : c = pre.foldl (istep (X.fdiv (2 ^ 25))) Z) (h3 : Builtin.bitAnd ((d.fdiv (2 ^ Int.toNat 25)).fdiv (2 ^ k.toNat)) 1 = 0) :
    Builtin.bitXor c 0 = (pre ++ [k]).foldl (istep (X.fdiv (2 ^ 25))) Z := by
  subst h1; subst h2
  rw [List.foldl_append]
  show _ = istep _ _ k
  unfold istep
  exact (congrArg _ (if_neg (fun q => q h3))).symm
theorem out_turn {c d v : Int} {pre : List Int} (h1 : d = pre.foldl stepZ 1) (h2 : c = (rangeKs 0 (5 - 0 : Int).toNat).foldl (istep ((pre.foldl stepZ 1).fdiv (2 ^ 25))) (Builtin.bitXor (Builtin.bitAnd (pre.foldl stepZ 1) 33554431 * 2 ^ 5) v)) :
    c = (pre ++ [v]).foldl stepZ 1 := by
  subst h2
  have e : rangeKs 0 (5 - 0 : Int).toNat = [0, 1, 2, 3, 4] := by decide
  rw [List.foldl_append, e]
  simp only [List.foldl_cons, List.foldl_nil, stepZ]
theorem start0 : (1 : Int) = List.foldl stepZ 1 [] := by rw [List.foldl_nil]
set_option maxRecDepth 100000 in
set_option maxHeartbeats 1000000 in
theorem polymod_con (w : World) (mean : ExcName → Option Value) (mg mb : Str → Option Value) (news : List (Addr × Obj)) (l : Addr) (vs : List Value) (ns : List Int) (n : Nat)
  (hl : (l, listOf vs.toArray n) ∈ news) (hi : IntsAre vs ns) (hlen : ns.length < 2 ^ 20) : Cl w mean mg mb 1 21 [.ref l] news (RetI news (ns.foldl stepZ 1)) := by
  unfold Cl
  k_fill
  intro p loose dp un gd cn cs a ccd cl outer A₀ base h₀ L m s Q E B F X N T hk hd' hu hret
  have N2 : News h₀ L s.heap ((l, listOf vs.toArray n) :: news) := fun p hp => (List.mem_cons.mp hp).elim (fun e => e ▸ N _ hl) (N p)
  clear N hl
  refine wpAny_call ?_
  k_dflt ktr_enter
  (k_with "pyIter ref" => (k_of "value" => k_state (fun pre chk => chk = pre.foldl stepZ 1) "chk"))
  (k_with "pyIter ref" => (k_of "i" => k_state_short (fun pre chk => chk = pre.foldl (istep ((kPre.foldl stepZ 1).fdiv (2 ^ 25))) (Builtin.bitXor (Builtin.bitAnd (kPre.foldl stepZ 1) 33554431 * 2 ^ 5) kN)) "chk"))
  (k_with "state" => with_reducible (first | exact start0 | exact in_start (by assumption) | exact in_one (by assumption) (by assumption) (by assumption) | exact in_zero (by assumption) (by assumption) (by assumption) | exact out_turn (by assumption) (by assumption)))
  (k_with "binaryOp LShift int int" => (refine lshift_int_small (by decide) (by decide) (band_small _) ?_))
  k_steps
  rename Fr _ _ _ _ => Fz
  rename News _ _ _ _ => Nz
  subst kInv
  exact hret _ _ _ Fz (cb_drop Nz fun p hp => .tail _ (.tail _ hp))
end Mine

namespace Mine
local macro_rules | `(tactic| walk_at "eval Name") => `(tactic| (k_here; k_inBlock; (with_reducible rename Fr _ _ _ _ => kF); k_dflt (refine' nameGB_K kF ?k1 ?k2 ?k3 ?k8 ?k9 ?_ ?k4 ?kb ?k5 ?k6 ?k7; (case k4 => rfl); (case kb => rfl); (case k5 => rfl); (case k6 => rfl); (case k7 => decide); (case k1 => k_asm); (case k2 => k_asm); (case k3 => k_is); (case k8 => boot_by_name); (case k9 => decide); k_whole)))
local macro_rules | `(tactic| walk_at "eval ListComp") => `(tactic| (k_here; refine halt_of ?_))
def expandZ (x : Str) : List Int := x.cps.toList.map (fun c : Nat => (c : Int).fdiv (2 ^ 5)) ++ [0] ++ x.cps.toList.map (fun c : Nat => Builtin.bitAnd (c : Int) 31)
theorem expandZ_length (x : Str) : (expandZ x).length = 2 * x.length + 1 := by
  simp only [expandZ, List.length_append, List.length_map, Array.length_toList, List.length_cons, List.length_nil, Str.length]
  omega
set_option maxRecDepth 100000 in
set_option maxHeartbeats 1000000 in
theorem expand_con (w : World) (mean : ExcName → Option Value) (mg mb : Str → Option Value) (news : List (Addr × Obj)) (x : Str) (tx : Tok) (hlen : x.length < 2 ^ 10) :
  Cl w mean mg mb 1 26 [.str x tx] news (RetL news (expandZ x)) := by
  unfold Cl
  k_fill
  intro p loose dp un gd cn cs a ccd cl outer A₀ base h₀ L m s Q E B F X N T hk hd' hu hret
  have hxl : x.cps.toList.length < 2 ^ 10 := by rw [Array.length_toList]; exact hlen
  refine wpAny_call ?_
  k_dflt ktr_enter
  k_steps
  refine halt_in ?_
  rename Fr _ _ _ _ => F1
  rename News _ _ _ _ => N1
  with_unfolding_all refine lc_str (fun c => .int ((c : Int).fdiv (2 ^ 5))) rfl rfl (by decide) rfl (by decide) rfl (ld F1 rfl ⟨_, x, tx, rfl, ?_, F1, N1, ?_, ?_⟩) (by intro _; rfl)
  · rw [sizeLine_eq]; omega
  · intro C c u s₂ m₂ E' hC hc hn hm hkp
    have F2 := Fr.keeps F1 hkp
    have cE := InElt.start s₂.heap
    k_steps
    all_goals first | exact .int _ _ | exact ⟨_, _, rfl, cE⟩
  intro D1 ys1 n1 h1 tk1 F1' NX1 NP1 CA1
  have i1 := CA1.intsOf
  clear CA1
  k_steps
  refine halt_in ?_
  rename Fr _ _ _ _ => F2
  rename News _ _ _ _ => N2
  with_unfolding_all refine lc_str (fun c => .int (Builtin.bitAnd (c : Int) 31)) rfl rfl (by decide) rfl (by decide) rfl (ld F2 rfl ⟨_, x, tx, rfl, ?_, F2, N2, ?_, ?_⟩) (by intro _; rfl)
  · rw [sizeLine_eq]; omega
  · intro C c u s₂ m₂ E' hC hc hn hm hkp
    have F2 := Fr.keeps F2 hkp
    have cE := InElt.start s₂.heap
    k_steps
    all_goals first | exact .int _ _ | exact ⟨_, _, rfl, cE⟩
  intro D2 ys2 n2 h2 tk2 F2' NX2 NP2 CA2
  have i2 := CA2.intsOf
  clear CA2
  k_steps
  rename Fr _ _ _ _ => Fz
  rename News _ _ _ _ => Nz
  rename IntsAre _ _ => Iz
  rename _ ∧ _ ∧ _ ∧ _ ∧ AllLt _ _ => Lz
  exact retL_end hret Fz Nz (.head _) (fun p hp => by repeat (first | assumption | apply List.Mem.tail)) (fun p hp => Nat.ne_of_lt (kst_ltOf Lz.2.2.2.2 p hp)) Iz
end Mine

namespace Mine
local macro_rules | `(tactic| walk_at "call ref") => `(tactic| (k_here; refine halt_of ?_))
local macro_rules | `(tactic| tb_start) => `(tactic| ((case k1 => k_asm); (case k2 => k_asm); (case k3 => k_asm); (case k4 => k_asm); (case k5 => k_asm); (case kK => first | exact rfl | assumption); (case kd => ktr_room); (case ku => ktr_units)))
set_option maxRecDepth 100000 in
set_option maxHeartbeats 1000000 in
theorem verify_con (w : World) (mean : ExcName → Option Value) (mg mb : Str → Option Value) (news : List (Addr × Obj)) (x : Str) (tx : Tok) (l : Addr) (vs : List Value) (ns : List Int) (n : Nat)
  (hlen : x.length < 2 ^ 10) (hl : (l, listOf vs.toArray n) ∈ news) (hi : IntsAre vs ns) (hlen2 : ns.length < 2 ^ 10) : Cl w mean mg mb 3 33 [.str x tx, .ref l] news (RetB news ((expandZ x ++ ns).foldl stepZ 1 == 1)) := by
  unfold Cl
  k_fill
  intro p loose dp un gd cn cs a ccd cl outer A₀ base h₀ L m s Q E B F X N T hk hd' hu hret
  have N2 : News h₀ L s.heap ((l, listOf vs.toArray n) :: news) := fun p hp => (List.mem_cons.mp hp).elim (fun e => e ▸ N _ hl) (N p)
  clear N hl
  refine wpAny_call ?_
  k_dflt ktr_enter
  have hE : (expandZ x).length < 2 ^ 12 := by rw [expandZ_length]; omega
  k_steps
  refine halt_in ?_
  with_unfolding_all refine' Cl.use (expand_con w mean mg mb _ x tx hlen) ?k1 ?k2 ?k3 ?k4 ?k5 ?kK ?kd ?ku ?_
  tb_start
  intro l1 us1 j1 h1 tk1 F1 N1 ne1 I1
  dsimp only
  k_steps
  refine halt_in ?_
  rename IntsAre _ _ => Iz
  with_unfolding_all refine' Cl.use (polymod_con w mean mg mb _ _ _ _ _ (.head _) Iz ?hq) ?k1 ?k2 ?k3 ?k4 ?k5 ?kK ?kd ?ku ?_
  tb_start
  case hq => rw [List.length_append]; omega
  intro t2 h2 tk2 F2 N2
  dsimp only
  k_steps
  rename Fr _ _ _ _ => Fz
  rename News _ _ _ _ => Nz
  exact hret _ _ Fz (cb_drop Nz (fun p hp => by repeat (first | assumption | apply List.Mem.tail)))
end Mine

namespace Mine
/-- list(dv) makes a new list of ns -/
def CanList (dv : Value) (news : List (Addr × Obj)) (ns : List Int) : Prop :=
  ∀ {prog : Program} {w : World} {A : Around} {E : Value → Shared → Prop} {s : Shared} {h₀ : Heap} {L : Addr} {m : Str → Option Value} {all : List (Addr × Obj)} {Q : Value → Shared → Prop},
    A.handled = none → Fr h₀ L s.heap m → News h₀ L s.heap all → (∀ p ∈ news, p ∈ all) →
    (∀ D us c h' tk', Fr h₀ L h' m → News h₀ L h' ((D, listOf us.toArray c) :: all) → (∀ q ∈ all, q.1 < D) → IntsAre us ns → Q (.ref D) { s with heap := h', toks := tk' }) →
    wpAny (model prog w) A (call (.type "list") [dv]) Q E s
theorem CanList.mono {dv : Value} {news news' : List (Addr × Obj)} {ns : List Int} (h : CanList dv news ns) (hs : ∀ p ∈ news, p ∈ news') : CanList dv news' ns := by
  intro prog w A E s h₀ L m all Q hA F N hs' k
  exact h hA F N (fun p hp => hs' p (hs p hp)) k
theorem canList_list {l : Addr} {news : List (Addr × Obj)} {vs : List Value} {ns : List Int} {n : Nat} (hl : (l, listOf vs.toArray n) ∈ news) (hi : IntsAre vs ns) (hz : ns.length < 2 ^ 20) : CanList (.ref l) news ns := by
  intro prog w A E s h₀ L m all Q _ F N hs h
  exact list_copyK F N ⟨_, (N _ (hs _ hl)).1, rfl, n, rfl⟩ (fun D c h' F' N' hlt => h D vs c h' s.toks F' N' hlt hi) (by rw [List.size_toArray, hi.length, sizeLine_eq]; omega)
theorem canList_tuple {l : Addr} {news : List (Addr × Obj)} {vs : List Value} {ns : List Int} {n : Nat} (hl : (l, ({ cls := .type "tuple", data := .seq vs.toArray n } : Obj)) ∈ news) (hi : IntsAre vs ns) (hz : ns.length < 2 ^ 20) : CanList (.ref l) news ns := by
  intro prog w A E s h₀ L m all Q _ F N hs h
  exact list_copyKT F N ⟨_, (N _ (hs _ hl)).1, rfl, n, rfl⟩ (fun D c h' F' N' hlt => h D vs c h' s.toks F' N' hlt hi) (by rw [List.size_toArray, hi.length, sizeLine_eq]; omega)
local macro_rules | `(tactic| walk_at "call ref") => `(tactic| (k_here; refine halt_of ?_))
local macro_rules | `(tactic| walk_at "call type:list") => `(tactic| (k_here; refine halt_of ?_))
local macro_rules | `(tactic| walk_at "eval ListComp") => `(tactic| (k_here; refine halt_of ?_))
local macro_rules | `(tactic| tb_start) => `(tactic| ((case k1 => k_asm); (case k2 => k_asm); (case k3 => k_asm); (case k4 => k_asm); (case k5 => k_asm); (case kK => first | exact rfl | assumption); (case kd => ktr_room); (case ku => ktr_units)))
def createZ (x : Str) (ns : List Int) : List Int := (rangeInts 0 1 6).map fun i => Builtin.bitAnd ((Builtin.bitXor ((expandZ x ++ ns ++ [0, 0, 0, 0, 0, 0]).foldl stepZ 1) 1).fdiv (2 ^ (5 * (5 - i)).toNat)) 31
theorem createZ_length (x : Str) (ns : List Int) : (createZ x ns).length = 6 := by simp only [createZ, List.length_map, rangeInts_length]
set_option maxRecDepth 100000 in
set_option maxHeartbeats 1000000 in
theorem create_con (w : World) (mean : ExcName → Option Value) (mg mb : Str → Option Value) (news : List (Addr × Obj)) (x : Str) (tx : Tok) (dv : Value) (ns : List Int)
  (hlen : x.length < 2 ^ 10) (hcl : CanList dv news ns) (hlen2 : ns.length < 2 ^ 10) : Cl w mean mg mb 3 38 [.str x tx, dv] news (RetL news (createZ x ns)) := by
  unfold Cl
  k_fill
  intro p loose dp un gd cn cs a ccd cl outer A₀ base h₀ L m s Q E B F X N T hk hd' hu hret
  have hE : (expandZ x).length < 2 ^ 12 := by rw [expandZ_length]; omega
  refine wpAny_call ?_
  k_dflt (refine' code_defC ?k1 ?k2 ?k3 ?k4 ?k5 ?kA ?kF ?kK ?k6 ?k7 ?k8 ?k9 ?kB ?kD ?_ ?c2 ?c3 ?c4; (case kA => exact rfl); (case kF => exact rfl); (case kK => assumption); (case k1 => k_asm); (case k2 => k_asm); (case k3 => k_asm); (case k4 => k_asm); (case k5 => k_asm); (case k6 => k_is); (case k7 => k_is); (case k8 => ktr_room); (case k9 => exact BindsTo.of_eq rfl); (case kB => exact rfl); (case kD => decide +kernel); (case c2 => exact rfl); (case c3 => exact rfl); (case c4 => exact rfl); k_whole)
  intro g' L' h' tk' cells' FG' F' N' Y' B' X' T' ltL
  obtain ⟨o1, hE1, d1⟩ := CellsAre.one Y'
  subst hE1
  clear Y'
  try simp only [List.cons_append, List.nil_append] at N'
  try dsimp only
  try k_fold
  k_steps
  refine halt_in ?_
  with_unfolding_all refine' Cl.use (expand_con w mean mg mb _ x tx hlen) ?k1 ?k2 ?k3 ?k4 ?k5 ?kK ?kd ?ku ?_
  tb_start
  intro l1 us1 j1 h1 tk1 F1 N1 ne1 I1
  dsimp only
  k_steps
  refine halt_in ?_
  rename News _ _ _ _ => N1
  rename Fr _ _ _ _ => F1
  refine hcl rfl F1 N1 (fun p hp => by repeat (first | assumption | apply List.Mem.tail)) ?_
  intro D2 us2 c2 h2 tk2 F2 N2 lt2 I2
  dsimp only
  k_steps
  refine halt_in ?_
  rename IntsAre _ _ => Iz
  with_unfolding_all refine' Cl.use (polymod_con w mean mg mb _ _ _ _ _ (.head _) Iz ?hq) ?k1 ?k2 ?k3 ?k4 ?k5 ?kK ?kd ?ku ?_
  tb_start
  case hq => simp only [List.length_append, List.length_cons, List.length_nil]; omega
  intro t3 h3 tk3 F3 N3
  dsimp only
  k_steps
  have N4 := cb_drop N3 (news := (L' + 1, o1) :: news) (List.forall_mem_cons.mpr ⟨by repeat (first | exact List.Mem.head _ | apply List.Mem.tail), fun p hp => by repeat (first | assumption | apply List.Mem.tail)⟩)
  clear N3
  with_unfolding_all refine storeX_C F3 N4 (c := L' + 1) (o := o1) rfl (.head fun p hp => Nat.ne_of_lt (Nat.lt_succ_of_lt (ltL p hp))) d1 ?_ rfl rfl
  intro h4 o4 F4 N4 d4
  dsimp only
  k_steps
  refine halt_in ?_
  with_unfolding_all refine lc_range (cl := [(Str.ofString "polymod", L' + 1)]) F4 N4 (fun i => .int (Builtin.bitAnd ((Builtin.bitXor ((expandZ x ++ ns ++ [0, 0, 0, 0, 0, 0]).foldl stepZ 1) 1).fdiv (2 ^ (5 * (5 - i)).toNat)) 31)) rfl rfl (by decide) rfl (by decide) rfl (by intro _; rfl) ?_
  k_steps
  refine halt_in ?_
  rename IsRange _ _ _ _ _ _ _ _ => R5
  rename Fr _ _ _ _ => F5
  rename News _ _ _ _ => N5
  refine ⟨_, _, _, _, _, 6, rfl, R5, by decide, by rfl, by rw [sizeLine_eq]; omega, F5, N5, ?_, ?_⟩
  · intro C i t s₂ m₂ E' hC ha0 ha1 hn hm hkp
    have F6 := Fr.keeps F5 hkp
    have cE := InElt.start s₂.heap
    have hget : s₂.heap.get? (L' + 1) = some o4 := hkp _ _ (N5 _ (.head _)).1
    (k_with "eval Name" => (with_unfolding_all refine ldCellK (c := L' + 1) rfl ⟨o4, hget, d4⟩ ?_))
    k_steps
    all_goals first | exact .int _ _ | exact ⟨_, _, rfl, cE⟩
  · intro D6 ys6 k6 h6 tk6 F6 N6 ne6 C6
    have I6 := C6.intsOf
    dsimp only
    k_steps
    rename Fr _ _ _ _ => Fz
    rename News _ _ _ _ => Nz
    exact retL_end hret Fz Nz (.head _) (fun p hp => by repeat (first | assumption | apply List.Mem.tail)) (fun p hp => ne6 p (.tail _ hp)) I6
end Mine

namespace Mine
def charset : Str := ⟨#[113, 112, 122, 114, 121, 57, 120, 56, 103, 102, 50, 116, 118, 100, 119, 48, 115, 51, 106, 110, 53, 52, 107, 104, 99, 101, 54, 109, 117, 97, 55, 108]⟩
/-- the sign of a number -/
def signOf (d : Int) : Nat := charset.cps.toList.getD d.toNat 0
def charsetO : Str := Str.ofString "qpzry9x8gf2tvdw0s3jn54khce6mua7l"
theorem item_sign_fin : ∀ i : Fin 32, Txt.item charsetO ((i.val : Nat) : Int) = ⟨#[signOf ((i.val : Nat) : Int)]⟩ := by decide +kernel
theorem item_sign {i : Int} (h0 : 0 ≤ i) (h1 : i < 32) : Txt.item charsetO i = ⟨#[signOf i]⟩ := by
  have h := item_sign_fin ⟨i.toNat, by omega⟩
  have e : ((i.toNat : Nat) : Int) = i := by omega
  simpa only [e] using h
theorem charsetO_length : charsetO.length = 32 := by decide +kernel
theorem item_charset {prog : Program} {w : World} {A : Around} {E : Value → Shared → Prop} {s : Shared} {value slice : Expr} {t u : Tok} {i : Int} {Q : Value → Shared → Prop} (h0 : 0 ≤ i) (h1 : i < 32) (h : Q (.str ⟨#[signOf i]⟩ s.toks) { s with toks := s.toks + 1 })
    (hs : subscripted slice false (.str charsetO t) (.int i u) = operate [.str charsetO t, .int i u] (getItem (.str charsetO t) (.int i u)) := by with_unfolding_all rfl)
    (ht : ∀ r, letTemporaryGo value (.str charsetO t) r = pure () := by intro _; with_unfolding_all rfl) :
    wpAny (model prog w) A (subscriptTail value slice (.str (Str.ofString "qpzry9x8gf2tvdw0s3jn54khce6mua7l") t) (.int i u)) Q E s :=
  item_str (x := charsetO) (fitsSsize_of (N := 9223372036854775808) (by omega) (by omega) (Int.le_refl _)) (by rw [charsetO_length]; omega) (by rw [charsetO_length]; omega) (fun _ => (item_sign h0 h1).symm ▸ h) hs ht
theorem join_signs (f : Int → Nat) (l : List Int) : Txt.join (Str.ofString "") (l.map fun i => (⟨#[f i]⟩ : Str)) = ⟨(l.map f).toArray⟩ := by
  have h := join_nil_signs ⟨(l.map f).toArray⟩
  have e : signs ⟨(l.map f).toArray⟩ = l.map fun i => (⟨#[f i]⟩ : Str) := by
    simp only [signs, List.map_map]; rfl
  rw [e] at h
  have e0 : Str.ofString "" = ⟨#[]⟩ := by decide +kernel
  rw [e0]
  exact (StrLaws.glued_eq_join _ _).trans h
theorem sum_ones (f : Int → Nat) (l : List Int) : ((l.map fun i => (⟨#[f i]⟩ : Str)).map (·.length)).sum = l.length := by
  induction l with
  | nil => rfl
  | cons a r ih => simp only [List.map_cons, List.sum_cons, List.length_cons] at ih ⊢; rw [ih]; show 1 + r.length = _; omega
/-- what bech32_encode writes -/
def encZ (x : Str) (ns : List Int) : Str := x ++ Str.ofString "1" ++ ⟨((ns ++ createZ x ns).map signOf).toArray⟩
theorem createZ_lt (x : Str) (ns : List Int) : ∀ d ∈ createZ x ns, 0 ≤ d ∧ d < 32 := by
  intro d hd
  obtain ⟨i, _, rfl⟩ := List.mem_map.mp hd
  have h : ∀ z : Int, Builtin.bitAnd z 31 = z % 32 := bitAnd_m5
  rw [h]
  omega
local macro_rules | `(tactic| walk_at "call ref") => `(tactic| (k_here; refine halt_of ?_))
local macro_rules | `(tactic| walk_at "call type:list") => `(tactic| (k_here; refine halt_of ?_))
local macro_rules | `(tactic| walk_at "subscriptTail Name Name str int") => `(tactic| refine item_charset (by assumption) (by assumption) ?_)
local macro_rules | `(tactic| walk_at "call builtin:str.join") => `(tactic| (k_here; refine halt_of ?_))
local macro_rules | `(tactic| walk_at "binaryOp Add str str") => `(tactic| (k_here; refine halt_of ?_))
local macro_rules | `(tactic| walk_at "eval ListComp") => `(tactic| (k_here; refine halt_of ?_))
local macro_rules | `(tactic| tb_start) => `(tactic| ((case k1 => k_asm); (case k2 => k_asm); (case k3 => k_asm); (case k4 => k_asm); (case k5 => k_asm); (case kK => first | exact rfl | assumption); (case kd => ktr_room); (case ku => ktr_units)))
set_option maxRecDepth 100000 in
set_option maxHeartbeats 1000000 in
theorem encode_con (w : World) (mean : ExcName → Option Value) (mg mb : Str → Option Value) (news : List (Addr × Obj)) (x : Str) (tx : Tok) (dv : Value) (ns : List Int)
  (hlen : x.length < 2 ^ 10) (hcl : CanList dv news ns) (hlen2 : ns.length < 2 ^ 10) (hb : ∀ d ∈ ns, 0 ≤ d ∧ d < 32) : Cl w mean mg mb 5 43 [.str x tx, dv] news (RetS news (encZ x ns)) := by
  unfold Cl
  k_fill
  intro p loose dp un gd cn cs a ccd cl outer A₀ base h₀ L m s Q E B F X N T hk hd' hu hret
  have hE : (expandZ x).length < 2 ^ 12 := by rw [expandZ_length]; omega
  have hC := createZ_length x ns
  refine wpAny_call ?_
  k_dflt ktr_enter
  k_steps
  refine halt_in ?_
  rename News _ _ _ _ => N1
  rename Fr _ _ _ _ => F1
  refine hcl rfl F1 N1 (fun p hp => by repeat (first | assumption | apply List.Mem.tail)) ?_
  intro D2 us2 c2 h2 tk2 F2 N2 lt2 I2
  dsimp only
  k_steps
  refine halt_in ?_
  with_unfolding_all refine' Cl.use (create_con w mean mg mb ((D2, listOf us2.toArray c2) :: news) x tx dv ns hlen (hcl.mono fun p hp => .tail _ hp) hlen2) ?k1 ?k2 ?k3 ?k4 ?k5 ?kK ?kd ?ku ?_
  tb_start
  intro l3 us3 j3 h3 tk3 F3 N3 ne3 I3
  dsimp only
  k_steps
  refine halt_in ?_
  refine PyProof.Rows.add_str ?_ (by rw [show (Str.ofString "1").length = 1 from by decide +kernel, sizeLine_eq]; omega)
  intro t8 k8
  dsimp only
  k_steps
  refine halt_in ?_
  rename IntsAre _ _ => I4
  rename News _ _ _ _ => N4
  rename Fr _ _ _ _ => F4
  with_unfolding_all refine lc_ints F4 N4 (fun i => .str ⟨#[signOf i]⟩) rfl rfl (by decide) rfl (by decide) rfl (by intro _; rfl) (ld F4 rfl (halt_in ⟨_, _, _, rfl, News.isList N4 (.head _), I4, ?_, F4, N4, ?_, ?_⟩))
  · simp only [List.length_append, sizeLine_eq]; omega
  · intro C i t s₂ m₂ E' hC hi hn hm hkp
    have F6 := Fr.keeps F4 hkp
    have cE := InElt.start s₂.heap
    have hi2 : 0 ≤ i ∧ i < 32 := (List.mem_append.mp hi).elim (hb i) (createZ_lt x ns i)
    have hi0 := hi2.1
    have hi1 := hi2.2
    k_steps
    all_goals first | exact .str _ _ | exact ⟨_, _, rfl, cE⟩
  · intro D6 ys6 k6 h6 tk6 F6 N6 ne6 C6
    have I6 := C6.strsOf
    dsimp only
    k_steps
    refine halt_in ?_
    refine join_list (News.isList N6 (.head _)) I6 ?_ ?_
    · rw [sum_ones, List.length_map, List.length_append, show (Str.ofString "").length = 0 from by decide +kernel]; omega
    rw [join_signs]
    intro t7 k7
    dsimp only
    k_steps
    refine halt_in ?_
    refine PyProof.Rows.add_str ?_ ?_
    · intro t9 k9
      dsimp only
      k_steps
      rename Fr _ _ _ _ => Fz
      rename News _ _ _ _ => Nz
      exact hret _ _ _ Fz (cb_drop Nz (fun p hp => by repeat (first | assumption | apply List.Mem.tail)))
    · rw [Str.length_append, show (Str.ofString "1").length = 1 from by decide +kernel, sizeLine_eq]
      show _ + (List.toArray _).size ≤ _
      rw [List.size_toArray, List.length_map, List.length_append]
      omega
end Mine

namespace Mine
theorem signNe_fin : ∀ i : Fin 32, signOf ((i.val : Nat) : Int) ≠ 49 := by decide +kernel
theorem dec_cps {x b : Str} {ds : List Int} (hB : b = x ++ Str.ofString "1" ++ ⟨(ds.map signOf).toArray⟩) : b.cps.toList = x.cps.toList ++ ([49] ++ ds.map signOf) := by
  rw [hB]
  have e1 : ∀ u v : Str, (u ++ v).cps.toList = u.cps.toList ++ v.cps.toList := fun u v => Array.toList_append
  rw [e1, e1, show (Str.ofString "1").cps.toList = [49] from by decide +kernel, List.append_assoc]
theorem dec_len {x b : Str} {ds : List Int} (hB : b = x ++ Str.ofString "1" ++ ⟨(ds.map signOf).toArray⟩) : b.length = x.length + (1 + ds.length) := by
  have h := congrArg List.length (dec_cps hB)
  simp only [List.length_append, Array.length_toList, List.length_map, List.length_cons, List.length_nil] at h
  exact h
theorem str_of_toList {x y : Str} (h : x.cps.toList = y.cps.toList) : x = y := by
  cases x; cases y
  rw [Str.mk.injEq]
  exact Array.toList_inj.mp h
theorem dec_at {x b : Str} {ds : List Int} (hb : ∀ d ∈ ds, 0 ≤ d ∧ d < 32) (hB : b = x ++ Str.ofString "1" ++ ⟨(ds.map signOf).toArray⟩) : Txt.rfind b (Str.ofString "1") = (x.length : Int) := by
  have one : (Str.ofString "1").length = 1 := by decide +kernel
  have oneL : (Str.ofString "1").cps.toList = [49] := by decide +kernel
  have hl := dec_len hB
  have xl : x.cps.toList.length = x.length := Array.length_toList
  have hat : StrLaws.At b (Str.ofString "1") b.length x.length := by
    refine ⟨by rw [one]; omega, ?_⟩
    rw [StrLaws.subAt_eq, one, oneL, dec_cps hB]
    rw [List.drop_append_of_le_length (by omega), List.drop_of_length_le (by omega)]
    rfl
  rcases rfind_whole b (Str.ofString "1") with ⟨_, hn⟩ | ⟨i, he, hi, hn⟩
  · exact absurd hat (hn _)
  · rw [he]
    by_cases h1 : i < x.length
    · exact absurd hat (hn _ h1)
    by_cases h2 : i = x.length
    · rw [h2]
    have h3 : x.length < i := by omega
    obtain ⟨hi1, hi2⟩ := hi
    rw [one] at hi1
    rw [StrLaws.subAt_eq, one, oneL, dec_cps hB, List.drop_append, List.drop_of_length_le (by omega)] at hi2
    have h4 : i - x.cps.toList.length = (i - x.length - 1) + 1 := by omega
    rw [h4] at hi2
    have h5 : i - x.length - 1 < ds.length := by omega
    simp only [List.nil_append, List.cons_append, List.drop_succ_cons] at hi2
    rw [← List.map_drop, List.drop_eq_getElem_cons h5] at hi2
    simp only [List.map_cons, List.take_succ_cons, List.take_zero, beq_iff_eq, List.cons.injEq, and_true] at hi2
    have hd := hb _ (List.getElem_mem h5)
    have hs := signNe_fin ⟨(ds[i - x.length - 1]).toNat, by omega⟩
    have e : (((ds[i - x.length - 1]).toNat : Nat) : Int) = ds[i - x.length - 1] := by omega
    simp only [e] at hs
    exact absurd hi2 hs
theorem dec_fst {x b : Str} {ds : List Int} (hB : b = x ++ Str.ofString "1" ++ ⟨(ds.map signOf).toArray⟩) : Txt.slice b none (some (x.length : Int)) = x := by
  have hl := dec_len hB
  have xl : x.cps.toList.length = x.length := Array.length_toList
  rw [eq_of_beq (slice_closes_toL (x := b) (j := (x.length : Int)) (by omega) (by omega))]
  refine str_of_toList ?_
  show List.take _ (List.drop _ b.cps.toList) = _
  rw [dec_cps hB]
  have e : ((x.length : Int) - 0).toNat = x.length := by omega
  rw [e]
  show List.take _ (x.cps.toList ++ _) = _
  rw [List.take_append_of_le_length (by omega), List.take_of_length_le (by omega)]
theorem dec_snd {x b : Str} {ds : List Int} (hB : b = x ++ Str.ofString "1" ++ ⟨(ds.map signOf).toArray⟩) : Txt.slice b (some ((x.length : Int) + 1)) none = ⟨(ds.map signOf).toArray⟩ := by
  have hl := dec_len hB
  have xl : x.cps.toList.length = x.length := Array.length_toList
  rw [eq_of_beq (slice_closes_fromL (x := b) (i := (x.length : Int) + 1) (by omega) (by omega) rfl)]
  refine str_of_toList ?_
  show List.take _ (List.drop _ b.cps.toList) = ds.map signOf
  rw [dec_cps hB]
  have e : ((x.length : Int) + 1).toNat = x.length + 1 := by omega
  have e2 : ((b.length : Int) - ((x.length : Int) + 1)).toNat = ds.length := by omega
  rw [e, e2, List.drop_append, List.drop_of_length_le (by omega)]
  have e3 : x.length + 1 - x.cps.toList.length = 1 := by omega
  rw [e3]
  show List.take _ (ds.map signOf) = _
  rw [List.take_of_length_le (by rw [List.length_map]; omega)]
theorem find_fin : ∀ i : Fin 32, Txt.find charsetO ⟨#[signOf ((i.val : Nat) : Int)]⟩ = ((i.val : Nat) : Int) := by decide +kernel
theorem dec_find {ds : List Int} (hb : ∀ d ∈ ds, 0 ≤ d ∧ d < 32) : (⟨(ds.map signOf).toArray⟩ : Str).cps.toList.map (fun c => Txt.find charsetO ⟨#[c]⟩) = ds := by
  show (ds.map signOf).map _ = ds
  rw [List.map_map]
  refine Eq.trans (List.map_congr_left fun d hd => ?_) (List.map_id ds)
  have h := find_fin ⟨d.toNat, by have := hb d hd; omega⟩
  have e : ((d.toNat : Nat) : Int) = d := by have := hb d hd; omega
  simp only [e] at h
  exact h
end Mine

namespace Mine
/-- what bech32_decode hands back -/
abbrev RetD (news : List (Addr × Obj)) (P : Addr) (ps : Array Value) (x : Str) (ns : List Int) (h₀ : Heap) (L : Addr) (m : Str → Option Value) (s : Shared) (Q : Value → Shared → Prop) : Prop :=
  ∀ (tp l : Addr) (us : List Value) (k kt : Nat) (t : Tok) (ps' : Array Value) (s' : Shared), Fr h₀ L s'.heap m →
    News h₀ L s'.heap ((tp, ({ cls := .type "tuple", data := .seq [Value.str x t, Value.ref l].toArray kt } : Obj)) :: (l, listOf us.toArray k) :: (P, tblO ps') :: news) →
    (∀ p ∈ (l, listOf us.toArray k) :: (P, tblO ps') :: news, p.1 ≠ tp) → (∀ p ∈ (P, tblO ps') :: news, p.1 ≠ l) → IntsAre us ns → TriplesOk ps'.toList → (∃ more, ps' = ps ++ more) → AllBare s'.gens → s'.os = s.os → Q (.ref tp) s'
theorem retD_end {news : List (Addr × Obj)} {P : Addr} {ps : Array Value} {x : Str} {ns : List Int} {h₀ : Heap} {L : Addr} {m : Str → Option Value} {s : Shared} {Q : Value → Shared → Prop}
    (R : RetD news P ps x ns h₀ L m s Q) {tp l D : Addr} {us : List Value} {k kt : Nat} {t : Tok} {ps' : Array Value} {o : Obj} {s' : Shared} (F : Fr h₀ L s'.heap m)
    (N : News h₀ L s'.heap ((tp, ({ cls := .type "tuple", data := .seq [Value.str x t, Value.ref l].toArray kt } : Obj)) :: (l, listOf us.toArray k) :: (D, o) :: (P, tblO ps') :: news))
    (h1 : l < tp ∧ D < tp ∧ P < tp ∧ AllLt tp news) (h2 : D < l ∧ P < l ∧ AllLt l news) (I : IntsAre us ns) (ht : TriplesOk ps'.toList) (hm : ∃ more, ps' = ps ++ more) (hg : AllBare s'.gens) (ho : s'.os = s.os) : Q (.ref tp) s' := by
  refine R tp l us k kt t ps' s' F (cb_drop N fun p hp => ?_) (fun p hp => ?_) (fun p hp => ?_) I ht hm hg ho
  · rcases List.mem_cons.mp hp with rfl | hp
    · exact .head _
    rcases List.mem_cons.mp hp with rfl | hp
    · exact .tail _ (.head _)
    exact .tail _ (.tail _ (.tail _ hp))
  · rcases List.mem_cons.mp hp with rfl | hp
    · exact Nat.ne_of_lt h1.1
    rcases List.mem_cons.mp hp with rfl | hp
    · exact Nat.ne_of_lt h1.2.2.1
    exact Nat.ne_of_lt (kst_ltOf h1.2.2.2 p hp)
  · rcases List.mem_cons.mp hp with rfl | hp
    · exact Nat.ne_of_lt h2.2.1
    exact Nat.ne_of_lt (kst_ltOf h2.2.2 p hp)
local macro_rules | `(tactic| walk_at "call ref") => `(tactic| (k_here; refine halt_of ?_))
local macro_rules | `(tactic| walk_at "call builtin:any") => `(tactic| (k_here; refine halt_of ?_))
local macro_rules | `(tactic| walk_at "call builtin:all") => `(tactic| (k_here; refine halt_of ?_))
local macro_rules | `(tactic| walk_at "eval Name") => `(tactic| (k_here; (with_reducible show wpAny _ _ (eval (PySem.Expr.Name _ _) (genEnv _ _ _ _ _ _)) _ _ _); (with_reducible rename Fr _ _ _ _ => kF); first
  | (with_unfolding_all refine ldVarG kF (by assumption) ?_)
  | (k_dflt (refine' nameGB_K kF ?k1 ?k2 ?k3 ?k8 ?k9 ?_ ?k4 ?kb ?k5 ?k6 ?k7; (case k4 => rfl); (case kb => rfl); (case k5 => rfl); (case k6 => rfl); (case k7 => decide); (case k1 => k_asm); (case k2 => k_asm); (case k3 => k_is); (case k8 => boot_by_name); (case k9 => decide); k_whole))
  | (k_dflt (refine' nameG_K kF ?k1 ?k2 ?k3 ?_ ?k4 ?k5 ?k6 ?k7; (case k4 => rfl); (case k5 => rfl); (case k6 => rfl); (case k7 => decide); (case k1 => k_asm); (case k2 => k_asm); (case k3 => k_is); k_whole))))
local macro_rules | `(tactic| walk_at "eval ListComp") => `(tactic| (k_here; refine halt_of ?_))
local macro_rules | `(tactic| walk_at "exec Assign cons ListComp") => `(tactic| (k_here; refine halt_of ?_))
local macro_rules | `(tactic| walk_at "eval GeneratorExp") => `(tactic| (k_here; refine halt_of ?_))
local macro_rules | `(tactic| tb_start) => `(tactic| ((case k1 => k_asm); (case k2 => k_asm); (case k3 => k_asm); (case k4 => k_asm); (case k5 => k_asm); (case kK => first | exact rfl | assumption); (case kd => ktr_room); (case ku => ktr_units)))
local macro_rules | `(tactic| walk_at "call builtin:str.lower") => `(tactic| (k_here; refine halt_of ?_))
local macro_rules | `(tactic| walk_at "call builtin:str.rfind") => `(tactic| (k_here; refine halt_of ?_))
local macro_rules | `(tactic| walk_at "compareOp NotEq str str") => `(tactic| (k_here; refine halt_of ?_))
theorem in_fin : ∀ i : Fin 32, (!(Builtin.Str.occurrences (Str.ofString "qpzry9x8gf2tvdw0s3jn54khce6mua7l") ⟨#[signOf ((i.val : Nat) : Int)]⟩ 0 (Str.ofString "qpzry9x8gf2tvdw0s3jn54khce6mua7l").length 1).isEmpty) = true := by decide +kernel
theorem dec_in {ds : List Int} {c : Nat} (hb : ∀ d ∈ ds, 0 ≤ d ∧ d < 32) (hc : c ∈ (⟨(ds.map signOf).toArray⟩ : Str).cps.toList) : (!(Builtin.Str.occurrences (Str.ofString "qpzry9x8gf2tvdw0s3jn54khce6mua7l") ⟨#[c]⟩ 0 (Str.ofString "qpzry9x8gf2tvdw0s3jn54khce6mua7l").length 1).isEmpty) = true := by
  obtain ⟨d, hd, rfl⟩ := List.mem_map.mp (show c ∈ ds.map signOf from hc)
  have h := in_fin ⟨d.toNat, by have := hb d hd; omega⟩
  have e : ((d.toNat : Nat) : Int) = d := by have := hb d hd; omega
  simpa only [e] using h
def okS (c : Nat) : Prop := 33 ≤ c ∧ c ≤ 126 ∧ ¬ (65 ≤ c ∧ c ≤ 90)
theorem sign_fin : ∀ i : Fin 32, 48 ≤ signOf ((i.val : Nat) : Int) ∧ signOf ((i.val : Nat) : Int) ≤ 122 ∧ signOf ((i.val : Nat) : Int) ≠ 49 ∧ ¬ (65 ≤ signOf ((i.val : Nat) : Int) ∧ signOf ((i.val : Nat) : Int) ≤ 90) := by decide +kernel
theorem sign_ok {d : Int} (h0 : 0 ≤ d) (h1 : d < 32) : 48 ≤ signOf d ∧ signOf d ≤ 122 ∧ signOf d ≠ 49 ∧ ¬ (65 ≤ signOf d ∧ signOf d ≤ 90) := by
  have h := sign_fin ⟨d.toNat, by omega⟩
  have e : ((d.toNat : Nat) : Int) = d := by omega
  simpa only [e] using h
theorem enc_cps {x b : Str} {ds : List Int} (hB : b = x ++ Str.ofString "1" ++ ⟨(ds.map signOf).toArray⟩) : b.cps.toList = x.cps.toList ++ [49] ++ ds.map signOf := by
  rw [hB]
  have e1 : ∀ u v : Str, (u ++ v).cps.toList = u.cps.toList ++ v.cps.toList := fun u v => Array.toList_append
  rw [e1, e1, show (Str.ofString "1").cps.toList = [49] from by decide +kernel]
theorem enc_ok {x b : Str} {ds : List Int} (hB : b = x ++ Str.ofString "1" ++ ⟨(ds.map signOf).toArray⟩) (hb : ∀ d ∈ ds, 0 ≤ d ∧ d < 32) (hx : ∀ c ∈ x.cps.toList, okS c) : ∀ c ∈ b.cps.toList, okS c := by
  rw [enc_cps hB]
  intro c hc
  rcases List.mem_append.mp hc with hc | hc
  · rcases List.mem_append.mp hc with hc | hc
    · exact hx c hc
    · rw [List.mem_singleton.mp hc]; exact ⟨by decide, by decide, by decide⟩
  · obtain ⟨d, hd, rfl⟩ := List.mem_map.mp hc
    have h := sign_ok (hb d hd).1 (hb d hd).2
    exact ⟨by omega, by omega, h.2.2.2⟩
theorem carried_bool {a b : Bool} (h : a = b) : Carried (.bool a) (.bool b) := h ▸ .bool _
set_option maxRecDepth 100000 in
set_option maxHeartbeats 400000 in
theorem decode_con (w : World) (mean : ExcName → Option Value) (mg mb : Str → Option Value) (news : List (Addr × Obj)) (P : Addr) (ps : Array Value) (x b : Str) (tx : Tok) (ds : List Int)
  (hx1 : 1 ≤ x.length) (hx2 : x.length ≤ 83) (hlen2 : ds.length < 2 ^ 9) (hlen3 : 6 ≤ ds.length) (hb : ∀ d ∈ ds, 0 ≤ d ∧ d < 32) (hx : ∀ c ∈ x.cps.toList, okS c)
  (hB : b = x ++ Str.ofString "1" ++ ⟨(ds.map signOf).toArray⟩)
  (hP : (expandZ x ++ ds).foldl stepZ 1 = 1)
  (hne : ∀ p ∈ news, p.1 ≠ P) (htr : TriplesOk ps.toList) : Cl w mean mg mb 8 48 [.str b tx] ((P, tblO ps) :: news) (fun h₀ L m s Q => CodeOf h₀ 47 P ∧ AllBare s.gens ∧ RetD news P ps x (ds.take (ds.length - 6)) h₀ L m s Q) := by
  unfold Cl
  k_fill
  intro p loose dp un gd cn cs a ccd cl outer A₀ base h₀ L m s Q E B F X N T hk hd' hu ⟨hC, hG, hret⟩
  have hlb : b.length = x.length + 1 + ds.length := by
    rw [hB, Str.length_append, Str.length_append, show (Str.ofString "1").length = 1 from by decide +kernel]
    show _ + (List.toArray _).size = _
    rw [List.size_toArray, List.length_map]
  have hS := enc_ok hB hb hx
  have hS2 : KXs.Still b := fun c hc => by have h := hS c hc; unfold okS at h; omega
  refine wpAny_call ?_
  k_dflt ktr_enter
  rename Below _ _ _ _ => B1
  rename Top _ _ _ _ _ _ => T1
  rename Fr h₀ _ _ _ => FG
  have C1 : CodeOf _ 47 P := CodeOf.keeps hC (Fr.keep FG)
  obtain ⟨bm, ob, M1⟩ := bmod_of_top T1
  have hl1 := T1.nolimit
  k_steps
  refine halt_in ?_
  rename Fr _ _ _ _ => F1
  rename News _ _ _ _ => N1
  with_unfolding_all refine ge_str (c := 47) (cl := []) (fun _ => false) F1 hne C1 htr M1 hl1 rfl rfl rfl rfl (by decide) rfl rfl rfl (by ktr_room) (by intro _; rfl) (ld F1 rfl (halt_in ⟨b, tx, rfl, F1, N1, hG, ?_, ?_⟩))
  · intro c' C A' E' cc u st m₂ hA hAd hAu hcc F2 hm2
    have h33 := (hS cc hcc).1
    have h126 := (hS cc hcc).2.1
    k_steps
    all_goals first | exact ⟨_, _, rfl, fun _ _ e => e⟩ | (refine carried_bool (decide_eq_false ?_); omega)
  · intro a1 Kb1 s1 ps1 F2 N2 ht2 hmore2 hG2 hos2 X2 hLK hKb
    try dsimp only
    k_steps
    refine halt_in ?_
    refine any_genD F2 hG2 X2 hLK ?_
    intro s2 F3 hG3 hos3 hk3
    have N3 : News _ _ s2.heap ((P, tblO ps1) :: news) := fun p hp => ⟨hk3 _ _ (hKb p hp) (N2 p hp).1, (N2 p hp).2⟩
    rw [show (b.cps.toList.filter fun _ => true).any (fun _ => false) = false from List.any_eq_false.mpr fun _ _ => Bool.false_ne_true]
    clear N2 F2 X2 hk3
    try dsimp only
    k_steps
    refine halt_in ?_
    refine KXs.lower_K hS2 (by omega) ?_
    intro t3 k3
    try dsimp only
    k_steps
    refine halt_in ?_
    refine PyProof.Rows.ne_str ?_
    rw [bne_self_eq_false]
    try dsimp only
    k_steps
    refine halt_in ?_
    refine KXs.lower_K hS2 (by omega) ?_
    intro t4 k4
    try dsimp only
    k_steps
    refine halt_in ?_
    refine SC.rfind ?_
    rw [dec_at hb hB]
    try dsimp only
    k_steps
    refine halt_in ?_
    rename Fr _ _ _ _ => F4
    rename News _ _ _ _ => N4
    obtain ⟨more2, hm2⟩ := hmore2
    with_unfolding_all refine ge_str (c := 47) (cl := []) (fun _ => true) F4 hne C1 ht2 M1 hl1 rfl rfl rfl rfl (by decide) rfl rfl rfl (by ktr_room) (by intro _; rfl) ?_
    k_steps
    refine halt_in ?_
    rw [dec_snd hB]
    rename Fr _ _ _ _ => F4b
    rename News _ _ _ _ => N4b
    refine ⟨_, _, rfl, F4b, N4b, hG3, ?_, ?_⟩
    · intro c' C A' E' cc u st m₂ hA hAd hAu hcc F5 hm5
      have hin := dec_in hb hcc
      k_steps
      all_goals first | exact ⟨_, _, rfl, fun _ _ e => e⟩ | exact carried_bool hin
    intro a5 Kb5 s5 ps5 F5 N5 ht5 hmore5 hG5 hos5 X5 hLK5 hKb5
    try dsimp only
    k_steps
    refine halt_in ?_
    refine all_genD F5 hG5 X5 hLK5 ?_
    intro s6 F6 hG6 hos6 hk6
    have N6 : News _ _ s6.heap ((P, tblO ps5) :: news) := fun p hp => ⟨hk6 _ _ (hKb5 p hp) (N5 p hp).1, (N5 p hp).2⟩
    rw [List.all_eq_true.mpr fun _ _ => rfl]
    clear N5 F5 X5 hk6
    try dsimp only
    k_steps
    refine halt_in ?_
    rename Fr _ _ _ _ => F7
    rename News _ _ _ _ => N7
    rw [dec_fst hB] at F7
    with_unfolding_all refine asg_str F7 N7 (fun c => .int (Txt.find charsetO ⟨#[c]⟩)) rfl rfl rfl rfl (by decide) rfl (by decide) rfl rfl rfl (by intro _; rfl) ?_
    k_steps
    refine halt_in ?_
    rename Fr _ _ _ _ => F8
    rename News _ _ _ _ => N8
    rw [dec_snd hB]
    refine ⟨_, _, rfl, ?_, F8, N8, ?_, ?_⟩
    · rw [sizeLine_eq]
      show (List.toArray _).size ≤ _
      rw [List.size_toArray, List.length_map]
      omega
    · intro C c u s₂ m₂ E' hC hc hn hm hkp
      have F9 := Fr.keeps F8 hkp
      have cE := InElt.start s₂.heap
      k_steps
      all_goals first | exact .int _ _ | exact ⟨_, _, rfl, cE⟩
    intro D9 ys9 k9 h9 tk9 F9 N9 ne9 CA9
    have I9 := CA9.intsOf
    rw [dec_find hb] at I9
    clear CA9
    try dsimp only
    k_steps
    refine halt_in ?_
    with_unfolding_all refine' Cl.use (verify_con w mean mg mb ((D9, listOf ys9.toArray k9) :: (P, tblO ps5) :: news) x _ D9 ys9 ds k9 (by omega) (by exact .head _) I9 (by omega)) ?k1 ?k2 ?k3 ?k4 ?k5 ?kK ?kd ?ku ?_
    tb_start
    intro h10 tk10 F10 N10
    rw [show ((expandZ x ++ ds).foldl stepZ 1 == 1) = true from by rw [hP]; rfl]
    dsimp only
    k_steps
    rename Fr _ _ _ _ => Fz
    rename News _ _ _ _ => Nz
    rename _ < _ ∧ _ < _ ∧ _ < _ ∧ AllLt _ _ => Lz
    rename _ < _ ∧ _ < _ ∧ AllLt _ _ => Ly
    rename IntsAre _ (List.take _ _) => Iz
    obtain ⟨more5, hm5⟩ := hmore5
    exact retD_end hret Fz Nz Lz Ly Iz ht5 ⟨more2 ++ more5, by rw [hm5, hm2, Array.append_assoc]⟩ hG6 (hos6.trans (hos5.trans (hos3.trans hos2)))
end Mine

namespace Mine
section
variable {prog : Program} {w : World} {A : Around} {E : Value → Shared → Prop} {s : Shared} {env : Env} {h₀ : Heap} {x : Str} {body : List Stmt} {Q : Flow → Shared → Prop}
/-- a loop over an iterator just made whose source is of the ledger -/
theorem iter_heldN {ax : Addr} {oax oi : Obj} {n : Nat} {Pv : Nat → Value → Prop} {St : Nat → Heap → Prop} {m₀ : Str → Option Value} {news : List (Addr × Obj)} (J : Nat → (Str → Option Value) → List (Addr × Obj) → Prop)
    (hax : (ax, oax) ∈ news) (W : Walks prog w A s.heap.objs.size [s.heap.objs.size, ax] [s.heap.objs.size] n Pv St) (hst : St 0 (s.heap.push oi))
    (F : Fr h₀ env.locals s.heap m₀) (N : News h₀ env.locals s.heap news) (hj : J 0 m₀ news)
    (turn : ∀ i v m₁ news₁ h tk own, i < n → Pv i v → (ax, oax) ∈ news₁ → OwnOff own (news.map (·.1)) → J i m₁ news₁ → Fr h₀ env.locals h (fun y => if y = x then some v else m₁ y) → News h₀ env.locals h (news₁ ++ own) →
      wpAny (model prog w) A (execs body env) (InvPostN h₀ env.locals (fun m' nx => (ax, oax) ∈ nx ∧ J (i + 1) m' nx) own (news.map (·.1)) { s with heap := h, toks := tk } Q) E { s with heap := h, toks := tk })
    (done : ∀ m₁ news₁ h tk, J n m₁ news₁ → Fr h₀ env.locals h m₁ → News h₀ env.locals h news₁ → Q .next { s with heap := h, toks := tk }) :
    LoopAtV prog w A h₀ env x body Q E (.ref s.heap.objs.size) { s with heap := s.heap.push oi } := by
  have small : ∀ p ∈ news, p.1 ≠ s.heap.objs.size := fun p hp e => absurd (Heap.lt_size (N p hp).1) (by rw [e]; exact Nat.lt_irrefl _)
  refine ⟨_, _, _, n, _, _, m₀, news, (fun i m nx => nx.map (·.1) = news.map (·.1) ∧ (ax, oax) ∈ nx ∧ J i m nx), rfl, W, ?_, ?_, ?_, hst, F.push _, (fun p hp => ⟨Heap.get?_push_of_some _ (N p hp).1, (N p hp).2⟩), ⟨rfl, hax, hj⟩, ?_, ?_⟩
  · intro hm
    rcases List.mem_cons.mp hm with e | hm
    · exact absurd F.ns.lt (e ▸ Nat.lt_irrefl _)
    · exact (N _ hax).2.1 ((List.mem_singleton.mp hm).symm)
  · intro b hb
    rw [List.mem_singleton.mp hb]
    exact next_is_new F
  · intro p hp hI
    exact small p hp (List.mem_singleton.mp hI)
  · rintro i v m₁ news₁ s₁ own ⟨hh', tk', rfl⟩ hin hP ⟨hadr, hl₁, hJ⟩ _ hown hget _ _ F₁ N₁
    -- what the turn may not touch: the iterator alone
    let mine := own.filter fun p => decide (p.1 = s.heap.objs.size)
    have hmine : ∀ p ∈ mine, p ∈ own ∧ p.1 = s.heap.objs.size := fun p hp => ⟨(List.mem_filter.mp hp).1, of_decide_eq_true (List.mem_filter.mp hp).2⟩
    have hsep : OwnOff mine (news.map (·.1)) := by
      intro p hp b hb e
      obtain ⟨q, hq, rfl⟩ := List.mem_map.mp hb
      exact small q hq (e.symm.trans (hmine p hp).2)
    have N₂ : News h₀ env.locals hh' (news₁ ++ mine) := fun p hp => N₁ p ((List.mem_append.mp hp).elim (fun h => List.mem_append.mpr (.inr h)) fun h => List.mem_append.mpr (.inl (hmine p h).1))
    have hao : hh'.get? ax = some oax := (N₁ _ (List.mem_append.mpr (.inr hl₁))).1
    refine wpAny_mono (turn i v m₁ news₁ hh' tk' mine hin hP hl₁ hsep hJ F₁ N₂) (fun f s₂ p => ?_) fun _ _ e => e
    have fin : InvEndN h₀ env.locals (fun m' nx => (ax, oax) ∈ nx ∧ J (i + 1) m' nx) mine (news.map (·.1)) { s with heap := hh', toks := tk' } s₂ →
        LoopStepU h₀ env.locals [s.heap.objs.size] own (fun m nx => nx.map (·.1) = news.map (·.1) ∧ (ax, oax) ∈ nx ∧ J (i + 1) m nx) { s with heap := hh', toks := tk' } .next s₂ := by
      rintro ⟨h', tk, m', news', nx, e, F', N', hn, ho, ha, hm⟩
      refine ⟨rfl, h', tk, m', nx, e, F', fun p hp => (List.mem_append.mp hp).elim (fun h => ?_) (fun h => N' p (hn p h)), fun p hp hI => ?_, ha, hm⟩
      · rcases List.mem_cons.mp (hown p h) with h2 | h2
        · exact N' p (ho p (List.mem_filter.mpr ⟨h, decide_eq_true h2⟩))
        · have h1 : p.1 = ax := List.mem_singleton.mp h2
          have h3 := hget p h
          rw [h1] at h3
          have h4 : p = (ax, oax) := Prod.ext h1 (Option.some.inj (h3.symm.trans hao))
          rw [h4]
          exact N' _ (hn _ hm.1)
      · have h1 : p.1 ∈ nx.map (·.1) := List.mem_map.mpr ⟨p, hp, rfl⟩
        rw [ha] at h1
        obtain ⟨q, hq, e⟩ := List.mem_map.mp h1
        exact small q hq (e.trans (List.mem_singleton.mp hI))
    cases f with
    | ret v => exact .ret p
    | brk => exact .brk p
    | next => exact .next (fin p)
    | cont => exact .cont (fin p)
  · rintro h' tk m' news' F' N' _ ⟨_, _, hJ⟩
    exact done m' news' h' tk hJ F' N'
end
/-- a for over dv takes the ints ns -/
def CanWalk (dv : Value) (news : List (Addr × Obj)) (ns : List Int) : Prop :=
  ∀ {prog : Program} {w : World} {A : Around} {E : Value → Shared → Prop} {s : Shared} {env : Env} {h₀ : Heap} {x : Str} {body : List Stmt} {Q : Flow → Shared → Prop} {σ : Type} {m₀ : Str → Option Value}
    (Led : σ → List (Addr × Obj)) (ps : σ → List (Str × Value)) (Facts : σ → Prop) (stored : List Str) (P : List Int → σ → Prop) (c₀ : σ),
    A.handled = none → (∀ c : σ, ∀ p ∈ news, p ∈ Led c) → Fr h₀ env.locals s.heap m₀ → News h₀ env.locals s.heap (Led c₀) → Facts c₀ → (∀ p ∈ ps c₀, m₀ p.1 = some p.2) → P [] c₀ →
    (∀ (c : σ) pre post n t (u : Str → Option Value) h tk own, ns = pre ++ n :: post → n ∈ ns → OwnOff own ((Led c₀).map (·.1)) → Facts c → P pre c →
      Fr h₀ env.locals h (fun y => if y = x then some (.int n t) else kstB (fun z => if stored.contains z then u z else m₀ z) (ps c) y) → News h₀ env.locals h (Led c ++ own) →
      wpAny (model prog w) A (execs body env) (InvPostN h₀ env.locals (KstS Led ps Facts x stored m₀ P (pre ++ [n])) own ((Led c₀).map (·.1)) { s with heap := h, toks := tk } Q) E { s with heap := h, toks := tk }) →
    (∀ (c : σ) (u : Str → Option Value) h tk, Facts c → P ns c → Fr h₀ env.locals h (fun y => if y = x then u y else kstB (fun z => if stored.contains z then u z else m₀ z) (ps c) y) → News h₀ env.locals h (Led c) → Q .next { s with heap := h, toks := tk }) →
    wpAny (model prog w) A (pyIter dv) (fun it s₂ => LoopAtV prog w A h₀ env x body Q E it s₂) E s
theorem CanWalk.mono {dv : Value} {news news' : List (Addr × Obj)} {ns : List Int} (h : CanWalk dv news ns) (hs : ∀ p ∈ news, p ∈ news') : CanWalk dv news' ns := by
  intro prog w A E s env h₀ x body Q σ m₀ Led ps Facts stored P c₀ hA hL
  exact h Led ps Facts stored P c₀ hA (fun c p hp => hL c p (hs p hp))
theorem canWalk_list {l : Addr} {news : List (Addr × Obj)} {vs : List Value} {ns : List Int} {n : Nat} (hl : (l, listOf vs.toArray n) ∈ news) (hi : IntsAre vs ns) : CanWalk (.ref l) news ns := by
  intro prog w A E s env h₀ x body Q σ m₀ Led ps Facts stored P c₀ hA hL F N hf hk hp turn done
  exact kst_listL Led ps Facts stored P c₀ hA (fun c => hL c _ hl) hi F N hf hk hp turn done
/-- one step of the list's own counting -/
theorem take_step {ns : List Int} {i : Nat} {n : Int} (hn : ns[i]? = some n) : ns.take (i + 1) = ns.take i ++ [n] ∧ ns = ns.take i ++ n :: ns.drop (i + 1) := by
  have hs : ns.take (i + 1) = ns.take i ++ [n] := by simp [List.take_add_one, hn]
  refine ⟨hs, ?_⟩
  have ht := List.take_append_drop (i + 1) ns
  rw [hs, List.append_assoc] at ht
  exact ht.symm
theorem canWalk_tuple {l : Addr} {news : List (Addr × Obj)} {vs : List Value} {ns : List Int} {n : Nat} (hl : (l, ({ cls := .type "tuple", data := .seq vs.toArray n } : Obj)) ∈ news) (hi : IntsAre vs ns) : CanWalk (.ref l) news ns := by
  intro prog w A E s env h₀ x body Q σ m₀ Led ps Facts stored P c₀ hA hL F N hf hk hp turn done
  have hol := (N _ (hL c₀ _ hl)).1
  have ht : s.heap.IsTuple l vs.toArray := ⟨_, hol, rfl, n, rfl⟩
  have hne : l ≠ s.heap.objs.size := Nat.ne_of_lt (Heap.lt_size hol)
  refine wpAny_pyIter_tuple ht ?_
  have W := Walks.tuple (prog := prog) (w := w) hA s.heap.objs.size l hne vs.toArray
  have hlen : vs.toArray.size = ns.length := by rw [List.size_toArray, hi.length]
  rw [hlen] at W
  refine iter_heldN (fun i m nx => KstS Led ps Facts x stored m₀ P (ns.take i) m nx) (hL c₀ _ hl) W ⟨⟨_, Heap.get?_push_size _ rfl, rfl, rfl⟩, ht.at fun o e => Heap.get?_push_of_some _ e⟩ F N ⟨c₀, rfl, hf, hk, fun _ _ _ _ => rfl, by simpa using hp⟩ ?_ ?_
  · rintro i v m₁ nx h tk own hin hP _ hoff ⟨c, rfl, hf', h1, h2, hp'⟩ F₁ N₁
    obtain ⟨t, hx⟩ := hi.get i ns[i] (by simp [hin])
    have hv : v = .int ns[i] t := by
      have hP' : vs[i]? = some v := by simpa using hP
      rw [hx] at hP'
      exact (Option.some.inj hP').symm
    subst hv
    obtain ⟨hs, e⟩ := take_step (ns := ns) (i := i) (n := ns[i]) (by simp [hin])
    rw [hs]
    refine wpAny_mono (turn c _ _ _ t m₁ h tk own e (List.getElem_mem hin) hoff hf' hp' (kst_fr h1 h2 F₁) N₁) (fun f s₂ p => ?_) fun _ _ x => x
    have up : InvEndN h₀ env.locals (KstS Led ps Facts x stored m₀ P (ns.take i ++ [ns[i]])) own ((Led c₀).map (·.1)) { s with heap := h, toks := tk } s₂ → InvEndN h₀ env.locals (fun m' nx => (l, ({ cls := .type "tuple", data := .seq vs.toArray n } : Obj)) ∈ nx ∧ KstS Led ps Facts x stored m₀ P (ns.take i ++ [ns[i]]) m' nx) own ((Led c₀).map (·.1)) { s with heap := h, toks := tk } s₂ := by
      rintro ⟨h', tk', m', news', nx', e', F', N', hn', ho', ha, hS⟩
      refine ⟨h', tk', m', news', nx', e', F', N', hn', ho', ha, ?_, hS⟩
      obtain ⟨c', rfl, _⟩ := hS
      exact hL c' _ hl
    cases f with
    | ret v => exact p
    | brk => exact p
    | next => exact up p
    | cont => exact up p
  · rintro m₁ nx h tk ⟨c, rfl, hf', h1, h2, hp'⟩ F₁ N₁
    rw [List.take_length] at hp'
    exact done c m₁ h tk hf' hp' (kst_frOut h1 h2 F₁) N₁
end Mine

namespace Mine
section
variable {prog : Program} {w : World} {A : Around} {E : Value → Shared → Prop} {s : Shared}
set_option maxRecDepth 100000
theorem ext_bytes {R : Result → Shared → Prop} (hh : A.handled = none) (b : Array UInt8) (t : Tok) (S : Addr) (res : Value) (c₀ : Nat) (hS : s.heap.get? S = some { cls := .type "list", data := .seq #[] c₀ })
    (hR : ∀ h' tk acc' c', (∀ a o, a ≠ S → s.heap.get? a = some o → h'.get? a = some o) → h'.get? S = some { cls := .type "list", dict := none, data := .seq acc' c', slots := #[] } →
      ItemsOf (fun i v => ∃ c u, b[i]? = some c ∧ v = .int (c.toNat : Int) u) acc' b.size → R (.ok (.ret res)) { s with heap := h', toks := tk }) (hn : b.size ≤ sizeLine) :
    wpAny (model prog w) A.in1 (Builtin.List.listExtendWith (.ref S) (.bytes b t) res)
      (fun fin s' => match fin with | .done f => R (.ok f) s' | .again c' => c'.quiet = true ∧ codeAny (model prog w) A c' R s') (fun e s' => R (.error e) s') s := by
  have hSI : S ≠ s.heap.objs.size := Nat.ne_of_lt (Heap.lt_size hS)
  have hSf : S ∉ [s.heap.objs.size] := fun hm => hSI (List.mem_singleton.mp hm)
  unfold Builtin.List.listExtendWith
  refine wpAny_bind (wpAny_typeOf (T := "bytes") (v := .bytes b t) rfl ?_)
  have h1 : Builtin.List.listSameRef (.ref S) (.bytes b t) = false := rfl
  have h2 : (Value.type "bytes" == Value.type "list") = false := by decide
  have h3 : (Value.type "bytes" == Value.type "tuple") = false := by decide
  simp only [h1, h2, h3, Bool.or_false, Bool.false_eq_true, if_false]
  refine wpAny_bind (KBw.pyIter_bytes ?_)
  refine wpAny_bind (wpAny_holding ?_)
  unfold Builtin.List.listLengthHint
  refine wpAny_bind (wpAny_specialOf (T := "bytes") (v := .bytes b t) rfl FB.slot_bytes_len.lookup ?_)
  wp_delta
  refine wpAny_bind (wpAny_isInstance (T := "bytes") (v := .bytes b t) (b := true) rfl (by rw [isSubtype_type]; kernel_rfl) ?_)
  show wpAny _ _ (typeOf (Value.bytes b t) >>= _) _ _ _
  refine wpAny_bind (wpAny_typeOf (T := "bytes") (v := .bytes b t) rfl ?_)
  refine wpAny_pure ?_
  rw [if_neg (by decide)]
  have W := KBw.walks (prog := prog) (w := w) (A := A.in1) hh s.heap.objs.size b t
  refine wpAny_pure ⟨plainId_quiet F.plain_extend_loop _, codeAny_extend_loopS W.toS hn _ hSf _ b.size 0 _ _ _ rfl (Nat.zero_le _) ⟨_, Heap.get?_push_size _ rfl, rfl, rfl⟩ (Heap.get?_push_of_some _ hS) (ItemsOf.nil _) fun s' acc' c' hm hS' hacc => ?_⟩
  rw [Moved.eq_with hm]
  refine hR s'.heap s'.toks acc' c' (fun a ob hb e => hm.heap a ob (fun hmem => ?_) (Heap.get?_push_of_some _ e)) hS' hacc
  rcases List.mem_cons.mp hmem with e' | hmem
  · exact hb e'
  · exact absurd (Heap.lt_size e) (by rw [List.mem_singleton.mp hmem]; exact Nat.lt_irrefl _)
theorem init_bytes {R : Result → Shared → Prop} (hh : A.handled = none) (b : Array UInt8) (t : Tok) (S : Addr) (hS : s.heap.get? S = some { cls := .type "list", data := .seq #[] })
    (hR : ∀ h' tk acc' c', (∀ a o, a ≠ S → s.heap.get? a = some o → h'.get? a = some o) → h'.get? S = some { cls := .type "list", dict := none, data := .seq acc' c', slots := #[] } →
      ItemsOf (fun i v => ∃ c u, b[i]? = some c ∧ v = .int (c.toNat : Int) u) acc' b.size → R (.ok (.ret .none)) { s with heap := h', toks := tk }) (hn : b.size ≤ sizeLine) :
    wpAny (model prog w) A.in1 (Builtin.«list.__init__» ⟨[.ref S, .bytes b t], []⟩)
      (fun fin s' => match fin with | .done f => R (.ok f) s' | .again c' => c'.quiet = true ∧ codeAny (model prog w) A c' R s') (fun e s' => R (.error e) s') s := by
  show wpAny _ _ (do let old ← Builtin.List.listItems (.ref S); Builtin.List.listUpdate (.ref S) (fun _ => #[]); letGo old.toList.reverse; Builtin.List.listExtendWith (.ref S) (.bytes b t) .none) _ _ s
  refine wpAny_bind ?_
  unfold Builtin.List.listItems
  refine wpAny_bind (wpAny_seqItems hS rfl (wpAny_pure ?_))
  show wpAny _ _ (updateSeq S (fun _ => #[]) >>= fun _ => letGo (#[] : Array Value).toList.reverse >>= fun _ => Builtin.List.listExtendWith (.ref S) (.bytes b t) .none) _ _ s
  refine wpAny_bind (wpAny_updateSeq hS rfl ?_)
  have hS₂ := Heap.get?_update_self (Obj.mapSeq (fun _ => (#[] : Array Value))) hS rfl
  have oth : ∀ a o, a ≠ S → s.heap.get? a = some o → (s.heap.update S (Obj.mapSeq (fun _ => (#[] : Array Value)))).get? a = some o :=
    fun a o hb e => (Heap.get?_update_other _ _ (Ne.symm hb)).trans e
  refine wpAny_bind (wpAny_letGo ?_)
  refine ext_bytes hh b t S .none _ hS₂ (fun h' tk acc' c' hk hS' hacc => ?_) hn
  exact hR h' tk acc' c' (fun a o hb e => hk a o hb (oth a o hb e)) hS' hacc
theorem call_list_bytes {Q : Value → Shared → Prop} (hh : A.handled = none) (b : Array UInt8) (t : Tok)
    (hQ : ∀ h' tk acc' c', (∀ a o, s.heap.get? a = some o → h'.get? a = some o) →
      h'.get? s.heap.objs.size = some { cls := .type "list", dict := none, data := .seq acc' c', slots := #[] } → ItemsOf (fun i v => ∃ c u, b[i]? = some c ∧ v = .int (c.toNat : Int) u) acc' b.size → Q (.ref s.heap.objs.size) { s with heap := h', toks := tk }) (hn : b.size ≤ sizeLine) :
    wpAny (model prog w) A (call (.type "list") [.bytes b t]) Q E s := by
  refine callType_codes (Q₁ := fun obj s₁ => obj = .ref s.heap.objs.size ∧ s₁ = { s with heap := s.heap.push { cls := .type "list", data := .seq #[] } }) F.called_list (F.typeCall_list_1 _) F.entry_list_init
    (code_list_new _ ⟨rfl, rfl⟩) fun obj s₁ h₁ => ?_
  obtain ⟨rfl, rfl⟩ := h₁
  have hS : (s.heap.push { cls := .type "list", data := .seq #[] }).get? s.heap.objs.size = some { cls := .type "list", data := .seq #[] } := Heap.get?_push_size _ rfl
  refine ⟨⟨_, hS, rfl⟩, F.args_list_init_2 _ _, init_bytes (A := A.in1) hh b t _ hS (fun h' tk acc' c' hk hS' hacc => ?_) hn⟩
  exact ⟨rfl, hQ h' tk acc' c' (fun a o e => hk a o (Nat.ne_of_lt (Heap.lt_size e)) (Heap.get?_push_of_some _ e)) hS' hacc⟩
end
theorem ints_of_get : ∀ (vs : List Value) (ns : List Int), vs.length = ns.length → (∀ (j : Nat) v, vs[j]? = some v → ∃ n t, ns[j]? = some n ∧ v = .int n t) → IntsAre vs ns
  | [], [], _, _ => IntsAre.nil
  | [], _ :: _, h, _ => nomatch h
  | _ :: _, [], h, _ => nomatch h
  | v :: vs, n :: ns, hl, h => by
    obtain ⟨n', t, e, rfl⟩ := h 0 v rfl
    cases e
    exact IntsAre.cons n t (ints_of_get vs ns (Nat.succ.inj hl) fun j v' hv => h (j + 1) v' hv)
theorem canList_bytes {b : Array UInt8} {tb : Tok} {news : List (Addr × Obj)} {ns : List Int} (hb : KBw.bInts b = ns) (hz : ns.length < 2 ^ 20) : CanList (.bytes b tb) news ns := by
  subst hb
  intro prog w A E s h₀ L m all Q hA F N hs h
  have hsz : b.size < 2 ^ 20 := by rw [KBw.ints_length] at hz; exact hz
  refine call_list_bytes hA b tb (fun h' tk acc c hk hD hI => ?_) (by rw [sizeLine_eq]; omega)
  have hD' : h'.get? s.heap.objs.size = some (listOf (List.toArray acc.toList) c) := by
    rw [Array.toArray_toList]
    exact hD
  refine h _ acc.toList c h' tk (F.keeps hk) (news_pushed F N hk hD' rfl) (fun p hp => Heap.lt_size (N p hp).1) (ints_of_get _ _ (by rw [Array.length_toList, KBw.ints_length]; exact hI.1) fun j v hj => ?_)
  obtain ⟨c, u, hc, rfl⟩ := hI.2 j v (by rw [← hj, Array.getElem?_toList])
  exact ⟨_, u, KBw.ints_get hc, rfl⟩
theorem canWalk_bytes {b : Array UInt8} {tb : Tok} {news : List (Addr × Obj)} {ns : List Int} (hb : KBw.bInts b = ns) : CanWalk (.bytes b tb) news ns := by
  subst hb
  intro prog w A E s env h₀ x body Q σ m₀ Led ps Facts stored P c₀ hA hL F N hf hk hp turn done
  refine KBw.pyIter_bytes ?_
  have W := KBw.walks (prog := prog) (w := w) (A := A) hA s.heap.objs.size b tb
  have old : ∀ p ∈ Led c₀, p.1 ∉ [s.heap.objs.size] := fun p hp hm => absurd (Heap.lt_size (N p hp).1) ((List.mem_singleton.mp hm) ▸ Nat.lt_irrefl _)
  refine loop_invN (fun i m nx => KstS Led ps Facts x stored m₀ P ((KBw.bInts b).take i) m nx) W ?_ ?_ old old ⟨_, Heap.get?_push_size _ rfl, rfl, rfl⟩ (F.push _) (fun p hp => ⟨Heap.get?_push_of_some _ (N p hp).1, (N p hp).2⟩) ⟨c₀, rfl, hf, hk, fun _ _ _ _ => rfl, by simpa using hp⟩ ?_ ?_
  · intro hm
    exact absurd F.ns.lt ((List.mem_singleton.mp hm) ▸ Nat.lt_irrefl _)
  · intro b' hb
    rw [List.mem_singleton.mp hb]
    exact next_is_new F
  · rintro i v m₁ nx h tk own hi ⟨c', t, hc, rfl⟩ _ hoff ⟨c, rfl, hf', h1, h2, hp'⟩ F₁ N₁
    obtain ⟨hs, e⟩ := take_step (KBw.ints_get hc)
    rw [hs]
    exact turn c _ _ _ t m₁ h tk own e (List.mem_of_getElem? (KBw.ints_get hc)) hoff hf' hp' (kst_fr h1 h2 F₁) N₁
  · rintro m₁ nx h tk ⟨c, rfl, hf', h1, h2, hp'⟩ F₁ N₁
    rw [List.take_of_length_le (by rw [KBw.ints_length]; exact Nat.le_refl _)] at hp'
    exact done c m₁ h tk hf' hp' (kst_frOut h1 h2 F₁) N₁
end Mine

namespace Mine
theorem p2_pos (k : Nat) : (0 : Int) < 2 ^ k := kbt_pos k
theorem and_low : ∀ (k : Nat) (a v : Int), 0 ≤ v → v < 2 ^ k → Builtin.bitAnd (a * 2 ^ k) v = 0
  | 0, a, v, h0, h1 => by
    have : v = 0 := by have : (2 : Int) ^ 0 = 1 := rfl; omega
    subst this
    have h := kbt_mask (a * 2 ^ 0) 0
    simp at h
    simpa using h
  | k + 1, a, v, h0, h1 => by
    rw [kbt_halves]
    have e : a * 2 ^ (k + 1) = 2 * (a * 2 ^ k) := by rw [Int.pow_succ, ← Int.mul_assoc, Int.mul_comm]
    rw [e]
    have e2 : (2 * (a * 2 ^ k)) / 2 = a * 2 ^ k := by omega
    have e3 : ¬ ((2 * (a * 2 ^ k)) % 2 = 1 ∧ v % 2 = 1) := by omega
    rw [e2, if_neg e3, and_low k a (v / 2) (by omega) (by rw [Int.pow_succ] at h1; omega)]
    rfl
theorem or_low (k : Nat) (a v : Int) (h0 : 0 ≤ v) (h1 : v < 2 ^ k) : Builtin.bitOr (a * 2 ^ k) v = a * 2 ^ k + v := by
  rw [bitOr_and, and_low k a v h0 h1]; omega
theorem ediv_of_low (k : Nat) (a v : Int) (h0 : 0 ≤ v) (h1 : v < 2 ^ k) : (a * 2 ^ k + v) / 2 ^ k = a := by
  have h := (kbt_both v a k).1
  rw [Int.ediv_eq_zero_of_lt h0 h1] at h
  simpa using h
/-- the pile after one item -/
theorem acc_step {f n : Nat} {V v A : Int} (h0 : 0 ≤ v) (h1 : v < 2 ^ f) (hA : A = V % 2 ^ n) : Builtin.bitAnd (Builtin.bitOr (A * 2 ^ f) v) (2 ^ n - 1) = (V * 2 ^ f + v) % 2 ^ n := by
  rw [or_low f A v h0 h1, kbt_mask, hA, Int.add_emod, Int.mul_emod, Int.emod_emod, ← Int.mul_emod, ← Int.add_emod]
theorem pow_split (a b : Nat) : (2 : Int) ^ (a + b) = 2 ^ a * 2 ^ b := Int.pow_add 2 a b
theorem mod_div (V : Int) (b t n : Nat) (h : b + t ≤ n) : (V % 2 ^ n / 2 ^ b) % 2 ^ t = (V / 2 ^ b) % 2 ^ t := by
  obtain ⟨d, rfl⟩ := Nat.exists_eq_add_of_le h
  have hb := p2_pos b
  have e : V = V % 2 ^ (b + t + d) + (2 ^ d * (V / 2 ^ (b + t + d)) * 2 ^ t) * 2 ^ b := by
    have h1 := Int.emod_add_mul_ediv V (2 ^ (b + t + d))
    have h2 : (2 : Int) ^ (b + t + d) = 2 ^ d * 2 ^ t * 2 ^ b := by rw [pow_split, pow_split, Int.mul_comm (2 ^ b), Int.mul_comm, Int.mul_assoc]
    calc V = V % 2 ^ (b + t + d) + 2 ^ (b + t + d) * (V / 2 ^ (b + t + d)) := h1.symm
      _ = _ := by
        congr 1
        generalize V / 2 ^ (b + t + d) = q
        rw [h2]
        simp only [Int.mul_assoc, Int.mul_comm, Int.mul_left_comm]
  have e2 : V / 2 ^ b = V % 2 ^ (b + t + d) / 2 ^ b + (2 ^ d * (V / 2 ^ (b + t + d))) * 2 ^ t := by
    conv => lhs; rw [e]
    rw [Int.add_mul_ediv_right _ _ (by omega)]
  rw [e2, Int.add_mul_emod_self_right]
theorem digit_eq {b t n : Nat} {V A : Int} (hA : A = V % 2 ^ n) (h : b + t ≤ n) : Builtin.bitAnd (A.fdiv (2 ^ b)) (2 ^ t - 1) = (V / 2 ^ b) % 2 ^ t := by
  rw [kbt_mask, Int.fdiv_eq_ediv_of_nonneg _ (Int.le_of_lt (p2_pos b)), hA, mod_div V b t n h]
theorem pad_eq {c t n : Nat} {V A : Int} (hA : A = V % 2 ^ n) (h : t ≤ n + c) : Builtin.bitAnd (A * 2 ^ c) (2 ^ t - 1) = (V * 2 ^ c) % 2 ^ t := by
  rw [kbt_mask, hA]
  have e : V * 2 ^ c = V % 2 ^ n * 2 ^ c + (2 ^ n * 2 ^ c) * (V / 2 ^ n) := by
    have h1 := Int.emod_add_mul_ediv V (2 ^ n)
    calc V * 2 ^ c = (V % 2 ^ n + 2 ^ n * (V / 2 ^ n)) * 2 ^ c := by rw [h1]
      _ = _ := by rw [Int.add_mul]; congr 1; simp only [Int.mul_assoc, Int.mul_comm, Int.mul_left_comm]
  obtain ⟨d, hd⟩ := Nat.exists_eq_add_of_le h
  rw [← pow_split, hd, pow_split, Int.mul_assoc] at e
  rw [e, Int.add_mul_emod_self_left]
/-- the number the items spell -/
def valZ (f : Nat) (ns : List Int) : Int := ns.foldl (fun a v => a * 2 ^ f + v) 0
theorem valZ_snoc (f : Nat) (ns : List Int) (v : Int) : valZ f (ns ++ [v]) = valZ f ns * 2 ^ f + v := by simp [valZ]
/-- the first r digits of t bits, of a number of B bits -/
def digsZ (t r : Nat) (V : Int) (B : Nat) : List Int := (List.range r).map fun k => (V / 2 ^ (B - t * (k + 1))) % 2 ^ t
theorem digsZ_length (t r : Nat) (V : Int) (B : Nat) : (digsZ t r V B).length = r := by simp [digsZ]
theorem digsZ_snoc (t r : Nat) (V : Int) (B : Nat) : digsZ t (r + 1) V B = digsZ t r V B ++ [(V / 2 ^ (B - t * (r + 1))) % 2 ^ t] := by simp [digsZ, List.range_succ]
theorem digsZ_more {t r f B : Nat} {V v : Int} (h0 : 0 ≤ v) (h1 : v < 2 ^ f) (hr : t * r ≤ B) : digsZ t r V B = digsZ t r (V * 2 ^ f + v) (B + f) := by
  unfold digsZ
  refine List.map_congr_left fun k hk => ?_
  have hk' : k + 1 ≤ r := List.mem_range.mp hk
  have h2 : t * (k + 1) ≤ B := Nat.le_trans (Nat.mul_le_mul_left t hk') hr
  have e : B + f - t * (k + 1) = f + (B - t * (k + 1)) := by omega
  rw [e, pow_split, ← Int.ediv_ediv_of_nonneg (Int.le_of_lt (p2_pos f)), ediv_of_low f V v h0 h1]
end Mine

namespace Mine
local macro_rules | `(tactic| walk_at "pyIter") => `(tactic| (k_here; refine halt_of ?_))
local macro_rules | `(tactic| walk_at "pyIter ref") => `(tactic| (k_here; refine halt_of ?_))
local macro_rules | `(tactic| walk_at "InvEndN") => `(tactic| (refine halt_of ?_))
local macro_rules | `(tactic| walk_at "KswEnd") => `(tactic| (refine halt_of ?_))
local macro_rules | `(tactic| walk_at "binaryOp BitAnd int int") => `(tactic| (k_here; refine halt_of ?_))
local macro_rules | `(tactic| walk_at "binaryOp RShift int int") => `(tactic| (k_here; refine halt_of ?_))
local macro_rules | `(tactic| walk_at "call builtin:list.append") => `(tactic| (k_here; refine halt_of ?_))
local macro_rules | `(tactic| walk_at "exec While Compare cons nil") => `(tactic| (k_here; refine halt_of ?_))
theorem news_hd {h₀ h : Heap} {L a : Addr} {o : Obj} {r : List (Addr × Obj)} (_N : News h₀ L h ((a, o) :: r)) : ∃ R, R = a := ⟨a, rfl⟩
/-- what the loop over the items keeps -/
def ConvI (f t : Nat) (pre : List Int) (acc bits : Int) (rs : List Int) : Prop :=
  acc = valZ f pre % 2 ^ (f + t - 1) ∧ 0 ≤ bits ∧ bits < t ∧ bits + ((t * rs.length : Nat) : Int) = ((f * pre.length : Nat) : Int) ∧ rs = digsZ t rs.length (valZ f pre) (f * pre.length)
theorem convI_start {f t : Nat} (ht : 1 ≤ t) : ConvI f t [] 0 0 [] := by
  refine ⟨?_, by omega, by omega, by simp, rfl⟩
  simp [valZ]
def WhileI (f t : Nat) (pre : List Int) (bits : Int) (rs : List Int) : Prop :=
  0 ≤ bits ∧ bits < f + t ∧ bits + ((t * rs.length : Nat) : Int) = ((f * pre.length : Nat) : Int) ∧ rs = digsZ t rs.length (valZ f pre) (f * pre.length)
theorem whileI_start {f t : Nat} {pre : List Int} {v bits : Int} {rs : List Int} (h0 : 0 ≤ v) (h1 : v < 2 ^ f) (hb0 : 0 ≤ bits) (hb1 : bits < t) (hbt : bits + ((t * rs.length : Nat) : Int) = ((f * pre.length : Nat) : Int))
    (hrs : rs = digsZ t rs.length (valZ f pre) (f * pre.length)) : WhileI f t (pre ++ [v]) (bits + f) rs := by
  have e : f * (pre ++ [v]).length = f * pre.length + f := by rw [List.length_append, Nat.mul_add]; simp
  refine ⟨by omega, by omega, by rw [e]; omega, ?_⟩
  rw [e, valZ_snoc, ← digsZ_more h0 h1 (by omega)]
  exact hrs
theorem whileI_step {f t n : Nat} {pre : List Int} {bits A d : Int} {rs : List Int} (h : WhileI f t pre bits rs) (hn : n = f + t - 1) (hA : A = valZ f pre % 2 ^ n) (hb : t ≤ bits)
    (hd : d = Builtin.bitAnd (A.fdiv (2 ^ (bits - t).toNat)) (2 ^ t - 1)) : WhileI f t pre (bits - t) (rs ++ [d]) := by
  obtain ⟨h0, h1, h2, h3⟩ := h
  have e : t * (rs ++ [d]).length = t * rs.length + t := by rw [List.length_append, Nat.mul_add]; simp
  refine ⟨by omega, by omega, by rw [e]; omega, ?_⟩
  rw [List.length_append]
  show _ = digsZ t (rs.length + 1) _ _
  rw [digsZ_snoc, ← h3]
  congr 2
  rw [hd, digit_eq hA (by omega)]
  have e2 : (bits - t).toNat = f * pre.length - t * (rs.length + 1) := by rw [Nat.mul_add]; omega
  rw [e2]
theorem bits_len {f t B r : Nat} {bits : Int} (h0 : 0 ≤ bits) (h2 : bits + ((t * r : Nat) : Int) = ((f * B : Nat) : Int)) (ht : 1 ≤ t) (hf : f ≤ 45) (hp : B ≤ 1025) : r ≤ 50000 := by
  have h3 : r ≤ t * r := Nat.le_mul_of_pos_left r ht
  have h4 : f * B ≤ 45 * 1025 := Nat.mul_le_mul hf hp
  omega
theorem whileI_end {f t : Nat} {pre : List Int} {bits A : Int} {rs : List Int} (h : WhileI f t pre bits rs) (hA : A = valZ f pre % 2 ^ (f + t - 1)) (hb : bits < t) : ConvI f t pre A bits rs := ⟨hA, h.1, hb, h.2.2.1, h.2.2.2⟩
/-- what convertbits hands back, padded -/
def convP (f t : Nat) (ns : List Int) : List Int := digsZ t (f * ns.length / t) (valZ f ns) (f * ns.length) ++ if f * ns.length % t = 0 then [] else [(valZ f ns * 2 ^ (t - f * ns.length % t)) % 2 ^ t]
theorem convI_out {f t : Nat} {ns : List Int} {acc bits : Int} {rs : List Int} (h : ConvI f t ns acc bits rs) : bits = ((f * ns.length % t : Nat) : Int) ∧ rs = digsZ t (f * ns.length / t) (valZ f ns) (f * ns.length) := by
  obtain ⟨ha, h0, h1, h2, h3⟩ := h
  obtain ⟨b, rfl⟩ := Int.eq_ofNat_of_zero_le h0
  have e : b + t * rs.length = f * ns.length := by exact_mod_cast h2
  have hb : b < t := by exact_mod_cast h1
  have hd : f * ns.length / t = rs.length := by
    rw [← e, Nat.add_mul_div_left _ _ (by omega), Nat.div_eq_of_lt hb, Nat.zero_add]
  have hm : f * ns.length % t = b := by
    rw [← e, Nat.add_mul_mod_self_left, Nat.mod_eq_of_lt hb]
  rw [hd, hm]
  exact ⟨rfl, h3⟩
theorem conv_whole {f t : Nat} {ns : List Int} {acc bits : Int} {rs : List Int} (h : ConvI f t ns acc bits rs) (hb : bits = 0) : rs = convP f t ns := by
  obtain ⟨h1, h2⟩ := convI_out h
  have h3 : f * ns.length % t = 0 := by omega
  rw [convP, if_pos h3, List.append_nil]
  exact h2
theorem conv_rest {f t : Nat} {ns : List Int} {acc bits d : Int} {rs : List Int} (h : ConvI f t ns acc bits rs) (hb : bits ≠ 0) (hd : d = Builtin.bitAnd (acc * 2 ^ (t - bits).toNat) (2 ^ t - 1)) : rs ++ [d] = convP f t ns := by
  obtain ⟨h1, h2⟩ := convI_out h
  have h3 : ¬ f * ns.length % t = 0 := by omega
  have hlt := h.2.2.1
  rw [convP, if_neg h3, ← h2, hd, pad_eq h.1 (by omega)]
  have e : (t - bits).toNat = t - f * ns.length % t := by omega
  rw [e]
theorem acc_small {f t : Nat} {ns : List Int} {acc : Int} (h : acc = valZ f ns % 2 ^ (f + t - 1)) (hft : f + t ≤ 45) : acc.natAbs < 2 ^ 64 := by
  have h0 := Int.emod_nonneg (valZ f ns) (Int.ne_of_gt (p2_pos (f + t - 1)))
  have h1 := Int.emod_lt_of_pos (valZ f ns) (p2_pos (f + t - 1))
  have h2 : (2 : Int) ^ (f + t - 1) ≤ 2 ^ 44 := by
    rw [← kbt_cast, ← kbt_cast]
    exact Int.ofNat_le.mpr (Nat.pow_le_pow_right (by decide) (by omega))
  have h3 : (2 : Int) ^ 44 = 17592186044416 := by decide
  have h4 : (2 : Nat) ^ 64 = 18446744073709551616 := by decide
  omega
theorem shift_out {f : Nat} {v : Int} (h0 : 0 ≤ v) (h1 : v < 2 ^ f) : v.fdiv (2 ^ (f : Int).toNat) = 0 := by
  rw [Int.toNat_natCast, Int.fdiv_eq_ediv_of_nonneg _ (Int.le_of_lt (p2_pos f)), Int.ediv_eq_zero_of_lt h0 h1]
set_option maxRecDepth 100000 in
set_option maxHeartbeats 1000000 in
theorem conv_con (w : World) (mean : ExcName → Option Value) (mg mb : Str → Option Value) (news : List (Addr × Obj)) (dv : Value) (ns : List Int) (f t : Nat) (tf tt : Tok)
  (hw : CanWalk dv news ns) (hf : 1 ≤ f) (ht : 1 ≤ t) (hft : f + t ≤ 45) (hlen : ns.length < 2 ^ 10) (hb : ∀ v ∈ ns, 0 ≤ v ∧ v < 2 ^ f) : Cl w mean mg mb 1 56 [dv, .int f tf, .int t tt] news (RetL news (convP f t ns)) := by
  unfold Cl
  k_fill
  intro p loose dp un gd cn cs a ccd cl outer A₀ base h₀ L m s Q E B F X N T hk hd' hu hret
  have XK : (hd.heap_39 w.params).In s.heap := Frag.In.keeps X (Fr.keep F)
  refine wpAny_call ?_
  k_dflt (refine' code_def ?k1 ?k2 ?k3 ?k4 ?k5 ?kA ?kF ?kK ?k6 ?k7 ?k8 ?k9 ?kB ?_ ?c2 ?c3 ?c4 ?c5; (case kA => exact rfl); (case kF => exact rfl); (case kK => assumption); (case k1 => k_asm); (case k2 => k_asm); (case k3 => k_asm); (case k4 => k_asm); (case k5 => k_asm); (case k6 => k_is); (case k7 => k_is); (case k8 => ktr_room); (case k9 => exact binds_K XK rfl (by k_is) rfl rfl rfl); (case c5 => decide); (case kB => exact locs rfl); (case c2 => exact rfl); (case c3 => exact rfl); (case c4 => exact rfl); k_whole; intro g' L' h' FG' F' N' B' X' T'; (try dsimp only); (try k_fold))
  (k_with "binaryOp LShift int int" => (refine lshift_int_small (by omega) (by omega) (by first | decide | assumption) ?_))
  k_steps
  rename Fr _ _ _ _ => F1
  rename News _ _ _ _ => N1
  obtain ⟨R, hR⟩ := news_hd N1
  subst hR
  rename ∀ p ∈ news, p.1 < R => hlt
  with_unfolding_all refine' For_invVF F1 ?k1 ?k2 ?_
  case k1 => exact rfl
  case k2 => exact rfl
  k_dflt (refine ld F1 (by rfl) ?_)
  with_unfolding_all refine' hw (σ := Int × Tok × Int × Tok × List Value × List Int × Nat) (fun c => (R, listOf c.2.2.2.2.1.toArray c.2.2.2.2.2.2) :: news) (fun c => [(Str.ofString "acc", .int c.1 c.2.1), (Str.ofString "bits", .int c.2.2.1 c.2.2.2.1)]) (fun c => IntsAre c.2.2.2.2.1 c.2.2.2.2.2.1) [] (fun pre c => ConvI f t pre c.1 c.2.2.1 c.2.2.2.2.2.1) (0, ?ta, 0, ?tb, [], [], 0) rfl (fun c p hp => .tail _ hp) F1 N1 .nil ?kk (convI_start ht) ?turn ?done 
  case kk => kst_all
  case turn =>
    rintro ⟨acc, ta, bits, tb, us, rs, kk⟩ pre post v tv u h tk own hE hm hoff hfacts hinv F2 N2
    obtain ⟨hacc, hb0, hb1, hbt, hrs⟩ := hinv
    dsimp only [kstB] at F2 N2 hfacts
    dsimp only at hacc hb0 hb1 hbt hrs
    simp only [List.cons_append] at N2
    have hv := hb v hm
    have hv0 := hv.1
    have hz : v.fdiv (2 ^ (f : Int).toNat) = 0 := shift_out hv.1 hv.2
    have hacc2 : acc.natAbs < 2 ^ 64 := acc_small hacc hft
    try k_fold
    have hpl : (pre ++ [v]).length ≤ 1025 := by
      have := congrArg List.length hE
      simp only [List.length_append, List.length_cons, List.length_nil] at this ⊢
      omega
    have hRN : ∀ p ∈ news ++ own, p.1 ≠ R := fun p hp => (List.mem_append.mp hp).elim (fun h => Nat.ne_of_lt (hlt p h)) (fun h => hoff p h R (.head _))
    k_steps
    refine halt_in ?_
    refine rshift_int (by omega) ?_
    rw [hz]
    k_steps
    refine halt_in ?_
    refine and_int ?_
    have hA : Builtin.bitAnd (Builtin.bitOr (acc * 2 ^ (f : Int).toNat) v) (1 * 2 ^ ((f : Int) + t - 1).toNat - 1) = valZ f (pre ++ [v]) % 2 ^ (f + t - 1) := by
      rw [valZ_snoc, show ((f : Int)).toNat = f from Int.toNat_natCast f, show ((f : Int) + t - 1).toNat = f + t - 1 from by omega, Int.one_mul]
      exact acc_step hv.1 hv.2 hacc
    rw [hA]
    try dsimp only
    k_steps
    refine halt_in ?_
    have hW := whileI_start hv.1 hv.2 hb0 hb1 hbt hrs
    k_while (fun (script : List Int) bits ret => WhileI f t (pre ++ [v]) bits ret) (fun script bits ret => bits.toNat) "bits" "ret"
    clear hW
    rename WhileI _ _ _ _ _ => hI
    have hI' := hI
    obtain ⟨i0, i1, i2, i3⟩ := hI'
    have hz2 := bits_len i0 i2 ht (by omega) hpl
    rename IntsAre _ _ => hJ
    have hz3 := hJ.length
    k_steps
    · refine halt_in ?_
      refine rshift_int (by omega) ?_
      k_steps
      refine halt_in ?_
      refine and_int ?_
      k_steps
      refine halt_in ?_
      rename News _ _ _ _ => nE'
      try simp only [List.push_toArray] at nE'
      refine append_K (by k_asm) (by k_asm) (.head hRN) ?_ (by rw [List.size_toArray, sizeLine_eq]; omega)
      intro hh F6 N6
      k_steps
      refine halt_in ?_
      rename News _ _ _ _ => nE'
      try simp only [List.push_toArray] at nE'
      refine ksw_end ⟨_, _, _, _, _⟩ (by assumption) nE' (by kst_in) (by kst_facts) (by kst_all) (by ksw_same) ?_ (by dsimp only; omega)
      exact whileI_step hI rfl rfl (by omega) (by rw [Int.one_mul, Int.toNat_natCast])
    · refine halt_in ?_
      rename News _ _ _ _ => nE'
      refine kst_end ⟨_, _, _, _, _, _, _⟩ (by assumption) nE' (by first | kst_in | kst_inAny) (by first | (intro p hp; kst_mem) | kst_anyIn) (by rfl) (by kst_facts) (by kst_all) (by kst_same) ?_
      exact whileI_end hI rfl (by dsimp only; omega)
  case done =>
    rintro ⟨acc, ta, bits, tb, us, rs, kk⟩ u h tk hfacts hinv F2 N2
    have hinv2 := hinv
    obtain ⟨hacc, hb0, hb1, hbt, hrs⟩ := hinv2
    dsimp only [kstB] at F2 N2 hfacts
    dsimp only at hacc hb0 hb1 hbt hrs hinv
    have hacc2 : acc.natAbs < 2 ^ 64 := acc_small hacc hft
    have hz2 := bits_len hb0 hbt ht (by omega) (by omega)
    have hz3 := hfacts.length
    have hRN : ∀ p ∈ news, p.1 ≠ R := fun p hp => Nat.ne_of_lt (hlt p hp)
    try k_fold
    k_steps
    · refine halt_in ?_
      refine and_int ?_
      k_steps
      refine append_K (by k_asm) (by k_asm) (.head hRN) ?_ (by rw [List.size_toArray, sizeLine_eq]; omega)
      intro hh F6 N6
      k_steps
      rename Fr _ _ _ _ => Fz
      rename News _ _ _ _ => Nz
      try simp only [List.push_toArray] at Nz
      have hc := conv_rest hinv (by assumption) rfl
      rw [Int.one_mul, Int.toNat_natCast] at Nz
      have I9 : ∀ tk0, IntsAre (us ++ [Value.int (Builtin.bitAnd (acc * 2 ^ ((t : Int) - bits).toNat) (2 ^ t - 1)) tk0]) (convP f t ns) := fun tk0 => hc ▸ hfacts.append (.cons _ tk0 .nil)
      exact retL_end hret Fz Nz (.head _) (fun p hp => .tail _ hp) hRN (I9 _)
    · rename Fr _ _ _ _ => Fz
      rename News _ _ _ _ => Nz
      rw [conv_whole hinv (by assumption)] at hfacts
      exact retL_end hret Fz Nz (.head _) (fun p hp => .tail _ hp) hRN hfacts
end Mine

namespace Mine
theorem nat_xor_and : ∀ a b : Nat, (a ^^^ b) + 2 * (a &&& b) = a + b := by
  intro a
  induction a using Nat.strongRecOn with
  | ind a ih =>
    intro b
    by_cases h : a = 0
    · subst h; simp
    · have h1 := ih (a / 2) (by omega) (b / 2)
      have x1 : (a ^^^ b) / 2 = a / 2 ^^^ b / 2 := by simpa using (Nat.xor_div_two_pow (a := a) (b := b) (n := 1))
      have a1 : (a &&& b) / 2 = a / 2 &&& b / 2 := by simpa using (Nat.and_div_two_pow (a := a) (b := b) (n := 1))
      have x2 : (a ^^^ b) % 2 = a % 2 ^^^ b % 2 := by simpa using (Nat.xor_mod_two_pow (a := a) (b := b) (n := 1))
      have a2 : (a &&& b) % 2 = a % 2 &&& b % 2 := by simpa using (Nat.and_mod_two_pow (a := a) (b := b) (n := 1))
      have c : (a % 2 ^^^ b % 2) + 2 * (a % 2 &&& b % 2) = a % 2 + b % 2 := by
        have ha : a % 2 = 0 ∨ a % 2 = 1 := by omega
        have hb : b % 2 = 0 ∨ b % 2 = 1 := by omega
        rcases ha with ha | ha <;> rcases hb with hb | hb <;> rw [ha, hb] <;> decide
      rw [← x1, ← a1] at h1
      rw [← x2, ← a2] at c
      omega
theorem bitXor_nat (a b : Nat) : Builtin.bitXor (a : Int) (b : Int) = ((a ^^^ b : Nat) : Int) := by
  rw [bitXor_and, bitAnd_pp (by omega) (by omega), Int.toNat_natCast, Int.toNat_natCast]
  have := nat_xor_and a b
  omega
/-- one generator, where the bit stands -/
def gsel (c i g : Nat) : Nat := if c.testBit (25 + i) then g else 0
theorem gsel_xor (a b i g : Nat) : gsel (a ^^^ b) i g = gsel a i g ^^^ gsel b i g := by
  unfold gsel
  rw [Nat.testBit_xor]
  cases a.testBit (25 + i) <;> cases b.testBit (25 + i) <;> simp
def stepN (c v : Nat) : Nat := (((((((c % 2 ^ 25) <<< 5) ^^^ v) ^^^ gsel c 0 996825010) ^^^ gsel c 1 642813549) ^^^ gsel c 2 513874426) ^^^ gsel c 3 1027748829) ^^^ gsel c 4 705979059
theorem stepN_xor (a b v w : Nat) : stepN (a ^^^ b) (v ^^^ w) = stepN a v ^^^ stepN b w := by
  unfold stepN
  rw [gsel_xor, gsel_xor, gsel_xor, gsel_xor, gsel_xor, Nat.xor_mod_two_pow, Nat.shiftLeft_xor_distrib]
  ac_rfl
theorem gsel_int (c i g : Nat) : (if Builtin.bitAnd (((c : Int).fdiv (2 ^ 25)).fdiv (2 ^ i)) 1 ≠ 0 then (g : Int) else 0) = ((gsel c i g : Nat) : Int) := by
  rw [bitAnd_m1, Int.fdiv_eq_ediv_of_nonneg _ (Int.le_of_lt (p2_pos 25)), Int.fdiv_eq_ediv_of_nonneg _ (Int.le_of_lt (p2_pos i)), Int.ediv_ediv_of_nonneg (Int.le_of_lt (p2_pos 25)), ← pow_split, ← kbt_cast]
  unfold gsel
  rw [Nat.testBit_eq_decide_div_mod_eq]
  have e : ((c : Int) / ((2 ^ (25 + i) : Nat) : Int)) % 2 = ((c / 2 ^ (25 + i) % 2 : Nat) : Int) := by push_cast; rfl
  rw [e]
  by_cases h : c / 2 ^ (25 + i) % 2 = 1
  · rw [if_pos (by rw [h]; decide), if_pos (by simpa using h)]
  · rw [if_neg (by omega), if_neg (by simpa using h)]; rfl
theorem stepZ_nat (c v : Nat) : stepZ (c : Int) (v : Int) = ((stepN c v : Nat) : Int) := by
  unfold stepZ stepN
  simp only [List.foldl_cons, List.foldl_nil, istep]
  have hm : Builtin.bitAnd (c : Int) 33554431 * (2 : Int) ^ 5 = (((c % 2 ^ 25) <<< 5 : Nat) : Int) := by
    have h := kbt_mask (c : Int) 25
    have e : (2 : Int) ^ 25 - 1 = 33554431 := by decide
    rw [e] at h
    rw [h, Nat.shiftLeft_eq]
    omega
  rw [hm, bitXor_nat]
  rw [show genZ.getD (0 : Int).toNat 0 = ((996825010 : Nat) : Int) from rfl, show genZ.getD (1 : Int).toNat 0 = ((642813549 : Nat) : Int) from rfl, show genZ.getD (2 : Int).toNat 0 = ((513874426 : Nat) : Int) from rfl,
    show genZ.getD (3 : Int).toNat 0 = ((1027748829 : Nat) : Int) from rfl, show genZ.getD (4 : Int).toNat 0 = ((705979059 : Nat) : Int) from rfl]
  rw [show (0 : Int).toNat = 0 from rfl, show (1 : Int).toNat = 1 from rfl, show (2 : Int).toNat = 2 from rfl, show (3 : Int).toNat = 3 from rfl, show (4 : Int).toNat = 4 from rfl]
  rw [gsel_int, gsel_int, gsel_int, gsel_int, gsel_int, bitXor_nat, bitXor_nat, bitXor_nat, bitXor_nat, bitXor_nat]
theorem gsel_low {c i g : Nat} (h : c < 2 ^ 25) : gsel c i g = 0 := by
  unfold gsel
  rw [Nat.testBit_lt_two_pow (Nat.lt_of_lt_of_le h (Nat.pow_le_pow_right (by decide) (by omega)))]
  rfl
theorem stepN_low {c v : Nat} (h : c < 2 ^ 25) (hv : v < 32) : stepN c v = c * 32 + v := by
  unfold stepN
  rw [gsel_low h, gsel_low h, gsel_low h, gsel_low h, gsel_low h, Nat.mod_eq_of_lt h]
  simp only [Nat.xor_zero]
  have h1 := nat_xor_and (c <<< 5) v
  have h2 := and_low 5 (c : Int) (v : Int) (by omega) (by omega)
  rw [show (c : Int) * (2 : Int) ^ 5 = ((c <<< 5 : Nat) : Int) from by rw [Nat.shiftLeft_eq]; omega, bitAnd_pp (by omega) (by omega), Int.toNat_natCast, Int.toNat_natCast] at h2
  have h3 : c <<< 5 = c * 32 := by rw [Nat.shiftLeft_eq]
  omega
theorem fold_nat : ∀ (vs : List Nat) (c : Nat), (vs.map fun v : Nat => (v : Int)).foldl stepZ (c : Int) = ((vs.foldl stepN c : Nat) : Int)
  | [], _ => rfl
  | v :: vs, c => by
    rw [List.map_cons, List.foldl_cons, List.foldl_cons, stepZ_nat]
    exact fold_nat vs _
theorem stepN_bound {c v : Nat} (hv : v < 2 ^ 30) : stepN c v < 2 ^ 30 := by
  have g : ∀ i k, k < 2 ^ 30 → gsel c i k < 2 ^ 30 := fun i k hk => by unfold gsel; split; exact hk; decide
  have hs : (c % 2 ^ 25) <<< 5 < 2 ^ 30 := by rw [Nat.shiftLeft_eq]; have := Nat.mod_lt c (show 2 ^ 25 > 0 by decide); omega
  unfold stepN
  exact Nat.xor_lt_two_pow (Nat.xor_lt_two_pow (Nat.xor_lt_two_pow (Nat.xor_lt_two_pow (Nat.xor_lt_two_pow (Nat.xor_lt_two_pow hs hv) (g _ _ (by decide))) (g _ _ (by decide))) (g _ _ (by decide))) (g _ _ (by decide))) (g _ _ (by decide))
/-- six numbers of five bits close the sum -/
theorem close6 (s : Nat) (M : Nat) (hM : M = [0, 0, 0, 0, 0, 0].foldl stepN s ^^^ 1) :
    [M / 2 ^ 25 % 32, M / 2 ^ 20 % 32, M / 2 ^ 15 % 32, M / 2 ^ 10 % 32, M / 2 ^ 5 % 32, M % 32].foldl stepN s = 1 := by
  have hb : M < 2 ^ 30 := by
    rw [hM]
    exact Nat.xor_lt_two_pow (stepN_bound (by decide)) (by decide)
  have key : ∀ c0 c1 c2 c3 c4 c5 : Nat, [c0, c1, c2, c3, c4, c5].foldl stepN s = [0, 0, 0, 0, 0, 0].foldl stepN s ^^^ [c0, c1, c2, c3, c4, c5].foldl stepN 0 := by
    intro c0 c1 c2 c3 c4 c5
    have z : ∀ v : Nat, v = 0 ^^^ v := fun v => (Nat.zero_xor v).symm
    have one : ∀ a b v : Nat, stepN (a ^^^ b) v = stepN a 0 ^^^ stepN b v := fun a b v => by
      have h := stepN_xor a b 0 v
      rw [Nat.zero_xor] at h
      exact h
    simp only [List.foldl_cons, List.foldl_nil]
    rw [← one, ← one, ← one, ← one, ← one, ← one, Nat.xor_zero]
  rw [key]
  have low : [M / 2 ^ 25 % 32, M / 2 ^ 20 % 32, M / 2 ^ 15 % 32, M / 2 ^ 10 % 32, M / 2 ^ 5 % 32, M % 32].foldl stepN 0 = M := by
    simp only [List.foldl_cons, List.foldl_nil]
    have e1 : stepN 0 (M / 2 ^ 25 % 32) = M / 2 ^ 25 := by rw [stepN_low (by decide) (by omega)]; omega
    have e2 : stepN (M / 2 ^ 25) (M / 2 ^ 20 % 32) = M / 2 ^ 20 := by rw [stepN_low (by omega) (by omega)]; omega
    have e3 : stepN (M / 2 ^ 20) (M / 2 ^ 15 % 32) = M / 2 ^ 15 := by rw [stepN_low (by omega) (by omega)]; omega
    have e4 : stepN (M / 2 ^ 15) (M / 2 ^ 10 % 32) = M / 2 ^ 10 := by rw [stepN_low (by omega) (by omega)]; omega
    have e5 : stepN (M / 2 ^ 10) (M / 2 ^ 5 % 32) = M / 2 ^ 5 := by rw [stepN_low (by omega) (by omega)]; omega
    have e6 : stepN (M / 2 ^ 5) (M % 32) = M := by rw [stepN_low (by omega) (by omega)]; omega
    rw [e1, e2, e3, e4, e5, e6]
  rw [low, hM, ← Nat.xor_assoc, Nat.xor_self, Nat.zero_xor]
theorem nats_of : ∀ (ns : List Int), (∀ d ∈ ns, 0 ≤ d) → ∃ vs : List Nat, ns = vs.map fun v : Nat => (v : Int)
  | [], _ => ⟨[], rfl⟩
  | d :: r, h => by
    obtain ⟨vs, e⟩ := nats_of r fun k hk => h k (.tail _ hk)
    obtain ⟨n, hn⟩ := Int.eq_ofNat_of_zero_le (h d (.head _))
    exact ⟨n :: vs, by rw [e, hn]; rfl⟩
theorem expandZ_nonneg (x : Str) : ∀ d ∈ expandZ x, 0 ≤ d := by
  intro d hd
  unfold expandZ at hd
  rcases List.mem_append.mp hd with hd | hd
  · rcases List.mem_append.mp hd with hd | hd
    · obtain ⟨c, _, rfl⟩ := List.mem_map.mp hd
      rw [Int.fdiv_eq_ediv_of_nonneg _ (Int.le_of_lt (p2_pos 5))]
      exact Int.ediv_nonneg (Int.natCast_nonneg _) (Int.le_of_lt (p2_pos 5))
    · rw [List.mem_singleton.mp hd]; decide
  · obtain ⟨c, _, rfl⟩ := List.mem_map.mp hd
    rw [bitAnd_pp (by omega) (by decide)]
    exact Int.natCast_nonneg _
theorem five_of (M k : Nat) : Builtin.bitAnd (((M : Nat) : Int).fdiv (2 ^ k)) 31 = ((M / 2 ^ k % 32 : Nat) : Int) := by
  have h : ∀ z : Int, Builtin.bitAnd z 31 = z % 32 := bitAnd_m5
  rw [h, Int.fdiv_eq_ediv_of_nonneg _ (Int.le_of_lt (p2_pos k)), ← kbt_cast]
  rfl
theorem checksum_ok (x : Str) (ns : List Int) (hb : ∀ d ∈ ns, 0 ≤ d ∧ d < 32) : (expandZ x ++ (ns ++ createZ x ns)).foldl stepZ 1 = 1 := by
  obtain ⟨vs, hvs⟩ := nats_of (expandZ x ++ ns) fun d hd => (List.mem_append.mp hd).elim (expandZ_nonneg x d) fun h => (hb d h).1
  rw [← List.append_assoc, List.foldl_append]
  have hs : (expandZ x ++ ns).foldl stepZ 1 = ((vs.foldl stepN 1 : Nat) : Int) := by rw [hvs]; exact fold_nat vs 1
  have h6 : (expandZ x ++ ns ++ [0, 0, 0, 0, 0, 0]).foldl stepZ 1 = (([0, 0, 0, 0, 0, 0].foldl stepN (vs.foldl stepN 1) : Nat) : Int) := by
    rw [List.foldl_append, hs]
    exact fold_nat [0, 0, 0, 0, 0, 0] _
  obtain ⟨M, hM⟩ : ∃ M, M = [0, 0, 0, 0, 0, 0].foldl stepN (vs.foldl stepN 1) ^^^ 1 := ⟨_, rfl⟩
  have hX : Builtin.bitXor ((expandZ x ++ ns ++ [0, 0, 0, 0, 0, 0]).foldl stepZ 1) 1 = ((M : Nat) : Int) := by
    rw [h6, hM]
    exact bitXor_nat _ 1
  have hc : createZ x ns = [M / 2 ^ 25 % 32, M / 2 ^ 20 % 32, M / 2 ^ 15 % 32, M / 2 ^ 10 % 32, M / 2 ^ 5 % 32, M % 32].map fun v : Nat => (v : Int) := by
    have h0 := five_of M 0
    rw [Nat.pow_zero, Nat.div_one] at h0
    unfold createZ
    rw [hX]
    show [Builtin.bitAnd ((M : Int).fdiv (2 ^ 25)) 31, Builtin.bitAnd ((M : Int).fdiv (2 ^ 20)) 31, Builtin.bitAnd ((M : Int).fdiv (2 ^ 15)) 31, Builtin.bitAnd ((M : Int).fdiv (2 ^ 10)) 31, Builtin.bitAnd ((M : Int).fdiv (2 ^ 5)) 31, Builtin.bitAnd ((M : Int).fdiv (2 ^ 0)) 31] = _
    rw [five_of, five_of, five_of, five_of, five_of, h0]
    rfl
  rw [hs, hc, fold_nat, close6 _ M hM]
  rfl
end Mine

namespace Mine
theorem snoc_rec {P : List Int → Prop} (h0 : P []) (h1 : ∀ pre v, P pre → P (pre ++ [v])) (ns : List Int) : P ns := by
  have key : ∀ rs : List Int, P rs.reverse := by
    intro rs
    induction rs with
    | nil => exact h0
    | cons r rs ih => rw [List.reverse_cons]; exact h1 _ _ ih
  have h := key ns.reverse
  rwa [List.reverse_reverse] at h
theorem digsZ_self (t : Nat) (ns : List Int) : (∀ d ∈ ns, 0 ≤ d ∧ d < 2 ^ t) → digsZ t ns.length (valZ t ns) (t * ns.length) = ns := by
  refine snoc_rec (P := fun ns => (∀ d ∈ ns, 0 ≤ d ∧ d < 2 ^ t) → digsZ t ns.length (valZ t ns) (t * ns.length) = ns) (fun _ => rfl) (fun pre v ih h => ?_) ns
  have hv := h v (List.mem_append.mpr (.inr (.head _)))
  have hp := ih fun d hd => h d (List.mem_append.mpr (.inl hd))
  have e : t * (pre ++ [v]).length = t * pre.length + t := by rw [List.length_append, Nat.mul_add]; simp
  rw [e, valZ_snoc, List.length_append]
  show digsZ t (pre.length + 1) _ _ = _
  rw [digsZ_snoc, ← digsZ_more hv.1 hv.2 (Nat.le_refl _), hp]
  have e2 : t * pre.length + t - t * (pre.length + 1) = 0 := by rw [Nat.mul_add]; omega
  rw [e2, Int.pow_zero, Int.ediv_one, (kbt_both v _ t).2, Int.emod_eq_of_lt hv.1 hv.2]
theorem conv55 (ns : List Int) (hb : ∀ d ∈ ns, 0 ≤ d ∧ d < 32) : convP 5 5 ns = ns := by
  have e1 : 5 * ns.length % 5 = 0 := Nat.mul_mod_right 5 _
  have e2 : 5 * ns.length / 5 = ns.length := Nat.mul_div_cancel_left _ (by decide)
  rw [convP, if_pos e1, List.append_nil, e2]
  exact digsZ_self 5 ns hb
theorem convP_length (f t : Nat) (ns : List Int) : (convP f t ns).length ≤ f * ns.length / t + 1 := by
  rw [convP, List.length_append, digsZ_length]
  split <;> simp
end Mine

namespace Mine
abbrev pairD (x : Str) (ns : List Int) : PyData := .tuple [.str x, .list (ns.map .int)]
abbrev tupO (items : Array Value) (n : Nat) : Obj := { cls := .type "tuple", data := .seq items n }
theorem reads_pair {h : Heap} {tp l : Addr} {x : Str} {t : Tok} {us : List Value} {ns : List Int} {n k : Nat} (h1 : h.get? tp = some (tupO [Value.str x t, Value.ref l].toArray k)) (h2 : h.get? l = some (listOf us.toArray n)) (hi : IntsAre us ns) :
    ∃ as, Reads h (.ref tp) (pairD x ns) as :=
  ⟨_, reads_tuple_at h1 rfl rfl (readsAll_cons_val (.str x t) (.cons (reads_of_ints ⟨_, h2, rfl, n, rfl⟩ hi) .nil))⟩
theorem shaped_pair (x : Str) (ns : List Int) (hx : PyData.strOk x = true) : SeqAt.shaped (pairD x ns) = true := by
  have h1 := PySem.W.depthAll_ints ns
  have h2 : PyData.depth (pairD x ns) ≤ 64 := by simp only [PyData.depth, PyData.depthAll]; omega
  show (PyData.canLay0 (pairD x ns) && decide (PyData.depth (pairD x ns) ≤ 64)) = true
  rw [Bool.and_eq_true]
  refine ⟨?_, decide_eq_true h2⟩
  simp only [PyData.canLay0, PyData.canLayAll0, canLayAll0_ints, Bool.and_true, hx]
theorem eqv_pair (x : Str) (ns : List Int) : PyData.eqv (pairD x ns) (pairD x ns) = true := by
  simp only [PyData.eqv, PyData.eqvAll, ked_eqvAll, decide_true, Bool.and_true, beq_self_eq_true]
section
variable {prog : Program} {w : World} {A : Around} {E : Value → Shared → Prop} {s : Shared} {Q : Value → Shared → Prop} {tp tq l m : Addr} {x : Str} {t t' : Tok} {us vs : List Value} {ns : List Int} {n k n' k' : Nat}
theorem ne_pair (h1 : s.heap.get? tp = some (tupO [Value.str x t, Value.ref l].toArray k)) (h2 : s.heap.get? l = some (listOf us.toArray n)) (hi : IntsAre us ns)
    (h3 : s.heap.get? tq = some (tupO [Value.str x t', Value.ref m].toArray k')) (h4 : s.heap.get? m = some (listOf vs.toArray n')) (hj : IntsAre vs ns) (hu : A.units + 64 < cLine) (hx : PyData.strOk x = true)
    (h : Q (.bool false) s) : wpAny (model prog w) A (compareOp .NotEq (.ref tp) (.ref tq)) Q E s := by
  obtain ⟨_, r1⟩ := reads_pair h1 h2 hi
  obtain ⟨_, r2⟩ := reads_pair h3 h4 hj
  exact ne_dataH r1 r2 (shaped_pair x ns hx) (shaped_pair x ns hx) hu (by rw [eqv_pair]; exact h)
theorem eq_pair (h1 : s.heap.get? tp = some (tupO [Value.str x t, Value.ref l].toArray k)) (h2 : s.heap.get? l = some (listOf us.toArray n)) (hi : IntsAre us ns)
    (h3 : s.heap.get? tq = some (tupO [Value.str x t', Value.ref m].toArray k')) (h4 : s.heap.get? m = some (listOf vs.toArray n')) (hj : IntsAre vs ns) (hu : A.units + 64 < cLine) (hx : PyData.strOk x = true)
    (h : Q (.bool true) s) : wpAny (model prog w) A (compareOp .Eq (.ref tp) (.ref tq)) Q E s := by
  obtain ⟨_, r1⟩ := reads_pair h1 h2 hi
  obtain ⟨_, r2⟩ := reads_pair h3 h4 hj
  exact eq_dataH r1 r2 (shaped_pair x ns hx) (shaped_pair x ns hx) hu (by rw [eqv_pair]; exact h)
theorem ne_ints (h2 : s.heap.IsList l us.toArray) (hi : IntsAre us ns) (h4 : s.heap.IsList m vs.toArray) (hj : IntsAre vs ns) (hu : A.units + 64 < cLine)
    (h : Q (.bool false) s) : wpAny (model prog w) A (compareOp .NotEq (.ref l) (.ref m)) Q E s :=
  ne_intsK h2 hi h4 hj hu (by rw [decide_eq_true rfl]; exact h)
theorem eq_ints (h2 : s.heap.IsList l us.toArray) (hi : IntsAre us ns) (h4 : s.heap.IsList m vs.toArray) (hj : IntsAre vs ns) (hu : A.units + 64 < cLine)
    (h : Q (.bool true) s) : wpAny (model prog w) A (compareOp .Eq (.ref l) (.ref m)) Q E s :=
  eq_intsK h2 hi h4 hj hu (by rw [decide_eq_true rfl]; exact h)
end
end Mine

namespace Mine
section
variable {prog : Program} {w : World} {A : Around} {E : Value → Shared → Prop} {s : Shared} {env : Env} {h₀ : Heap} {x : Str} {body : List Stmt} {Q : Flow → Shared → Prop}
/-- a loop over a list of any values of the ledger, whose turns leave all as it was -/
theorem iter_same {ax : Addr} {items : Array Value} {k0 : Nat} {m₀ : Str → Option Value} {news : List (Addr × Obj)} (hA : A.handled = none)
    (hax : (ax, listOf items k0) ∈ news) (F : Fr h₀ env.locals s.heap m₀) (N : News h₀ env.locals s.heap news)
    (turn : ∀ v h tk own, v ∈ items.toList → OwnOff own (news.map (·.1)) → Fr h₀ env.locals h (fun y => if y = x then some v else m₀ y) → News h₀ env.locals h (news ++ own) →
      wpAny (model prog w) A (execs body env) (InvPostN h₀ env.locals (fun m' nx => nx = news ∧ ∀ z, z ≠ x → m' z = m₀ z) own (news.map (·.1)) { s with heap := h, toks := tk } Q) E { s with heap := h, toks := tk })
    (done : ∀ (u : Option Value) h tk, Fr h₀ env.locals h (fun y => if y = x then u else m₀ y) → News h₀ env.locals h news → Q .next { s with heap := h, toks := tk }) :
    wpAny (model prog w) A (pyIter (.ref ax)) (fun it s₂ => LoopAtV prog w A h₀ env x body Q E it s₂) E s := by
  have hol := (N _ hax).1
  have hl : s.heap.IsList ax items := ⟨_, hol, rfl, k0, rfl⟩
  have hne : ax ≠ s.heap.objs.size := Nat.ne_of_lt (Heap.lt_size hol)
  refine wpAny_pyIter_list hl ?_
  have W := Walks.list (prog := prog) (w := w) hA s.heap.objs.size ax hne items
  refine iter_heldN (fun _ m nx => nx = news ∧ ∀ z, z ≠ x → m z = m₀ z) hax W ⟨⟨_, Heap.get?_push_size _ rfl, rfl, rfl⟩, hl.at fun o e => Heap.get?_push_of_some _ e⟩ F N ⟨rfl, fun _ _ => rfl⟩ ?_ ?_
  · rintro i v m₁ nx h tk own hin hP _ hoff ⟨rfl, hm⟩ F₁ N₁
    have e : (fun y => if y = x then some v else m₁ y) = fun y => if y = x then some v else m₀ y := by
      funext y
      by_cases hy : y = x
      · rw [if_pos hy, if_pos hy]
      · rw [if_neg hy, if_neg hy, hm y hy]
    rw [e] at F₁
    refine wpAny_mono (turn v h tk own (by rw [Array.mem_toList_iff]; exact Array.mem_of_getElem? hP) hoff F₁ N₁) (fun f s₂ p => ?_) fun _ _ x => x
    have up : InvEndN h₀ env.locals (fun m' nx' => nx' = nx ∧ ∀ z, z ≠ x → m' z = m₀ z) own (nx.map (·.1)) { s with heap := h, toks := tk } s₂ →
        InvEndN h₀ env.locals (fun m' nx' => (ax, listOf items k0) ∈ nx' ∧ nx' = nx ∧ ∀ z, z ≠ x → m' z = m₀ z) own (nx.map (·.1)) { s with heap := h, toks := tk } s₂ := by
      rintro ⟨h', tk', m', news', nx', e', F', N', hn', ho', ha, rfl, hS⟩
      exact ⟨h', tk', m', news', _, e', F', N', hn', ho', ha, hax, rfl, hS⟩
    cases f with
    | ret v => exact p
    | brk => exact p
    | next => exact up p
    | cont => exact up p
  · rintro m₁ nx h tk ⟨rfl, hm⟩ F₁ N₁
    refine done (m₁ x) h tk ?_ N₁
    have e : (fun y => if y = x then m₁ x else m₀ y) = m₁ := by
      funext y
      by_cases hy : y = x
      · rw [if_pos hy, hy]
      · rw [if_neg hy, hm y hy]
    rw [e]
    exact F₁
end
end Mine

namespace Mine
/-- the heap without one table -/
structure BaseOk (h hb : Heap) (P : Addr) : Prop where
  sub : ∀ b o, hb.get? b = some o → h.get? b = some o
  keep : ∀ b o, h.get? b = some o → b ≠ P → hb.get? b = some o
  none : hb.get? P = none
  size : hb.objs.size = h.objs.size
theorem base_of (h : Heap) (P : Addr) : ∃ hb, BaseOk h hb P :=
  ⟨hideAll h [P], fun _ _ e => of_hideAll _ e, fun _ _ e n => hideAll_get _ e (fun q => n (List.mem_singleton.mp q)), hideAll_none _ (.head _), hideAll_size _ _⟩
def pE : Program := { (default : Program) with main := { (default : Module) with body := [.Import [⟨Str.ofString "sys", none, default⟩] default] } }
section
variable {h hb : Heap} {P c : Addr} {ps : Array Value}
theorem BaseOk.ns (B : BaseOk h hb P) (hP : h.get? P = some (tblO ps)) {a : Addr} {m : Str → Option Value} (n : h.Ns a m) : hb.Ns a m := by
  obtain ⟨o, es, ep, ho, hd, r⟩ := n
  refine ⟨o, es, ep, B.keep _ _ ho (fun e => ?_), hd, r⟩
  rw [e, hP] at ho
  cases ho
  cases hd
theorem BaseOk.ofCls (B : BaseOk h hb P) (hP : h.get? P = some (tblO ps)) {a : Addr} {o : Obj} (ho : h.get? a = some o) (hc : o.cls ≠ .none) : hb.get? a = some o := by
  refine B.keep _ _ ho fun e => ?_
  rw [e, hP] at ho
  cases ho
  exact hc rfl
theorem BaseOk.ofK (B : BaseOk h hb P) (hP : h.get? P = some (tblO ps)) {K : Frag} {mg : Str → Option Value} (X : K.In h) (hg : h.Ns mainGlobals mg) (hl : h.NoLimit) (hK : kb_classed K = true) : K.In hb := by
  intro a o e
  have ha := X a o e
  have q := List.all_eq_true.mp hK (a, o) (kb_mem e)
  simp only [Bool.or_eq_true, decide_eq_true_eq, beq_iff_eq] at q
  rcases q with (q | q) | q
  · exact B.ofCls hP ha q
  · refine B.keep _ _ ha fun z => ?_
    obtain ⟨mc, ⟨o', es, ep, h1, h2, _⟩, _⟩ := hl
    rw [← q, z, hP] at h1
    cases h1
    cases h2
  · refine B.keep _ _ ha fun z => ?_
    obtain ⟨o', es, ep, h1, h2, _⟩ := hg
    rw [← q, z, hP] at h1
    cases h1
    cases h2
theorem BaseOk.list (B : BaseOk h hb P) (hP : h.get? P = some (tblO ps)) {a : Addr} {items : Array Value} (l : h.IsList a items) : hb.IsList a items := by
  obtain ⟨o, ho, hc, r⟩ := l
  exact ⟨o, B.ofCls hP ho (by rw [hc]; nofun), hc, r⟩
theorem BaseOk.fr (B : BaseOk h hb P) {L : Addr} {h₁ : Heap} {m : Str → Option Value} (F : Fr h L h₁ m) : Fr hb L h₁ m :=
  ⟨F.ns, fun b o e => F.keep b o (B.sub b o e), by rw [B.size]; exact F.above⟩
theorem BaseOk.news (B : BaseOk h hb P) (hP : h.get? P = some (tblO ps)) {L : Addr} {h₁ : Heap} {m : Str → Option Value} (F : Fr h L h₁ m) : News hb L h₁ [(P, tblO ps)] := by
  intro p hp
  rw [List.mem_singleton.mp hp]
  exact ⟨F.keep _ _ hP, fun e => absurd (Nat.lt_of_lt_of_le (Heap.lt_size hP) F.above) (by show ¬ P < L; rw [show P = L from e]; exact Nat.lt_irrefl _), B.none⟩
theorem BaseOk.code (B : BaseOk h hb P) (hP : h.get? P = some (tblO ps)) (C : CodeOf h c P) : CodeOf hb c P :=
  let ⟨o, vs, file, tf, flags, tg, inF, text, tt, a, k, r⟩ := C
  ⟨o, vs, file, tf, flags, tg, inF, text, tt, B.ofCls hP a (by rw [k]; nofun), k, r⟩
theorem BaseOk.top (B : BaseOk h hb P) (hP : h.get? P = some (tblO ps)) {p : Program} {loose : List Str} {mean : ExcName → Option Value} {mg mb : Str → Option Value} (T : Top p loose mean mg mb h) :
    ∃ loose', Top pE loose' mean mg mb hb := by
  refine ⟨loose ++ (recsOf p).map (·.name) ++ (litsOf p).map (·.1) ++ (clssOf p loose).map (·.name), B.ns hP T.g, B.ns hP T.b, ?_, ?_, ?_, ?_, ?_, ?_, T.builtins, ?_, ?_, ?_⟩
  · obtain ⟨mc, a, b⟩ := T.nolimit
    exact ⟨mc, B.ns hP a, b⟩
  · obtain ⟨mc, a, b⟩ := T.nodigits
    exact ⟨mc, B.ns hP a, b⟩
  · intro d hd
    have : recsOf pE = [] := rfl
    rw [this] at hd
    cases hd
  · intro d hd
    have : ownsOf pE = [] := rfl
    rw [this] at hd
    cases hd
  · intro x d hd
    have : valOf pE x = Option.none := rfl
    rw [this] at hd
    cases hd
  · intro x h1 h2 _ _ _
    simp only [List.mem_append, not_or] at h2
    exact T.free x h1 h2.1.1.1 h2.1.1.2 h2.1.2 h2.2
  · intro d hd
    have : recsOf pE = [] := rfl
    rw [this] at hd
    cases hd
  · obtain ⟨bm, ob, h1, h2, h3, h4, h5⟩ := T.bmain
    exact ⟨bm, ob, h1, h2, B.ofCls hP h3 (by rw [h4]; nofun), h4, h5⟩
  · intro hi
    have : importsNone pE = false := by decide +kernel
    rw [this] at hi
    cases hi
/-- one way on for an int that several ways bring -/
theorem cut_int {prog : Program} {w : World} {A : Around} {E : Value → Shared → Prop} {s : Shared} {h₀ : Heap} {L : Addr} {m : Str → Option Value} {t : Sem Value} {Q : Value → Shared → Prop} {news : List (Addr × Obj)} (_F : Fr h₀ L s.heap m) (_N : News h₀ L s.heap news) (R : Int → Prop)
    (h : wpAny (model prog w) A t (fun r s' => Halt (∃ (v : Int) (u : Tok) (h' : Heap) (tk' : Nat), r = .int v u ∧ R v ∧ s' = { s with heap := h', toks := tk' } ∧ Fr h₀ L h' m ∧ News h₀ L h' news)) E s)
    (k : ∀ (v : Int) (u : Tok) (h' : Heap) (tk' : Nat), R v → Fr h₀ L h' m → News h₀ L h' news → Q (.int v u) { s with heap := h', toks := tk' }) : wpAny (model prog w) A t Q E s := by
  refine wpAny_mono h (fun r s' p => ?_) fun _ _ e => e
  obtain ⟨v, u, h', tk', rfl, hR, rfl, F', N'⟩ := p
  exact k v u h' tk' hR F' N'
/-- one way on for a new list of ints that several ways bring -/
theorem cut_list {prog : Program} {w : World} {A : Around} {E : Value → Shared → Prop} {s : Shared} {h₀ : Heap} {L : Addr} {m : Str → Option Value} {t : Sem Value} {Q : Value → Shared → Prop} {news : List (Addr × Obj)} (_F : Fr h₀ L s.heap m) (_N : News h₀ L s.heap news) (R : List Int → Prop)
    (h : wpAny (model prog w) A t (fun r s' => Halt (∃ (l : Addr) (us : List Value) (ns : List Int) (n : Nat) (h' : Heap) (tk' : Nat), r = .ref l ∧ R ns ∧ s' = { s with heap := h', toks := tk' } ∧ Fr h₀ L h' m ∧ News h₀ L h' ((l, listOf us.toArray n) :: news) ∧ (∀ p ∈ news, p.1 ≠ l) ∧ IntsAre us ns)) E s)
    (k : ∀ (l : Addr) (us : List Value) (ns : List Int) (n : Nat) (h' : Heap) (tk' : Nat), R ns → Fr h₀ L h' m → News h₀ L h' ((l, listOf us.toArray n) :: news) → (∀ p ∈ news, p.1 ≠ l) → IntsAre us ns → Q (.ref l) { s with heap := h', toks := tk' }) : wpAny (model prog w) A t Q E s := by
  refine wpAny_mono h (fun r s' p => ?_) fun _ _ e => e
  obtain ⟨l, us, ns, n, h', tk', rfl, hR, rfl, F', N', hne, hI⟩ := p
  exact k l us ns n h' tk' hR F' N' hne hI
/-- the end: all is as it was but the table, which has grown -/
theorem BaseOk.old (B : BaseOk h hb P) (hC : CodeOf h c P) (hP : h.get? P = some (tblO ps)) {h' : Heap} {more : Array Value} (hk : ∀ b o, hb.get? b = some o → h'.get? b = some o) (hP' : h'.get? P = some (tblO (ps ++ more))) : OldK h h' := by
  refine ⟨fun b o e => ?_, fun b o e => ?_⟩
  · by_cases z : b = P
    · subst z
      rw [hP] at e
      cases e
      exact .inr (.inl ⟨(hC.tableAt hP).isCodeTable, rfl, ps, more, rfl, hP'⟩)
    · exact .inl (hk _ _ (B.keep _ _ e z))
  · by_cases z : b = P
    · subst z
      exact ⟨_, hP'⟩
    · exact ⟨o, hk _ _ (B.keep _ _ e z)⟩
end
end Mine

namespace Mine
local macro_rules | `(tactic| walk_at "pyIter") => `(tactic| (k_here; refine halt_of ?_))
local macro_rules | `(tactic| walk_at "pyIter ref") => `(tactic| (k_here; refine halt_of ?_))
local macro_rules | `(tactic| walk_at "InvEndN") => `(tactic| (refine halt_of ?_))
local macro_rules | `(tactic| walk_at "KswEnd") => `(tactic| (refine halt_of ?_))
local macro_rules | `(tactic| walk_at "binaryOp BitAnd int int") => `(tactic| (k_here; refine halt_of ?_))
local macro_rules | `(tactic| walk_at "binaryOp RShift int int") => `(tactic| (k_here; refine halt_of ?_))
local macro_rules | `(tactic| walk_at "call builtin:list.append") => `(tactic| (k_here; refine halt_of ?_))
local macro_rules | `(tactic| walk_at "exec While Compare cons nil") => `(tactic| (k_here; refine halt_of ?_))
/-- what convertbits hands back, not padded -/
def convF (f t : Nat) (ns : List Int) : List Int := digsZ t (f * ns.length / t) (valZ f ns) (f * ns.length)
set_option maxRecDepth 100000 in
set_option maxHeartbeats 1000000 in
theorem conv_conF (w : World) (mean : ExcName → Option Value) (mg mb : Str → Option Value) (news : List (Addr × Obj)) (dv : Value) (ns : List Int) (f t : Nat) (tf tt : Tok)
  (hw : CanWalk dv news ns) (hf : 1 ≤ f) (ht : 1 ≤ t) (hft : f + t ≤ 45) (hlen : ns.length < 2 ^ 10) (hb : ∀ v ∈ ns, 0 ≤ v ∧ v < 2 ^ f) (hbf : f * ns.length % t < f) (hz0 : (valZ f ns * 2 ^ (t - f * ns.length % t)) % 2 ^ t = 0) : Cl w mean mg mb 1 56 [dv, .int f tf, .int t tt, .bool false] news (RetL news (convF f t ns)) := by
  unfold Cl
  k_fill
  intro p loose dp un gd cn cs a ccd cl outer A₀ base h₀ L m s Q E B F X N T hk hd' hu hret
  have XK : (hd.heap_39 w.params).In s.heap := Frag.In.keeps X (Fr.keep F)
  refine wpAny_call ?_
  k_dflt (refine' code_def ?k1 ?k2 ?k3 ?k4 ?k5 ?kA ?kF ?kK ?k6 ?k7 ?k8 ?k9 ?kB ?_ ?c2 ?c3 ?c4 ?c5; (case kA => exact rfl); (case kF => exact rfl); (case kK => assumption); (case k1 => k_asm); (case k2 => k_asm); (case k3 => k_asm); (case k4 => k_asm); (case k5 => k_asm); (case k6 => k_is); (case k7 => k_is); (case k8 => ktr_room); (case k9 => exact binds_K XK rfl (by k_is) rfl rfl rfl); (case c5 => decide); (case kB => exact locs rfl); (case c2 => exact rfl); (case c3 => exact rfl); (case c4 => exact rfl); k_whole; intro g' L' h' FG' F' N' B' X' T'; (try dsimp only); (try k_fold))
  (k_with "binaryOp LShift int int" => (refine lshift_int_small (by omega) (by omega) (by first | decide | assumption) ?_))
  k_steps
  rename Fr _ _ _ _ => F1
  rename News _ _ _ _ => N1
  obtain ⟨R, hR⟩ := news_hd N1
  subst hR
  rename ∀ p ∈ news, p.1 < R => hlt
  with_unfolding_all refine' For_invVF F1 ?k1 ?k2 ?_
  case k1 => exact rfl
  case k2 => exact rfl
  k_dflt (refine ld F1 (by rfl) ?_)
  with_unfolding_all refine' hw (σ := Int × Tok × Int × Tok × List Value × List Int × Nat) (fun c => (R, listOf c.2.2.2.2.1.toArray c.2.2.2.2.2.2) :: news) (fun c => [(Str.ofString "acc", .int c.1 c.2.1), (Str.ofString "bits", .int c.2.2.1 c.2.2.2.1)]) (fun c => IntsAre c.2.2.2.2.1 c.2.2.2.2.2.1) [] (fun pre c => ConvI f t pre c.1 c.2.2.1 c.2.2.2.2.2.1) (0, ?ta, 0, ?tb, [], [], 0) rfl (fun c p hp => .tail _ hp) F1 N1 .nil ?kk (convI_start ht) ?turn ?done 
  case kk => kst_all
  case turn =>
    rintro ⟨acc, ta, bits, tb, us, rs, kk⟩ pre post v tv u h tk own hE hm hoff hfacts hinv F2 N2
    obtain ⟨hacc, hb0, hb1, hbt, hrs⟩ := hinv
    dsimp only [kstB] at F2 N2 hfacts
    dsimp only at hacc hb0 hb1 hbt hrs
    simp only [List.cons_append] at N2
    have hv := hb v hm
    have hv0 := hv.1
    have hz : v.fdiv (2 ^ (f : Int).toNat) = 0 := shift_out hv.1 hv.2
    have hacc2 : acc.natAbs < 2 ^ 64 := acc_small hacc hft
    try k_fold
    have hpl : (pre ++ [v]).length ≤ 1025 := by
      have := congrArg List.length hE
      simp only [List.length_append, List.length_cons, List.length_nil] at this ⊢
      omega
    have hRN : ∀ p ∈ news ++ own, p.1 ≠ R := fun p hp => (List.mem_append.mp hp).elim (fun h => Nat.ne_of_lt (hlt p h)) (fun h => hoff p h R (.head _))
    k_steps
    refine halt_in ?_
    refine rshift_int (by omega) ?_
    rw [hz]
    k_steps
    refine halt_in ?_
    refine and_int ?_
    have hA : Builtin.bitAnd (Builtin.bitOr (acc * 2 ^ (f : Int).toNat) v) (1 * 2 ^ ((f : Int) + t - 1).toNat - 1) = valZ f (pre ++ [v]) % 2 ^ (f + t - 1) := by
      rw [valZ_snoc, show ((f : Int)).toNat = f from Int.toNat_natCast f, show ((f : Int) + t - 1).toNat = f + t - 1 from by omega, Int.one_mul]
      exact acc_step hv.1 hv.2 hacc
    rw [hA]
    try dsimp only
    k_steps
    refine halt_in ?_
    have hW := whileI_start hv.1 hv.2 hb0 hb1 hbt hrs
    k_while (fun (script : List Int) bits ret => WhileI f t (pre ++ [v]) bits ret) (fun script bits ret => bits.toNat) "bits" "ret"
    clear hW
    rename WhileI _ _ _ _ _ => hI
    have hI' := hI
    obtain ⟨i0, i1, i2, i3⟩ := hI'
    have hz2 := bits_len i0 i2 ht (by omega) hpl
    rename IntsAre _ _ => hJ
    have hz3 := hJ.length
    k_steps
    · refine halt_in ?_
      refine rshift_int (by omega) ?_
      k_steps
      refine halt_in ?_
      refine and_int ?_
      k_steps
      refine halt_in ?_
      rename News _ _ _ _ => nE'
      try simp only [List.push_toArray] at nE'
      refine append_K (by k_asm) (by k_asm) (.head hRN) ?_ (by rw [List.size_toArray, sizeLine_eq]; omega)
      intro hh F6 N6
      k_steps
      refine halt_in ?_
      rename News _ _ _ _ => nE'
      try simp only [List.push_toArray] at nE'
      refine ksw_end ⟨_, _, _, _, _⟩ (by assumption) nE' (by kst_in) (by kst_facts) (by kst_all) (by ksw_same) ?_ (by dsimp only; omega)
      exact whileI_step hI rfl rfl (by omega) (by rw [Int.one_mul, Int.toNat_natCast])
    · refine halt_in ?_
      rename News _ _ _ _ => nE'
      refine kst_end ⟨_, _, _, _, _, _, _⟩ (by assumption) nE' (by first | kst_in | kst_inAny) (by first | (intro p hp; kst_mem) | kst_anyIn) (by rfl) (by kst_facts) (by kst_all) (by kst_same) ?_
      exact whileI_end hI rfl (by dsimp only; omega)
  case done =>
    rintro ⟨acc, ta, bits, tb, us, rs, kk⟩ u h tk hfacts hinv F2 N2
    have hinv2 := hinv
    obtain ⟨hacc, hb0, hb1, hbt, hrs⟩ := hinv2
    dsimp only [kstB] at F2 N2 hfacts
    dsimp only at hacc hb0 hb1 hbt hrs hinv
    have hacc2 : acc.natAbs < 2 ^ 64 := acc_small hacc hft
    have hz2 := bits_len hb0 hbt ht (by omega) (by omega)
    have hz3 := hfacts.length
    have hRN : ∀ p ∈ news, p.1 ≠ R := fun p hp => Nat.ne_of_lt (hlt p hp)
    try k_fold
    obtain ⟨hB1, hB2⟩ := convI_out hinv
    have hbf2 : bits < f := by omega
    have hlt2 := hinv.2.2.1
    have hzero : Builtin.bitAnd (acc * 2 ^ ((t : Int) - bits).toNat) (1 * 2 ^ (t : Int).toNat - 1) = 0 := by
      rw [Int.one_mul, Int.toNat_natCast, pad_eq hacc (by omega), show ((t : Int) - bits).toNat = t - f * ns.length % t from by omega]
      exact hz0
    k_steps
    refine halt_in ?_
    refine and_int ?_
    rw [hzero]
    k_steps
    rename Fr _ _ _ _ => Fz
    rename News _ _ _ _ => Nz
    rw [hB2] at hfacts
    exact retL_end hret Fz Nz (.head _) (fun p hp => .tail _ hp) hRN hfacts
end Mine

namespace Mine
/-- what _law_digits hands back: one to three digits of the base -/
def DigsOk (b : Int) (ns : List Int) : Prop := 1 ≤ ns.length ∧ ns.length ≤ 3 ∧ ∀ d ∈ ns, 0 ≤ d ∧ d < b
abbrev RetG (news : List (Addr × Obj)) (b : Int) (h₀ : Heap) (L : Addr) (m : Str → Option Value) (s : Shared) (Q : Value → Shared → Prop) : Prop :=
  ∀ (l : Addr) (us : List Value) (ns : List Int) (k : Nat) (h' : Heap) (tk' : Nat), DigsOk b ns → Fr h₀ L h' m → News h₀ L h' ((l, listOf us.toArray k) :: news) → (∀ p ∈ news, p.1 ≠ l) → IntsAre us ns → Q (.ref l) { s with heap := h', toks := tk' }
def DigI (b n : Int) (ns : List Int) : Prop := 0 ≤ n ∧ DigsOk b ns
theorem digs_start {v b : Int} (hb : 2 ≤ b) : 0 ≤ v ∧ DigsOk b [v.fmod b] ∨ v < 0 := by
  by_cases h : 0 ≤ v
  · refine .inl ⟨h, by simp, by simp, fun d hd => ?_⟩
    rw [List.mem_singleton.mp hd]
    exact ⟨Int.fmod_nonneg_of_pos _ (by omega), Int.fmod_lt_of_pos _ (by omega)⟩
  · exact .inr (by omega)
theorem digs_more {b n : Int} {ns : List Int} (hb : 2 ≤ b) (h0 : 0 ≤ n) (h : DigsOk b ns) (hl : ns.length < 3) : 0 ≤ n.fdiv b ∧ DigsOk b (ns ++ [(n.fdiv b).fmod b]) := by
  refine ⟨?_, ?_, ?_, fun d hd => ?_⟩
  · rw [Int.fdiv_eq_ediv_of_nonneg _ (by omega)]
    exact Int.ediv_nonneg h0 (by omega)
  · simp
  · simp
    omega
  · rcases List.mem_append.mp hd with hd | hd
    · exact h.2.2 d hd
    · rw [List.mem_singleton.mp hd]
      exact ⟨Int.fmod_nonneg_of_pos _ (by omega), Int.fmod_lt_of_pos _ (by omega)⟩
local macro_rules | `(tactic| walk_at "exec While BoolOp cons nil") => `(tactic| (k_here; refine halt_of ?_))
local macro_rules | `(tactic| walk_at "binaryOp FloorDiv int int") => `(tactic| (k_here; refine halt_of ?_))
local macro_rules | `(tactic| walk_at "KswEnd") => `(tactic| (refine halt_of ?_))
local macro_rules | `(tactic| walk_at "call builtin:list.append") => `(tactic| (k_here; refine halt_of ?_))
set_option maxRecDepth 100000 in
set_option maxHeartbeats 1000000 in
theorem digits_con (w : World) (mean : ExcName → Option Value) (mg mb : Str → Option Value) (news : List (Addr × Obj)) (v b : Int) (tv tb t3 : Tok) (hb : 2 ≤ b) (hb2 : b < 1000) : Cl w mean mg mb 1 70 [.int v tv, .int b tb, .int 3 t3] news (RetG news b) := by
  unfold Cl
  k_fill
  intro p loose dp un gd cn cs a ccd cl outer A₀ base h₀ L m s Q E B F X N T hk hd' hu hret
  refine wpAny_call ?_
  k_dflt ktr_enter
  k_steps
  refine halt_in ?_
  rename ∀ p ∈ news, p.1 < _ => hlt
  rename Fr _ _ _ _ => F1
  rename News _ _ _ _ => N1
  obtain ⟨a0, ha0⟩ : ∃ a0, a0 = if v < 0 then -v else v := ⟨_, rfl⟩
  have ha1 : 0 ≤ a0 := by rw [ha0]; split <;> omega
  rw [← ha0] at F1 N1
  clear ha0
  have hst : DigI b a0 [a0.fmod b] := (digs_start hb).elim id fun h => by omega
  obtain ⟨R, hR⟩ := news_hd N1
  subst hR
  with_unfolding_all refine' ksw_while (σ := Int × Tok × List Value × List Int × Nat) (fun c => (R, listOf c.2.2.1.toArray c.2.2.2.2) :: news) (fun c => [(Str.ofString "number", .int c.1 c.2.1)]) (fun c => IntsAre c.2.2.1 c.2.2.2.1) [] (fun c => DigI b c.1 c.2.2.2.1) (fun c => 3 - c.2.2.2.1.length) (a0, ?wa, [_], [a0.fmod b], 0) F1 N1 (.cons _ _ .nil) ?wk hst ?wt
  case wk => kst_all
  rintro ⟨a1, wa1, us, ds, kk⟩ u h tk hJ hI F2 N2
  dsimp only [kstB] at F2 N2
  dsimp only at hI hJ
  try k_fold
  clear hst
  have hn0 := hI.1
  have hD := hI.2
  have hD1 := hD.1
  have hD2 := hD.2.1
  have hJl := hJ.length
  k_steps
  · refine halt_in ?_
    refine floordiv_int (by omega) ?_ (Or.inl (PyProof.noPylong_small (by omega)))
    k_steps
    refine halt_in ?_
    refine append_K (by k_asm) (by k_asm) (.head fun p hp => Nat.ne_of_lt (hlt p hp)) ?_ (by rw [List.size_toArray, sizeLine_eq]; omega)
    intro hh F6 N6
    k_steps
    refine halt_in ?_
    rename News _ _ _ _ => nE'
    try simp only [List.push_toArray] at nE'
    refine ksw_end ⟨_, _, _, _, _⟩ (by assumption) nE' (by kst_in) (hJ.append (.cons _ _ .nil)) (by kst_all) (by ksw_same) ?_ (by dsimp only; rw [List.length_append]; show 3 - (ds.length + 1) < 3 - ds.length; omega)
    exact digs_more hb hn0 hD (by omega)
  · rename Fr _ _ _ _ => Fz
    rename News _ _ _ _ => Nz
    exact hret _ _ _ _ _ _ hD Fz Nz (fun p hp => Nat.ne_of_lt (hlt p hp)) hJ
  · rename Fr _ _ _ _ => Fz
    rename News _ _ _ _ => Nz
    exact hret _ _ _ _ _ _ hD Fz Nz (fun p hp => Nat.ne_of_lt (hlt p hp)) hJ
end Mine

namespace Mine
/-- the seven digits of a stamp -/
def sevenZ (s : Int) : List Int := [s / 2 ^ 30 % 32, s / 2 ^ 25 % 32, s / 2 ^ 20 % 32, s / 2 ^ 15 % 32, s / 2 ^ 10 % 32, s / 2 ^ 5 % 32, s % 32]
theorem conv35 (s : Int) : convP 35 5 [s] = sevenZ s := by
  simp [convP, digsZ, valZ, List.range_succ, sevenZ]
theorem sevenZ_lt (s : Int) : ∀ d ∈ sevenZ s, 0 ≤ d ∧ d < 32 := by
  intro d hd
  simp only [sevenZ, List.mem_cons, List.not_mem_nil, or_false] at hd
  rcases hd with rfl | rfl | rfl | rfl | rfl | rfl | rfl <;> omega
theorem val7 (s : Int) (h0 : 0 ≤ s) (h1 : s < 2 ^ 35) : valZ 5 (sevenZ s) = s := by
  simp only [valZ, sevenZ, List.foldl_cons, List.foldl_nil]
  omega
theorem back35 (s : Int) (h0 : 0 ≤ s) (h1 : s < 2 ^ 35) : convF 5 35 (sevenZ s) = [s] ∧ (valZ 5 (sevenZ s) * 2 ^ (35 - 5 * (sevenZ s).length % 35)) % 2 ^ 35 = 0 := by
  have hl : (sevenZ s).length = 7 := by simp [sevenZ]
  rw [convF, hl, val7 s h0 h1]
  refine ⟨?_, ?_⟩
  · simp [digsZ, List.range_succ]
    omega
  · simp
theorem conv10 (n : Int) (h0 : 0 ≤ n) (h1 : n < 32) : convP 10 5 [n] = [0, n] := by
  simp [convP, digsZ, valZ, List.range_succ]
  omega
theorem back10 (n : Int) (h0 : 0 ≤ n) (h1 : n < 32) : convF 5 10 [0, n] = [n] ∧ (valZ 5 [0, n] * 2 ^ (10 - 5 * [0, n].length % 10)) % 2 ^ 10 = 0 := by
  refine ⟨?_, ?_⟩
  · simp [convF, digsZ, valZ, List.range_succ]
    omega
  · simp [valZ]
/-- the digits that are due of one, two or three bytes -/
def dueZ (os : List Int) : List Int := (rangeInts 0 1 ((8 * os.length + 4) / 5)).map fun k => (valZ 8 os * 2 ^ (5 * ((8 * os.length + 4) / 5) - 8 * os.length)) / 2 ^ (5 * ((8 * os.length + 4) / 5 - 1 - k.toNat)) % 32
theorem three_cases {P : List Int → Prop} (h1 : ∀ a, P [a]) (h2 : ∀ a b, P [a, b]) (h3 : ∀ a b c, P [a, b, c]) (os : List Int) (l1 : 1 ≤ os.length) (l3 : os.length ≤ 3) : P os := by
  match os, l1, l3 with
  | [a], _, _ => exact h1 a
  | [a, b], _, _ => exact h2 a b
  | [a, b, c], _, _ => exact h3 a b c
theorem due1 (a : Int) : dueZ [a] = [(a * 4) / 32 % 32, a * 4 % 32] := by
  have r : rangeInts 0 1 ((8 * 1 + 4) / 5) = [0, 1] := by decide
  simp only [dueZ, List.length_cons, List.length_nil, Nat.zero_add]
  rw [r]
  simp [valZ]
theorem due2 (a b : Int) : dueZ [a, b] = [((a * 256 + b) * 16) / 32768 % 32, ((a * 256 + b) * 16) / 1024 % 32, ((a * 256 + b) * 16) / 32 % 32, (a * 256 + b) * 16 % 32] := by
  have r : rangeInts 0 1 ((8 * (1 + 1) + 4) / 5) = [0, 1, 2, 3] := by decide
  simp only [dueZ, List.length_cons, List.length_nil, Nat.zero_add]
  rw [r]
  simp [valZ]
theorem due3 (a b c : Int) : dueZ [a, b, c] = [(((a * 256 + b) * 256 + c) * 2) / 1048576 % 32, (((a * 256 + b) * 256 + c) * 2) / 32768 % 32, (((a * 256 + b) * 256 + c) * 2) / 1024 % 32, (((a * 256 + b) * 256 + c) * 2) / 32 % 32, ((a * 256 + b) * 256 + c) * 2 % 32] := by
  have r : rangeInts 0 1 ((8 * (1 + 1 + 1) + 4) / 5) = [0, 1, 2, 3, 4] := by decide
  simp only [dueZ, List.length_cons, List.length_nil, Nat.zero_add]
  rw [r]
  simp [valZ]
theorem conv8 (os : List Int) (l1 : 1 ≤ os.length) (l3 : os.length ≤ 3) : convP 8 5 os = dueZ os := by
  refine three_cases (P := fun os => convP 8 5 os = dueZ os) (fun a => ?_) (fun a b => ?_) (fun a b c => ?_) os l1 l3
  · rw [due1]
    simp [convP, digsZ, valZ, List.range_succ]
    omega
  · rw [due2]
    simp [convP, digsZ, valZ, List.range_succ]
    omega
  · rw [due3]
    simp [convP, digsZ, valZ, List.range_succ]
    omega
theorem dueZ_lt (os : List Int) : ∀ d ∈ dueZ os, 0 ≤ d ∧ d < 32 := by
  intro d hd
  obtain ⟨k, _, rfl⟩ := List.mem_map.mp hd
  omega
theorem dueZ_length (os : List Int) : (dueZ os).length = (8 * os.length + 4) / 5 := by simp only [dueZ, List.length_map, rangeInts_length]
theorem back8 (os : List Int) (l1 : 1 ≤ os.length) (l3 : os.length ≤ 3) (hb : ∀ d ∈ os, 0 ≤ d ∧ d < 256) : convF 5 8 (dueZ os) = os ∧ (valZ 5 (dueZ os) * 2 ^ (8 - 5 * (dueZ os).length % 8)) % 2 ^ 8 = 0 ∧ 5 * (dueZ os).length % 8 < 5 := by
  revert hb
  refine three_cases (P := fun os => (∀ d ∈ os, 0 ≤ d ∧ d < 256) → convF 5 8 (dueZ os) = os ∧ (valZ 5 (dueZ os) * 2 ^ (8 - 5 * (dueZ os).length % 8)) % 2 ^ 8 = 0 ∧ 5 * (dueZ os).length % 8 < 5) (fun a h => ?_) (fun a b h => ?_) (fun a b c h => ?_) os l1 l3
  · have ha := h a (by simp)
    have v : valZ 5 (dueZ [a]) = a * 4 := by
      rw [due1]
      simp only [valZ, List.foldl_cons, List.foldl_nil]
      omega
    have hl : (dueZ [a]).length = 2 := by rw [due1]; rfl
    rw [convF, hl, v]
    refine ⟨?_, ?_, by decide⟩
    · simp [digsZ, List.range_succ]
      omega
    · simp
      omega
  · have ha := h a (by simp)
    have hbb := h b (by simp)
    have v : valZ 5 (dueZ [a, b]) = (a * 256 + b) * 16 := by
      rw [due2]
      simp only [valZ, List.foldl_cons, List.foldl_nil]
      omega
    have hl : (dueZ [a, b]).length = 4 := by rw [due2]; rfl
    rw [convF, hl, v]
    refine ⟨?_, ?_, by decide⟩
    · simp [digsZ, List.range_succ]
      omega
    · simp
      omega
  · have ha := h a (by simp)
    have hbb := h b (by simp)
    have hc := h c (by simp)
    have v : valZ 5 (dueZ [a, b, c]) = ((a * 256 + b) * 256 + c) * 2 := by
      rw [due3]
      simp only [valZ, List.foldl_cons, List.foldl_nil]
      omega
    have hl : (dueZ [a, b, c]).length = 5 := by rw [due3]; rfl
    rw [convF, hl, v]
    refine ⟨?_, ?_, by decide⟩
    · simp [digsZ, List.range_succ]
      omega
    · simp
      omega
end Mine

namespace Mine
/-- a turn's end: the ledger may have grown, the iterator stands -/
def GrowEnd (h₀ : Heap) (L : Addr) (Jn : (Str → Option Value) → List (Addr × Obj) → Prop) (I : Addr) (io : Obj) (s₁ s₂ : Shared) : Prop :=
  ∃ (h' : Heap) (tk : Nat) (m' : Str → Option Value) (nx : List (Addr × Obj)), s₂ = { s₁ with heap := h', toks := tk } ∧ Fr h₀ L h' m' ∧ News h₀ L h' ((I, io) :: nx) ∧ (∀ p ∈ nx, p.1 ≠ I) ∧ Jn m' nx
def GrowPost (h₀ : Heap) (L : Addr) (Jn : (Str → Option Value) → List (Addr × Obj) → Prop) (I : Addr) (io : Obj) (s₁ : Shared) (Q : Flow → Shared → Prop) (f : Flow) (s₂ : Shared) : Prop :=
  match f with
  | .ret v => Q (.ret v) s₂
  | .brk => Q .next s₂
  | _ => GrowEnd h₀ L Jn I io s₁ s₂
section
variable {prog : Program} {w : World} {A : Around} {E : Value → Shared → Prop} {s : Shared} {env : Env} {h₀ : Heap} {x : Str} {body : List Stmt} {Q : Flow → Shared → Prop}
theorem iter_grow {ax : Addr} {items : Array Value} {k0 : Nat} {m₀ : Str → Option Value} {news : List (Addr × Obj)} (J : Nat → (Str → Option Value) → List (Addr × Obj) → Prop)
    (hA : A.handled = none) (hsrc : ∀ i m nx, J i m nx → (ax, listOf items k0) ∈ nx) (F : Fr h₀ env.locals s.heap m₀) (N : News h₀ env.locals s.heap news) (hj : J 0 m₀ news)
    (turn : ∀ i v m₁ nx h tk I io, items[i]? = some v → J i m₁ nx → (∀ p ∈ nx, p.1 ≠ I) → Fr h₀ env.locals h (fun y => if y = x then some v else m₁ y) → News h₀ env.locals h ((I, io) :: nx) →
      wpAny (model prog w) A (execs body env) (GrowPost h₀ env.locals (J (i + 1)) I io { s with heap := h, toks := tk } Q) E { s with heap := h, toks := tk })
    (done : ∀ m₁ nx h tk, J items.size m₁ nx → Fr h₀ env.locals h m₁ → News h₀ env.locals h nx → Q .next { s with heap := h, toks := tk }) :
    wpAny (model prog w) A (pyIter (.ref ax)) (fun it s₂ => LoopAtV prog w A h₀ env x body Q E it s₂) E s := by
  have hax := hsrc 0 m₀ news hj
  have hol := (N _ hax).1
  have hl : s.heap.IsList ax items := ⟨_, hol, rfl, k0, rfl⟩
  have hne : ax ≠ s.heap.objs.size := Nat.ne_of_lt (Heap.lt_size hol)
  have small : ∀ p ∈ news, p.1 ≠ s.heap.objs.size := fun p hp e => absurd (Heap.lt_size (N p hp).1) (by rw [e]; exact Nat.lt_irrefl _)
  have hI0 : h₀.get? s.heap.objs.size = none := next_is_new F
  refine wpAny_pyIter_list hl ?_
  have W := Walks.list (prog := prog) (w := w) hA s.heap.objs.size ax hne items
  refine ⟨_, _, _, items.size, _, _, m₀, news, (fun i m nx => (∀ p ∈ nx, p.1 ≠ s.heap.objs.size) ∧ J i m nx), rfl, W, ?_, ?_, ?_, ⟨⟨_, Heap.get?_push_size _ rfl, rfl, rfl⟩, hl.at fun o e => Heap.get?_push_of_some _ e⟩, F.push _, (fun p hp => ⟨Heap.get?_push_of_some _ (N p hp).1, (N p hp).2⟩), ⟨small, hj⟩, ?_, ?_⟩
  · intro hm
    rcases List.mem_cons.mp hm with e | hm
    · exact absurd F.ns.lt (e ▸ Nat.lt_irrefl _)
    · exact (N _ hax).2.1 ((List.mem_singleton.mp hm).symm)
  · intro b hb
    rw [List.mem_singleton.mp hb]
    exact hI0
  · intro p hp hI
    exact small p hp (List.mem_singleton.mp hI)
  · rintro i v m₁ nx s₁ own ⟨hh', tk', rfl⟩ hin hP ⟨hI, hJ⟩ _ hown hget hfp hst F₁ N₁
    obtain ⟨⟨io, hio, _, _⟩, _⟩ := hst
    have hmem : (s.heap.objs.size, io) ∈ own := hfp _ (.head _) hI0 io hio
    have N₂ : News h₀ env.locals hh' ((s.heap.objs.size, io) :: nx) := fun p hp => by
      rcases List.mem_cons.mp hp with rfl | hp
      · exact N₁ _ (List.mem_append.mpr (.inl hmem))
      · exact N₁ p (List.mem_append.mpr (.inr hp))
    have hao : hh'.get? ax = some (listOf items k0) := (N₁ _ (List.mem_append.mpr (.inr (hsrc i m₁ nx hJ)))).1
    refine wpAny_mono (turn i v m₁ nx hh' tk' _ io hP hJ hI F₁ N₂) (fun f s₂ p => ?_) fun _ _ e => e
    have fin : GrowEnd h₀ env.locals (J (i + 1)) s.heap.objs.size io { s with heap := hh', toks := tk' } s₂ →
        LoopStepU h₀ env.locals [s.heap.objs.size] own (fun m nx => (∀ p ∈ nx, p.1 ≠ s.heap.objs.size) ∧ J (i + 1) m nx) { s with heap := hh', toks := tk' } .next s₂ := by
      rintro ⟨h', tk, m', nx', e, F', N', hn', hJ'⟩
      refine ⟨rfl, h', tk, m', nx', e, F', fun p hp => (List.mem_append.mp hp).elim (fun h => ?_) (fun h => N' p (.tail _ h)), fun p hp hI => hn' p hp (List.mem_singleton.mp hI), hn', hJ'⟩
      have h3 := hget p h
      rcases List.mem_cons.mp (hown p h) with h2 | h2
      · rw [h2] at h3
        have h4 : p = (s.heap.objs.size, io) := Prod.ext h2 (Option.some.inj (h3.symm.trans hio))
        rw [h4]
        exact N' _ (.head _)
      · have h1 : p.1 = ax := List.mem_singleton.mp h2
        rw [h1] at h3
        have h4 : p = (ax, listOf items k0) := Prod.ext h1 (Option.some.inj (h3.symm.trans hao))
        rw [h4]
        exact N' _ (.tail _ (hsrc _ _ _ hJ'))
    cases f with
    | ret v => exact .ret p
    | brk => exact .brk p
    | next => exact .next (fin p)
    | cont => exact .cont (fin p)
  · rintro h' tk m' news' F' N' _ ⟨_, hJ⟩
    exact done m' news' h' tk hJ F' N'
/-- the state of a loop whose ledger grows -/
def GrowS {σ : Type} (Led : σ → List (Addr × Obj)) (ps : σ → List (Str × Value)) (x : Str) (stored : List Str) (m₀ : Str → Option Value) (P : Nat → σ → Prop) (i : Nat) (m : Str → Option Value) (nx : List (Addr × Obj)) : Prop :=
  ∃ c : σ, nx = Led c ∧ P i c ∧ (∀ p ∈ ps c, m p.1 = some p.2) ∧ ∀ z, z ≠ x → (∀ p ∈ ps c, z ≠ p.1) → stored.contains z = false → m z = m₀ z
theorem grow_end {σ : Type} {Led : σ → List (Addr × Obj)} {ps : σ → List (Str × Value)} {stored : List Str} {m₀ m' : Str → Option Value} {P : Nat → σ → Prop} {i : Nat} {L I : Addr} {io : Obj} {s₁ : Shared} {h' : Heap} {tk : Nat} {news' : List (Addr × Obj)} (c : σ)
    (F : Fr h₀ L h' m') (N : News h₀ L h' news') (hI : (I, io) ∈ news') (hn : ∀ p ∈ Led c, p ∈ news') (hne : ∀ p ∈ Led c, p.1 ≠ I) (hp : P i c) (hk : ∀ p ∈ ps c, m' p.1 = some p.2)
    (hr : ∀ z, z ≠ x → (∀ p ∈ ps c, z ≠ p.1) → stored.contains z = false → m' z = m₀ z) : GrowEnd h₀ L (GrowS Led ps x stored m₀ P i) I io s₁ { s₁ with heap := h', toks := tk } :=
  ⟨h', tk, m', Led c, rfl, F, fun p hp' => (List.mem_cons.mp hp').elim (fun e => e ▸ N _ hI) fun h => N p (hn p h), hne, c, rfl, hp, hk, hr⟩
theorem iter_growS {σ : Type} {ax : Addr} {items : Array Value} {k0 : Nat} {m₀ : Str → Option Value} (Led : σ → List (Addr × Obj)) (ps : σ → List (Str × Value)) (stored : List Str) (P : Nat → σ → Prop) (c₀ : σ)
    (hA : A.handled = none) (hsrc : ∀ c : σ, (ax, listOf items k0) ∈ Led c) (F : Fr h₀ env.locals s.heap m₀) (N : News h₀ env.locals s.heap (Led c₀)) (hk : ∀ p ∈ ps c₀, m₀ p.1 = some p.2) (hp : P 0 c₀)
    (turn : ∀ i v (c : σ) (u : Str → Option Value) h tk I io, items[i]? = some v → P i c → (∀ p ∈ Led c, p.1 ≠ I) →
      Fr h₀ env.locals h (fun y => if y = x then some v else kstB (fun z => if stored.contains z then u z else m₀ z) (ps c) y) → News h₀ env.locals h ((I, io) :: Led c) →
      wpAny (model prog w) A (execs body env) (GrowPost h₀ env.locals (GrowS Led ps x stored m₀ P (i + 1)) I io { s with heap := h, toks := tk } Q) E { s with heap := h, toks := tk })
    (done : ∀ (c : σ) (u : Str → Option Value) h tk, P items.size c → Fr h₀ env.locals h (fun y => if y = x then u y else kstB (fun z => if stored.contains z then u z else m₀ z) (ps c) y) → News h₀ env.locals h (Led c) → Q .next { s with heap := h, toks := tk }) :
    wpAny (model prog w) A (pyIter (.ref ax)) (fun it s₂ => LoopAtV prog w A h₀ env x body Q E it s₂) E s := by
  refine iter_grow (items := items) (k0 := k0) (GrowS Led ps x stored m₀ P) hA (fun i m nx => ?_) F N ⟨c₀, rfl, hp, hk, fun _ _ _ _ => rfl⟩ ?_ ?_
  · rintro ⟨c, rfl, _⟩
    exact hsrc c
  · rintro i v m₁ nx h tk I io hv ⟨c, rfl, hP, h1, h2⟩ hI F₁ N₁
    exact turn i v c m₁ h tk I io hv hP hI (kst_fr h1 h2 F₁) N₁
  · rintro m₁ nx h tk ⟨c, rfl, hP, h1, h2⟩ F₁ N₁
    exact done c m₁ h tk hP (kst_frOut h1 h2 F₁) N₁
end
end Mine

namespace Mine
section
variable {prog : Program} {w : World} {A : Around} {E : Value → Shared → Prop} {s : Shared} {env : Env} {h₀ : Heap} {target : Expr} {body : List Stmt} {Q : Flow → Shared → Prop}
/-- iter_growS for any target: the turn begins with the target's own storing -/
theorem iter_growT {x : Str} {σ : Type} {ax : Addr} {items : Array Value} {k0 : Nat} {m₀ : Str → Option Value} (Led : σ → List (Addr × Obj)) (ps : σ → List (Str × Value)) (stored : List Str) (P : Nat → σ → Prop) (c₀ : σ)
    (hA : A.handled = none) (hsrc : ∀ c : σ, (ax, listOf items k0) ∈ Led c) (F : Fr h₀ env.locals s.heap m₀) (N : News h₀ env.locals s.heap (Led c₀)) (hk : ∀ p ∈ ps c₀, m₀ p.1 = some p.2) (hp : P 0 c₀)
    (turn : ∀ i v (c : σ) (u : Str → Option Value) h tk I io, items[i]? = some v → P i c → (∀ p ∈ Led c, p.1 ≠ I) →
      Fr h₀ env.locals h (fun y => if y = x then u y else kstB (fun z => if stored.contains z then u z else m₀ z) (ps c) y) → News h₀ env.locals h ((I, io) :: Led c) →
      wpAny (model prog w) A (assign target env v) (fun _ s₃ => wpAny (model prog w) A (execs body env) (GrowPost h₀ env.locals (GrowS Led ps x stored m₀ P (i + 1)) I io { s with heap := h, toks := tk } Q) E s₃) E { s with heap := h, toks := tk })
    (done : ∀ (c : σ) (u : Str → Option Value) h tk, P items.size c → Fr h₀ env.locals h (fun y => if y = x then u y else kstB (fun z => if stored.contains z then u z else m₀ z) (ps c) y) → News h₀ env.locals h (Led c) → Q .next { s with heap := h, toks := tk }) :
    wpAny (model prog w) A (pyIter (.ref ax)) (fun it s₂ => TurnsAt prog w A h₀ env target body Q E it s₂) E s := by
  have hax := hsrc c₀
  have hol := (N _ hax).1
  have hl : s.heap.IsList ax items := ⟨_, hol, rfl, k0, rfl⟩
  have hne : ax ≠ s.heap.objs.size := Nat.ne_of_lt (Heap.lt_size hol)
  have small : ∀ p ∈ Led c₀, p.1 ≠ s.heap.objs.size := fun p hp e => absurd (Heap.lt_size (N p hp).1) (by rw [e]; exact Nat.lt_irrefl _)
  have hI0 : h₀.get? s.heap.objs.size = none := next_is_new F
  refine wpAny_pyIter_list hl ?_
  have W := Walks.list (prog := prog) (w := w) hA s.heap.objs.size ax hne items
  refine ⟨_, _, _, items.size, _, _, _, m₀, Led c₀, (fun i m nx => (∀ p ∈ nx, p.1 ≠ s.heap.objs.size) ∧ GrowS Led ps x stored m₀ P i m nx), rfl, KTurns.ofWalks W (fun i v s Q E st q => letGo_listiter st.1 q), ?_, ?_, ?_, ⟨⟨_, Heap.get?_push_size _ rfl, rfl, rfl⟩, hl.at fun o e => Heap.get?_push_of_some _ e⟩, F.push _, (fun p hp => ⟨Heap.get?_push_of_some _ (N p hp).1, (N p hp).2⟩), ⟨small, c₀, rfl, hp, hk, fun _ _ _ _ => rfl⟩, ?_, ?_⟩
  · intro hm
    rcases List.mem_cons.mp hm with e | hm
    · exact absurd F.ns.lt (e ▸ Nat.lt_irrefl _)
    · exact (N _ hax).2.1 ((List.mem_singleton.mp hm).symm)
  · intro b hb
    rw [List.mem_singleton.mp hb]
    exact hI0
  · intro p hp hI
    exact small p hp (List.mem_singleton.mp hI)
  · rintro i v m₁ nx hh' tk' own hin hP ⟨hI, c, rfl, hPc, h1, h2⟩ _ hown hget hfp hst F₁ N₁
    obtain ⟨⟨io, hio, _, _⟩, _⟩ := hst
    have hmem : (s.heap.objs.size, io) ∈ own := hfp _ (.head _) hI0 io hio
    have N₂ : News h₀ env.locals hh' ((s.heap.objs.size, io) :: Led c) := fun p hp => by
      rcases List.mem_cons.mp hp with rfl | hp
      · exact N₁ _ (List.mem_append.mpr (.inl hmem))
      · exact N₁ p (List.mem_append.mpr (.inr hp))
    have hao : hh'.get? ax = some (listOf items k0) := (N₁ _ (List.mem_append.mpr (.inr (hsrc c)))).1
    refine wpAny_mono (turn i v c m₁ hh' tk' _ io hP hPc hI (kst_frOut h1 h2 F₁) N₂) (fun _ s₃ q => wpAny_mono q (fun f s₂ p => ?_) fun _ _ e => e) fun _ _ e => e
    have fin : GrowEnd h₀ env.locals (GrowS Led ps x stored m₀ P (i + 1)) s.heap.objs.size io { s with heap := hh', toks := tk' } s₂ →
        LoopStepU h₀ env.locals [s.heap.objs.size] own (fun m nx => (∀ p ∈ nx, p.1 ≠ s.heap.objs.size) ∧ GrowS Led ps x stored m₀ P (i + 1) m nx) { s with heap := hh', toks := tk' } .next s₂ := by
      rintro ⟨h', tk, m', nx', e, F', N', hn', c', rfl, hJ'⟩
      refine ⟨rfl, h', tk, m', Led c', e, F', fun p hp => (List.mem_append.mp hp).elim (fun h => ?_) (fun h => N' p (.tail _ h)), fun p hp hI => hn' p hp (List.mem_singleton.mp hI), hn', c', rfl, hJ'⟩
      have h3 := hget p h
      rcases List.mem_cons.mp (hown p h) with h2 | h2
      · rw [h2] at h3
        have h4 : p = (s.heap.objs.size, io) := Prod.ext h2 (Option.some.inj (h3.symm.trans hio))
        rw [h4]
        exact N' _ (.head _)
      · have h1 : p.1 = ax := List.mem_singleton.mp h2
        rw [h1] at h3
        have h4 : p = (ax, listOf items k0) := Prod.ext h1 (Option.some.inj (h3.symm.trans hao))
        rw [h4]
        exact N' _ (.tail _ (hsrc _))
    cases f with
    | ret v => exact p
    | brk => exact p
    | next => exact fin p
    | cont => exact fin p
  · rintro h' tk m' news' F' N' _ ⟨_, c, rfl, hPc, h1, h2⟩
    exact done c m' h' tk hPc (kst_frOut h1 h2 F') N'
/-- what a map tells of two names stands when the rest is forgotten -/
theorem fr_known {h : Heap} {L : Addr} {m : Str → Option Value} (F : Fr h₀ L h m) {a b : Str} {va vb : Value} (ha : m a = some va) (hb : m b = some vb) : ∃ m0 : Str → Option Value, Fr h₀ L h (fun y => if y = a then some va else if y = b then some vb else m0 y) := by
  refine ⟨m, ?_⟩
  have e : (fun y => if y = a then some va else if y = b then some vb else m y) = m := by
    funext y
    by_cases h1 : y = a
    · rw [if_pos h1, h1, ha]
    · rw [if_neg h1]
      by_cases h2 : y = b
      · rw [if_pos h2, h2, hb]
      · rw [if_neg h2]
  rw [e]
  exact F
end
end Mine

namespace Mine
theorem pow32_ne (e : Nat) : (32 : Int) ^ e ≠ 0 := Int.ne_of_gt (Int.pow_pos (by decide))
theorem pow32_two (e : Nat) : (32 : Int) ^ e = 2 ^ (5 * e) := by
  rw [Int.pow_mul]
  rfl
theorem pow32_room {x : Int} {e : Nat} (h : e ≤ 20) : Builtin.divisionGoesByPylong x (32 ^ e) = false := by
  refine PyProof.noPylong_of_log2 ?_
  rw [Int.natAbs_pow]
  have h1 : (Int.natAbs 32) ^ e ≤ 32 ^ 20 := Nat.pow_le_pow_right (by decide) h
  have h2 : (Int.natAbs 32) ^ e ≠ 0 := Nat.ne_of_gt (Nat.pow_pos (by decide))
  have h3 : (32 : Nat) ^ 20 < 2 ^ 101 := by decide
  exact Nat.lt_trans ((Nat.log2_lt h2).mpr (Nat.lt_of_le_of_lt h1 h3)) (by decide)
theorem fdiv_pos {a b : Int} (h : 0 < b) : a.fdiv b = a / b := Int.fdiv_eq_ediv_of_nonneg _ (Int.le_of_lt h)
theorem fmod_pos {a b : Int} (h : 0 < b) : a.fmod b = a % b := Int.fmod_eq_emod_of_nonneg _ (Int.le_of_lt h)
theorem seven_due (s : Int) : (rangeInts 0 1 7).map (fun a => (s.fdiv (32 ^ (6 - a).toNat)).fmod 32) = sevenZ s := by
  have r : rangeInts 0 1 7 = [0, 1, 2, 3, 4, 5, 6] := by decide
  rw [r]
  simp only [List.map_cons, List.map_nil, sevenZ, pow32_two]
  rw [fdiv_pos (Int.pow_pos (by decide)), fdiv_pos (Int.pow_pos (by decide)), fdiv_pos (Int.pow_pos (by decide)), fdiv_pos (Int.pow_pos (by decide)), fdiv_pos (Int.pow_pos (by decide)), fdiv_pos (Int.pow_pos (by decide)), fdiv_pos (Int.pow_pos (by decide))]
  simp only [fmod_pos (show (0 : Int) < 32 by decide)]
  simp
theorem due_walk (os : List Int) (sz : Int) (hsz : sz = (((8 * os.length + 4) / 5 : Nat) : Int)) : (rangeInts 0 1 ((8 * os.length + 4) / 5)).map (fun a => ((valZ 8 os * 2 ^ (5 * sz - 8 * (os.length : Int)).toNat).fdiv (32 ^ (sz - 1 - a).toNat)).fmod 32) = dueZ os := by
  refine List.map_congr_left fun a ha => ?_
  have hb := mem_rangeInts ha
  rw [fdiv_pos (Int.pow_pos (by decide)), fmod_pos (by decide), pow32_two, hsz]
  have e1 : (5 * (((8 * os.length + 4) / 5 : Nat) : Int) - 8 * (os.length : Int)).toNat = 5 * ((8 * os.length + 4) / 5) - 8 * os.length := by omega
  have e2 : ((((8 * os.length + 4) / 5 : Nat) : Int) - 1 - a).toNat = (8 * os.length + 4) / 5 - 1 - a.toNat := by omega
  rw [e1, e2]
/-- what one field lays -/
def fieldZ (kd : Int) (os : List Int) : List Int := [kd] ++ [0, (((8 * os.length + 4) / 5 : Nat) : Int)] ++ dueZ os
theorem fieldZ_length (kd : Int) (os : List Int) : (fieldZ kd os).length = 3 + (8 * os.length + 4) / 5 := by
  simp only [fieldZ, List.length_append, List.length_cons, List.length_nil, dueZ_length]
theorem fieldZ_lt {kd : Int} {os : List Int} (h0 : 0 ≤ kd) (h1 : kd < 32) (l1 : 1 ≤ os.length) (l3 : os.length ≤ 3) : ∀ d ∈ fieldZ kd os, 0 ≤ d ∧ d < 32 := by
  intro d hd
  simp only [fieldZ, List.mem_append, List.mem_cons, List.not_mem_nil, or_false] at hd
  rcases hd with (rfl | rfl | rfl) | h
  · exact ⟨h0, h1⟩
  · decide
  · omega
  · exact dueZ_lt os d h
theorem valZ8_lt (os : List Int) (hb : ∀ d ∈ os, 0 ≤ d ∧ d < 256) : 0 ≤ valZ 8 os ∧ valZ 8 os < 256 ^ os.length := by
  have key : ∀ (l : List Int) (a : Int) (n : Nat), 0 ≤ a → a < 256 ^ n → (∀ d ∈ l, 0 ≤ d ∧ d < 256) → 0 ≤ l.foldl (fun a v => a * 2 ^ 8 + v) a ∧ l.foldl (fun a v => a * 2 ^ 8 + v) a < 256 ^ (n + l.length) := by
    intro l
    induction l with
    | nil => exact fun a n h0 h1 _ => ⟨h0, h1⟩
    | cons d r ih =>
      intro a n h0 h1 hl
      have hd := hl d (List.mem_cons_self ..)
      have e : (256 : Int) ^ (n + 1) = 256 ^ n * 256 := Int.pow_succ ..
      have := ih (a * 2 ^ 8 + d) (n + 1) (by omega) (by rw [e]; omega) fun x hx => hl x (.tail _ hx)
      rw [List.foldl_cons, List.length_cons, show n + (r.length + 1) = n + 1 + r.length from by omega]
      exact this
  have := key os 0 0 (Int.le_refl _) (by decide) hb
  rw [Nat.zero_add] at this
  exact this
theorem valZ8_small {os : List Int} (hb : ∀ d ∈ os, 0 ≤ d ∧ d < 256) (l3 : os.length ≤ 3) : 0 ≤ valZ 8 os ∧ valZ 8 os < 16777216 := by
  obtain ⟨h0, h1⟩ := valZ8_lt os hb
  have h : os.length = 0 ∨ os.length = 1 ∨ os.length = 2 ∨ os.length = 3 := by omega
  rcases h with h | h | h | h <;> rw [h] at h1 <;> exact ⟨h0, by omega⟩
theorem valZ8_snoc (pre : List Int) (v : Int) : 256 * valZ 8 pre + v = valZ 8 (pre ++ [v]) := by
  rw [valZ_snoc]
  omega
end Mine

namespace Mine
local macro_rules | `(tactic| walk_at "call ref") => `(tactic| (k_here; refine halt_of ?_))
local macro_rules | `(tactic| walk_at "exec Assign cons ListComp") => `(tactic| (k_here; refine halt_of ?_))
local macro_rules | `(tactic| walk_at "eval ListComp") => `(tactic| (k_here; refine halt_of ?_))
local macro_rules | `(tactic| walk_at "compareOp NotEq ref ref") => `(tactic| (k_here; refine halt_of ?_))
local macro_rules | `(tactic| walk_at "compareOp Eq ref ref") => `(tactic| (k_here; refine halt_of ?_))
local macro_rules | `(tactic| walk_at "compareOp NotEq str str") => `(tactic| (k_here; refine halt_of ?_))
local macro_rules | `(tactic| walk_at "call builtin:str.join") => `(tactic| (k_here; refine halt_of ?_))
local macro_rules | `(tactic| walk_at "binaryOp Add str str") => `(tactic| (k_here; refine halt_of ?_))
local macro_rules | `(tactic| walk_at "call builtin:list.append") => `(tactic| (k_here; refine halt_of ?_))
local macro_rules | `(tactic| walk_at "pyIter ref") => `(tactic| (k_here; refine halt_of ?_))
local macro_rules | `(tactic| walk_at "InvEndN") => `(tactic| (refine halt_of ?_))
local macro_rules | `(tactic| walk_at "eval Name") => `(tactic| (k_here; k_inBlock; (with_reducible rename Fr _ _ _ _ => kF); k_dflt (refine' nameGB_K kF ?k1 ?k2 ?k3 ?k8 ?k9 ?_ ?k4 ?kb ?k5 ?k6 ?k7; (case k4 => rfl); (case kb => rfl); (case k5 => rfl); (case k6 => rfl); (case k7 => decide); (case k1 => k_asm); (case k2 => k_asm); (case k3 => k_is); (case k8 => boot_by_name); (case k9 => decide); k_whole)))
local macro_rules | `(tactic| walk_at "exec For Name IfExp cons nil") => `(tactic| (k_here; refine halt_of ?_))
local macro_rules | `(tactic| walk_at "binaryOp Add ref ref") => `(tactic| (k_here; refine halt_of ?_))
local macro_rules | `(tactic| walk_at "storeName") => `(tactic| (k_here; (first | (with_reducible show wpAny _ _ (storeName _ (Str.ofString "size") _) _ _ _) | (with_reducible show wpAny _ _ (storeName _ (Str.ofString "value") _) _ _ _)); refine halt_of ?_))
local macro_rules | `(tactic| walk_at "exec For Name Name cons nil") => `(tactic| (k_here; refine halt_of ?_))
local macro_rules | `(tactic| walk_at "exec While Compare cons nil") => `(tactic| (k_here; refine halt_of ?_))
local macro_rules | `(tactic| walk_at "KswEnd") => `(tactic| (refine halt_of ?_))
local macro_rules | `(tactic| walk_at "exec For Tuple Name cons nil") => `(tactic| (k_here; refine halt_of ?_))
local macro_rules | `(tactic| walk_at "GrowPost") => `(tactic| (dsimp only [GrowPost]))
local macro_rules | `(tactic| walk_at "GrowEnd") => `(tactic| (refine halt_of ?_))
local macro_rules | `(tactic| walk_at "call builtin:abs") => `(tactic| (k_here; refine halt_of ?_))
local macro_rules | `(tactic| tb_start) => `(tactic| ((case k1 => k_asm); (case k2 => k_asm); (case k3 => k_asm); (case k4 => k_asm); (case k5 => k_asm); (case kK => first | exact rfl | assumption); (case kd => ktr_room); (case ku => ktr_units)))
/-- the sign of a digit of base 68 -/
def rdOf (k : Int) : Nat := if k < 32 then (33 + k).toNat else (59 + k).toNat
theorem rd_lo {k : Int} {t : Tok} (h : k < 32) : Carried (.str ⟨#[(33 + k).toNat]⟩ t) (.str ⟨#[rdOf k]⟩) := by rw [rdOf, if_pos h]; exact .str _ _
theorem rd_hi {k : Int} {t : Tok} (h : ¬ k < 32) : Carried (.str ⟨#[(59 + k).toNat]⟩ t) (.str ⟨#[rdOf k]⟩) := by rw [rdOf, if_neg h]; exact .str _ _
theorem BaseOk.newsMore {h hb : Heap} {P : Addr} {ps : Array Value} (B : BaseOk h hb P) (hP : h.get? P = some (tblO ps)) {L : Addr} {h₁ : Heap} {m : Str → Option Value} {news : List (Addr × Obj)} (F : Fr h L h₁ m) (N : News h L h₁ news) : News hb L h₁ (news ++ [(P, tblO ps)]) := by
  intro p hp
  rcases List.mem_append.mp hp with hp | hp
  · have z := N p hp
    refine ⟨z.1, z.2.1, ?_⟩
    cases e : hb.get? p.1 with
    | none => rfl
    | some o => have := B.sub _ _ e; rw [z.2.2] at this; cases this
  · exact B.news hP F p hp
structure FRec where
  tp : Addr
  l : Addr
  kd : Int
  tk : Tok
  us : List Value
  os : List Int
  n : Nat
  kt : Nat
def FRec.ents (f : FRec) : List (Addr × Obj) := [(f.tp, tupO [Value.int f.kd f.tk, Value.ref f.l].toArray f.kt), (f.l, listOf f.us.toArray f.n)]
def FRec.ok (f : FRec) : Prop := 0 ≤ f.kd ∧ f.kd < 32 ∧ DigsOk 256 f.os ∧ IntsAre f.us f.os
structure R2 where
  d1 : Addr
  u1 : List Value
  k1 : Nat
  d2 : Addr
  u2 : List Value
  k2 : Nat
  o2 : Obj
  v2 : Option Value
  o3 : Obj
  v3 : Option Value
structure W4 where
  pl : Int
  tk : Tok
  gs : List FRec
  n : Nat
  o : Obj
  v : Option Value
def rowZ (stp : Int) (fl : List FRec) : List Int := sevenZ stp ++ fl.flatMap fun f => fieldZ f.kd f.os
theorem fr_known4 {h₀ h : Heap} {L : Addr} {m : Str → Option Value} (F : Fr h₀ L h m) {a b c d : Str} {va vb vc vd : Value} (ha : m a = some va) (hb : m b = some vb) (hc : m c = some vc) (hd : m d = some vd) :
    ∃ m0 : Str → Option Value, Fr h₀ L h (fun y => if y = a then some va else if y = b then some vb else if y = c then some vc else if y = d then some vd else m0 y) := by
  refine ⟨m, ?_⟩
  have e : (fun y => if y = a then some va else if y = b then some vb else if y = c then some vc else if y = d then some vd else m y) = m := by
    funext y
    by_cases h1 : y = a
    · rw [if_pos h1, h1, ha]
    rw [if_neg h1]
    by_cases h2 : y = b
    · rw [if_pos h2, h2, hb]
    rw [if_neg h2]
    by_cases h3 : y = c
    · rw [if_pos h3, h3, hc]
    rw [if_neg h3]
    by_cases h4 : y = d
    · rw [if_pos h4, h4, hd]
    · rw [if_neg h4]
  rw [e]
  exact F
theorem rowZ_lt (stp : Int) (fl : List FRec) (h : ∀ f ∈ fl, f.ok) : ∀ d ∈ rowZ stp fl, 0 ≤ d ∧ d < 32 := by
  intro d hd
  rcases List.mem_append.mp hd with hd | hd
  · exact sevenZ_lt stp d hd
  · obtain ⟨f, hf, hd⟩ := List.mem_flatMap.mp hd
    obtain ⟨h0, h1, hD, _⟩ := h f hf
    exact fieldZ_lt h0 h1 hD.1 hD.2.1 d hd
theorem rd_ok {k : Int} (h0 : 0 ≤ k) (h1 : k < 68) : okS (rdOf k) := by
  rw [rdOf]
  split <;> refine ⟨?_, ?_, ?_⟩ <;> omega
theorem rowZ_le (stp : Int) (fl : List FRec) (h : ∀ f ∈ fl, f.ok) : (rowZ stp fl).length ≤ 7 + 8 * fl.length := by
  have key : (fl.flatMap fun f => fieldZ f.kd f.os).length ≤ 8 * fl.length := by
    induction fl with
    | nil => exact Nat.le_refl _
    | cons f r ih =>
      have h1 := ih fun g hg => h g (.tail _ hg)
      have h2 := (h f (.head _)).2.2.1.2.1
      rw [List.flatMap_cons, List.length_append, fieldZ_length, List.length_cons]
      omega
  rw [rowZ, List.length_append]
  show 7 + _ ≤ _
  omega
theorem post01 (l : List Int) : PySem.Challenge.rw_oo0008_01.row.claim.post [ofPy (PyData.list (List.map PyData.int l))] (WData.bool true) [ofPy (PyData.list (List.map PyData.int l))] = true := by wrow_post
def recD (f : FRec) : PyData := .tuple [.int f.kd, .list (f.os.map .int)]
theorem reads_recs {h : Heap} : ∀ (fl : List FRec), (∀ p ∈ fl.flatMap FRec.ents, h.get? p.1 = some p.2) → (∀ f ∈ fl, IntsAre f.us f.os) → ∃ as, ReadsAll h (fl.map fun f => Value.ref f.tp) (fl.map recD) as
  | [], _, _ => ⟨_, .nil⟩
  | f :: r, hp, hi => by
    obtain ⟨as, ih⟩ := reads_recs r (fun p h => hp p (by rw [List.flatMap_cons]; exact List.mem_append.mpr (.inr h))) (fun g hg => hi g (.tail _ hg))
    have h1 := hp (f.tp, _) (by rw [List.flatMap_cons]; exact List.mem_append.mpr (.inl (.head _)))
    have h2 := hp (f.l, _) (by rw [List.flatMap_cons]; exact List.mem_append.mpr (.inl (.tail _ (.head _))))
    exact ⟨_, .cons (reads_tuple_at h1 rfl rfl (readsAll_cons_val (.int _ _) (.cons (reads_of_ints ⟨_, h2, rfl, _, rfl⟩ (hi f (.head _))) .nil))) ih⟩
theorem reads_list_recs {h : Heap} {a : Addr} {fl : List FRec} {n : Nat} (hl : h.get? a = some (listOf (fl.map fun f => Value.ref f.tp).toArray n)) (hp : ∀ p ∈ fl.flatMap FRec.ents, h.get? p.1 = some p.2) (hi : ∀ f ∈ fl, IntsAre f.us f.os) :
    ∃ as, Reads h (.ref a) (.list (fl.map recD)) as := by
  obtain ⟨as, ih⟩ := reads_recs fl hp hi
  exact ⟨_, reads_list_at hl rfl rfl ih⟩
theorem canLay_recs : ∀ fl : List FRec, PyData.canLayAll0 (fl.map recD) = true
  | [] => rfl
  | f :: r => by simp only [List.map_cons, recD, PyData.canLayAll0, PyData.canLay0, canLayAll0_ints, canLay_recs r, Bool.and_true]
theorem depth_recs : ∀ fl : List FRec, PyData.depthAll (fl.map recD) ≤ 3
  | [] => Nat.zero_le _
  | f :: r => by
    have h := depth_recs r
    have h1 := PySem.W.depthAll_ints f.os
    simp only [List.map_cons, recD, PyData.depthAll, PyData.depth] at h ⊢
    omega
theorem shaped_recs (fl : List FRec) : SeqAt.shaped (.list (fl.map recD)) = true := by
  show (PyData.canLay0 (.list (fl.map recD)) && decide (PyData.depth (.list (fl.map recD)) ≤ 64)) = true
  rw [Bool.and_eq_true]
  refine ⟨canLay_recs fl, decide_eq_true ?_⟩
  have h := depth_recs fl
  simp only [PyData.depth]
  omega
theorem recD_eq {gl fl : List FRec} (h : gl.map (fun g => (g.kd, g.os)) = fl.map (fun g => (g.kd, g.os))) : gl.map recD = fl.map recD := by
  have e : ∀ l : List FRec, l.map recD = (l.map fun g => (g.kd, g.os)).map fun p => PyData.tuple [.int p.1, .list (p.2.map .int)] := fun l => by rw [List.map_map]; rfl
  rw [e, e, h]
theorem slice_mid (a b c : List Int) (x y : Int) (hx : x = (a.length : Int)) (hy : y = ((a.length + b.length : Nat) : Int)) : ((a ++ (b ++ c)).drop x.toNat).take (min y.toNat (a ++ (b ++ c)).length - x.toNat) = b := by
  subst hx
  subst hy
  rw [Int.toNat_natCast, Int.toNat_natCast, List.drop_left, List.length_append, List.length_append]
  rw [show min (a.length + b.length) (a.length + (b.length + c.length)) - a.length = b.length from by omega]
  exact List.take_left
theorem rowZ_split (stp : Int) {fs : List FRec} {i : Nat} (h : i < fs.length) : ∃ f rest, f ∈ fs ∧ fs.take (i + 1) = fs.take i ++ [f] ∧ rowZ stp fs = rowZ stp (fs.take i) ++ (fieldZ f.kd f.os ++ rest) := by
  refine ⟨fs[i], (fs.drop (i + 1)).flatMap fun f => fieldZ f.kd f.os, List.getElem_mem h, ?_, ?_⟩
  · rw [List.take_add_one, List.getElem?_eq_getElem h]
    rfl
  · have e : fs = fs.take i ++ fs[i] :: fs.drop (i + 1) := by
      rw [← List.drop_eq_getElem_cons h]
      exact (List.take_append_drop i fs).symm
    have e2 : rowZ stp fs = rowZ stp (fs.take i ++ fs[i] :: fs.drop (i + 1)) := by rw [← e]
    rw [e2, rowZ, rowZ, List.flatMap_append, List.flatMap_cons, List.append_assoc]
theorem rec_at {fs : List FRec} {i : Nat} {v : Value} (h : (fs.map fun f => Value.ref f.tp).toArray[i]? = some v) : ∃ f, f ∈ fs ∧ v = .ref f.tp ∧ fs.take (i + 1) = fs.take i ++ [f] := by
  have h' : (fs.map fun f => Value.ref f.tp)[i]? = some v := by simpa using h
  rw [List.getElem?_map] at h'
  cases e : fs[i]? with
  | none => rw [e] at h'; cases h'
  | some f =>
    rw [e] at h'
    refine ⟨f, List.mem_of_getElem? e, (Option.some.inj h').symm, ?_⟩
    simp [List.take_add_one, e]
theorem news_snd {h₀ h : Heap} {L a b : Addr} {o o' : Obj} {r : List (Addr × Obj)} (_N : News h₀ L h ((a, o) :: (b, o') :: r)) : ∃ R, R = b := ⟨b, rfl⟩
theorem news_tok {h₀ h : Heap} {L a : Addr} {x : Int} {t : Tok} {l : Addr} {k : Nat} {r : List (Addr × Obj)} (_N : News h₀ L h ((a, ({ cls := .type "tuple", data := .seq #[Value.int x t, Value.ref l] k } : Obj)) :: r)) : ∃ R, R = t := ⟨t, rfl⟩
theorem news_three {h₀ h : Heap} {L a3 a2 a1 : Addr} {o3 o2 o1 : Obj} {q0 q1 x0 x4 : Addr × Obj} {fe : List (Addr × Obj)} (N : News h₀ L h (q0 :: q1 :: (fe ++ [x0, (a3, o3), (a2, o2), (a1, o1), x4]))) :
    ∃ p3 p2, p3 = o3 ∧ p2 = o2 ∧ News h₀ L h ((a3, p3) :: (a2, p2) :: (a1, o1) :: x4 :: q0 :: fe) :=
  ⟨o3, o2, rfl, rfl, cb_drop N fun p hp => by
    simp only [List.mem_cons, List.mem_append, List.not_mem_nil, or_false] at hp ⊢
    rcases hp with h | h | h | h | h | h <;> simp only [h, true_or, or_true]⟩
theorem split_base {h₀ h : Heap} {L : Addr} {a b : Addr × Obj} {r : List (Addr × Obj)} (N : News h₀ L h (a :: b :: r)) : ∃ base, base = r ∧ News h₀ L h (b :: a :: base) :=
  ⟨r, rfl, cb_drop N fun p hp => by
    rcases List.mem_cons.mp hp with rfl | hp
    · exact .tail _ (.head _)
    · rcases List.mem_cons.mp hp with rfl | hp
      · exact .head _
      · exact .tail _ (.tail _ hp)⟩
theorem ints_at {us : List Value} {ns : List Int} {i : Nat} {v : Value} (hI : IntsAre us ns) (h : us.toArray[i]? = some v) : ∃ a t, v = .int a t := by
  have h' : us[i]? = some v := by simpa using h
  have hi : i < us.length := by
    rcases Nat.lt_or_ge i us.length with q | q
    · exact q
    · rw [List.getElem?_eq_none q] at h'; cases h'
  obtain ⟨t, ht⟩ := hI.get i (ns[i]'(by rw [← hI.length]; exact hi)) (by simp)
  rw [ht] at h'
  exact ⟨_, t, (Option.some.inj h').symm⟩
theorem idx_lt {us : List Value} {i : Nat} {v : Value} (h : us.toArray[i]? = some v) : i < us.length := by
  have h' : us[i]? = some v := by simpa using h
  rcases Nat.lt_or_ge i us.length with q | q
  · exact q
  · rw [List.getElem?_eq_none q] at h'; cases h'
theorem ltOf {d : Addr} {l : List (Addr × Obj)} {p : Addr × Obj} (hp : p ∈ l) (h : AllLt d l) : p.1 ≠ d := Nat.ne_of_lt (kst_ltOf h p hp)
theorem neP {news : List (Addr × Obj)} {l P : Addr} {ob : Obj} (h : ∀ p ∈ news, p.1 ≠ l) (hm : (P, ob) ∈ news) : l ≠ P := fun e => h _ hm e.symm
set_option maxRecDepth 100000 in
set_option maxHeartbeats 40000000 in
theorem law1 : PySem.Challenge.rw_oo0008_01.Holds := by
  refine hd ?_
  k_fill
  intro w s₀ s₁ mg mb G Y fa o pm cd doc dV kV ho hd hcd hD hmg hg args vals as hpre hlay hrd hwl hlo
  have KX := kIn_of Y
  have X := (Ground.X G).1
  have V := (Ground.X G).2
  refine Ground.open G ?_
  intro T B D TE TW
  try (refine guard_noD D (by decide +kernel) ?_; clear D)
  obtain ⟨_, _, M⟩ := bmod_of_top T
  have TA := at_of_top T
  try (obtain ⟨_, _, he, B0⟩ := based_of_top T rfl hmg ho hd; have he' : cd = _ := he; subst he'; clear he)
  clear hmg
  wrow_args hpre hlay hrd hwl hlo
  first | refine callC_kw (enter_call ?_) | refine enter_call ?_ | refine callC_kw (enter_callW ?_) | refine enter_callW ?_ | w_how
  w_top on
  have K0 := below_caller (Top.heap T)
  w_call any ho hd hcd hD T F
  clear hd TA
  k_drop
  obtain ⟨P, hC, hP⟩ : ∃ P, CodeOf s₁.heap 47 P ∧ s₁.heap.get? P = some (tblO #[]) := by
    have hd1 : (recsOf hd.view_39).any (fun d => d.name == Str.ofString "bech32_decode") = true := by decide +kernel
    obtain ⟨d, hd2, hd3⟩ := List.any_eq_true.mp hd1
    obtain ⟨a, o, fd, c, P, h1, h2, h3, h4, h5, h6⟩ := T.tab d hd2
    have hm := mg_of KX T.g (n := Str.ofString "bech32_decode") (v := .ref 48) (by k_is)
    rw [beq_iff_eq.mp hd3, hm] at h1
    cases h1
    have e48 : ∃ o fd, s₁.heap.get? 48 = some o ∧ o.data = .func fd ∧ fd.code = .ref 47 := by
      refine ⟨_, _, KX 48 _ (by k_is), rfl, rfl⟩
    obtain ⟨o', fd', g1, g2, g3⟩ := e48
    rw [h2] at g1
    cases g1
    rw [h3] at g2
    cases g2
    rw [h4] at g3
    cases g3
    exact ⟨P, CodeOf.of h5 h6, h6.2⟩
  obtain ⟨hb, BO⟩ := base_of s₁.heap P
  rename s₁.heap.IsList _ _ => hL1
  rename IntsAre _ _ => hI1
  have Kb := BO.ofK hP KX T.g T.nolimit (by kernel_rfl)
  obtain ⟨loose', Tb⟩ := BO.top hP T
  have Lb := BO.list hP hL1
  rename News s₁.heap _ _ _ => N00
  have Nb := BO.newsMore hP F N00
  simp only [List.cons_append, List.nil_append] at Nb
  rename _ = Data.cell _ => dq1
  revert dq1
  rename _ = Data.cell _ => dq2
  revert dq2
  rename _ = Data.cell _ => dq3
  obtain ⟨cv3, cd3⟩ : ∃ v, _ = Data.cell v := ⟨_, dq3⟩
  clear dq3
  intro dq2
  obtain ⟨cv2, cd2⟩ : ∃ v, _ = Data.cell v := ⟨_, dq2⟩
  clear dq2
  intro dq1
  obtain ⟨cv1, cd1⟩ : ∃ v, _ = Data.cell v := ⟨_, dq1⟩
  clear dq1
  have Fb := BO.fr F
  have Cb := BO.code hP hC
  have Bb := below_caller hb
  have hmem : P < s₁.heap.objs.size := Heap.lt_size hP
  clear N00
  clear K0 hcd hD F V TE TW B G Y ho X T KX M hL1
  k_steps
  refine halt_in ?_
  rename Fr _ _ _ _ => F1
  rename News _ _ _ _ => N1
  with_unfolding_all refine lc_ints F1 N1 (fun i => .str ⟨#[rdOf i]⟩) rfl rfl (by decide) rfl (by decide) rfl (by intro _; rfl) ?_
  k_steps
  refine halt_in ?_
  rename Fr _ _ _ _ => F1
  rename News _ _ _ _ => N1
  refine cut_int F1 N1 (fun _ => True) ?_ ?_
  · refine wpAny_call ?_
    k_dflt (refine' code_def ?k1 ?k2 ?k3 ?k4 ?k5 ?kA ?kF ?kK ?k6 ?k7 ?k8 ?k9 ?kB ?_ ?c2 ?c3 ?c4 ?c5; (case kA => exact rfl); (case kF => exact rfl); (case kK => exact rfl); (case k1 => k_asm); (case k2 => k_asm); (case k3 => k_asm); (case k4 => k_asm); (case k5 => k_asm); (case k6 => k_is); (case k7 => k_is); (case k8 => ktr_room); (case k9 => exact BindsTo.of_eq rfl); (case c5 => decide); (case kB => exact locs rfl); (case c2 => exact rfl); (case c3 => exact rfl); (case c4 => exact rfl); k_whole; intro g' L' h' FG' F' N' B' X' T'; (try dsimp only); (try k_fold))
    have Lg := Lb.at fun o e => Fr.keep FG' _ o e
    k_steps
    all_goals (refine halt_in ?_; exact ⟨_, _, _, _, rfl, trivial, rfl, by k_asm, by k_asm⟩)
  intro v0 u0 h0 tk0 _ F2 N2
  clear F1 N1
  try dsimp only
  k_steps
  refine halt_in ?_
  with_unfolding_all refine' Cl.use (digits_con w _ mg mb _ v0 68 _ _ _ (by decide) (by decide)) ?k1 ?k2 ?k3 ?k4 ?k5 ?kK ?kd ?ku ?_
  tb_start
  intro l3 us3 ds3 k3 h3 tk3 hD3 F3 N3 ne3 I3
  have hD31 := hD3.1
  have hD32 := hD3.2.1
  refine halt_in ?_
  refine ⟨_, _, _, rfl, News.isList N3 (.head _), I3, by rw [sizeLine_eq]; omega, F3, cb_drop N3 (fun p hp => .tail _ hp), ?_, ?_⟩
  · intro C k t s₂ m₂ E' hC hk hn hm hkp
    have F6 := Fr.keeps F3 hkp
    have cE := InElt.start s₂.heap
    have hk0 := (hD3.2.2 k hk).1
    have hk1 := (hD3.2.2 k hk).2
    k_steps
    all_goals first | exact rd_lo (by omega) | exact rd_hi (by omega) | exact ⟨_, _, rfl, cE⟩
  intro D4 ys4 k4 h4 tk4 F4 N4 ne4 C4
  have I4 := C4.strsOf
  try dsimp only
  k_steps
  refine halt_in ?_
  refine join_list (News.isList N4 (.head _)) I4 ?_ ?_
  · rw [sum_ones, List.length_map, show (Str.ofString "").length = 0 from by decide +kernel]; omega
  rw [join_signs]
  intro t5 k5
  obtain ⟨x, hx⟩ : ∃ x : Str, x = ⟨(ds3.map rdOf).toArray⟩ := ⟨_, rfl⟩
  rw [← hx]
  try dsimp only
  k_steps
  refine halt_in ?_
  rename Fr _ _ _ _ => F6
  rename News _ _ _ _ => N6
  refine cut_int F6 N6 (fun _ => True) ?_ ?_
  · refine wpAny_call ?_
    k_dflt (refine' code_def ?k1 ?k2 ?k3 ?k4 ?k5 ?kA ?kF ?kK ?k6 ?k7 ?k8 ?k9 ?kB ?_ ?c2 ?c3 ?c4 ?c5; (case kA => exact rfl); (case kF => exact rfl); (case kK => exact rfl); (case k1 => k_asm); (case k2 => k_asm); (case k3 => k_asm); (case k4 => k_asm); (case k5 => k_asm); (case k6 => k_is); (case k7 => k_is); (case k8 => ktr_room); (case k9 => exact BindsTo.of_eq rfl); (case c5 => decide); (case kB => exact locs rfl); (case c2 => exact rfl); (case c3 => exact rfl); (case c4 => exact rfl); k_whole; intro g' L' h' FG' F' N' B' X' T'; (try dsimp only); (try k_fold))
    have Lg := Lb.at fun o e => Fr.keep FG' _ o e
    k_steps
    all_goals (refine halt_in ?_; exact ⟨_, _, _, _, rfl, trivial, rfl, by k_asm, by k_asm⟩)
  intro v7 u7 h7 tk7 _ F7 N7
  clear F6 N6
  try dsimp only
  k_steps
  refine halt_in ?_
  rename Fr _ _ _ _ => F8
  rename News _ _ _ _ => N8
  with_unfolding_all refine' For_invVF F8 ?fk1 ?fk2 ?_
  case fk1 => exact rfl
  case fk2 => exact rfl
  refine cut_list F8 N8 (fun ns => 1 ≤ ns.length ∧ ns.length ≤ 2) ?_ ?_
  · k_steps
    · refine halt_in ?_
      rename Fr _ _ _ _ => Fz
      rename News _ _ _ _ => Nz
      rename IntsAre _ (List.take _ _) => Iz
      rename _ < _ ∧ _ => lz
      refine ⟨_, _, _, _, _, _, rfl, ⟨?_, ?_⟩, rfl, Fz, Nz, fun p hp => ltOf hp lz, Iz⟩
      all_goals (simp only [List.length_take, List.length_drop]; omega)
    · refine halt_in ?_
      rename Fr _ _ _ _ => Fz
      rename News _ _ _ _ => Nz
      rename _ < _ ∧ _ => lz
      exact ⟨_, [_, _], [700, 99], _, _, _, rfl, ⟨by decide, by decide⟩, rfl, Fz, Nz, fun p hp => ltOf hp lz, .cons _ _ (.cons _ _ .nil)⟩
  intro l9 us9 ns9 n9 h9 tk9 hlen9 F9 N9 ne9 I9
  simp only [List.cons_append, List.nil_append] at N9 ne9
  obtain ⟨R, hR⟩ := news_snd N9
  subst hR
  obtain ⟨base, hbase, NB⟩ := split_base N9
  rename ∀ p : Addr × Obj, p ∈ (_ : List (Addr × Obj)) → p.1 < R => ltR
  have hRB : ∀ p ∈ base, p.1 ≠ R := fun p hp => Nat.ne_of_lt (ltR p (by rw [hbase] at hp; exact hp))
  have hRl : l9 ≠ R := fun e => ne9 _ (.head _) e.symm
  have hini : ([] : List FRec).length = 0 ∧ (∀ f ∈ ([] : List FRec), f.ok) ∧ (∀ p ∈ ([] : List FRec).flatMap FRec.ents ++ base, p.1 ≠ R) ∧ ∀ p ∈ ([] : List FRec).flatMap FRec.ents, ∀ q ∈ base, p.1 ≠ q.1 := ⟨rfl, fun _ h => (by cases h), hRB, fun _ h => (by cases h)⟩
  with_unfolding_all refine' iter_growS (σ := List FRec × Nat) (fun c => (R, listOf (c.1.map fun f => Value.ref f.tp).toArray c.2) :: (l9, listOf us9.toArray n9) :: (c.1.flatMap FRec.ents ++ base)) (fun _ => []) [] (fun i c => c.1.length = i ∧ (∀ f ∈ c.1, f.ok) ∧ (∀ p ∈ c.1.flatMap FRec.ents ++ base, p.1 ≠ R) ∧ ∀ p ∈ c.1.flatMap FRec.ents, ∀ q ∈ base, p.1 ≠ q.1) ([], 0) rfl (fun c => .tail _ (.head _)) F9 NB (fun _ h => nomatch h) hini ?gt ?gd
  case gt =>
    rintro i v ⟨fs, kf⟩ u h tk I io hv ⟨hfl, hfo, hfn, hfb⟩ hI F10 N10
    have hil := idx_lt hv
    have hil2 := I9.length
    obtain ⟨a10, t10, rfl⟩ := ints_at I9 hv
    dsimp only [kstB] at F10 N10
    dsimp only at hfl hfo hfn hfb hI
    try k_fold
    k_steps
    refine halt_in ?_
    rename Fr _ _ _ _ => Fa
    rename News _ _ _ _ => Na
    refine cut_int Fa Na (fun z => 0 ≤ z) ?_ ?_
    · refine call_abs_int ?_
      intro _ _
      exact halt_in ⟨_, _, _, _, rfl, by split <;> omega, rfl, Fa, Na⟩
    intro a11 t11 h11 tk11 ha11 F11 N11
    try dsimp only
    k_steps
    refine halt_in ?_
    with_unfolding_all refine' Cl.use (digits_con w _ mg mb _ (a11.fdiv 32) 256 _ _ _ (by decide) (by decide)) ?k1 ?k2 ?k3 ?k4 ?k5 ?kK ?kd ?ku ?_
    tb_start
    intro l12 us12 os12 k12 h12 tk12 hD12 F12 N12 ne12 I12
    have ltp := fun (p : Addr × Obj) hp => Heap.lt_size (N12 p hp).1
    ((try clear F10); (try clear N10); (try clear F11); (try clear N11))
    try dsimp only
    k_steps
    refine halt_in ?_
    rename News _ _ _ _ => Nc
    rename Fr _ _ _ _ => Fc
    obtain ⟨tq, htq⟩ := news_tok Nc
    rw [← htq] at Nc
    have dR : ∀ p ∈ (h12.objs.size, tupO [Value.int (a11.fmod 32) tq, Value.ref l12].toArray 0) :: (l12, listOf us12.toArray k12) :: (I, io) :: (l9, listOf us9.toArray n9) :: (fs.flatMap FRec.ents ++ base), p.1 ≠ R := by
      intro p hp
      rcases List.mem_cons.mp hp with rfl | hp
      · exact Nat.ne_of_gt (ltp (R, _) (.tail _ (.tail _ (.head _))))
      rcases List.mem_cons.mp hp with rfl | hp
      · exact fun e => ne12 (R, _) (.tail _ (.head _)) e.symm
      rcases List.mem_cons.mp hp with rfl | hp
      · exact fun e => hI (R, _) (.head _) e.symm
      rcases List.mem_cons.mp hp with rfl | hp
      · exact hRl
      · exact hfn p hp
    have Nd := cb_drop (news := (R, listOf (fs.map fun f => Value.ref f.tp).toArray kf) :: (h12.objs.size, tupO [Value.int (a11.fmod 32) tq, Value.ref l12].toArray 0) :: (l12, listOf us12.toArray k12) :: (I, io) :: (l9, listOf us9.toArray n9) :: (fs.flatMap FRec.ents ++ base)) Nc (by intro p hp; simp only [List.mem_cons] at hp ⊢; rcases hp with h | h | h | h | h | h <;> simp only [h, true_or, or_true])
    clear Nc
    refine append_K Fc Nd (.head dR) ?_ (by rw [List.size_toArray, List.length_map, sizeLine_eq]; omega)
    intro h13 F13 N13
    try dsimp only
    k_steps
    refine halt_in ?_
    rename News _ _ _ _ => Nz
    rename Fr _ _ _ _ => Fz
    simp only [List.push_toArray] at Nz
    have hrec : FRec.ok ⟨h12.objs.size, l12, a11.fmod 32, tq, us12, os12, k12, 0⟩ := ⟨Int.fmod_nonneg_of_pos _ (by decide), Int.fmod_lt_of_pos _ (by decide), hD12, I12⟩
    refine grow_end (fs ++ [⟨h12.objs.size, l12, a11.fmod 32, tq, us12, os12, k12, 0⟩], kf + 1) Fz Nz (by k_mem) ?_ ?_ ?_ (fun _ h => nomatch h) ?_
    · intro p hp
      simp only [List.map_append, List.map_cons, List.map_nil, List.flatMap_append, List.flatMap_cons, List.flatMap_nil, List.append_nil, FRec.ents, List.mem_cons, List.mem_append, List.not_mem_nil, or_false] at hp ⊢
      rcases hp with h | h | (h | h | h) | h <;> simp only [h, true_or, or_true]
    · intro p hp
      simp only [List.flatMap_append, List.flatMap_cons, List.flatMap_nil, List.append_nil, FRec.ents, List.mem_cons, List.mem_append, List.not_mem_nil, or_false] at hp
      rcases hp with rfl | rfl | (h | rfl | rfl) | h
      · exact hI (R, listOf (fs.map fun f => Value.ref f.tp).toArray kf) (.head _)
      · exact hI (l9, _) (.tail _ (.head _))
      · exact hI p (.tail _ (.tail _ (List.mem_append.mpr (.inl h))))
      · exact Nat.ne_of_gt (ltp (I, io) (.tail _ (.head _)))
      · exact fun e => ne12 (I, io) (.head _) e.symm
      · exact hI p (.tail _ (.tail _ (List.mem_append.mpr (.inr h))))
    · refine ⟨by simp only [List.length_append, hfl, List.length_cons, List.length_nil], fun f hf => ?_, fun p hp => ?_, fun p hp q hq => ?_⟩
      · rcases List.mem_append.mp hf with h | h
        · exact hfo f h
        · rw [List.mem_singleton.mp h]; exact hrec
      · simp only [List.flatMap_append, List.flatMap_cons, List.flatMap_nil, List.append_nil, FRec.ents, List.mem_cons, List.mem_append, List.not_mem_nil, or_false] at hp
        rcases hp with (h | rfl | rfl) | h
        · exact hfn p (List.mem_append.mpr (.inl h))
        · exact dR _ (.head _)
        · exact dR _ (.tail _ (.head _))
        · exact hfn p (List.mem_append.mpr (.inr h))
      · simp only [List.flatMap_append, List.flatMap_cons, List.flatMap_nil, List.append_nil, FRec.ents, List.mem_cons, List.mem_append, List.not_mem_nil, or_false] at hp
        have hq2 : q ∈ (l9, listOf us9.toArray n9) :: (fs.flatMap FRec.ents ++ base) := .tail _ (List.mem_append.mpr (.inr hq))
        rcases hp with (h | rfl | rfl)
        · exact hfb p h q hq
        · exact Nat.ne_of_gt (ltp q (.tail _ (.tail _ (.tail _ hq2))))
        · exact fun e => ne12 q (.tail _ (.tail _ hq2)) e.symm
    · intro z h1 _ _
      simp only [if_neg h1]
      rfl
  case gd =>
    rintro ⟨fs, kf⟩ u h tk ⟨hfl, hfo, hfn, hfb⟩ F10 N10
    dsimp only [kstB] at F10 N10
    dsimp only at hfl hfo hfn hfb
    rename Obj.data _ = Data.cell (some (Value.int (v7.fmod _) _)) => dst
    obtain ⟨stp, hstp⟩ : ∃ z, z = v7.fmod (2 ^ Int.toNat 35) := ⟨_, rfl⟩
    rw [← hstp] at dst
    obtain ⟨ts, d1⟩ : ∃ ts, _ = Data.cell (some (Value.int stp ts)) := ⟨_, dst⟩
    clear dst
    have hst0 : 0 ≤ stp := by rw [hstp]; exact Int.fmod_nonneg_of_pos _ (by decide)
    have hst1 : stp < 2 ^ 35 := by rw [hstp]; exact Int.fmod_lt_of_pos _ (by decide)
    have F10' : Fr hb s₁.heap.objs.size h _ := F10
    obtain ⟨m0, F11⟩ := fr_known (a := Str.ofString "fields") (va := .ref R) (b := Str.ofString "readable") (vb := .str x t5) F10' rfl rfl
    have hfl2 : fs.length = ns9.length := by rw [hfl, List.size_toArray, I9.length]
    rw [hbase] at hfn hfb
    have N10' : News hb s₁.heap.objs.size h _ := N10
    rw [hbase] at N10'
    rename Obj => o1
    obtain ⟨o3, o2, ho3, ho2, N11⟩ := news_three N10'
    subst ho3
    subst ho2
    have e3 : ∀ p ∈ fs.flatMap FRec.ents, p.1 ≠ s₁.heap.objs.size + 1 + 1 + 1 := fun p hp => hfb p hp (_, o3) (.tail _ (.head _))
    have e2 : ∀ p ∈ fs.flatMap FRec.ents, p.1 ≠ s₁.heap.objs.size + 1 + 1 := fun p hp => hfb p hp (_, o2) (.tail _ (.tail _ (.head _)))
    have e1 : ∀ p ∈ fs.flatMap FRec.ents, p.1 ≠ s₁.heap.objs.size + 1 := fun p hp => hfb p hp (_, o1) (.tail _ (.tail _ (.tail _ (.head _))))
    have eP : ∀ p ∈ fs.flatMap FRec.ents, p.1 ≠ P := fun p hp => hfb p hp (_, tblO #[]) (.tail _ (.tail _ (.tail _ (.tail _ (.head _)))))
    have eR : ∀ p ∈ fs.flatMap FRec.ents, p.1 ≠ R := fun p hp => hfn p (List.mem_append.mpr (.inl hp))
    have r3 : s₁.heap.objs.size + 1 + 1 + 1 ≠ R := hfn (_, o3) (List.mem_append.mpr (.inr (.tail _ (.head _))))
    have r2 : s₁.heap.objs.size + 1 + 1 ≠ R := hfn (_, o2) (List.mem_append.mpr (.inr (.tail _ (.tail _ (.head _)))))
    have r1 : s₁.heap.objs.size + 1 ≠ R := hfn (_, o1) (List.mem_append.mpr (.inr (.tail _ (.tail _ (.tail _ (.head _))))))
    have rP : P ≠ R := hfn (_, tblO #[]) (List.mem_append.mpr (.inr (.tail _ (.tail _ (.tail _ (.tail _ (.head _)))))))
    have a32 : s₁.heap.objs.size + 1 + 1 + 1 ≠ s₁.heap.objs.size + 1 + 1 := by omega
    have a12 : s₁.heap.objs.size + 1 ≠ s₁.heap.objs.size + 1 + 1 := by omega
    have a13 : s₁.heap.objs.size + 1 ≠ s₁.heap.objs.size + 1 + 1 + 1 := by omega
    have aP2 : P ≠ s₁.heap.objs.size + 1 + 1 := Nat.ne_of_lt (Nat.lt_of_lt_of_le hmem (by omega))
    have aP3 : P ≠ s₁.heap.objs.size + 1 + 1 + 1 := Nat.ne_of_lt (Nat.lt_of_lt_of_le hmem (by omega))
    clear F10' N10' F10 N10 F9 N9 NB ltR hini hfb hfn hbase hRB hRl ne9
    try k_fold
    k_steps
    refine halt_in ?_
    rename News _ _ _ _ => Nc
    obtain ⟨l14, hl14⟩ := news_hd Nc
    subst hl14
    with_unfolding_all refine' Cl.use (conv_con w _ mg mb _ (.ref l14) [stp] 35 5 _ _ (canWalk_list (n := 0) (vs := [Value.int stp ts]) ?hl (.cons _ _ .nil)) (by decide) (by decide) (by decide) (by show 1 < 1024; decide) ?hbb) ?k1 ?k2 ?k3 ?k4 ?k5 ?kK ?kd ?ku ?_
    tb_start
    case hl => exact .head _
    case hbb => intro v hv; rw [List.mem_singleton.mp hv]; exact ⟨hst0, hst1⟩
    intro l15 us15 k15 h15 tk15 F15 N15 ne15 I15
    rw [conv35] at I15
    try dsimp only
    k_steps
    refine halt_in ?_
    rename Fr _ _ _ _ => F16
    rename News _ _ _ _ => N16
    with_unfolding_all refine asg_range (cl := [(Str.ofString "stamp", s₁.heap.objs.size + 1)]) F16 N16 (fun a => .int ((stp.fdiv (32 ^ (6 - a).toNat)).fmod 32)) rfl rfl rfl rfl (by decide) rfl (by decide) rfl rfl rfl (by intro _; rfl) ?_
    k_steps
    refine halt_in ?_
    rename IsRange _ _ _ _ _ _ _ _ => R17
    rename Fr _ _ _ _ => F17
    rename News _ _ _ _ => N17
    refine ⟨_, _, _, _, _, 7, rfl, R17, by decide, by rfl, by rw [sizeLine_eq]; omega, F17, N17, ?_, ?_⟩
    · intro C i t s₂ m₂ E' hC ha0 ha1 hn hm hkp
      have F6 := Fr.keeps F17 hkp
      have cE := InElt.start s₂.heap
      have hget : s₂.heap.get? (s₁.heap.objs.size + 1) = some o1 := hkp _ _ (N17 (_, o1) (by k_mem)).1
      (k_with "eval Name" => (with_unfolding_all refine ldCellK (c := s₁.heap.objs.size + 1) rfl ⟨o1, hget, d1⟩ ?_))
      (k_with "binaryOp FloorDiv int int" => (refine floordiv_int (pow32_ne _) ?_ (Or.inl (pow32_room (by omega)))))
      k_steps
      all_goals first | exact .int _ _ | exact ⟨_, _, rfl, cE⟩
    k_with_none
    intro D18 ys18 k18 h18 tk18 F18 N18 ne18 CA18
    have I18 := CA18.intsOf
    rw [seven_due] at I18
    clear CA18
    try dsimp only
    ((try clear F16); (try clear N16); (try clear R17); (try clear F17); (try clear N17))
    k_steps
    refine halt_in ?_
    have nr1 : ∀ a ∈ [s₁.heap.objs.size + 1 + 1 + 1, s₁.heap.objs.size + 1 + 1, P], l15 ≠ a := by
      intro a ha
      simp only [List.mem_cons, List.not_mem_nil, or_false] at ha
      rcases ha with rfl | rfl | rfl
      · exact neP ne15 (ob := o3) (by k_mem)
      · exact neP ne15 (ob := o2) (by k_mem)
      · exact neP ne15 (ob := tblO #[]) (by k_mem)
    have nr2 : ∀ a ∈ [s₁.heap.objs.size + 1 + 1 + 1, s₁.heap.objs.size + 1 + 1, P], D18 ≠ a := by
      intro a ha
      simp only [List.mem_cons, List.not_mem_nil, or_false] at ha
      rcases ha with rfl | rfl | rfl
      · exact neP ne18 (ob := o3) (by k_mem)
      · exact neP ne18 (ob := o2) (by k_mem)
      · exact neP ne18 (ob := tblO #[]) (by k_mem)
    have N20 := cb_drop (news := (l15, listOf us15.toArray k15) :: (D18, listOf ys18.toArray k18) :: (s₁.heap.objs.size + 1 + 1 + 1, o3) :: (s₁.heap.objs.size + 1 + 1, o2) :: (s₁.heap.objs.size + 1, o1) :: (P, tblO #[]) :: (R, listOf (fs.map fun f => Value.ref f.tp).toArray kf) :: fs.flatMap FRec.ents) N18 (by intro p hp; simp only [List.mem_cons] at hp ⊢; rcases hp with h | h | h | h | h | h | h | h <;> simp only [h, true_or, or_true])
    clear N18
    with_unfolding_all refine' For_turns F18 ?_
    k_steps
    refine halt_in ?_
    rename Fr _ _ _ _ => F20
    rename News _ _ _ _ => N20
    have hini : IntsAre us15 (rowZ stp (fs.take 0)) ∧ IntsAre ys18 (rowZ stp (fs.take 0)) ∧ o2.data = .cell cv2 ∧ o3.data = .cell cv3 ∧ (∀ a ∈ [s₁.heap.objs.size + 1 + 1 + 1, s₁.heap.objs.size + 1 + 1, P], l15 ≠ a) ∧ (∀ a ∈ [s₁.heap.objs.size + 1 + 1 + 1, s₁.heap.objs.size + 1 + 1, P], D18 ≠ a) := by
      refine ⟨?_, ?_, cd2, cd3, nr1, nr2⟩ <;> simp only [rowZ, List.take_zero, List.flatMap_nil, List.append_nil] <;> assumption
    with_unfolding_all refine' iter_growT (σ := R2) (x := Str.ofString "kind") (fun c => (c.d1, listOf c.u1.toArray c.k1) :: (c.d2, listOf c.u2.toArray c.k2) :: (s₁.heap.objs.size + 1 + 1 + 1, c.o3) :: (s₁.heap.objs.size + 1 + 1, c.o2) :: (s₁.heap.objs.size + 1, o1) :: (P, tblO #[]) :: (R, listOf (fs.map fun f => Value.ref f.tp).toArray kf) :: fs.flatMap FRec.ents) (fun c => [(Str.ofString "row", .ref c.d1), (Str.ofString "due", .ref c.d2)]) [Str.ofString "octets", Str.ofString "groups", Str.ofString "one"] (fun i c => IntsAre c.u1 (rowZ stp (fs.take i)) ∧ IntsAre c.u2 (rowZ stp (fs.take i)) ∧ c.o2.data = .cell c.v2 ∧ c.o3.data = .cell c.v3 ∧ (∀ a ∈ [s₁.heap.objs.size + 1 + 1 + 1, s₁.heap.objs.size + 1 + 1, P], c.d1 ≠ a) ∧ (∀ a ∈ [s₁.heap.objs.size + 1 + 1 + 1, s₁.heap.objs.size + 1 + 1, P], c.d2 ≠ a)) ⟨l15, us15, k15, D18, ys18, k18, o2, cv2, o3, cv3⟩ rfl (fun c => .tail _ (.tail _ (.tail _ (.tail _ (.tail _ (.tail _ (.head _))))))) F20 N20 ?hk2 hini ?ft ?fd
    case hk2 =>
      kst_all
    case ft =>
      rintro i v ⟨d1', u1, k1', d2', u2, k2', p2, w2, p3, w3⟩ u h tk I io hv ⟨hi1, hi2, hc2, hc3, hd1, hd2⟩ hI F21 N21
      dsimp only [kstB] at hi1 hi2 hc2 hc3 hd1 hd2 hI F21 N21
      obtain ⟨f, hf, rfl, htake⟩ := rec_at hv
      obtain ⟨tp, l, kd, tkd, us, os, n, kt⟩ := f
      obtain ⟨hk0, hk1, hD, hIo⟩ := hfo _ hf
      dsimp only at hk0 hk1 hD hIo
      have me : ∀ p ∈ [(tp, tupO [Value.int kd tkd, Value.ref l].toArray kt), (l, listOf us.toArray n)], p ∈ fs.flatMap FRec.ents := fun p hp => List.mem_flatMap.mpr ⟨_, hf, hp⟩
      have N22 := cb_drop (news := (tp, tupO [Value.int kd tkd, Value.ref l].toArray kt) :: (l, listOf us.toArray n) :: (d1', listOf u1.toArray k1') :: (d2', listOf u2.toArray k2') :: (s₁.heap.objs.size + 1 + 1 + 1, p3) :: (s₁.heap.objs.size + 1 + 1, p2) :: (s₁.heap.objs.size + 1, o1) :: (P, tblO #[]) :: (R, listOf (fs.map fun f => Value.ref f.tp).toArray kf) :: (I, io) :: fs.flatMap FRec.ents) N21 (by
        intro p hp
        simp only [List.mem_cons] at hp ⊢
        rcases hp with h | h | h | h | h | h | h | h | h | h | h
        · have := me p (by rw [h]; exact .head _)
          simp only [this, or_true]
        · have := me p (by rw [h]; exact .tail _ (.head _))
          simp only [this, or_true]
        all_goals simp only [h, true_or, or_true])
      clear N21
      try k_fold
      k_steps
      refine halt_in ?_
      have hos1 := hD.1
      have hos2 := hD.2.1
      have hosb := hD.2.2
      have hgl := dueZ_length os
      with_unfolding_all refine' Cl.use (conv_con w _ mg mb _ (.ref l) os 8 5 _ _ (canWalk_list (n := n) ?hl1 hIo) (by decide) (by decide) (by decide) (by omega) hosb) ?k1 ?k2 ?k3 ?k4 ?k5 ?kK ?kd ?ku ?_
      tb_start
      case hl1 => exact .tail _ (.head _)
      intro l23 us23 k23 h23 tk23 F23 N23 ne23 I23
      rw [conv8 os hos1 hos2] at I23
      ((try clear F20); (try clear N20); (try clear F21); (try clear N21))
      try dsimp only
      k_steps
      refine halt_in ?_
      rename News _ _ _ _ => Nc
      rename Fr _ _ _ _ => Fc
      have hrl : (rowZ stp (fs.take i)).length ≤ 1000 := by
        have h1 := rowZ_le stp (fs.take i) fun f hf => hfo f (List.mem_of_mem_take hf)
        have h2 : (fs.take i).length ≤ fs.length := List.length_take_le' ..
        omega
      refine kmk_add_ints Fc Nc (News.isList Nc (a := d1') (by k_mem)) (News.isList Nc (.head _)) hi1 (.cons _ _ .nil) ?_ (by rw [List.length_singleton, sizeLine_eq]; omega)
      intro D24 ws24 h24 F24 N24 lt24 I24
      clear Fc Nc
      try dsimp only
      k_steps
      refine halt_in ?_
      rename News _ _ _ _ => Nc
      obtain ⟨l25, hl25⟩ := news_hd Nc
      subst hl25
      have hg0 : (0 : Int) ≤ ((dueZ os).length : Int) := Int.natCast_nonneg _
      have hg1 : ((dueZ os).length : Int) < 32 := by omega
      with_unfolding_all refine' Cl.use (conv_con w _ mg mb _ (.ref l25) [((dueZ os).length : Int)] 10 5 _ _ (canWalk_list (n := 0) (vs := [Value.int ((dueZ os).length : Int) _]) ?hl2 (.cons _ _ .nil)) (by decide) (by decide) (by decide) (by show 1 < 1024; decide) ?hb2) ?k1 ?k2 ?k3 ?k4 ?k5 ?kK ?kd ?ku ?_
      tb_start
      case hl2 => exact .head _
      case hb2 => intro v hv; rw [List.mem_singleton.mp hv]; exact ⟨hg0, by omega⟩
      intro l26 us26 k26 h26 tk26 F26 N26 ne26 I26
      rw [conv10 _ hg0 hg1] at I26
      try dsimp only
      k_steps
      refine halt_in ?_
      rename News _ _ _ _ => Nc
      rename Fr _ _ _ _ => Fc
      refine kmk_add_ints Fc Nc (News.isList Nc (a := D24) (by k_mem)) (News.isList Nc (a := l26) (by k_mem)) I24 I26 ?_ (by rw [List.length_append, List.length_singleton, sizeLine_eq]; show _ + 1 + 2 ≤ _; omega)
      intro D27 ws27 h27 F27 N27 lt27 I27
      clear Fc Nc
      try dsimp only
      k_steps
      refine halt_in ?_
      rename News _ _ _ _ => Nc
      rename Fr _ _ _ _ => Fc
      refine kmk_add_ints Fc Nc (News.isList Nc (a := D27) (by k_mem)) (News.isList Nc (a := l23) (by k_mem)) I27 I23 ?_ (by rw [List.length_append, List.length_append, List.length_singleton, sizeLine_eq]; show _ + 1 + 2 + _ ≤ _; omega)
      intro D28 ws28 h28 F28 N28 lt28 I28
      clear Fc Nc
      try dsimp only
      k_steps
      refine halt_in ?_
      rename News _ _ _ _ => Nc
      rename Fr _ _ _ _ => Fc
      have nd1 : ∀ a ∈ [s₁.heap.objs.size + 1 + 1 + 1, s₁.heap.objs.size + 1 + 1, P], D28 ≠ a := by
        intro a ha
        simp only [List.mem_cons, List.not_mem_nil, or_false] at ha
        rcases ha with rfl | rfl | rfl
        · exact Nat.ne_of_gt (lt28 (_, p3) (by k_mem))
        · exact Nat.ne_of_gt (lt28 (_, p2) (by k_mem))
        · exact Nat.ne_of_gt (lt28 (_, tblO #[]) (by k_mem))
      have Nd := cb_drop (news := (s₁.heap.objs.size + 1 + 1, p2) :: (s₁.heap.objs.size + 1 + 1 + 1, p3) :: (D28, listOf ws28.toArray 0) :: (l, listOf us.toArray n) :: (d2', listOf u2.toArray k2') :: (s₁.heap.objs.size + 1, o1) :: (P, tblO #[]) :: (R, listOf (fs.map fun f => Value.ref f.tp).toArray kf) :: (I, io) :: fs.flatMap FRec.ents) Nc (by intro p hp; simp only [List.mem_cons] at hp ⊢; rcases hp with h | h | h | h | h | h | h | h | h | h <;> simp only [h, true_or, or_true])
      clear Nc
      have aI2 : I ≠ s₁.heap.objs.size + 1 + 1 := fun e => hI (_, p2) (by k_mem) e.symm
      have aI3 : I ≠ s₁.heap.objs.size + 1 + 1 + 1 := fun e => hI (_, p3) (by k_mem) e.symm
      have off2 : ∀ p ∈ (s₁.heap.objs.size + 1 + 1 + 1, p3) :: (D28, listOf ws28.toArray 0) :: (l, listOf us.toArray n) :: (d2', listOf u2.toArray k2') :: (s₁.heap.objs.size + 1, o1) :: (P, tblO #[]) :: (R, listOf (fs.map fun f => Value.ref f.tp).toArray kf) :: (I, io) :: fs.flatMap FRec.ents, p.1 ≠ s₁.heap.objs.size + 1 + 1 := by
        intro p hp
        simp only [List.mem_cons] at hp
        rcases hp with rfl | rfl | rfl | rfl | rfl | rfl | rfl | rfl | h
        · exact a32
        · exact nd1 _ (.tail _ (.head _))
        · exact e2 _ (me _ (.tail _ (.head _)))
        · exact hd2 _ (.tail _ (.head _))
        · exact a12
        · exact aP2
        · exact r2.symm
        · exact aI2
        · exact e2 p h
      with_unfolding_all refine storeX_C Fc Nd (c := s₁.heap.objs.size + 1 + 1) (o := p2) rfl (.head off2) hc2 ?_ rfl rfl
      intro h29 q2 F29 N29 d29
      have hsz : (8 * (os.length : Int) + 4).fdiv 5 = (((8 * os.length + 4) / 5 : Nat) : Int) := by rw [fdiv_pos (by decide)]; omega
      obtain ⟨tz, dz⟩ : ∃ tz, q2.data = Data.cell (some (Value.int (((8 * os.length + 4) / 5 : Nat) : Int) tz)) := ⟨_, by rw [d29, hsz]⟩
      clear d29 Fc Nd off2
      try dsimp only
      k_steps
      refine halt_in ?_
      rename News _ _ _ _ => Nc
      rename Fr _ _ _ _ => Fc
      have Nd := cb_drop (news := (s₁.heap.objs.size + 1 + 1 + 1, p3) :: (s₁.heap.objs.size + 1 + 1, q2) :: (D28, listOf ws28.toArray 0) :: (l, listOf us.toArray n) :: (d2', listOf u2.toArray k2') :: (s₁.heap.objs.size + 1, o1) :: (P, tblO #[]) :: (R, listOf (fs.map fun f => Value.ref f.tp).toArray kf) :: (I, io) :: fs.flatMap FRec.ents) Nc (by intro p hp; simp only [List.mem_cons] at hp ⊢; rcases hp with h | h | h | h | h | h | h | h | h | h <;> simp only [h, true_or, or_true])
      clear Nc
      have off3 : ∀ p ∈ (s₁.heap.objs.size + 1 + 1, q2) :: (D28, listOf ws28.toArray 0) :: (l, listOf us.toArray n) :: (d2', listOf u2.toArray k2') :: (s₁.heap.objs.size + 1, o1) :: (P, tblO #[]) :: (R, listOf (fs.map fun f => Value.ref f.tp).toArray kf) :: (I, io) :: fs.flatMap FRec.ents, p.1 ≠ s₁.heap.objs.size + 1 + 1 + 1 := by
        intro p hp
        simp only [List.mem_cons] at hp
        rcases hp with rfl | rfl | rfl | rfl | rfl | rfl | rfl | rfl | h
        · exact a32.symm
        · exact nd1 _ (.head _)
        · exact e3 _ (me _ (.tail _ (.head _)))
        · exact hd2 _ (.head _)
        · exact a13
        · exact aP3
        · exact r3.symm
        · exact aI3
        · exact e3 p h
      with_unfolding_all refine storeX_C Fc Nd (c := s₁.heap.objs.size + 1 + 1 + 1) (o := p3) rfl (.head off3) hc3 ?_ rfl rfl
      intro h30 q3 F30 N30 d30
      clear Fc Nd
      try dsimp only
      k_steps
      refine halt_in ?_
      rename News _ _ _ _ => N31
      rename Fr _ _ _ _ => F31
      with_unfolding_all refine' For_invVF F31 ?fk3 ?fk4 ?_
      case fk3 => exact rfl
      case fk4 => exact rfl
      k_steps
      refine halt_in ?_
      rename News _ _ _ _ => N31
      rename Fr _ _ _ _ => F31
      have hini3 : q3.data = .cell (some (.int 0 _)) := d30
      have hwalk : CanWalk (.ref l) [(l, listOf us.toArray n)] os := canWalk_list (n := n) (.head _) hIo
      with_unfolding_all refine' hwalk (σ := Obj × Int × Tok) (fun c => (s₁.heap.objs.size + 1 + 1 + 1, c.1) :: (s₁.heap.objs.size + 1 + 1, q2) :: (D28, listOf ws28.toArray 0) :: (l, listOf us.toArray n) :: (d2', listOf u2.toArray k2') :: (s₁.heap.objs.size + 1, o1) :: (P, tblO #[]) :: (R, listOf (fs.map fun f : FRec => Value.ref f.tp).toArray kf) :: (I, io) :: fs.flatMap FRec.ents) (fun c => []) (fun c => c.1.data = .cell (some (.int c.2.1 c.2.2))) [] (fun pre c => c.2.1 = valZ 8 pre) (q3, 0, _) rfl (fun c p hp => by rw [List.mem_singleton.mp hp]; k_mem) F31 N31 hini3 (fun _ h => nomatch h) rfl ?vt ?vd
      case vt =>
        rintro ⟨p4, z, tz4⟩ pre post v tv u4 h4 tk4 own hE hm hoff hdat hinv F32 N32
        dsimp only [kstB] at F32 N32 hdat hinv hoff
        simp only [List.cons_append] at N32
        have hpre : ∀ d ∈ pre, 0 ≤ d ∧ d < 256 := fun d hd => hosb d (hE ▸ List.mem_append.mpr (.inl hd))
        have hlp : pre.length ≤ 3 := by
          have := congrArg List.length hE
          simp only [List.length_append, List.length_cons] at this
          omega
        obtain ⟨z0, z1⟩ := valZ8_small hpre hlp
        rw [← hinv] at z0 z1
        try k_fold
        k_steps
        refine halt_in ?_
        rename News _ _ _ _ => Nc
        rename Fr _ _ _ _ => Fc
        have off4 : ∀ p ∈ (s₁.heap.objs.size + 1 + 1, q2) :: (D28, listOf ws28.toArray 0) :: (l, listOf us.toArray n) :: (d2', listOf u2.toArray k2') :: (s₁.heap.objs.size + 1, o1) :: (P, tblO #[]) :: (R, listOf (fs.map fun f : FRec => Value.ref f.tp).toArray kf) :: (I, io) :: (fs.flatMap FRec.ents ++ own), p.1 ≠ s₁.heap.objs.size + 1 + 1 + 1 := by
          intro p hp
          simp only [← List.cons_append] at hp
          rcases List.mem_append.mp hp with hp | hp
          · exact off3 p hp
          · exact hoff p hp _ (.head _)
        with_unfolding_all refine storeX_C Fc Nc (c := s₁.heap.objs.size + 1 + 1 + 1) (o := p4) rfl (.head off4) hdat ?_ rfl rfl
        intro h5 q4 F5 N5 d5
        rw [hinv, valZ8_snoc] at d5
        clear Fc Nc off4
        try dsimp only
        k_steps
        refine halt_in ?_
        rename News _ _ _ _ => Nc
        rename Fr _ _ _ _ => Fc
        refine kst_end (q4, valZ 8 (pre ++ [v]), _) Fc Nc ?_ ?_ (by rfl) d5 (fun _ h => nomatch h) ?_ rfl
        · intro p hp
          simp only [List.mem_cons, List.mem_append] at hp ⊢
          rcases hp with h | h | h | h | h | h | h | h | h | h <;> simp only [h, true_or, or_true]
        · intro p hp
          simp only [List.mem_cons, List.mem_append]
          simp only [hp, or_true]
        · intro z h1 _ _
          simp only [if_neg h1]
          rfl
      rintro ⟨p4, z, tz4⟩ u4 h4 tk4 hdat hinv F32 N32
      dsimp only [kstB] at F32 N32 hdat hinv
      obtain ⟨z0, z1⟩ := valZ8_small hosb hos2
      rw [← hinv] at z0 z1
      have hbits : Builtin.Int.intBits z ≤ 64 := PySem.intBits_le_64 (by omega) (by omega)
      try k_fold
      k_steps
      refine halt_in ?_
      rename News _ _ _ _ => Nc
      rename Fr _ _ _ _ => Fc
      with_unfolding_all refine storeX_C Fc Nc (c := s₁.heap.objs.size + 1 + 1 + 1) (o := p4) rfl (.head off3) hdat ?_ rfl rfl
      intro h5 q4 F5 N5 d5
      rw [hinv] at d5
      obtain ⟨tv4, dv4⟩ : ∃ tv4, q4.data = Data.cell (some (Value.int (valZ 8 os * 2 ^ (5 * (((8 * os.length + 4) / 5 : Nat) : Int) - 8 * (os.length : Int)).toNat) tv4)) := ⟨_, d5⟩
      clear Fc Nc d5
      try dsimp only
      k_steps
      refine halt_in ?_
      rename News _ _ _ _ => Nc
      rename Fr _ _ _ _ => Fc
      have hsz5 : (((8 * os.length + 4) / 5 : Nat) : Int) = ((dueZ os).length : Int) := by rw [hgl]
      refine kmk_add_ints Fc Nc (News.isList Nc (a := d2') (by k_mem)) (News.isList Nc (.head _)) hi2 (.cons _ _ (.cons _ _ (.cons _ _ .nil))) ?_ (by rw [sizeLine_eq]; show _ + 3 ≤ _; omega)
      intro D34 ws34 h34 F34 N34 lt34 I34
      clear Fc Nc
      try dsimp only
      k_steps
      refine halt_in ?_
      rename News _ _ _ _ => Nc
      rename Fr _ _ _ _ => Fc
      obtain ⟨nz, hnz⟩ : ∃ nz : Nat, nz = (8 * os.length + 4) / 5 := ⟨_, rfl⟩
      rw [← hnz] at dz dv4 I34
      have hnz2 : nz = 2 ∨ nz = 4 ∨ nz = 5 := by omega
      have hnz5 : nz ≤ 5 := by omega
      with_unfolding_all refine lc_range (cl := [(Str.ofString "value", s₁.heap.objs.size + 1 + 1 + 1), (Str.ofString "size", s₁.heap.objs.size + 1 + 1)]) Fc Nc (fun a => .int (((valZ 8 os * 2 ^ (5 * (nz : Int) - 8 * (os.length : Int)).toNat).fdiv (32 ^ ((nz : Int) - 1 - a).toNat)).fmod 32)) rfl rfl (by decide) rfl (by decide) rfl (by intro _; rfl) ?_
      k_steps
      refine halt_in ?_
      rename IsRange _ _ _ _ _ _ _ _ => R35
      rename Fr _ _ _ _ => F35
      rename News _ _ _ _ => N35
      refine ⟨_, _, _, _, _, nz, rfl, R35, ?_, ?_, by rw [sizeLine_eq]; omega, F35, N35, ?_, ?_⟩
      · rcases hnz2 with h | h | h <;> rw [h] <;> decide
      · rcases hnz2 with h | h | h <;> rw [h] <;> rfl
      · intro C a t s₂ m₂ E' hC ha0 ha1 hn hm hkp
        have F6 := Fr.keeps F35 hkp
        have cE := InElt.start s₂.heap
        have hget3 : s₂.heap.get? (s₁.heap.objs.size + 1 + 1 + 1) = some q4 := hkp _ _ (N35 (_, q4) (by k_mem)).1
        have hget2 : s₂.heap.get? (s₁.heap.objs.size + 1 + 1) = some q2 := hkp _ _ (N35 (_, q2) (by k_mem)).1
        (k_with "eval Name" => (first | (with_unfolding_all refine ldCellK (c := s₁.heap.objs.size + 1 + 1 + 1) rfl ⟨q4, hget3, dv4⟩ ?_) | (with_unfolding_all refine ldCellK (c := s₁.heap.objs.size + 1 + 1) rfl ⟨q2, hget2, dz⟩ ?_)))
        (k_with "binaryOp FloorDiv int int" => (refine floordiv_int (pow32_ne _) ?_ (Or.inl (pow32_room (by omega)))))
        k_steps
        all_goals first | exact .int _ _ | exact ⟨_, _, rfl, cE⟩
      k_with_none
      intro D36 ys36 k36 h36 tk36 F36 N36 ne36 CA36
      have I36 := CA36.intsOf
      clear CA36
      have hdw := due_walk os (nz : Int) (by rw [hnz])
      rw [← hnz] at hdw
      rw [hdw] at I36
      try dsimp only
      ((try clear Fc); (try clear Nc); (try clear F35); (try clear N35))
      k_steps
      refine halt_in ?_
      rename News _ _ _ _ => Nc
      rename Fr _ _ _ _ => Fc
      rename IntsAre ws34 _ => I34
      refine kmk_add_ints Fc Nc (News.isList Nc (a := D34) (by k_mem)) (News.isList Nc (a := D36) (by k_mem)) I34 I36 ?_ (by rw [List.length_append, sizeLine_eq]; show _ + 3 + _ ≤ _; omega)
      intro D37 ws37 h37 F37 N37 lt37 I37
      clear Fc Nc
      have hrow : rowZ stp (fs.take (i + 1)) = rowZ stp (fs.take i) ++ fieldZ kd os := by rw [htake, rowZ, rowZ, List.flatMap_append, List.flatMap_singleton, List.append_assoc]
      have I28' : IntsAre ws28 (rowZ stp (fs.take (i + 1))) := by
        rw [hrow, fieldZ, ← hgl]
        simpa only [List.append_assoc] using I28
      have I37' : IntsAre ws37 (rowZ stp (fs.take (i + 1))) := by
        rw [hrow, fieldZ, ← hnz]
        simpa only [List.append_assoc, List.cons_append, List.nil_append] using I37
      have nd2 : ∀ a ∈ [s₁.heap.objs.size + 1 + 1 + 1, s₁.heap.objs.size + 1 + 1, P], D37 ≠ a := by
        intro a ha
        simp only [List.mem_cons, List.not_mem_nil, or_false] at ha
        rcases ha with rfl | rfl | rfl
        · exact Nat.ne_of_gt (lt37 (_, q4) (by k_mem))
        · exact Nat.ne_of_gt (lt37 (_, q2) (by k_mem))
        · exact Nat.ne_of_gt (lt37 (_, tblO #[]) (by k_mem))
      have dI : D28 ≠ I := Nat.ne_of_gt (lt28 (I, io) (by k_mem))
      have eI : D37 ≠ I := Nat.ne_of_gt (lt37 (I, io) (by k_mem))
      try dsimp only
      k_steps
      refine halt_in ?_
      rename News _ _ _ _ => Nz
      rename Fr _ _ _ _ => Fz
      refine grow_end ⟨D28, ws28, 0, D37, ws37, 0, q2, _, q4, _⟩ Fz Nz (by k_mem) ?_ ?_ ⟨I28', I37', dz, dv4, nd1, nd2⟩ (by kst_all) (by kst_same)
      · intro p hp
        simp only [List.mem_cons] at hp ⊢
        rcases hp with h | h | h | h | h | h | h | h <;> simp only [h, true_or, or_true]
      · intro p hp
        simp only [List.mem_cons] at hp
        rcases hp with rfl | rfl | rfl | rfl | rfl | rfl | rfl | h
        · exact dI
        · exact eI
        · exact aI3.symm
        · exact aI2.symm
        · exact hI (_, o1) (by k_mem)
        · exact hI (P, tblO #[]) (by k_mem)
        · exact hI (R, listOf (fs.map fun f : FRec => Value.ref f.tp).toArray kf) (by k_mem)
        · exact hI p (by simp only [List.mem_cons, h, or_true])
    rintro ⟨d1', u1, k1', d2', u2, k2', p2, w2, p3, w3⟩ u h tk ⟨hi1, hi2, hc2, hc3, hd1, hd2⟩ F21 N21
    dsimp only [kstB] at hi1 hi2 hc2 hc3 hd1 hd2 F21 N21
    rw [List.size_toArray, List.length_map, List.take_length] at hi1 hi2
    have hdl := rowZ_le stp fs hfo
    have hdb := rowZ_lt stp fs hfo
    have hd7 : 7 ≤ (rowZ stp fs).length := by rw [rowZ, List.length_append]; show 7 ≤ 7 + _; omega
    obtain ⟨ds, hds⟩ : ∃ ds, ds = rowZ stp fs := ⟨_, rfl⟩
    rw [← hds] at hi1 hi2 hdl hdb hd7
    have hdl2 : ds.length ≤ 23 := by omega
    have F21' : Fr hb s₁.heap.objs.size h _ := F21
    have N21' : News hb s₁.heap.objs.size h _ := N21
    obtain ⟨m1, F22⟩ := fr_known4 (a := Str.ofString "row") (va := .ref d1') (b := Str.ofString "due") (vb := .ref d2') (c := Str.ofString "fields") (vc := .ref R) (d := Str.ofString "readable") (vd := .str x t5) F21' rfl rfl rfl rfl
    clear F20 N20 F21 N21 F21' hini nr1 nr2
    have hxl : x.length = ds3.length := by rw [hx]; show (List.toArray _).size = _; rw [List.size_toArray, List.length_map]
    have hxc : ∀ c ∈ x.cps.toList, okS c := by
      rw [hx]
      intro c hc
      obtain ⟨k, hk, rfl⟩ := List.mem_map.mp hc
      exact rd_ok (hD3.2.2 k hk).1 (hD3.2.2 k hk).2
    have hxo : PyData.strOk x = true := by
      show (x.cps.all (· < 0x110000)) = true
      rw [Array.all_eq_true_iff_forall_mem]
      intro c hc
      have := hxc c (Array.mem_toList_iff.mpr hc)
      exact decide_eq_true (Nat.lt_of_le_of_lt this.2.1 (by decide))
    try k_fold
    k_steps
    refine halt_in ?_
    rename News _ _ _ _ => Nc
    refine ne_ints (News.isList Nc (by k_mem)) hi1 (News.isList Nc (by k_mem)) hi2 (by units_room) ?_
    k_steps
    refine halt_in ?_
    rename News _ _ _ _ => Nc
    have Nd := cb_drop (news := (P, tblO #[]) :: (d1', listOf u1.toArray k1') :: (d2', listOf u2.toArray k2') :: (s₁.heap.objs.size + 1 + 1, p2) :: (s₁.heap.objs.size + 1, o1) :: (R, listOf (fs.map fun f : FRec => Value.ref f.tp).toArray kf) :: fs.flatMap FRec.ents) Nc (by intro p hp; simp only [List.mem_cons] at hp ⊢; rcases hp with h | h | h | h | h | h | h <;> simp only [h, true_or, or_true])
    ((try clear Nc); (try clear N21'))
    with_unfolding_all refine' Cl.use (encode_con w _ mg mb ((P, tblO #[]) :: (d1', listOf u1.toArray k1') :: (d2', listOf u2.toArray k2') :: (s₁.heap.objs.size + 1 + 1, p2) :: (s₁.heap.objs.size + 1, o1) :: (R, listOf (fs.map fun f : FRec => Value.ref f.tp).toArray kf) :: fs.flatMap FRec.ents) x _ (.ref d1') ds (by omega) (canList_list (n := k1') (by k_mem) hi1 (by omega)) (by omega) hdb) ?qa1 ?qa2 ?qa3 ?qa4 ?qa5 ?qaK ?qad ?qau ?_
    (case qa1 => k_asm); (case qa2 => k_asm); (case qa3 => k_asm); (case qa4 => k_asm); (case qa5 => k_asm); (case qaK => first | exact rfl | assumption); (case qad => ktr_room); (case qau => ktr_units)
    intro t40 h40 tk40 F40 N40
    try dsimp only
    k_steps
    refine halt_in ?_
    have hcl := createZ_length x ds
    have hwl : (ds ++ createZ x ds).length < 2 ^ 9 := by rw [List.length_append]; omega
    have hwb : ∀ d ∈ ds ++ createZ x ds, 0 ≤ d ∧ d < 32 := fun d hd => (List.mem_append.mp hd).elim (hdb d) (createZ_lt x ds d)
    have hsum := checksum_ok x ds hdb
    have hneP : ∀ p ∈ (d1', listOf u1.toArray k1') :: (d2', listOf u2.toArray k2') :: (s₁.heap.objs.size + 1 + 1, p2) :: (s₁.heap.objs.size + 1, o1) :: (R, listOf (fs.map fun f : FRec => Value.ref f.tp).toArray kf) :: fs.flatMap FRec.ents, p.1 ≠ P := by
      intro p hp
      simp only [List.mem_cons] at hp
      rcases hp with rfl | rfl | rfl | rfl | rfl | h
      · exact hd1 _ (.tail _ (.tail _ (.head _)))
      · exact hd2 _ (.tail _ (.tail _ (.head _)))
      · exact aP2.symm
      · exact (Nat.ne_of_lt (Nat.lt_of_lt_of_le hmem (by omega))).symm
      · exact rP.symm
      · exact eP p h
    have hgb : AllBare s₁.gens := AllBare.of_eq hg
    with_unfolding_all refine' Cl.use (decode_con w _ mg mb _ P #[] x (encZ x ds) _ (ds ++ createZ x ds) (by omega) (by omega) hwl (by rw [List.length_append]; omega) hwb hxc rfl hsum hneP (by trivial)) ?qb1 ?qb2 ?qb3 ?qb4 ?qb5 ?qbK ?qbd ?qbu ⟨Cb, hgb, ?_⟩
    (case qb1 => k_asm); (case qb2 => k_asm); (case qb3 => k_asm); (case qb4 => k_asm); (case qb5 => k_asm); (case qbK => first | exact rfl | assumption); (case qbd => ktr_room); (case qbu => ktr_units)
    intro tp l41 us41 k41 kt41 t41 ps41 s41 F41 N41 ne41 ne41b I41 htr41 hmore41 hG41 hos41
    rw [show (ds ++ createZ x ds).take ((ds ++ createZ x ds).length - 6) = ds from by rw [List.length_append, hcl, Nat.add_sub_cancel]; exact List.take_left] at I41
    try dsimp only
    k_steps
    refine halt_in ?_
    rename News _ _ _ _ => Nc
    obtain ⟨tq, htq⟩ := news_hd Nc
    subst htq
    refine ne_pair (Nc _ (.tail _ (.head _))).1 (Nc (l41, listOf us41.toArray k41) (by k_mem)).1 I41 (Nc _ (.head _)).1 (Nc (d2', listOf u2.toArray k2') (by k_mem)).1 hi2 (by units_room) hxo ?_
    k_steps
    refine halt_in ?_
    rename News _ _ _ _ => Nc
    obtain ⟨l44, hl44⟩ := news_hd Nc
    subst hl44
    rename IntsAre _ (List.take 7 ds) => I44
    have ht7 : ds.take 7 = sevenZ stp := by
      rw [hds, rowZ]
      exact List.take_left (l₁ := sevenZ stp)
    rw [ht7] at I44
    have Nd := cb_drop (news := (l44, _) :: (l41, listOf us41.toArray k41) :: (P, tblO ps41) :: (s₁.heap.objs.size + 1 + 1, p2) :: (s₁.heap.objs.size + 1, o1) :: (R, listOf (fs.map fun f : FRec => Value.ref f.tp).toArray kf) :: fs.flatMap FRec.ents) Nc (List.forall_mem_cons.mpr ⟨.head _, by intro p hp; simp only [List.mem_cons] at hp ⊢; rcases hp with h | h | h | h | h | h <;> simp only [h, true_or, or_true]⟩)
    clear Nc
    obtain ⟨hb35, hz35⟩ := back35 stp hst0 hst1
    with_unfolding_all refine' Cl.use (conv_conF w _ mg mb _ (.ref l44) (sevenZ stp) 5 35 _ _ (canWalk_list (n := 0) ?hl4 I44) (by decide) (by decide) (by decide) (by show 7 < 1024; decide) (sevenZ_lt stp) (by show 5 * 7 % 35 < 5; decide) hz35) ?qc1 ?qc2 ?qc3 ?qc4 ?qc5 ?qcK ?qcd ?qcu ?_
    (case qc1 => k_asm); (case qc2 => k_asm); (case qc3 => k_asm); (case qc4 => k_asm); (case qc5 => k_asm); (case qcK => first | exact rfl | assumption); (case qcd => ktr_room); (case qcu => ktr_units)
    case hl4 => exact .head _
    intro l45 us45 k45 h45 tk45 F45 N45 ne45 I45
    rw [hb35] at I45
    try dsimp only
    k_steps
    refine halt_in ?_
    rename News _ _ _ _ => Nc
    refine ne_ints (News.isList Nc (a := l45) (by k_mem)) I45 (News.isList Nc (.head _)) (.cons _ _ .nil) (by units_room) ?_
    k_steps
    refine halt_in ?_
    rename News _ _ _ _ => Nc
    rename Fr _ _ _ _ => Fc
    obtain ⟨Fd, hFd⟩ := news_hd Nc
    subst hFd
    rename _ < Fd ∧ _ => ltF
    obtain ⟨_, _, _, b1, b2, b3, b4, b5, b6⟩ := ltF
    have offF : ∀ p ∈ (s₁.heap.objs.size + 1 + 1, p2) :: (l41, listOf us41.toArray k41) :: (P, tblO ps41) :: (s₁.heap.objs.size + 1, o1) :: (R, listOf (fs.map fun f : FRec => Value.ref f.tp).toArray kf) :: fs.flatMap FRec.ents, p.1 ≠ Fd := by
      intro p hp
      simp only [List.mem_cons] at hp
      rcases hp with rfl | rfl | rfl | rfl | rfl | h
      · exact Nat.ne_of_lt b3
      · exact Nat.ne_of_lt b1
      · exact Nat.ne_of_lt b2
      · exact Nat.ne_of_lt b4
      · exact Nat.ne_of_lt b5
      · exact Nat.ne_of_lt (kst_ltOf b6 p h)
    have off41 : ∀ p ∈ (s₁.heap.objs.size + 1 + 1, p2) :: (s₁.heap.objs.size + 1, o1) :: (R, listOf (fs.map fun f : FRec => Value.ref f.tp).toArray kf) :: fs.flatMap FRec.ents, p.1 ≠ l41 := by
      intro p hp
      simp only [List.mem_cons] at hp
      exact ne41b p (by simp only [List.mem_cons]; rcases hp with h | h | h | h <;> simp only [h, true_or, or_true])
    have Nd := cb_drop (news := (Fd, listOf (([] : List FRec).map fun f : FRec => Value.ref f.tp).toArray 0) :: (s₁.heap.objs.size + 1 + 1, p2) :: (l41, listOf us41.toArray k41) :: (P, tblO ps41) :: (s₁.heap.objs.size + 1, o1) :: (R, listOf (fs.map fun f : FRec => Value.ref f.tp).toArray kf) :: (([] : List FRec).flatMap FRec.ents ++ fs.flatMap FRec.ents)) Nc (by
      intro p hp
      simp only [List.mem_cons, List.map_nil, List.flatMap_nil, List.nil_append] at hp ⊢
      rcases hp with h | h | h | h | h | h | h <;> simp only [h, true_or, or_true])
    clear Nc
    have hini4 : ([] : List FRec).length ≤ fs.length ∧ (7 : Int) = ((rowZ stp (fs.take ([] : List FRec).length)).length : Int) ∧ ([] : List FRec).map (fun g => (g.kd, g.os)) = (fs.take ([] : List FRec).length).map (fun g => (g.kd, g.os)) ∧ (∀ g ∈ ([] : List FRec), IntsAre g.us g.os) ∧ (∀ p ∈ ([] : List FRec).flatMap FRec.ents, p.1 ≠ Fd ∧ p.1 ≠ s₁.heap.objs.size + 1 + 1) ∧ p2.data = .cell w2 :=
      ⟨Nat.zero_le _, rfl, rfl, fun _ h => (by cases h), fun _ h => (by cases h), hc2⟩
    with_unfolding_all refine' ksw_while (σ := W4) (fun c => (Fd, listOf (c.gs.map fun f : FRec => Value.ref f.tp).toArray c.n) :: (s₁.heap.objs.size + 1 + 1, c.o) :: (l41, listOf us41.toArray k41) :: (P, tblO ps41) :: (s₁.heap.objs.size + 1, o1) :: (R, listOf (fs.map fun f : FRec => Value.ref f.tp).toArray kf) :: (c.gs.flatMap FRec.ents ++ fs.flatMap FRec.ents)) (fun c => [(Str.ofString "place", .int c.pl c.tk)]) (fun _ => True) [] (fun c => c.gs.length ≤ fs.length ∧ c.pl = ((rowZ stp (fs.take c.gs.length)).length : Int) ∧ c.gs.map (fun g => (g.kd, g.os)) = (fs.take c.gs.length).map (fun g => (g.kd, g.os)) ∧ (∀ g ∈ c.gs, IntsAre g.us g.os) ∧ (∀ p ∈ c.gs.flatMap FRec.ents, p.1 ≠ Fd ∧ p.1 ≠ s₁.heap.objs.size + 1 + 1) ∧ c.o.data = .cell c.v) (fun c => fs.length - c.gs.length) ⟨7, _, [], 0, p2, w2⟩ Fc Nd trivial ?wk hini4 ?wt
    case wk => kst_all
    rintro ⟨pl, tpl, gs, ng, p5, w5⟩ u5 h50 tk50 _ ⟨hg1, hg2, hg3, hg4, hg5, hg6⟩ F50 N50
    dsimp only [kstB] at F50 N50 hg1 hg2 hg3 hg4 hg5 hg6
    have hgs : gs.length < fs.length → pl + 3 ≤ (ds.length : Int) := by
      intro h
      obtain ⟨f, rest, hf, _, hs⟩ := rowZ_split stp h
      rw [hds, hs, hg2, List.length_append, List.length_append, fieldZ_length]
      omega
    have hge : ¬ gs.length < fs.length → pl = (ds.length : Int) := by
      intro h
      rw [hg2, show gs.length = fs.length from by omega, List.take_length, ← hds]
    have hpl7 : 7 ≤ pl := by
      rw [hg2, rowZ, List.length_append]
      show (7 : Int) ≤ ((7 + _ : Nat) : Int)
      omega
    try k_fold
    k_steps
    · rename pl < (ds.length : Int) => hlt
      have hgl2 : gs.length < fs.length := by
        rcases Nat.lt_or_ge gs.length fs.length with q | q
        · exact q
        · have := hge (by omega)
          omega
      obtain ⟨f, rest, hf, htk, hsp⟩ := rowZ_split stp hgl2
      obtain ⟨ftp, fll, kd, tkd, us, os, n, kt⟩ := f
      obtain ⟨hk0, hk1, hD, hIo⟩ := hfo _ hf
      dsimp only at hk0 hk1 hD hIo hsp
      have hos1 := hD.1
      have hos2 := hD.2.1
      have hosb := hD.2.2
      obtain ⟨pre, hpre⟩ : ∃ pre, pre = rowZ stp (fs.take gs.length) := ⟨_, rfl⟩
      rw [← hds, ← hpre] at hsp
      rw [← hpre] at hg2
      obtain ⟨nz, hnz⟩ : ∃ nz : Nat, nz = (8 * os.length + 4) / 5 := ⟨_, rfl⟩
      have hnz5 : nz ≤ 5 := by omega
      have hgl := dueZ_length os
      rw [← hnz] at hgl
      have hE1 : ds = (pre ++ [kd]) ++ ([0, (nz : Int)] ++ (dueZ os ++ rest)) := by
        rw [hsp, fieldZ, ← hnz]
        simp only [List.append_assoc, List.cons_append, List.nil_append]
      have hE2 : ds = (pre ++ [kd] ++ [0, (nz : Int)]) ++ (dueZ os ++ rest) := by
        rw [hE1]
        simp only [List.append_assoc, List.cons_append, List.nil_append]
      have hE0 : ds = pre ++ ([kd] ++ ([0, (nz : Int)] ++ (dueZ os ++ rest))) := by
        rw [hE1]
        simp only [List.append_assoc, List.cons_append, List.nil_append]
      have hS1 : (ds.drop (pl + 1).toNat).take (min (pl + 3).toNat ds.length - (pl + 1).toNat) = [0, (nz : Int)] := by
        rw [hE1]
        refine slice_mid _ _ _ _ _ ?_ ?_
        · rw [hg2, List.length_append]; rfl
        · rw [hg2, List.length_append]; show _ = ((pre.length + 1 + 2 : Nat) : Int); omega
      rename IntsAre _ (List.take _ (List.drop _ ds)) => I51
      rw [hS1] at I51
      rename News _ _ _ _ => Nc
      obtain ⟨l51, hl51⟩ := news_hd Nc
      subst hl51
      obtain ⟨hb10, hz10⟩ := back10 (nz : Int) (by omega) (by omega)
      refine halt_in ?_
      with_unfolding_all refine' Cl.use (conv_conF w _ mg mb _ (.ref l51) [0, (nz : Int)] 5 10 _ _ (canWalk_list (n := 0) ?hl5 I51) (by decide) (by decide) (by decide) (by show 2 < 1024; decide) ?hb5 (by show 5 * 2 % 10 < 5; decide) hz10) ?qd1 ?qd2 ?qd3 ?qd4 ?qd5 ?qdK ?qdd ?qdu ?_
      (case qd1 => k_asm); (case qd2 => k_asm); (case qd3 => k_asm); (case qd4 => k_asm); (case qd5 => k_asm); (case qdK => first | exact rfl | assumption); (case qdd => ktr_room); (case qdu => ktr_units)
      case hl5 => exact .head _
      case hb5 =>
        intro v hv
        simp only [List.mem_cons, List.not_mem_nil, or_false] at hv
        rcases hv with rfl | rfl
        · decide
        · exact ⟨by omega, by omega⟩
      intro l52 us52 k52 h52 tk52 F52 N52 ne52 I52
      rw [hb10] at I52
      try dsimp only
      k_steps
      refine halt_in ?_
      rename News _ _ _ _ => Nc
      rename Fr _ _ _ _ => Fc
      have Nd := cb_drop (news := (s₁.heap.objs.size + 1 + 1, p5) :: (Fd, listOf (gs.map fun f : FRec => Value.ref f.tp).toArray ng) :: (l41, listOf us41.toArray k41) :: (P, tblO ps41) :: (s₁.heap.objs.size + 1, o1) :: (R, listOf (fs.map fun f : FRec => Value.ref f.tp).toArray kf) :: (gs.flatMap FRec.ents ++ fs.flatMap FRec.ents)) Nc (by intro p hp; simp only [List.mem_cons] at hp ⊢; rcases hp with h | h | h | h | h | h | h <;> simp only [h, true_or, or_true])
      clear Nc
      have off5 : ∀ p ∈ (Fd, listOf (gs.map fun f : FRec => Value.ref f.tp).toArray ng) :: (l41, listOf us41.toArray k41) :: (P, tblO ps41) :: (s₁.heap.objs.size + 1, o1) :: (R, listOf (fs.map fun f : FRec => Value.ref f.tp).toArray kf) :: (gs.flatMap FRec.ents ++ fs.flatMap FRec.ents), p.1 ≠ s₁.heap.objs.size + 1 + 1 := by
        intro p hp
        simp only [List.mem_cons, List.mem_append] at hp
        rcases hp with rfl | rfl | rfl | rfl | rfl | h | h
        · exact (offF (_, p2) (.head _)).symm
        · exact (off41 (_, p2) (.head _)).symm
        · exact aP2
        · exact a12
        · exact r2.symm
        · exact (hg5 p h).2
        · exact e2 p h
      with_unfolding_all refine storeX_C Fc Nd (c := s₁.heap.objs.size + 1 + 1) (o := p5) rfl (.head off5) hg6 ?_ rfl rfl
      intro h53 q5 F53 N53 d53
      obtain ⟨tz, dz⟩ : ∃ tz, q5.data = Data.cell (some (Value.int (nz : Int) tz)) := ⟨_, d53⟩
      clear d53 Fc Nd
      try dsimp only
      k_steps
      have hG : ds.getD pl.toNat 0 = kd := by
        rw [hE0, hg2, Int.toNat_natCast]
        simp
      have hS2 : (ds.drop (pl + 3).toNat).take (min (pl + 3 + (nz : Int)).toNat ds.length - (pl + 3).toNat) = dueZ os := by
        rw [hE2]
        refine slice_mid _ _ _ _ _ ?_ ?_
        · rw [hg2, List.length_append, List.length_append]; show _ = ((pre.length + 1 + 2 : Nat) : Int); omega
        · rw [hg2, List.length_append, List.length_append, hgl]; show _ = ((pre.length + 1 + 2 + nz : Nat) : Int); omega
      rw [hG]
      rename IntsAre _ (List.take (min (pl + 3 + (nz : Int)).toNat _ - _) (List.drop _ ds)) => I55
      rw [hS2] at I55
      rename News _ _ _ _ => Nc
      obtain ⟨l55, hl55⟩ := news_hd Nc
      subst hl55
      obtain ⟨hb8, hz8, hr8⟩ := back8 os hos1 hos2 hosb
      refine halt_in ?_
      with_unfolding_all refine' Cl.use (conv_conF w _ mg mb _ (.ref l55) (dueZ os) 5 8 _ _ (canWalk_list (n := 0) ?hl6 I55) (by decide) (by decide) (by decide) (by omega) (dueZ_lt os) hr8 hz8) ?qe1 ?qe2 ?qe3 ?qe4 ?qe5 ?qeK ?qed ?qeu ?_
      (case qe1 => k_asm); (case qe2 => k_asm); (case qe3 => k_asm); (case qe4 => k_asm); (case qe5 => k_asm); (case qeK => first | exact rfl | assumption); (case qed => ktr_room); (case qeu => ktr_units)
      case hl6 => exact .head _
      intro l56 us56 k56 h56 tk56 F56 N56 ne56 I56
      rw [hb8] at I56
      have ltp := fun (p : Addr × Obj) hp => Heap.lt_size (N56 p hp).1
      try dsimp only
      k_steps
      refine halt_in ?_
      rename News _ _ _ _ => Nc
      rename Fr _ _ _ _ => Fc
      obtain ⟨tq, htq⟩ := news_tok Nc
      rw [← htq] at Nc
      have dF : ∀ p ∈ (h56.objs.size, tupO [Value.int kd tq, Value.ref l56].toArray 0) :: (l56, listOf us56.toArray k56) :: (s₁.heap.objs.size + 1 + 1, q5) :: (l41, listOf us41.toArray k41) :: (P, tblO ps41) :: (s₁.heap.objs.size + 1, o1) :: (R, listOf (fs.map fun f : FRec => Value.ref f.tp).toArray kf) :: (gs.flatMap FRec.ents ++ fs.flatMap FRec.ents), p.1 ≠ Fd := by
        intro p hp
        simp only [List.mem_cons, List.mem_append] at hp
        rcases hp with rfl | rfl | rfl | rfl | rfl | rfl | rfl | h | h
        · exact Nat.ne_of_gt (ltp (Fd, listOf (gs.map fun f : FRec => Value.ref f.tp).toArray ng) (by k_mem))
        · exact fun e => ne56 (Fd, listOf (gs.map fun f : FRec => Value.ref f.tp).toArray ng) (by k_mem) e.symm
        · exact offF (_, p2) (by k_mem)
        · exact offF (l41, listOf us41.toArray k41) (by k_mem)
        · exact offF (P, tblO ps41) (by k_mem)
        · exact offF (_, o1) (by k_mem)
        · exact offF (R, listOf (fs.map fun f : FRec => Value.ref f.tp).toArray kf) (by k_mem)
        · exact (hg5 p h).1
        · exact offF p (by simp only [List.mem_cons, h, or_true])
      have Nd := cb_drop (news := (Fd, listOf (gs.map fun f : FRec => Value.ref f.tp).toArray ng) :: (h56.objs.size, tupO [Value.int kd tq, Value.ref l56].toArray 0) :: (l56, listOf us56.toArray k56) :: (s₁.heap.objs.size + 1 + 1, q5) :: (l41, listOf us41.toArray k41) :: (P, tblO ps41) :: (s₁.heap.objs.size + 1, o1) :: (R, listOf (fs.map fun f : FRec => Value.ref f.tp).toArray kf) :: (gs.flatMap FRec.ents ++ fs.flatMap FRec.ents)) Nc (by intro p hp; simp only [List.mem_cons] at hp ⊢; rcases hp with h | h | h | h | h | h | h | h | h <;> simp only [h, true_or, or_true])
      clear Nc
      refine append_K Fc Nd (.head dF) ?_ (by rw [List.size_toArray, List.length_map, sizeLine_eq]; omega)
      intro h57 F57 N57
      clear Fc Nd
      try dsimp only
      k_steps
      refine halt_in ?_
      rename News _ _ _ _ => Nz
      rename Fr _ _ _ _ => Fz
      simp only [List.push_toArray] at Nz
      have hln : (gs ++ [(⟨h56.objs.size, l56, kd, tq, us56, os, k56, 0⟩ : FRec)]).length = gs.length + 1 := by rw [List.length_append]; rfl
      refine ksw_end ⟨pl + 3 + (nz : Int), _, gs ++ [⟨h56.objs.size, l56, kd, tq, us56, os, k56, 0⟩], ng + 1, q5, _⟩ Fz Nz ?_ trivial (by kst_all) (by ksw_same) ⟨?_, ?_, ?_, ?_, ?_, dz⟩ ?_
      · intro p hp
        simp only [List.map_append, List.map_cons, List.map_nil, List.flatMap_append, List.flatMap_cons, List.flatMap_nil, List.append_nil, FRec.ents, List.mem_cons, List.mem_append, List.not_mem_nil, or_false] at hp ⊢
        rcases hp with h | h | h | h | h | h | ((h | h | h) | h) <;> simp only [h, true_or, or_true]
      · rw [hln]
        exact hgl2
      · rw [hln, htk]
        have e : rowZ stp (fs.take gs.length ++ [⟨ftp, fll, kd, tkd, us, os, n, kt⟩]) = pre ++ fieldZ kd os := by rw [hpre, rowZ, rowZ, List.flatMap_append, List.flatMap_singleton, List.append_assoc]
        rw [e, List.length_append, fieldZ_length, ← hnz, hg2]
        dsimp only
        omega
      · rw [hln, htk, List.map_append, List.map_append, hg3]
        rfl
      · intro g hg
        rcases List.mem_append.mp hg with h | h
        · exact hg4 g h
        · rw [List.mem_singleton.mp h]
          exact I56
      · intro p hp
        simp only [List.flatMap_append, List.flatMap_cons, List.flatMap_nil, List.append_nil, FRec.ents, List.mem_cons, List.mem_append, List.not_mem_nil, or_false] at hp
        rcases hp with h | rfl | rfl
        · exact hg5 p h
        · exact ⟨dF _ (.head _), Nat.ne_of_gt (ltp (_, q5) (by k_mem))⟩
        · exact ⟨dF _ (.tail _ (.head _)), fun e => ne56 (_, q5) (by k_mem) e.symm⟩
      · show fs.length - (gs ++ [(⟨h56.objs.size, l56, kd, tq, us56, os, k56, 0⟩ : FRec)]).length < fs.length - gs.length
        rw [hln]
        omega
    · rename ¬ pl < (ds.length : Int) => hlt
      have hgs2 : gs.length = fs.length := by
        rcases Nat.lt_or_ge gs.length fs.length with q | q
        · have := hgs q
          omega
        · omega
      rw [hgs2, List.take_length] at hg3
      have hDD := recD_eq hg3
      refine halt_in ?_
      rename News _ _ _ _ => Nc
      obtain ⟨_, r1⟩ := reads_list_recs (Nc (Fd, listOf (gs.map fun f : FRec => Value.ref f.tp).toArray ng) (by k_mem)).1 (fun p hp => (Nc p (by simp only [List.mem_cons, List.mem_append, hp, true_or, or_true])).1) hg4
      obtain ⟨_, r2⟩ := reads_list_recs (Nc (R, listOf (fs.map fun f : FRec => Value.ref f.tp).toArray kf) (by k_mem)).1 (fun p hp => (Nc p (by simp only [List.mem_cons, List.mem_append, hp, true_or, or_true])).1) (fun f hf => (hfo f hf).2.2.2)
      rw [hDD] at r1
      refine eq_dataH r1 r2 (shaped_recs fs) (shaped_recs fs) (by units_room) ?_
      rw [SeqAt.eqv_refl _ (SeqAt.canLay_of_shaped (shaped_recs fs))]
      k_steps
      rename Fr _ _ _ _ => Fz
      rename News _ _ _ _ => Nz
      obtain ⟨more41, hm41⟩ := hmore41
      have hPz := (Nz (P, tblO ps41) (by k_mem)).1
      rw [hm41] at hPz
      have hOld := BO.old hC hP Fz.keep hPz
      refine ⟨.inl ⟨_, .bool true, [], rfl, raisesW_false (by wrow_none_raised), ReadsW.bool _, ?_, unshared_nil⟩, hOld, ?_, hG41⟩
      · exact post01 _
      · exact hos41
end Mine
theorem PySem.Challenge.cw_oo0008_01_holds : PySem.Challenge.rw_oo0008_01.Holds := by
  exact Mine.law1
