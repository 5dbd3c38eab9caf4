import PyProof.Rows.All
import Wide.All
import OpenK.AllK
import Wide.FinOn
import PySem.Challenge.RW_ph0124_01
open PySem PySem.W PyProof.Rows
set_option Elab.async false
set_option maxRecDepth 100000
set_option maxHeartbeats 8000000
set_option linter.unusedVariables false

namespace Mine
open_top hd for PySem.Challenge.rw_ph0124_01
end Mine

namespace Mine
open PySem.Spec PySem.Calls PyProof.Rows.LCg

/-- what an iterator at I hands out, turn by turn; new tokens are kb or more -/
structure Hands (prog : Program) (w : World) (A : Around) (kb : Nat) (I : Addr) (fp : List Addr) (n : Nat) (P : Nat → Value → Nat → Prop) (St : Nat → Heap → Prop) : Prop where
  inI : I ∈ fp
  live : ∀ i h, St i h → ∃ o, h.get? I = some o
  frame : ∀ i h h', St i h → (∀ b ∈ fp, ∀ o, h.get? b = some o → h'.get? b = some o) → St i h'
  item : ∀ i (s : Shared) (Q : Option Value → Shared → Prop) (E : Value → Shared → Prop), i < n → St i s.heap → kb ≤ s.toks →
    (∀ v h' tk, P i v tk → St (i + 1) h' → (∀ b o, b ≠ I → s.heap.get? b = some o → h'.get? b = some o) → kb ≤ tk → Q (some v) { s with heap := h', toks := tk }) → wpAny (model prog w) A (pyNext (.ref I)) Q E s
  done : ∀ (s : Shared) (Q : Option Value → Shared → Prop) (E : Value → Shared → Prop), St n s.heap → kb ≤ s.toks →
    (∀ h' tk, (∀ b o, b ≠ I → s.heap.get? b = some o → h'.get? b = some o) → kb ≤ tk → Q none { s with heap := h', toks := tk }) → wpAny (model prog w) A (pyNext (.ref I)) Q E s
  self : ∀ i (s : Shared) (Q : Value → Shared → Prop) (E : Value → Shared → Prop), St i s.heap → Q (.ref I) s → wpAny (model prog w) A (pyIter (.ref I)) Q E s

theorem Hands.of {prog : Program} {w : World} {A : Around} {kb : Nat} {I : Addr} {fp : List Addr} {n : Nat} {P : Nat → Value → Prop} {St : Nat → Heap → Prop} (W : Walks prog w A I fp [I] n P St)
    (live : ∀ i h, St i h → ∃ o, h.get? I = some o) : Hands prog w A kb I fp n (fun i v _ => P i v) St where
  inI := W.sub I (List.mem_singleton.mpr rfl)
  live := live
  frame := W.frame
  item := fun i s Q E hi st ht hQ => wpAny_with_toks ht (W.item i s _ _ hi st fun v h' tk hP hst hk => fun (h1 : kb ≤ tk) => hQ v h' tk hP hst (fun b o hb e => hk b o (by simpa using hb) e) h1)
  done := fun s Q E st ht hQ => wpAny_with_toks ht (W.done s _ _ st fun h' tk hk => fun (h1 : kb ≤ tk) => hQ h' tk (fun b o hb e => hk b o (by simpa using hb) e) h1)
  self := W.self

/-- the i-th sign of x, a text of one sign with a new token -/
def SignOf (kb : Nat) (x : Str) (i : Nat) (v : Value) (tk : Nat) : Prop := ∃ c u, x.cps[i]? = some c ∧ kb ≤ u ∧ u < tk ∧ v = .str ⟨#[c]⟩ u

theorem Hands.ascii {prog : Program} {w : World} {A : Around} {kb : Nat} (hh : A.handled = none) (I : Addr) (x : Str) (t : Tok) :
    Hands prog w A kb I [I] x.cps.size (SignOf kb x) (fun i h => h.IsStrIter I "str_ascii_iterator" x t i) where
  inI := List.mem_singleton.mpr rfl
  live := fun _ _ st => let ⟨o, e, _⟩ := st; ⟨o, e⟩
  frame := fun _ _ _ st hk => let ⟨o, ho, r⟩ := st; ⟨o, hk I (by simp) o ho, r⟩
  item := fun i s Q E hi st ht hQ => by
    refine wpAny_pyNext_ascii_item st (c := x.cps[i]) (by simp [hi]) fun h' hit' hs' => ?_
    exact hQ _ h' (s.toks + 1) ⟨_, s.toks, by simp [hi], ht, Nat.lt_succ_self _, rfl⟩ hit' (fun b o hb e => hs'.extBut b o hb e) (Nat.le_succ_of_le ht)
  done := fun s Q E st ht hQ => wpAny_pyNext_ascii_end hh st (by simp) fun h' he' => hQ h' s.toks (fun b o hb e => he' b o hb e) ht
  self := fun _ _ _ _ st hQ => wpAny_pyIter_striter_ascii st hQ
theorem Hands.wide {prog : Program} {w : World} {A : Around} {kb : Nat} (hh : A.handled = none) (I : Addr) (x : Str) (t : Tok) :
    Hands prog w A kb I [I] x.cps.size (SignOf kb x) (fun i h => h.IsStrIter I "str_iterator" x t i) where
  inI := List.mem_singleton.mpr rfl
  live := fun _ _ st => let ⟨o, e, _⟩ := st; ⟨o, e⟩
  frame := fun _ _ _ st hk => let ⟨o, ho, r⟩ := st; ⟨o, hk I (by simp) o ho, r⟩
  item := fun i s Q E hi st ht hQ => by
    refine wpAny_pyNext_wide_item st (c := x.cps[i]) (by simp [hi]) fun h' hit' hs' => ?_
    exact hQ _ h' (s.toks + 1) ⟨_, s.toks, by simp [hi], ht, Nat.lt_succ_self _, rfl⟩ hit' (fun b o hb e => hs'.extBut b o hb e) (Nat.le_succ_of_le ht)
  done := fun s Q E st ht hQ => wpAny_pyNext_wide_end hh st (by simp) fun h' he' => hQ h' s.toks (fun b o hb e => he' b o hb e) ht
  self := fun _ _ _ _ st hQ => wpAny_pyIter_striter_wide st hQ

/-- a source: iterated from s₁ it gives an iterator behind all that stands -/
def Src (prog : Program) (w : World) (A : Around) (h₀ : Heap) (L : Addr) (kb : Nat) (S : List (Addr × Obj) → Prop) (n : Nat) (P : Nat → Value → Nat → Prop) (xv : Value) (s₁ : Shared) : Prop :=
  ∀ (Q : Value → Shared → Prop) (E : Value → Shared → Prop),
    (∀ o fp St, o.isFreed = false → Hands prog w A kb s₁.heap.objs.size fp n P St → St 0 (s₁.heap.push o) → (∀ b ∈ fp, b < s₁.heap.objs.size + 1) →
      (∀ i (h h' : Heap) oI nw, St i h → h.get? s₁.heap.objs.size = some oI → h'.get? s₁.heap.objs.size = some oI → (∀ b o, h₀.get? b = some o → h'.get? b = some o) → News h₀ L h' nw → S nw → St i h') →
      Q (.ref s₁.heap.objs.size) { s₁ with heap := s₁.heap.push o }) → wpAny (model prog w) A (pyIter xv) Q E s₁

section
variable {prog : Program} {w : World} {A : Around} {h₀ : Heap} {L : Addr} {s₁ : Shared} {kb : Nat}
theorem Src.str (hh : A.handled = none) (x : Str) (t : Tok) : Src prog w A h₀ L kb (fun _ => True) x.cps.size (SignOf kb x) (.str x t) s₁ := by
  intro Q E hQ
  have stab : ∀ (cls : String) i (h h' : Heap) oI (nw : List (Addr × Obj)), h.IsStrIter s₁.heap.objs.size cls x t i → h.get? s₁.heap.objs.size = some oI → h'.get? s₁.heap.objs.size = some oI → (∀ b o, h₀.get? b = some o → h'.get? b = some o) → News h₀ L h' nw → True → h'.IsStrIter s₁.heap.objs.size cls x t i := by
    intro cls i h h' oI nw st e e' _ _ _
    obtain ⟨o, ho, r⟩ := st
    rw [e] at ho; cases ho
    exact ⟨oI, e', r⟩
  cases ha : x.cps.all (· < 128)
  · exact wpAny_pyIter_wide ha (hQ _ _ _ rfl (Hands.wide hh _ x t) ⟨_, Heap.get?_push_size _ rfl, rfl, rfl⟩ (fun b hb => by rw [List.mem_singleton.mp hb]; exact Nat.lt_succ_self _) (stab _))
  · exact wpAny_pyIter_ascii ha (hQ _ _ _ rfl (Hands.ascii hh _ x t) ⟨_, Heap.get?_push_size _ rfl, rfl, rfl⟩ (fun b hb => by rw [List.mem_singleton.mp hb]; exact Nat.lt_succ_self _) (stab _))

theorem Src.list (hh : A.handled = none) {ax : Addr} {its : Array Value} {news : List (Addr × Obj)} {m : Str → Option Value} (F : Fr h₀ L s₁.heap m) (N : News h₀ L s₁.heap news) (hS : SrcAt h₀ ax its news) :
    Src prog w A h₀ L kb (SrcAt h₀ ax its) its.size (fun i v _ => its[i]? = some v) (.ref ax) s₁ := by
  intro Q E hQ
  have hl := hS.list F.keep N
  have hlt : ax < s₁.heap.objs.size := by obtain ⟨_, e, _⟩ := hl; exact Heap.lt_size e
  refine wpAny_pyIter_list hl ?_
  refine hQ _ _ _ rfl (Hands.of (Walks.list hh s₁.heap.objs.size ax (Nat.ne_of_lt hlt) its) (fun i h st => by obtain ⟨o, e, _⟩ := st.1; exact ⟨o, e⟩)) ⟨⟨_, Heap.get?_push_size _ rfl, rfl, rfl⟩, hl.push _⟩ (fun b hb => ?_) ?_
  · rcases List.mem_cons.mp hb with rfl | hb
    · exact Nat.lt_succ_self _
    · rw [List.mem_singleton.mp hb]; exact Nat.lt_succ_of_lt hlt
  · intro i h h' oI nw st e e' k N' S'
    refine ⟨?_, S'.list k N'⟩
    obtain ⟨o', q, r⟩ := st.1
    rw [e] at q; cases q
    exact ⟨oI, e', r⟩

theorem Src.range (hh : A.handled = none) {r : Addr} {a b : Int} {t u v : Tok} {n : Nat} (hr : IsRange s₁.heap r a b 1 t u v) (hsm : Builtin.Range.small a b 1 = true) (hn : Builtin.Range.rangeSize a b 1 = ((n : Nat) : Int)) :
    Src prog w A h₀ L kb (fun _ => True) n (fun i v _ => ∃ t, v = .int (a + (i : Int)) t) (.ref r) s₁ := by
  intro Q E hQ
  refine wpAny_pyIter_range hr hsm ?_
  refine hQ _ _ _ rfl (Hands.of (range_walks hh a n) (fun i h st => ⟨_, st⟩)) (by show IsRangeIter _ _ _ _ _; rw [hn]; simpa using Heap.get?_push_size _ rfl) (fun b hb => by rw [List.mem_singleton.mp hb]; exact Nat.lt_succ_self _) ?_
  intro i h h' oI nw st e e' _ _ _
  have st' : h.get? s₁.heap.objs.size = some _ := st
  show h'.get? s₁.heap.objs.size = some _
  rw [e', ← e]; exact st'
end
end Mine

namespace Mine
open PySem.Spec PySem.Calls PyProof.Rows.LCg

/-- the frame and the ledger stand, the rest of the state is s's -/
def Stay (h₀ : Heap) (L : Addr) (m : Str → Option Value) (news : List (Addr × Obj)) (s s' : Shared) : Prop :=
  ∃ h' tk, s' = { s with heap := h', toks := tk } ∧ Fr h₀ L h' m ∧ News h₀ L h' news

abbrev testsOf (ifs : List Expr) (env : Env) : Sem Bool :=
  forIn ifs true fun c r => if r = true then do let ok ← isTrue c env (eval c env); pure (ForInStep.yield ok) else pure (ForInStep.yield r)

/-- the end of an element: its value is in G i, what stood stands -/
def EltEnd (h₀ : Heap) (L : Addr) (m : Str → Option Value) (led : List (Addr × Obj)) (G : Value → Prop) (s : Shared) (y : Value) (s₃ : Shared) : Prop := G y ∧ Stay h₀ L m led s s₃
theorem EltEnd.intro {h₀ : Heap} {L : Addr} {m : Str → Option Value} {led : List (Addr × Obj)} {G : Value → Prop} {s : Shared} {y : Value} {h' : Heap} {tk : Nat} {led' : List (Addr × Obj)} (F : Fr h₀ L h' m) (N : News h₀ L h' led') (sub : ∀ q ∈ led, q ∈ led') (g : G y) :
    EltEnd h₀ L m led G s y { s with heap := h', toks := tk } := ⟨g, h', tk, rfl, F, fun q hq => N q (sub q hq)⟩
/-- the end of a test: it tells b, what stood stands, and behind True comes Nx -/
def TestEnd (h₀ : Heap) (L : Addr) (m : Str → Option Value) (led : List (Addr × Obj)) (b : Bool) (Nx : Shared → Prop) (s : Shared) (ok : Bool) (s₂ : Shared) : Prop := ok = b ∧ Stay h₀ L m led s s₂ ∧ (ok = true → Nx s₂)
theorem TestEnd.intro {h₀ : Heap} {L : Addr} {m : Str → Option Value} {led led' : List (Addr × Obj)} {b ok : Bool} {Nx : Shared → Prop} {s : Shared} {h' : Heap} {tk : Nat} (e : ok = b) (F : Fr h₀ L h' m) (N : News h₀ L h' led') (sub : ∀ q ∈ led, q ∈ led') (nx : ok = true → Nx { s with heap := h', toks := tk }) :
    TestEnd h₀ L m led b Nx s ok { s with heap := h', toks := tk } := ⟨e, ⟨h', tk, rfl, F, fun q hq => N q (sub q hq)⟩, nx⟩
/-- one turn of a comprehension: its test tells p i, its element stands in G i -/
def Turns (prog : Program) (w : World) (A : Around) (h₀ : Heap) (L : Addr) (m : Str → Option Value) (env : Env) (elt : Expr) (ifs : List Expr) (x : Str) (scope : Scope) (cl : List (Str × Addr)) (kb n : Nat) (P : Nat → Value → Nat → Prop)
    (p : Nat → Bool) (G : Nat → Value → Prop) (news : List (Addr × Obj)) (s : Shared) : Prop :=
  ∀ i v I oI C oC D m₂ ys h tk₀ tk (E' : Value → Shared → Prop), i < n → P i v tk₀ → tk₀ ≤ tk → NsObj oC m₂ → m₂ x = some v → Fr h₀ L h m → News h₀ L h ((I, oI) :: (C, oC) :: (D, lst ys) :: news) → kb ≤ tk →
    wpAny (model prog w) A (testsOf ifs (compEnvC scope cl C env)) (TestEnd h₀ L m ((I, oI) :: (C, oC) :: (D, lst ys) :: news) (p i)
      (fun s₂ => wpAny (model prog w) A (eval elt (compEnvC scope cl C env)) (EltEnd h₀ L m ((I, oI) :: (C, oC) :: (D, lst ys) :: news) (G i) { s with heap := h, toks := tk }) E' s₂) { s with heap := h, toks := tk }) E' { s with heap := h, toks := tk }

/-- a comprehension without a test -/
theorem Turns.plain {prog : Program} {w : World} {A : Around} {h₀ : Heap} {L : Addr} {m : Str → Option Value} {env : Env} {elt : Expr} {x : Str} {scope : Scope} {cl : List (Str × Addr)} {kb n : Nat} {P : Nat → Value → Nat → Prop}
    {G : Nat → Value → Prop} {news : List (Addr × Obj)} {s : Shared}
    (h : ∀ i v I oI C oC D m₂ ys h tk₀ tk (E' : Value → Shared → Prop), i < n → P i v tk₀ → tk₀ ≤ tk → NsObj oC m₂ → m₂ x = some v → Fr h₀ L h m → News h₀ L h ((I, oI) :: (C, oC) :: (D, lst ys) :: news) → kb ≤ tk →
      wpAny (model prog w) A (eval elt (compEnvC scope cl C env)) (EltEnd h₀ L m ((I, oI) :: (C, oC) :: (D, lst ys) :: news) (G i) { s with heap := h, toks := tk }) E' { s with heap := h, toks := tk }) :
    Turns prog w A h₀ L m env elt [] x scope cl kb n P (fun _ => true) G news s :=
  fun i v I oI C oC D m₂ ys hp tk₀ tk E' hi hP hle hC hx F N htk => wpAny_tests_nil (TestEnd.intro rfl F N (fun _ hq => hq) fun _ => h i v I oI C oC D m₂ ys hp tk₀ tk E' hi hP hle hC hx F N htk)

theorem range_filter_snoc (p : Nat → Bool) (i : Nat) : (List.range (i + 1)).filter p = (List.range i).filter p ++ (if p i = true then [i] else []) := by
  rw [List.range_succ, List.filter_append]
  by_cases h : p i = true
  · simp [h]
  · simp [h]

section
variable {prog : Program} {w : World} {A : Around} {E : Value → Shared → Prop} {h₀ : Heap} {L : Addr} {m : Str → Option Value} {env : Env}
theorem comp_core {elt iter : Expr} {ifs : List Expr} {x : Str} {px : Pos} {scope : Scope} {cl : List (Str × Addr)} {pos : Pos} {s₁ : Shared} {oN : Obj} {fp : List Addr} {kb n : Nat} {P : Nat → Value → Nat → Prop} {St : Nat → Heap → Prop} {S : List (Addr × Obj) → Prop} {news : List (Addr × Obj)}
    {p : Nat → Bool} {G : Nat → Value → Prop} {RR : Value → Addr → Result → Shared → Prop}
    (W : Hands prog w A kb s₁.heap.objs.size fp n P St) (hsz : n ≤ sizeLine) (hto : kb ≤ s₁.toks)
    (hSt : ∀ i (h h' : Heap) oI nw, St i h → h.get? s₁.heap.objs.size = some oI → h'.get? s₁.heap.objs.size = some oI → (∀ b o, h₀.get? b = some o → h'.get? b = some o) → News h₀ L h' nw → S nw → St i h')
    (hcell : ∀ y ∈ scope.names, y.2 ≠ .cell) (hkind : scope.kind = .function) (hx : scope.names.lookup x = some .local) (hst : St 0 (s₁.heap.push oN)) (hfp : ∀ b ∈ fp, b < s₁.heap.objs.size + 1)
    (F₁ : Fr h₀ L s₁.heap m) (N₁ : News h₀ L s₁.heap news) (hS : S news)
    (T : Turns prog w A h₀ L m env elt ifs x scope cl kb n P p G news s₁)
    (hRR : ∀ D C h tk m' ys, Fr h₀ L h m → News h₀ L h ((D, lst ys) :: news) → h.Ns C m' → h₀.get? C = none → h₀.get? D = none → C ≠ L → D ≠ L → C ≠ D → (∀ p ∈ news, p.1 ≠ C) → (∀ p ∈ news, p.1 < D) → kb ≤ tk → Paired G ((List.range n).filter p) ys → RR (.ref D) C (.ok .next) { s₁ with heap := h, toks := tk }) :
    wpAny (model prog w) A (newList []) (fun acc s₃ => wpAny (model prog w) A (newFunctionEnv scope env.globals cl [] env.qual none .none (some env)) (fun cenv s₄ =>
      codeAny (model prog w) A (.compStart (.ListComp elt [⟨.Name x px, iter, ifs, 0⟩] scope pos) 0 (.ref s₁.heap.objs.size) acc { cenv with scope := relabel scope env }) (RR acc cenv.locals) s₄) E s₃) E { s₁ with heap := s₁.heap.push oN } := by
  -- the three new objects: the iterator I, the list D, the block's names C
  obtain ⟨I, hI⟩ : ∃ I, I = s₁.heap.objs.size := ⟨_, rfl⟩
  rw [← hI] at W hSt hfp ⊢
  have up : ∀ b o, s₁.heap.get? b = some o → (s₁.heap.push oN).get? b = some o := fun b o e => Heap.get?_push_of_some _ e
  refine wpAny_newObj_type (wpAny_newFunctionEnv hcell (by intro y hy; simp at hy) (fun h₁ hns₁ hsb₁ => ?_) hkind)
  dsimp only at hns₁ hsb₁ ⊢
  generalize hH1 : s₁.heap.push oN = H1 at hst up hns₁ hsb₁ ⊢
  have hD : H1.objs.size = I + 1 := by rw [← hH1, Heap.size_push, hI]
  generalize hH2 : H1.push { cls := .type "list", dict := none, data := .seq ([] : List Value).toArray } = H2 at hns₁ hsb₁ ⊢
  have hC : H2.objs.size = I + 2 := by rw [← hH2, Heap.size_push, hD]
  rw [hC] at hns₁ hsb₁ ⊢
  rw [hD]
  have hIlt : ∀ b o, s₁.heap.get? b = some o → b < I := fun b o e => hI ▸ Heap.lt_size e
  have old1 : ∀ b o, H1.get? b = some o → h₁.get? b = some o := fun b o e => hsb₁.extBut b o (by have := Heap.lt_size e; rw [hD] at this; exact Nat.ne_of_lt (Nat.lt_succ_of_lt this)) (Heap.get?_push_of_some _ (hH2 ▸ Heap.get?_push_of_some _ e))
  have old : ∀ b o, s₁.heap.get? b = some o → h₁.get? b = some o := fun b o e => old1 b o (up b o e)
  have hacc : h₁.get? (I + 1) = some (lst []) := hsb₁.extBut _ _ (Nat.ne_of_lt (Nat.lt_succ_self _)) (Heap.get?_push_of_some _ (hH2 ▸ hD ▸ Heap.get?_push_size _ rfl))
  have hst₁ : St 0 h₁ := W.frame _ _ _ hst fun b _ o e => old1 b o e
  have fresh₀ : ∀ a, I ≤ a → h₀.get? a = none := fun a ha => by
    cases e : h₀.get? a with
    | none => rfl
    | some o' => exact absurd (hIlt _ _ (F₁.keep a o' e)) (Nat.not_lt.mpr ha)
  have hLI : L < I := hI ▸ F₁.ns.lt
  have hLlt : L ≠ I ∧ L ≠ I + 1 ∧ L ≠ I + 2 := ⟨Nat.ne_of_lt hLI, Nat.ne_of_lt (Nat.lt_succ_of_lt hLI), Nat.ne_of_lt (Nat.lt_succ_of_lt (Nat.lt_succ_of_lt hLI))⟩
  have off : ∀ p ∈ news, p.1 ≠ I ∧ p.1 ≠ I + 1 ∧ p.1 ≠ I + 2 := fun p hp => by
    have := hIlt _ _ (N₁ p hp).1
    exact ⟨Nat.ne_of_lt this, Nat.ne_of_lt (Nat.lt_succ_of_lt this), Nat.ne_of_lt (Nat.lt_succ_of_lt (Nat.lt_succ_of_lt this))⟩
  have hDf : I + 1 ∉ fp := fun hm => absurd (hfp _ hm) (Nat.lt_irrefl _)
  have hCf : I + 2 ∉ fp := fun hm => absurd (hfp _ hm) (Nat.not_lt.mpr (Nat.le_succ _))
  have hIne : I ≠ I + 1 := Nat.ne_of_lt (Nat.lt_succ_self _)
  have hIne2 : I ≠ I + 2 := Nat.ne_of_lt (Nat.lt_succ_of_lt (Nat.lt_succ_self _))
  have hDC : I + 1 ≠ I + 2 := Nat.ne_of_lt (Nat.lt_succ_self _)
  have loop : ∀ s₃ : Shared, s₃ = { s₁ with heap := h₁, toks := s₁.toks + ([] : List (Str × Value)).length } →
      codeAny (model prog w) A (.compLoop (.ListComp elt [⟨.Name x px, iter, ifs, 0⟩] scope pos) 0 (.ref I) (.ref (I + 1)) (compEnvC scope cl (I + 2) env))
        (RR (.ref (I + 1)) (I + 2)) s₃ := by
    rintro s₃ rfl
    refine codeAny_compLoop_tests
      (fun k s' => ∃ h' tk i ys m', s' = { s₁ with heap := h', toks := tk } ∧ i ≤ n ∧ k = n + 1 - i ∧ ys.length ≤ i ∧ Paired G ((List.range i).filter p) ys ∧ kb ≤ tk ∧ St i h' ∧ Fr h₀ L h' m ∧ h'.Ns (I + 2) m' ∧
        News h₀ L h' ((I + 1, lst ys) :: news)) ?_ (n + 1)
      ⟨h₁, _, 0, [], _, rfl, Nat.zero_le _, rfl, Nat.le_refl _, by simpa using Paired.nil, hto, hst₁, F₁.keeps old, hns₁, fun q hq => ?_⟩
    · rintro k s' ⟨h', tk, i, ys, m', rfl, hi, rfl, hyl, hys, htk, hst', F', hn', N'⟩
      have keepF : ∀ h₂ : Heap, (∀ b o, b ≠ I → h'.get? b = some o → h₂.get? b = some o) → Fr h₀ L h₂ m ∧ News h₀ L h₂ ((I + 1, lst ys) :: news) ∧ h₂.Ns (I + 2) m' := fun h₂ hk₂ => by
        refine ⟨⟨F'.ns.at' fun o e => hk₂ L o hLlt.1 e, fun b o e => hk₂ b o (fun q => by rw [q, fresh₀ I (Nat.le_refl _)] at e; cases e) (F'.keep b o e), F'.above⟩, fun q hq => ?_, hn'.at' fun o e => hk₂ _ o (Ne.symm hIne2) e⟩
        refine ⟨hk₂ _ _ ?_ (N' q hq).1, (N' q hq).2⟩
        rcases List.mem_cons.mp hq with rfl | hq
        · exact Ne.symm hIne
        · exact (off q hq).1
      by_cases hlt : i < n
      · refine W.item i _ _ _ hlt hst' htk fun v h₂ tk₂ hPv hst₂ hk₂ htk₂ => ?_
        obtain ⟨F₂, N₂, hn₂⟩ := keepF h₂ hk₂
        refine wpAny_assign_Name (wpAny_storeName_local (lookup_relabel_local hx) hn₂ (fun h₃ hn₃ hs₃ => ?_) (by simp [compEnvC, relabel, hkind]))
        have hst₃ : St (i + 1) h₃ := W.frame _ _ _ hst₂ fun b hb o e => hs₃.extBut b o (fun q => hCf (by have q' : b = I + 2 := q; rw [← q']; exact hb)) e
        obtain ⟨oI, heI⟩ := W.live _ _ hst₃
        obtain ⟨oC, heC, hoC⟩ := ns_obj hn₃
        have F₃ : Fr h₀ L h₃ m := F₂.change hs₃ (Ne.symm hLlt.2.2) (fresh₀ _ (Nat.le_succ_of_le (Nat.le_succ _)))
        have N₃ : News h₀ L h₃ ((I, oI) :: (I + 2, oC) :: (I + 1, lst ys) :: news) := fun q hq => by
          rcases List.mem_cons.mp hq with rfl | hq
          · exact ⟨heI, Ne.symm hLlt.1, fresh₀ _ (Nat.le_refl _)⟩
          · rcases List.mem_cons.mp hq with rfl | hq
            · exact ⟨heC, Ne.symm hLlt.2.2, fresh₀ _ (Nat.le_succ_of_le (Nat.le_succ _))⟩
            · have z := N₂ q hq
              refine ⟨hs₃.extBut _ _ ?_ z.1, z.2⟩
              rcases List.mem_cons.mp hq with rfl | hq
              · exact hDC
              · exact (off q hq).2.2
        have htk₃ : kb ≤ tk₂ + 1 := Nat.le_succ_of_le htk₂
        have turn := T i v I oI (I + 2) oC (I + 1) _ ys h₃ tk₂ (tk₂ + 1) (notedBy (model prog w) A (compEnvC scope cl (I + 2) env) fun e s' => RR (.ref (I + 1)) (I + 2) (.error e) s') hlt hPv (Nat.le_succ _) hoC (by simp) F₃ N₃ htk₃
        refine wpAny_mono (wpAny_toks_of (n := kb) htk₃ turn) (fun ok s₄ h₄ => ?_) fun _ _ e => e.2
        obtain ⟨ht₄, hok, stay₄, helt⟩ := h₄
        -- what one end of a turn gives
        have ends : ∀ (h₅ : Heap) (tk₅ : Nat) (zs : List Value), Fr h₀ L h₅ m → kb ≤ tk₅ → h₅.get? I = some oI → h₅.get? (I + 2) = some oC → News h₀ L h₅ ((I + 1, lst zs) :: news) → zs.length ≤ i + 1 → Paired G ((List.range (i + 1)).filter p) zs →
            ∃ m_1, m_1 < n + 1 - i ∧ ∃ h' tk i ys m', ({ s₁ with heap := h₅, toks := tk₅ } : Shared) = { s₁ with heap := h', toks := tk } ∧ i ≤ n ∧ m_1 = n + 1 - i ∧ ys.length ≤ i ∧ Paired G ((List.range i).filter p) ys ∧ kb ≤ tk ∧ St i h' ∧ Fr h₀ L h' m ∧ h'.Ns (I + 2) m' ∧ News h₀ L h' ((I + 1, lst ys) :: news) :=
          fun h₅ tk₅ zs F₅ ht₅ zI zC N₅ hzl hzs =>
            ⟨n + 1 - (i + 1), by omega, h₅, tk₅, i + 1, zs, _, rfl, hlt, rfl, hzl, hzs, ht₅, hSt _ _ _ _ _ hst₃ heI zI F₅.keep (fun q hq => N₅ q (List.mem_cons_of_mem _ hq)) hS, F₅, hoC.ns zC, N₅⟩
        cases ok with
        | true =>
          simp only [if_true]
          refine wpAny_mono (wpAny_toks_of ht₄ (helt rfl)) (fun y s₅ h₅ => ?_) fun _ _ e => e.2
          obtain ⟨ht₅, hG, h₅, tk₅, rfl, F₅, N₅⟩ := h₅
          have zI := (N₅ (I, oI) List.mem_cons_self).1
          have zC := (N₅ (I + 2, oC) (List.mem_cons_of_mem _ List.mem_cons_self)).1
          have zD := (N₅ (I + 1, lst ys) (List.mem_cons_of_mem _ (List.mem_cons_of_mem _ List.mem_cons_self))).1
          refine append_at (hsz := by show ys.toArray.size ≤ sizeLine; rw [List.size_toArray]; exact Nat.le_trans (Nat.le_trans hyl hi) hsz) zD fun h₆ hs₆ hD₆ => ?_
          refine ends h₆ tk₅ (ys ++ [y]) (F₅.change hs₆ (Ne.symm hLlt.2.1) (fresh₀ _ (Nat.le_succ _))) ht₅ (hs₆.extBut _ _ hIne zI) (hs₆.extBut _ _ (Ne.symm hDC) zC) (fun q hq => ?_) ?_ ?_
          · rcases List.mem_cons.mp hq with rfl | hq
            · exact ⟨hD₆.trans (congrArg some (lst_snoc ys y)), Ne.symm hLlt.2.1, fresh₀ _ (Nat.le_succ _)⟩
            · have z := N₅ q (List.mem_cons_of_mem _ (List.mem_cons_of_mem _ (List.mem_cons_of_mem _ hq)))
              exact ⟨hs₆.extBut _ _ (off q hq).2.1 z.1, z.2⟩
          · rw [List.length_append, List.length_singleton]; omega
          · rw [range_filter_snoc, if_pos hok.symm]
            exact hys.snoc hG
        | false =>
          simp only [Bool.false_eq_true, if_false]
          obtain ⟨h₅, tk₅, rfl, F₅, N₅⟩ := stay₄
          refine ends h₅ tk₅ ys F₅ ht₄ (N₅ (I, oI) List.mem_cons_self).1 (N₅ (I + 2, oC) (List.mem_cons_of_mem _ List.mem_cons_self)).1 (fun q hq => N₅ q (List.mem_cons_of_mem _ (List.mem_cons_of_mem _ hq))) (by omega) ?_
          rw [range_filter_snoc, if_neg (by rw [← hok]; exact Bool.false_ne_true), List.append_nil]
          exact hys
      · obtain rfl : i = n := Nat.le_antisymm hi (Nat.not_lt.mp hlt)
        refine W.done _ _ _ hst' htk fun h₂ tk₂ hk₂ htk₂ => ?_
        obtain ⟨F₂, N₂, hn₂⟩ := keepF h₂ hk₂
        exact hRR (I + 1) (I + 2) h₂ tk₂ _ ys F₂ N₂ hn₂ (fresh₀ _ (Nat.le_succ_of_le (Nat.le_succ _))) (fresh₀ _ (Nat.le_succ _)) (Ne.symm hLlt.2.2) (Ne.symm hLlt.2.1) (Ne.symm hDC) (fun q hq => (off q hq).2.2) (fun q hq => Nat.lt_succ_of_lt (hIlt _ _ (N₁ q hq).1)) htk₂ hys
    · rcases List.mem_cons.mp hq with rfl | hq
      · exact ⟨hacc, Ne.symm hLlt.2.1, fresh₀ _ (Nat.le_succ _)⟩
      · exact ⟨old _ _ (N₁ q hq).1, (N₁ q hq).2⟩
  exact codeAny_compStart_list (loop _ rfl) (W.self 0 _ _ _ hst₁ (loop _ rfl))

/-- the source is read: what is wanted of it, of a turn and of the end -/
def CompAt (prog : Program) (w : World) (A : Around) (h₀ : Heap) (L : Addr) (m : Str → Option Value) (env : Env) (elt : Expr) (ifs : List Expr) (x : Str) (scope : Scope) (cl : List (Str × Addr)) (p : Nat → Bool) (G : Nat → Value → Prop)
    (Fin : Addr → List Value → List (Addr × Obj) → Nat → Shared → Prop) (xv : Value) (s₁ : Shared) : Prop :=
  ∃ kb S n P news, Fr h₀ L s₁.heap m ∧ News h₀ L s₁.heap news ∧ S news ∧ kb ≤ s₁.toks ∧ n ≤ sizeLine ∧ Src prog w A h₀ L kb S n P xv s₁ ∧
      Turns prog w A h₀ L m env elt ifs x scope cl kb n P p G news s₁ ∧ ∀ D ys, Paired G ((List.range n).filter p) ys → (∀ q ∈ news, q.1 < D) → Fin D ys news kb s₁
theorem CompAt.intro {elt : Expr} {ifs : List Expr} {x : Str} {scope : Scope} {cl : List (Str × Addr)} {p : Nat → Bool} {G : Nat → Value → Prop} {Fin : Addr → List Value → List (Addr × Obj) → Nat → Shared → Prop} {xv : Value} {s₁ : Shared}
    (kb : Nat) {S : List (Addr × Obj) → Prop} {n : Nat} {P : Nat → Value → Nat → Prop} {news : List (Addr × Obj)} (F : Fr h₀ L s₁.heap m) (N : News h₀ L s₁.heap news) (hS : S news) (hk : kb ≤ s₁.toks) (hn : n ≤ sizeLine) (src : Src prog w A h₀ L kb S n P xv s₁)
    (T : Turns prog w A h₀ L m env elt ifs x scope cl kb n P p G news s₁) (fin : ∀ D ys, Paired G ((List.range n).filter p) ys → (∀ q ∈ news, q.1 < D) → Fin D ys news kb s₁) : CompAt prog w A h₀ L m env elt ifs x scope cl p G Fin xv s₁ :=
  ⟨kb, S, n, P, news, F, N, hS, hk, hn, src, T, fin⟩

theorem ListComp_own {elt iter : Expr} {ifs : List Expr} {x : Str} {px : Pos} {scope : Scope} {cl : List (Str × Addr)} {pos : Pos} {Q : Value → Shared → Prop} {s : Shared} (_F₀ : Fr h₀ L s.heap m) (p : Nat → Bool) (G : Nat → Value → Prop)
    (hclos : closureFor scope env = pure cl) (hcell : ∀ y ∈ scope.names, y.2 ≠ .cell) (hkind : scope.kind = .function)
    (hnames : ∀ y ∈ scope.names, y.2 = .local → scope.names.lookup y.1 = some .local) (hx : scope.names.lookup x = some .local)
    (h : wpAny (model prog w) A (eval iter env) (CompAt prog w A h₀ L m env elt ifs x scope cl p G (fun D ys news kb s₁ => ∀ h tk, Fr h₀ L h m → News h₀ L h ((D, lst ys) :: news) → kb ≤ tk → Q (.ref D) { s₁ with heap := h, toks := tk })) E s)
    (hs : ∀ x, foldedSetIterable iter env x = pure x := by intro _; rfl) :
    wpAny (model prog w) A (eval (.ListComp elt [⟨.Name x px, iter, ifs, 0⟩] scope pos) env) Q E s := by
  rw [eval_ListComp]
  refine wpAny_comprehension_free (use := none) rfl hs hclos hkind hnames (wpAny_mono h (fun xv s₁ h₁ => ?_) fun _ _ e => e)
  obtain ⟨kb, S, n, P, news, F, N, hS, hto, hsz, hsrc, T, fin⟩ := h₁
  refine hsrc _ _ fun o fp St hfr W hst hfp stab => ?_
  refine comp_core (p := p) (G := G) W hsz hto stab hcell hkind hx hst hfp F N hS T ?_
  intro D C h tk m' ys F' N' hn hC₀ hD₀ hCL hDL hCD offC offD htk hys
  refine ⟨m', hn, fun h'' hs'' => fin D ys hys offD h'' tk (F'.change hs'' hCL hC₀) (fun q hq => ?_) htk⟩
  refine ⟨hs''.extBut _ _ ?_ (N' q hq).1, (N' q hq).2⟩
  rcases List.mem_cons.mp hq with rfl | hq
  · exact Ne.symm hCD
  · exact offC q hq

theorem Assign_ListComp_own {elt iter : Expr} {ifs : List Expr} {x y : Str} {px py : Pos} {scope : Scope} {cl : List (Str × Addr)} {pos spos : Pos} {Q : Flow → Shared → Prop} {s : Shared} (_F₀ : Fr h₀ L s.heap m) (p : Nat → Bool) (G : Nat → Value → Prop)
    (hLe : env.locals = L)
    (hsw : swapsWith (.ListComp elt [⟨.Name x px, iter, ifs, 0⟩] scope pos) (some (.Name y py)) spos.line env = pure true)
    (hclos : closureFor scope env = pure cl) (hcell : ∀ z ∈ scope.names, z.2 ≠ .cell) (hkind : scope.kind = .function)
    (hnames : ∀ z ∈ scope.names, z.2 = .local → scope.names.lookup z.1 = some .local) (hx : scope.names.lookup x = some .local)
    (hy : env.kindOf y = some .local) (hp : (env.scope.kind == .class || (env.scope.kind == .module && env.locals != env.globals)) = false)
    (h : wpAny (model prog w) A (eval iter env) (CompAt prog w A h₀ L m env elt ifs x scope cl p G (fun D ys news kb s₁ => ∀ h tk, Fr h₀ L h (fun z => if z = y then some (.ref D) else m z) → News h₀ L h ((D, lst ys) :: news) → kb ≤ tk → Q .next { s₁ with heap := h, toks := tk })) E s)
    (hs : ∀ x, foldedSetIterable iter env x = pure x := by intro _; rfl) :
    wpAny (model prog w) A (exec (.Assign [.Name y py] (.ListComp elt [⟨.Name x px, iter, ifs, 0⟩] scope pos) spos) env) Q E s := by
  subst hLe
  rw [exec_Assign_Name_used _ _ _ _ hsw]
  refine wpAny_bind (wpAny_standAt (wpAny_bind ?_))
  show wpAny _ A (do let _ ← comprehension (.ListComp elt [⟨.Name x px, iter, ifs, 0⟩] scope pos) scope env _ (newList []) false (eval iter env) (some (assign (.Name y py) env))) _ _ s
  refine wpAny_bind (wpAny_mono (wpAny_comprehension_free (use := some (assign (.Name y py) env)) (Q := fun _ s' => Q .next s') rfl hs hclos hkind hnames
    (wpAny_mono h (fun xv s₁ h₁ => ?_) fun _ _ e => e)) (fun _ s' hq => wpAny_pure (wpAny_pure hq)) fun _ _ e => e)
  obtain ⟨kb, S, n, P, news, F, N, hS, hto, hsz, hsrc, T, fin⟩ := h₁
  refine hsrc _ _ fun o fp St hfr W hst hfp stab => ?_
  refine comp_core (p := p) (G := G) W hsz hto stab hcell hkind hx hst hfp F N hS T ?_
  intro D C h' tk m' ys F' N' hn hC₀ hD₀ hCL hDL hCD offC offD htk hys
  show wpAny _ A (assign (.Name y py) env (.ref D)) _ _ _
  refine wpAny_assign_Name (wpAny_storeName_local hy F'.ns (fun h₂ hn₂ hs₂ => ?_) hp)
  have hL₀ : h₀.get? env.locals = none := Heap.get?_none_of_le F'.above
  have F₂ : Fr h₀ env.locals h₂ (fun z => if z = y then some (.ref D) else m z) := ⟨hn₂, fun b o e => hs₂.extBut b o (fun q => by rw [q, hL₀] at e; cases e) (F'.keep b o e), F'.above⟩
  refine ⟨m', hn.sameBut hs₂ hCL, fun h'' hs'' => fin D ys hys offD h'' _ (F₂.change hs'' hCL hC₀) (fun q hq => ?_) (Nat.le_succ_of_le htk)⟩
  have z : h₂.get? q.1 = some q.2 := hs₂.extBut _ _ (N' q hq).2.1 (N' q hq).1
  refine ⟨hs''.extBut _ _ ?_ z, (N' q hq).2⟩
  rcases List.mem_cons.mp hq with rfl | hq
  · exact Ne.symm hCD
  · exact offC q hq
end
end Mine

namespace Mine
open PySem.Spec PySem.Calls PyProof.Rows.LCg

/-- what the end of a turn of a for must give -/
def TurnEnd (h₀ : Heap) (L I : Addr) (oI : Obj) (Q : Flow → Shared → Prop) (J : (Str → Option Value) → List (Addr × Obj) → Prop) (s : Shared) (f : Flow) (s₃ : Shared) : Prop :=
  match f with
  | .next | .cont => ∃ h' tk m nw, s₃ = { s with heap := h', toks := tk } ∧ Fr h₀ L h' m ∧ News h₀ L h' ((I, oI) :: nw) ∧ (∀ q ∈ nw, q.1 ≠ I) ∧ J m nw
  | .brk => False
  | .ret v => Q (.ret v) s₃

def ForTurns (prog : Program) (w : World) (A : Around) (h₀ : Heap) (L : Addr) (env : Env) (target : Expr) (body : List Stmt) (kb n : Nat) (P : Nat → Value → Nat → Prop) (J : Nat → (Str → Option Value) → List (Addr × Obj) → Prop) (Q : Flow → Shared → Prop) (s : Shared) : Prop :=
  ∀ i v I oI m nw h tk (E' : Value → Shared → Prop), i < n → P i v tk → J i m nw → Fr h₀ L h m → News h₀ L h ((I, oI) :: nw) → (∀ q ∈ nw, q.1 ≠ I) → kb ≤ tk →
    wpAny (model prog w) A (assign target env v) (fun _ s₂ => wpAny (model prog w) A (execs body env) (TurnEnd h₀ L I oI Q (J (i + 1)) s) E' s₂) E' { s with heap := h, toks := tk }

section
variable {prog : Program} {w : World} {A : Around} {E : Value → Shared → Prop} {h₀ : Heap} {L : Addr} {env : Env}
/-- the source of a for is read -/
def ForAt (prog : Program) (w : World) (A : Around) (h₀ : Heap) (L : Addr) (env : Env) (target : Expr) (body : List Stmt) (J : Nat → (Str → Option Value) → List (Addr × Obj) → Prop) (Q : Flow → Shared → Prop) (xv : Value) (s₁ : Shared) : Prop :=
  ∃ kb S n P news m, Fr h₀ L s₁.heap m ∧ News h₀ L s₁.heap news ∧ kb ≤ s₁.toks ∧ Src prog w A h₀ L kb S n P xv s₁ ∧ J 0 m news ∧ (∀ i m' nw, J i m' nw → S nw) ∧
      ForTurns prog w A h₀ L env target body kb n P J Q s₁ ∧
      ∀ h tk m' nw, Fr h₀ L h m' → News h₀ L h nw → kb ≤ tk → J n m' nw → Q .next { s₁ with heap := h, toks := tk }

theorem For_own {target iter : Expr} {body : List Stmt} {pos : Pos} {Q : Flow → Shared → Prop} {s : Shared} (J : Nat → (Str → Option Value) → List (Addr × Obj) → Prop)
    (h : wpAny (model prog w) A (eval iter env) (ForAt prog w A h₀ L env target body J Q) E s)
    (hs : ∀ x, foldedSetIterable iter env x = pure x := by intro _; rfl) (ht : ∀ it v, letOwnedTupleGo target it v = pure () := by intro _ _; rfl) :
    wpAny (model prog w) A (exec (.For target iter body [] pos) env) Q E s := by
  refine wpAny_For (wpAny_mono h (fun xv s₁ h₁ => ?_) fun _ _ e => e) hs
  obtain ⟨kb, S, n, P, news, m, F, N, hto, hsrc, hJ, hS, T, fin⟩ := h₁
  refine hsrc _ _ fun o fp St hfr W hst hfp stab => ?_
  obtain ⟨I, hI⟩ : ∃ I, I = s₁.heap.objs.size := ⟨_, rfl⟩
  rw [← hI] at W stab hfp ⊢
  have up : ∀ b o', s₁.heap.get? b = some o' → (s₁.heap.push o).get? b = some o' := fun b o' e => Heap.get?_push_of_some _ e
  have hIlt : ∀ b o, s₁.heap.get? b = some o → b < I := fun b o e => hI ▸ Heap.lt_size e
  have hI₀ : h₀.get? I = none := by
    cases e : h₀.get? I with
    | none => rfl
    | some o' => exact absurd (hIlt _ _ (F.keep I o' e)) (Nat.lt_irrefl _)
  have hLI : L ≠ I := Nat.ne_of_lt (hI ▸ F.ns.lt)
  refine codeAny_forLoop
    (fun k s' => ∃ h' tk i m' nw, s' = { s₁ with heap := h', toks := tk } ∧ i ≤ n ∧ k = n + 1 - i ∧ kb ≤ tk ∧ St i h' ∧ Fr h₀ L h' m' ∧ News h₀ L h' nw ∧ (∀ q ∈ nw, q.1 ≠ I) ∧ J i m' nw) ?_ (n + 1)
    ⟨_, s₁.toks, 0, m, news, rfl, Nat.zero_le _, rfl, hto, hst, F.keeps up, N.grown up, fun q hq => Nat.ne_of_lt (hIlt _ _ (N q hq).1), hJ⟩ (ht _)
  rintro k s' ⟨h', tk, i, m', nw, rfl, hi, rfl, htk, hst', F', N', off, hJ'⟩
  have keepF : ∀ h₂ : Heap, (∀ b o, b ≠ I → h'.get? b = some o → h₂.get? b = some o) → Fr h₀ L h₂ m' ∧ News h₀ L h₂ nw := fun h₂ hk₂ =>
    ⟨⟨F'.ns.at' fun o e => hk₂ L o hLI e, fun b o e => hk₂ b o (fun q => by rw [q, hI₀] at e; cases e) (F'.keep b o e), F'.above⟩, fun q hq => ⟨hk₂ _ _ (off q hq) (N' q hq).1, (N' q hq).2⟩⟩
  by_cases hlt : i < n
  · refine W.item i _ _ _ hlt hst' htk fun v h₂ tk₂ hPv hst₂ hk₂ htk₂ => ?_
    obtain ⟨F₂, N₂⟩ := keepF h₂ hk₂
    obtain ⟨oI, heI⟩ := W.live _ _ hst₂
    have N₃ : News h₀ L h₂ ((I, oI) :: nw) := fun q hq => by
      rcases List.mem_cons.mp hq with rfl | hq
      · exact ⟨heI, Ne.symm hLI, hI₀⟩
      · exact N₂ q hq
    refine wpAny_mono (wpAny_toks_of (n := kb) htk₂ (T i v I oI m' nw h₂ tk₂ _ hlt hPv hJ' F₂ N₃ off htk₂)) (fun _ s₃ h₃ => ?_) fun _ _ e => e.2
    obtain ⟨ht₃, h₃⟩ := h₃
    refine wpAny_mono (wpAny_toks_of ht₃ h₃) (fun f s₄ h₄ => ?_) fun _ _ e => e.2
    obtain ⟨ht₄, h₄⟩ := h₄
    cases f with
    | next =>
      obtain ⟨h₅, tk₅, m₂, nw₂, rfl, F₅, N₅, off₅, hJ₅⟩ := h₄
      exact ⟨n + 1 - (i + 1), by omega, h₅, tk₅, i + 1, m₂, nw₂, rfl, hlt, rfl, ht₄, stab _ _ _ _ _ hst₂ heI (N₅ _ List.mem_cons_self).1 F₅.keep (fun q hq => N₅ q (List.mem_cons_of_mem _ hq)) (hS _ _ _ hJ₅), F₅, fun q hq => N₅ q (List.mem_cons_of_mem _ hq), off₅, hJ₅⟩
    | cont =>
      obtain ⟨h₅, tk₅, m₂, nw₂, rfl, F₅, N₅, off₅, hJ₅⟩ := h₄
      exact ⟨n + 1 - (i + 1), by omega, h₅, tk₅, i + 1, m₂, nw₂, rfl, hlt, rfl, ht₄, stab _ _ _ _ _ hst₂ heI (N₅ _ List.mem_cons_self).1 F₅.keep (fun q hq => N₅ q (List.mem_cons_of_mem _ hq)) (hS _ _ _ hJ₅), F₅, fun q hq => N₅ q (List.mem_cons_of_mem _ hq), off₅, hJ₅⟩
    | brk => exact h₄.elim
    | ret v => exact h₄
  · obtain rfl : i = n := Nat.le_antisymm hi (Nat.not_lt.mp hlt)
    refine W.done _ _ _ hst' htk fun h₂ tk₂ hk₂ htk₂ => wpAny_execs_nil ?_
    obtain ⟨F₂, N₂⟩ := keepF h₂ hk₂
    exact fin h₂ tk₂ m' nw F₂ N₂ htk₂ hJ'
end
end Mine

namespace Mine
open PySem.Spec PySem.Calls PyProof.Rows.LCg

section
variable {prog : Program} {w : World} {A : Around} {E : Value → Shared → Prop} {h₀ : Heap} {L : Addr} {env : Env}
/-- a list of tuples as the source of a for -/
def ForAtL (prog : Program) (w : World) (A : Around) (h₀ : Heap) (L : Addr) (env : Env) (target : Expr) (body : List Stmt) (Q : Flow → Shared → Prop) (xv : Value) (s₁ : Shared) : Prop :=
  ∃ (kb : Nat) (ax : Addr) (its : Array Value) (news : List (Addr × Obj)) (m : Str → Option Value) (J : Nat → (Str → Option Value) → List (Addr × Obj) → Prop), xv = .ref ax ∧ Fr h₀ L s₁.heap m ∧ News h₀ L s₁.heap news ∧ SrcAt h₀ ax its news ∧ (∀ v ∈ its.toList, ∃ T, v = .ref T) ∧ kb ≤ s₁.toks ∧ J 0 m news ∧ (∀ i m' nw, J i m' nw → SrcAt h₀ ax its nw) ∧
      ForTurns prog w A h₀ L env target body kb its.size (fun i v _ => its[i]? = some v) J Q s₁ ∧
      ∀ h tk m' nw, Fr h₀ L h m' → News h₀ L h nw → kb ≤ tk → J its.size m' nw → Q .next { s₁ with heap := h, toks := tk }

theorem ForL_own {elts : List Expr} {x1 : Nat} {tp : Pos} {iter : Expr} {body : List Stmt} {pos : Pos} {Q : Flow → Shared → Prop} {s : Shared} (hh : A.handled = none)
    (h : wpAny (model prog w) A (eval iter env) (ForAtL prog w A h₀ L env (.Tuple elts x1 tp) body Q) E s)
    (hs : ∀ x, foldedSetIterable iter env x = pure x := by intro _; rfl) :
    wpAny (model prog w) A (exec (.For (.Tuple elts x1 tp) iter body [] pos) env) Q E s := by
  refine wpAny_For (wpAny_mono h (fun xv s₁ h₁ => ?_) fun _ _ e => e) hs
  obtain ⟨kb, ax, its, news, m, J, rfl, F, N, hsrc, htup, hto, hJ, hS, T, fin⟩ := h₁
  have hl := hsrc.list F.keep N
  have hlt : ax < s₁.heap.objs.size := by obtain ⟨_, e, _⟩ := hl; exact Heap.lt_size e
  refine wpAny_pyIter_list hl ?_
  obtain ⟨I, hI⟩ : ∃ I, I = s₁.heap.objs.size := ⟨_, rfl⟩
  rw [← hI] at hlt ⊢
  have W : Hands prog w A kb I [I, ax] its.size (fun i v _ => its[i]? = some v) (fun i h => h.IsListIter I ax i ∧ h.IsList ax its) := Hands.of (Walks.list hh I ax (Nat.ne_of_lt hlt) its) (fun i h st => by obtain ⟨o, e, _⟩ := st.1; exact ⟨o, e⟩)
  have hst : (s₁.heap.push { cls := .type "list_iterator", data := .fields #[.ref ax, .int 0 0] }).IsListIter I ax 0 ∧ (s₁.heap.push { cls := .type "list_iterator", data := .fields #[.ref ax, .int 0 0] }).IsList ax its := ⟨⟨_, hI ▸ Heap.get?_push_size _ rfl, rfl, rfl⟩, hl.push _⟩
  have stab : ∀ i (h h' : Heap) oI nw, (h.IsListIter I ax i ∧ h.IsList ax its) → h.get? I = some oI → h'.get? I = some oI → (∀ b o, h₀.get? b = some o → h'.get? b = some o) → News h₀ L h' nw → SrcAt h₀ ax its nw → (h'.IsListIter I ax i ∧ h'.IsList ax its) := by
    intro i h h' oI nw st e e' k N' S'
    refine ⟨?_, S'.list k N'⟩
    obtain ⟨o', q, r⟩ := st.1
    rw [e] at q; cases q
    exact ⟨oI, e', r⟩
  generalize ({ cls := .type "list_iterator", data := .fields #[.ref ax, .int 0 0] } : Obj) = o at hst ⊢
  have up : ∀ b o', s₁.heap.get? b = some o' → (s₁.heap.push o).get? b = some o' := fun b o' e => Heap.get?_push_of_some _ e
  have hIlt : ∀ b o, s₁.heap.get? b = some o → b < I := fun b o e => hI ▸ Heap.lt_size e
  have hI₀ : h₀.get? I = none := by
    cases e : h₀.get? I with
    | none => rfl
    | some o' => exact absurd (hIlt _ _ (F.keep I o' e)) (Nat.lt_irrefl _)
  have hLI : L ≠ I := Nat.ne_of_lt (hI ▸ F.ns.lt)
  refine codeAny_forLoop_any
    (fun k s' => ∃ h' tk i m' nw, s' = { s₁ with heap := h', toks := tk } ∧ i ≤ its.size ∧ k = its.size + 1 - i ∧ kb ≤ tk ∧ (h'.IsListIter I ax i ∧ h'.IsList ax its) ∧ Fr h₀ L h' m' ∧ News h₀ L h' nw ∧ (∀ q ∈ nw, q.1 ≠ I) ∧ J i m' nw) ?_ (its.size + 1)
    ⟨_, s₁.toks, 0, m, news, rfl, Nat.zero_le _, rfl, hto, hst, F.keeps up, N.grown up, fun q hq => Nat.ne_of_lt (hIlt _ _ (N q hq).1), hJ⟩
  rintro k s' ⟨h', tk, i, m', nw, rfl, hi, rfl, htk, hst', F', N', off, hJ'⟩
  have keepF : ∀ h₂ : Heap, (∀ b o, b ≠ I → h'.get? b = some o → h₂.get? b = some o) → Fr h₀ L h₂ m' ∧ News h₀ L h₂ nw := fun h₂ hk₂ =>
    ⟨⟨F'.ns.at' fun o e => hk₂ L o hLI e, fun b o e => hk₂ b o (fun q => by rw [q, hI₀] at e; cases e) (F'.keep b o e), F'.above⟩, fun q hq => ⟨hk₂ _ _ (off q hq) (N' q hq).1, (N' q hq).2⟩⟩
  by_cases hlt : i < its.size
  · refine W.item i _ _ _ hlt hst' htk fun v h₂ tk₂ hPv hst₂ hk₂ htk₂ => ?_
    obtain ⟨F₂, N₂⟩ := keepF h₂ hk₂
    obtain ⟨oI, heI⟩ := W.live _ _ hst₂
    have N₃ : News h₀ L h₂ ((I, oI) :: nw) := fun q hq => by
      rcases List.mem_cons.mp hq with rfl | hq
      · exact ⟨heI, Ne.symm hLI, hI₀⟩
      · exact N₂ q hq
    obtain ⟨T', rfl⟩ := htup v (Array.mem_toList_iff.mpr (Array.mem_of_getElem? hPv))
    refine wpAny_letOwnedTupleGo_listiter hst₂.1 ?_
    refine wpAny_mono (wpAny_toks_of (n := kb) htk₂ (T i _ I oI m' nw h₂ tk₂ _ hlt hPv hJ' F₂ N₃ off htk₂)) (fun _ s₃ h₃ => ?_) fun _ _ e => e.2
    obtain ⟨ht₃, h₃⟩ := h₃
    refine wpAny_mono (wpAny_toks_of ht₃ h₃) (fun f s₄ h₄ => ?_) fun _ _ e => e.2
    obtain ⟨ht₄, h₄⟩ := h₄
    cases f with
    | next =>
      obtain ⟨h₅, tk₅, m₂, nw₂, rfl, F₅, N₅, off₅, hJ₅⟩ := h₄
      exact ⟨its.size + 1 - (i + 1), by omega, h₅, tk₅, i + 1, m₂, nw₂, rfl, hlt, rfl, ht₄, stab _ _ _ _ _ hst₂ heI (N₅ _ List.mem_cons_self).1 F₅.keep (fun q hq => N₅ q (List.mem_cons_of_mem _ hq)) (hS _ _ _ hJ₅), F₅, fun q hq => N₅ q (List.mem_cons_of_mem _ hq), off₅, hJ₅⟩
    | cont =>
      obtain ⟨h₅, tk₅, m₂, nw₂, rfl, F₅, N₅, off₅, hJ₅⟩ := h₄
      exact ⟨its.size + 1 - (i + 1), by omega, h₅, tk₅, i + 1, m₂, nw₂, rfl, hlt, rfl, ht₄, stab _ _ _ _ _ hst₂ heI (N₅ _ List.mem_cons_self).1 F₅.keep (fun q hq => N₅ q (List.mem_cons_of_mem _ hq)) (hS _ _ _ hJ₅), F₅, fun q hq => N₅ q (List.mem_cons_of_mem _ hq), off₅, hJ₅⟩
    | brk => exact h₄.elim
    | ret v => exact h₄
  · obtain rfl : i = its.size := Nat.le_antisymm hi (Nat.not_lt.mp hlt)
    refine W.done _ _ _ hst' htk fun h₂ tk₂ hk₂ htk₂ => wpAny_execs_nil ?_
    obtain ⟨F₂, N₂⟩ := keepF h₂ hk₂
    exact fin h₂ tk₂ m' nw F₂ N₂ htk₂ hJ'
end
end Mine

namespace Mine
open PySem.Spec PySem.Calls

/-- a text by its signs' numbers -/
abbrev tx (l : List Nat) : Str := ⟨l.toArray⟩
/-- each sign c becomes z -/
def rep (c : Nat) (z l : List Nat) : List Nat := l.flatMap fun d => if d = c then z else [d]

theorem tx_eta (x : Str) : tx x.cps.toList = x := by cases x; rfl
theorem tx_cps (l : List Nat) : (tx l).cps.toList = l := rfl
theorem tx_length (l : List Nat) : (tx l).length = l.length := by simp [Str.length]
theorem tx_append (a b : List Nat) : tx a ++ tx b = tx (a ++ b) := by
  apply Str.ext'; simp [Str.cps_append]
theorem rep_append (c : Nat) (z a b : List Nat) : rep c z (a ++ b) = rep c z a ++ rep c z b := by simp [rep, List.flatMap_append]
theorem rep_free (c : Nat) (z : List Nat) : ∀ l : List Nat, c ∉ l → rep c z l = l
  | [], _ => rfl
  | k :: r, h => by
    have h1 : ¬ k = c := fun e => h (e ▸ List.mem_cons_self ..)
    have h2 : c ∉ r := fun q => h (List.mem_cons_of_mem _ q)
    have ih := rep_free c z r h2
    unfold rep at ih ⊢
    rw [List.flatMap_cons, ih, if_neg h1]; rfl
theorem rep_join (c : Nat) (z : Str) : ∀ parts : List Str, (∀ q ∈ parts, c ∉ q.cps.toList) → (Str.join z parts).cps.toList = rep c z.cps.toList (Str.join ⟨#[c]⟩ parts).cps.toList
  | [], _ => rfl
  | [q], h => (rep_free c _ _ (h q (List.mem_singleton.mpr rfl))).symm
  | q :: q' :: r, h => by
    have ih := rep_join c z (q' :: r) fun a ha => h a (List.mem_cons_of_mem _ ha)
    show (q ++ z ++ Str.join z (q' :: r)).cps.toList = rep c z.cps.toList (q ++ ⟨#[c]⟩ ++ Str.join ⟨#[c]⟩ (q' :: r)).cps.toList
    simp only [Str.cps_append, Array.toList_append]
    rw [rep_append, rep_append, ih, rep_free c _ _ (h q (List.mem_cons_self ..))]
    simp [rep]
theorem replace_tx (l z : List Nat) (c : Nat) : Txt.replace (tx l) ⟨#[c]⟩ (tx z) = tx (rep c z l) := by
  apply Str.ext'
  apply Array.toList_inj.mp
  rw [StrLaws.replace_one, rep_join c (tx z) _ (StrLaws.split_free (tx l) c), StrLaws.join_split]

theorem ifrep {prog : Program} {w : World} {A : Around} {E : Value → Shared → Prop} {s : Shared} {h₀ : Heap} {L : Addr} {m : Str → Option Value} {news : List (Addr × Obj)} {name : Str} {scope : Scope} {a : Addr} {cd : Value} {cS rS : Str} {t : Tok}
    {k1 k2 k3 : Nat} {p1 p2 p3 p4 p5 p6 p7 p8 p9 p10 p11 : Pos} {Q : Flow → Shared → Prop} {l : List Nat} (c : Nat) (z : List Nat)
    (hcS : cS = ⟨#[c]⟩) (hrS : rS = tx z) (F : Fr h₀ L s.heap m) (N : News h₀ L s.heap news) (hv : m (Str.ofString "text") = some (.str (tx l) t)) (hcr : (([c] : List Nat) == z) = false) (hsz : l.length ≤ 1048576) (hr : z.length ≤ 14)
    (h : ∀ t' h' tk, Fr h₀ L h' (fun y => if y = Str.ofString "text" then some (.str (tx (rep c z l)) t') else m y) → News h₀ L h' news → Q .next { s with heap := h', toks := tk })
    {pl : Sem Bool} (he : eval (.Call (.Attribute (.Name (Str.ofString "text") p5) (Str.ofString "replace") p6) [.Constant (.str cS) k2 p7, .Constant (.str rS) k3 p8] [] p9) (envOf name scope L a cd) = (do
      let ov ← eval (.Name (Str.ofString "text") p5) (envOf name scope L a cd)
      standAt p6.atName
      let (f, first) ← holding [ov] (getMethod ov (Str.ofString "replace") pl)
      callWith p9 f first (backTo p9 (starEach [.Constant (.str cS) k2 p7, .Constant (.str rS) k3 p8] (envOf name scope L a cd))) []) := by rfl)
    (hk : scope.kind = .function := by rfl) (hl : (envOf name scope L a cd).kindOf (Str.ofString "text") = some .local := by rfl) :
    wpAny (model prog w) A (exec (.If (.Compare (.Constant (.str cS) k1 p1) [.In] [.Name (Str.ofString "text") p2] p3) [.Assign [.Name (Str.ofString "text") p4] (.Call (.Attribute (.Name (Str.ofString "text") p5) (Str.ofString "replace") p6) [.Constant (.str cS) k2 p7, .Constant (.str rS) k3 p8] [] p9) p10] [] p11) (envOf name scope L a cd)) Q E s := by
  w_on
  subst hcS hrS
  refine wpAny_If (wpAny_isTrue_Compare1 (wpAny_Constant_str (ld F hv ?_ hk hl (by decide))))
  walk1
  walk1
  rw [StrLaws.found_one, tx_cps]
  split
  · refine wpAny_execs_cons (wpAny_Assign_Name ?_)
    refine MethodCall_ ?_ he
    refine ld F hv ?_ hk hl (by decide)
    walk1
    walk1
    walk1
    refine wpAny_Constant_str ?_
    walk1
    refine wpAny_Constant_str ?_
    walk1
    refine SC.replaceW (by show s.toks + 1 ≠ 0; exact Nat.succ_ne_zero _) (by show s.toks + 1 + 1 ≠ 0; exact Nat.succ_ne_zero _) (by show s.toks + 1 ≠ s.toks + 1 + 1; exact Nat.ne_of_lt (Nat.lt_succ_self _)) ?_ (by rw [tx_length]; exact hsz) (by rw [tx_length]; exact hr) ?_
    · cases hq : ((⟨#[c]⟩ : Str) == tx z) with
      | false => rfl
      | true =>
        have e : (⟨#[c]⟩ : Str) = tx z := eq_of_beq hq
        have e2 : ([c] : List Nat) = z := by have := congrArg (fun q : Str => q.cps.toList) e; simpa using this
        rw [beq_iff_eq.mpr e2] at hcr; cases hcr
    · intro t' k
      rw [replace_tx]
      refine wpAny_storeName_local hl F.ns (fun h' hn hs => ?_) (by show ((scope.kind == .class) || ((scope.kind == .module) && _)) = false; rw [hk]; rfl)
      exact wpAny_execs_nil (h t' h' _ (F.set hn hs) (N.set hs))
  · rename_i hne
    refine wpAny_execs_nil ?_
    have hfree : c ∉ l := fun q => hne (decide_eq_true q)
    have e := rep_free c z l hfree
    refine h t s.heap (s.toks + 1) ?_ N
    have hm : (fun y => if y = Str.ofString "text" then some (.str (tx (rep c z l)) t) else m y) = m := by
      funext y
      split
      · rename_i q; rw [q, hv, e]
      · rfl
    rw [hm]; exact F
end Mine

namespace Mine
open PySem.Spec PySem.Calls

/-- a call of the def at f with vs ends (tokens below k are taken), from whatever frame, with a value in R; nothing that stands is touched -/
def Does (w : World) (d k : Nat) (f : Addr) (vs : List Value) (news : List (Addr × Obj)) (R : Value → Prop) : Prop :=
  ∀ (p : Program) (loose : List Str) (mean : ExcName → Option Value) (mg mb : Str → Option Value) (dp un : Nat) (gd : Option (List Code)) (cn : Str) (cs : Scope) (a : Addr) (ccd : Value) (cl : List (Str × Addr)) (outer : List Env) (A₀ : Around) (base h₀ : Heap) (L : Addr) (m : Str → Option Value) (s : Shared) (Q E : Value → Shared → Prop),
    Below A₀ base outer h₀ → Fr h₀ L s.heap m → (hd.heap_39 w.params).In h₀ → News h₀ L s.heap news → Top p loose mean mg mb h₀ → cs.kind = .function → k ≤ s.toks → dp + d < recursionLimit → un + 8 * d < cLine →
    (∀ v h' tk', R v → Fr h₀ L h' m → News h₀ L h' news → Q v { s with heap := h', toks := tk' }) →
    wpAny (model PySem.Challenge.rw_ph0124_01.row.prog w) (ktrTop dp un gd cn cs L a ccd cl outer) (call (.ref f) vs) Q E s

theorem Does.use {w : World} {d k : Nat} {f : Addr} {vs : List Value} {news : List (Addr × Obj)} {R : Value → Prop} (D : Does w d k f vs news R)
    {p : Program} {loose : List Str} {mean : ExcName → Option Value} {mg mb : Str → Option Value} {dp un : Nat} {gd : Option (List Code)} {cn : Str} {cs : Scope} {a : Addr} {ccd : Value} {cl : List (Str × Addr)} {outer : List Env} {A₀ : Around} {base h₀ : Heap} {L : Addr} {m : Str → Option Value} {s : Shared} {Q E : Value → Shared → Prop}
    (B : Below A₀ base outer h₀) (F : Fr h₀ L s.heap m) (X : (hd.heap_39 w.params).In h₀) (N : News h₀ L s.heap news) (T : Top p loose mean mg mb h₀) (hcs : cs.kind = .function) (hk : k ≤ s.toks) (hdp : dp + d < recursionLimit) (hun : un + 8 * d < cLine)
    (ret : ∀ v h' tk', R v → Fr h₀ L h' m → News h₀ L h' news → Q v { s with heap := h', toks := tk' }) :
    wpAny (model PySem.Challenge.rw_ph0124_01.row.prog w) (ktrTop dp un gd cn cs L a ccd cl outer) (call (.ref f) vs) Q E s :=
  D p loose mean mg mb dp un gd cn cs a ccd cl outer A₀ base h₀ L m s Q E B F X N T hcs hk hdp hun ret

/-- one replacement behind the other -/
def reps (ps : List (Nat × List Nat)) (l : List Nat) : List Nat := ps.foldl (fun x q => rep q.1 q.2 x) l
def look (ps : List (Nat × List Nat)) (d : Nat) : List Nat := (ps.lookup d).getD [d]
/-- no replacement writes what a later one replaces; none writes more than six signs -/
def apart : List (Nat × List Nat) → Bool
  | [] => true
  | q :: r => (r.all fun q' => !q.2.contains q'.1) && decide (q.2.length ≤ 6) && apart r
theorem look_free (r : List (Nat × List Nat)) : ∀ z : List Nat, (r.all fun q' => !z.contains q'.1) = true → z.flatMap (look r) = z
  | [], _ => rfl
  | d :: z, h => by
    have hn : r.lookup d = none := by
      rw [List.lookup_eq_none_iff]
      intro q hq
      have := List.all_eq_true.mp h q hq
      simp only [List.contains_cons, Bool.not_or, Bool.and_eq_true, Bool.not_eq_true'] at this
      have h1 := this.1
      cases e : d == q.1 with
      | false => simp only [bne, e]; rfl
      | true => rw [beq_iff_eq.mp e] at h1; simp at h1
    have hr : (r.all fun q' => !z.contains q'.1) = true := List.all_eq_true.mpr fun q hq => by
      have := List.all_eq_true.mp h q hq
      simp only [List.contains_cons, Bool.not_or, Bool.and_eq_true] at this
      exact this.2
    rw [List.flatMap_cons, look_free r z hr]
    simp [look, hn]
theorem reps_eq : ∀ (ps : List (Nat × List Nat)), apart ps = true → ∀ l, reps ps l = l.flatMap (look ps)
  | [], _, l => by
    show l = _
    have : (look []) = fun d => [d] := by funext d; rfl
    rw [this]; simp
  | (c, z) :: r, h, l => by
    simp only [apart, Bool.and_eq_true] at h
    show reps r (rep c z l) = _
    rw [reps_eq r h.2, rep, List.flatMap_assoc]
    congr 1
    funext d
    by_cases e : d = c
    · subst e
      rw [if_pos rfl, look_free r z h.1.1]
      simp [look]
    · rw [if_neg e]
      have : (d == c) = false := by simpa using e
      simp [look, List.lookup_cons, this]
theorem look_len : ∀ (ps : List (Nat × List Nat)), apart ps = true → ∀ d, (look ps d).length ≤ 6
  | [], _, d => by simp [look]
  | (c, z) :: r, h, d => by
    simp only [apart, Bool.and_eq_true, decide_eq_true_eq] at h
    have ih := look_len r h.2 d
    unfold look at ih ⊢
    rw [List.lookup_cons]
    cases e : d == c with
    | true => exact h.1.2
    | false => exact ih
theorem flatMap_len_le {f : Nat → List Nat} {k : Nat} (hf : ∀ d, (f d).length ≤ k) : ∀ l : List Nat, (l.flatMap f).length ≤ k * l.length
  | [] => by simp
  | d :: r => by
    have ih := flatMap_len_le hf r
    have := hf d
    rw [List.flatMap_cons, List.length_append, List.length_cons, Nat.mul_add, Nat.mul_one]
    omega
theorem pre_len (ps : List (Nat × List Nat)) {l : List Nat} (h : apart ps = true) (hl : l.length ≤ 1000) : (reps ps l).length ≤ 1048576 := by
  rw [reps_eq ps h]
  have := flatMap_len_le (look_len ps h) l
  omega

theorem ifreps {prog : Program} {w : World} {A : Around} {E : Value → Shared → Prop} {s : Shared} {h₀ : Heap} {L : Addr} {m : Str → Option Value} {news : List (Addr × Obj)} {name : Str} {scope : Scope} {a : Addr} {cd : Value} {cS rS : Str} {t : Tok}
    {k1 k2 k3 : Nat} {p1 p2 p3 p4 p5 p6 p7 p8 p9 p10 p11 : Pos} {Q : Flow → Shared → Prop} {l : List Nat} {ps : List (Nat × List Nat)} (c : Nat) (z : List Nat)
    (hcS : cS = ⟨#[c]⟩) (hrS : rS = tx z) (F : Fr h₀ L s.heap m) (N : News h₀ L s.heap news) (hv : m (Str.ofString "text") = some (.str (tx (reps ps l)) t)) (hcr : (([c] : List Nat) == z) = false) (ha : apart ps = true) (hsz : l.length ≤ 1000) (hr : z.length ≤ 14)
    (h : ∀ t' h' tk, Fr h₀ L h' (fun y => if y = Str.ofString "text" then some (.str (tx (reps (ps ++ [(c, z)]) l)) t') else m y) → News h₀ L h' news → Q .next { s with heap := h', toks := tk })
    {pl : Sem Bool} (he : eval (.Call (.Attribute (.Name (Str.ofString "text") p5) (Str.ofString "replace") p6) [.Constant (.str cS) k2 p7, .Constant (.str rS) k3 p8] [] p9) (envOf name scope L a cd) = (do
      let ov ← eval (.Name (Str.ofString "text") p5) (envOf name scope L a cd)
      standAt p6.atName
      let (f, first) ← holding [ov] (getMethod ov (Str.ofString "replace") pl)
      callWith p9 f first (backTo p9 (starEach [.Constant (.str cS) k2 p7, .Constant (.str rS) k3 p8] (envOf name scope L a cd))) []) := by rfl)
    (hk : scope.kind = .function := by rfl) (hl : (envOf name scope L a cd).kindOf (Str.ofString "text") = some .local := by rfl) :
    wpAny (model prog w) A (exec (.If (.Compare (.Constant (.str cS) k1 p1) [.In] [.Name (Str.ofString "text") p2] p3) [.Assign [.Name (Str.ofString "text") p4] (.Call (.Attribute (.Name (Str.ofString "text") p5) (Str.ofString "replace") p6) [.Constant (.str cS) k2 p7, .Constant (.str rS) k3 p8] [] p9) p10] [] p11) (envOf name scope L a cd)) Q E s := by
  have e : reps (ps ++ [(c, z)]) l = rep c z (reps ps l) := by simp [reps, List.foldl_append]
  rw [e] at h
  exact ifrep c z hcS hrS F N hv hcr (pre_len ps ha hsz) hr h he hk hl

/-- what the five hands replace, in their order -/
def pairs : Nat → List (Nat × List Nat)
  | 0 => [(38, [38, 97, 109, 112, 59]), (60, [38, 108, 116, 59]), (62, [38, 103, 116, 59])]
  | 1 => [(38, [38, 97, 109, 112, 59]), (60, [38, 108, 116, 59]), (62, [38, 103, 116, 59]), (34, [38, 113, 117, 111, 116, 59]), (13, [38, 35, 49, 51, 59]), (10, [38, 35, 49, 48, 59]), (9, [38, 35, 48, 57, 59])]
  | 2 => [(38, [38, 97, 109, 112, 59]), (62, [38, 103, 116, 59]), (34, [38, 113, 117, 111, 116, 59])]
  | 3 => [(38, [38, 97, 109, 112, 59]), (60, [38, 108, 116, 59]), (62, [38, 103, 116, 59]), (13, [38, 35, 120, 68, 59])]
  | _ => [(38, [38, 97, 109, 112, 59]), (60, [38, 108, 116, 59]), (34, [38, 113, 117, 111, 116, 59]), (9, [38, 35, 120, 57, 59]), (10, [38, 35, 120, 65, 59]), (13, [38, 35, 120, 68, 59])]
def esc (i : Nat) (l : List Nat) : List Nat := reps (pairs i) l

theorem sg9 : Str.ofString "\t" = ⟨#[9]⟩ := by decide +kernel
theorem sg10 : Str.ofString "\n" = ⟨#[10]⟩ := by decide +kernel
theorem sg13 : Str.ofString "\r" = ⟨#[13]⟩ := by decide +kernel
theorem sg34 : Str.ofString "\"" = ⟨#[34]⟩ := by decide +kernel
theorem sg38 : Str.ofString "&" = ⟨#[38]⟩ := by decide +kernel
theorem sg60 : Str.ofString "<" = ⟨#[60]⟩ := by decide +kernel
theorem sg62 : Str.ofString ">" = ⟨#[62]⟩ := by decide +kernel
theorem sr0 : Str.ofString "&amp;" = tx [38, 97, 109, 112, 59] := by decide +kernel
theorem sr1 : Str.ofString "&lt;" = tx [38, 108, 116, 59] := by decide +kernel
theorem sr2 : Str.ofString "&gt;" = tx [38, 103, 116, 59] := by decide +kernel
theorem sr3 : Str.ofString "&quot;" = tx [38, 113, 117, 111, 116, 59] := by decide +kernel
theorem sr4 : Str.ofString "&#13;" = tx [38, 35, 49, 51, 59] := by decide +kernel
theorem sr5 : Str.ofString "&#10;" = tx [38, 35, 49, 48, 59] := by decide +kernel
theorem sr6 : Str.ofString "&#09;" = tx [38, 35, 48, 57, 59] := by decide +kernel
theorem sr7 : Str.ofString "&#xD;" = tx [38, 35, 120, 68, 59] := by decide +kernel
theorem sr8 : Str.ofString "&#x9;" = tx [38, 35, 120, 57, 59] := by decide +kernel
theorem sr9 : Str.ofString "&#xA;" = tx [38, 35, 120, 65, 59] := by decide +kernel
local macro_rules | `(tactic| walk_at "exec If") => `(tactic| (k_here; k_dflt (first | refine ifreps _ _ sg38 sr0 (by k_asm) (by k_asm) (by rfl) (by decide) (by decide) (by assumption) (by decide) ?_ | refine ifreps _ _ sg60 sr1 (by k_asm) (by k_asm) (by rfl) (by decide) (by decide) (by assumption) (by decide) ?_ | refine ifreps _ _ sg62 sr2 (by k_asm) (by k_asm) (by rfl) (by decide) (by decide) (by assumption) (by decide) ?_ | refine ifreps _ _ sg34 sr3 (by k_asm) (by k_asm) (by rfl) (by decide) (by decide) (by assumption) (by decide) ?_ | refine ifreps _ _ sg13 sr4 (by k_asm) (by k_asm) (by rfl) (by decide) (by decide) (by assumption) (by decide) ?_ | refine ifreps _ _ sg10 sr5 (by k_asm) (by k_asm) (by rfl) (by decide) (by decide) (by assumption) (by decide) ?_ | refine ifreps _ _ sg9 sr6 (by k_asm) (by k_asm) (by rfl) (by decide) (by decide) (by assumption) (by decide) ?_ | refine ifreps _ _ sg13 sr7 (by k_asm) (by k_asm) (by rfl) (by decide) (by decide) (by assumption) (by decide) ?_ | refine ifreps _ _ sg9 sr8 (by k_asm) (by k_asm) (by rfl) (by decide) (by decide) (by assumption) (by decide) ?_ | refine ifreps _ _ sg10 sr9 (by k_asm) (by k_asm) (by rfl) (by decide) (by decide) (by assumption) (by decide) ?_); (intro t9 h9 tk9 F9 N9); (try dsimp only [List.cons_append, List.nil_append] at F9)))

theorem does_esc0 {w : World} (l : List Nat) (t : Tok) (news : List (Addr × Obj)) (hl : l.length ≤ 1000) : Does w 1 0 78 [.str (tx (reps [] l)) t] news (fun v => ∃ t', v = .str (tx (esc 0 l)) t') := by
  unfold Does
  k_fill
  w_on
  intros
  rename_i hret
  refine wpAny_call ?_
  k_dflt cell_enter
  k_steps
  all_goals exact hret _ _ _ ⟨_, rfl⟩ (by k_asm) (by k_asm)

theorem does_esc1 {w : World} (l : List Nat) (t : Tok) (news : List (Addr × Obj)) (hl : l.length ≤ 1000) : Does w 1 0 85 [.str (tx (reps [] l)) t] news (fun v => ∃ t', v = .str (tx (esc 1 l)) t') := by
  unfold Does
  k_fill
  w_on
  intros
  rename_i hret
  refine wpAny_call ?_
  k_dflt cell_enter
  k_steps
  all_goals exact hret _ _ _ ⟨_, rfl⟩ (by k_asm) (by k_asm)

theorem does_esc2 {w : World} (l : List Nat) (t : Tok) (news : List (Addr × Obj)) (hl : l.length ≤ 1000) : Does w 1 0 92 [.str (tx (reps [] l)) t] news (fun v => ∃ t', v = .str (tx (esc 2 l)) t') := by
  unfold Does
  k_fill
  w_on
  intros
  rename_i hret
  refine wpAny_call ?_
  k_dflt cell_enter
  k_steps
  all_goals exact hret _ _ _ ⟨_, rfl⟩ (by k_asm) (by k_asm)

theorem does_esc3 {w : World} (l : List Nat) (t : Tok) (news : List (Addr × Obj)) (hl : l.length ≤ 1000) : Does w 1 0 99 [.str (tx (reps [] l)) t] news (fun v => ∃ t', v = .str (tx (esc 3 l)) t') := by
  unfold Does
  k_fill
  w_on
  intros
  rename_i hret
  refine wpAny_call ?_
  k_dflt cell_enter
  k_steps
  all_goals exact hret _ _ _ ⟨_, rfl⟩ (by k_asm) (by k_asm)

theorem does_esc4 {w : World} (l : List Nat) (t : Tok) (news : List (Addr × Obj)) (hl : l.length ≤ 1000) : Does w 1 0 106 [.str (tx (reps [] l)) t] news (fun v => ∃ t', v = .str (tx (esc 4 l)) t') := by
  unfold Does
  k_fill
  w_on
  intros
  rename_i hret
  refine wpAny_call ?_
  k_dflt cell_enter
  k_steps
  all_goals exact hret _ _ _ ⟨_, rfl⟩ (by k_asm) (by k_asm)

end Mine

namespace Mine
open PySem.Spec PySem.Calls

theorem len_tx {prog : Program} {w : World} {A : Around} {E : Value → Shared → Prop} {s : Shared} {l : List Nat} {t : Tok} {Q : Value → Shared → Prop} (hl : l.length ≤ 100000)
    (h : Q (.int (l.length : Nat) (s.toks + 1)) { s with toks := s.toks + 1 + 1 }) : wpAny (model prog w) A (call (.builtin "len") [.str (tx l) t]) Q E s := by
  refine P.len_str ?_ ?_
  · rw [tx_length]; omega
  · rw [tx_length]; exact h
local macro_rules | `(tactic| walk_at "call builtin:len") => `(tactic| ((with_reducible show wpAny _ _ (call (Value.builtin "len") [Value.str _ _]) _ _ _); refine len_tx (by omega) ?_))

theorem does_hint {w : World} (l : List Nat) (t : Tok) (news : List (Addr × Obj)) (hl : l.length ≤ 100000) : Does w 1 0 64 [.str (tx l) t] news (fun v => ∃ t', v = .int (l.length : Nat) t') := by
  unfold Does
  k_fill
  w_on
  intro p loose mean mg mb dp un gd cn cs a ccd cl outer A₀ base h₀ L m s Q E hB hF hX hN hT hcs hk hdp hun hret
  refine wpAny_call ?_
  k_dflt (refine' code_def ?k1 ?k2 ?k3 ?k4 ?k5 ?kA ?kF ?kK ?k6 ?k7 ?k8 ?k9 ?kB ?_ ?c2 ?c3 ?c4 ?c5; (case kA => exact rfl); (case kF => exact rfl); (case kK => assumption); (case k1 => k_asm); (case k2 => k_asm); (case k3 => k_asm); (case k4 => k_asm); (case k5 => k_asm); (case k6 => k_is); (case k7 => k_is); (case k8 => ktr_room); (case k9 => first | exact BindsTo.of_eq rfl | exact binds_K (by k_in) rfl (by k_is) rfl rfl rfl); (case c5 => decide); (case kB => exact locs rfl); (case c2 => exact rfl); (case c3 => exact rfl); (case c4 => exact rfl); k_whole; intro g1 L1 h1 FG1 F1 N1 B1 X1 T1; (try dsimp only); (try k_fold))
  k_steps
  exact hret _ _ _ ⟨_, rfl⟩ (by k_asm) (by k_asm)

theorem booked_none {w : World} {h : Heap} (X : (hd.heap_39 w.params).In h) : NoneBooked h := by
  have e : (hd.heap_39 w.params).lookup cStatics = some { cls := .none, data := .dict #[] } := by rfl
  exact ⟨fun _ => none, ⟨_, #[], 0, X _ _ e, rfl, (by intro q hq; simp at hq), fun name => by simp [nsFind, findBy]⟩, rfl⟩

theorem is_str {M : Model} {A : Around} {E : Value → Shared → Prop} {s : Shared} {y z : Str} {u v : Tok} {Q : Value → Shared → Prop}
    (hu : u ≠ 0) (hv : v ≠ 0) (huv : u ≠ v) (hb : NoneBooked s.heap) (hq : ∀ b : Bool, (b = true → y = z) → Q (.bool b) s) : wpAny M A (compareOp .Is (.str y u) (.str z v)) Q E s := by
  show wpAny M A (do return .bool (← isSame (.str y u) (.str z v))) Q E s
  refine wpAny_bind ?_
  cases e : (y == z) with
  | false =>
    rw [isSame_str_other y z u v (by simp [hu, hv]) (by simpa using huv) e]
    exact wpAny_pure (wpAny_pure (hq false (by intro q; cases q)))
  | true => exact wpAny_isSame_str (by simp [hu, hv]) hb fun b => wpAny_pure (hq b fun _ => eq_of_beq e)

/-- what a frame holds, one name said ahead -/
theorem said (m : Str → Option Value) (x : Str) (v : Value) (h : m x = some v) : m = fun y => if y = x then some v else m y := by
  funext y
  by_cases e : y = x
  · rw [if_pos e, e, h]
  · rw [if_neg e]

theorem take_count (l : List Nat) (c d i : Nat) (h : l[i]? = some d) : (l.take (i + 1)).count c = (l.take i).count c + (if d = c then 1 else 0) := by
  rw [List.take_add_one, h, List.count_append]
  congr 1
  by_cases e : d = c
  · simp [e]
  · simp [e]

theorem does_count {w : World} (l : List Nat) (c : Nat) (t u : Tok) (news : List (Addr × Obj)) (hu : u ≠ 0) : Does w 1 (u + 1) 56 [.str (tx l) t, .str ⟨#[c]⟩ u] news (fun v => ∃ t', v = .int (l.count c : Nat) t') := by
  unfold Does
  k_fill
  w_on
  intro p loose mean mg mb dp un gd cn cs a ccd cl outer A₀ base h₀ L m s Q E hB hF hX hN hT hcs hk hdp hun hret
  refine wpAny_call ?_
  k_dflt (refine' code_def ?k1 ?k2 ?k3 ?k4 ?k5 ?kA ?kF ?kK ?k6 ?k7 ?k8 ?k9 ?kB ?_ ?c2 ?c3 ?c4 ?c5; (case kA => exact rfl); (case kF => exact rfl); (case kK => assumption); (case k1 => k_asm); (case k2 => k_asm); (case k3 => k_asm); (case k4 => k_asm); (case k5 => k_asm); (case k6 => k_is); (case k7 => k_is); (case k8 => ktr_room); (case k9 => first | exact BindsTo.of_eq rfl | exact binds_K (by k_in) rfl (by k_is) rfl rfl rfl); (case c5 => decide); (case kB => exact locs rfl); (case c2 => exact rfl); (case c3 => exact rfl); (case c4 => exact rfl); k_whole; intro g1 L1 h1 FG1 F1 N1 B1 X1 T1; (try dsimp only); (try k_fold))
  refine wpAny_execs_cons ?_
  walk1
  walk1
  walk1
  dsimp only
  refine wpAny_execs_cons ?_
  refine For_own (h₀ := g1) (L := L1) (fun i m nw => nw = news ∧ m (Str.ofString "a") = some (.str (tx l) t) ∧ m (Str.ofString "b") = some (.str ⟨#[c]⟩ u) ∧ ∃ t', m (Str.ofString "count") = some (.int ((l.take i).count c : Nat) t')) ?_
  walk1
  unfold ForAt
  refine ⟨u + 1, _, _, _, news, _, by k_asm, by k_asm, (by dsimp only; omega), Src.str rfl _ _, ⟨rfl, rfl, rfl, _, rfl⟩, fun _ _ _ _ => trivial, ?_, ?_⟩
  · intro i v I oI m nw h tk E' hi hP hJ F N off htk
    obtain ⟨rfl, ha, hb, t', hc⟩ := hJ
    obtain ⟨d, u', hd', hku, hut, rfl⟩ := hP
    have hd : l[i]? = some d := by simpa using hd'
    rw [said m _ _ ha, said m _ _ hb, said m _ _ hc] at F
    refine wpAny_assign_Name ?_
    walk1
    dsimp only
    refine wpAny_execs_cons (wpAny_If ?_)
    refine isTrue_or ?_
    refine wpAny_isTrue_Compare1 ?_
    walk1
    walk1
    have hX : NoneBooked _ := booked_none (X1.keeps (Fr.keep (by assumption)))
    refine is_str (fun e => by rw [e] at hku; exact absurd hku (Nat.not_succ_le_zero _)) hu (Nat.ne_of_gt hku) hX ?_
    intro b hbd
    walk1
    cases b with
    | true =>
      have hdc : d = c := by have := hbd rfl; simpa using this
      simp only [if_true]
      k_steps
      refine ⟨_, _, _, nw, rfl, by k_asm, by k_asm, off, rfl, rfl, rfl, ?tt, ?gg⟩
      case gg =>
        rw [take_count l c d i hd, if_pos hdc]
        rfl
    | false =>
      simp only [Bool.false_eq_true, if_false]
      k_steps
      · have hdc : d = c := by
          have hq : ((⟨#[d]⟩ : Str) == ⟨#[c]⟩) = true := by assumption
          simpa using eq_of_beq hq
        refine ⟨_, _, _, nw, rfl, by k_asm, by k_asm, off, rfl, rfl, rfl, ?tt2, ?gg2⟩
        case gg2 =>
          rw [take_count l c d i hd, if_pos hdc]
          rfl
      · have hdc : ¬ d = c := fun e => by
          have hq : ((⟨#[d]⟩ : Str) == ⟨#[c]⟩) = false := by assumption
          rw [e] at hq; simp at hq
        refine ⟨_, _, _, nw, rfl, by k_asm, by k_asm, off, rfl, rfl, rfl, t', ?_⟩
        rw [take_count l c d i hd, if_neg hdc]
        rfl
  · intro h tk m' nw F N htk hJ
    obtain ⟨rfl, ha, hb, t', hc⟩ := hJ
    rw [said m' _ _ hc] at F
    k_steps
    refine hret _ _ _ ⟨t', ?_⟩ (by k_asm) (by k_asm)
    rw [List.take_of_length_le (by simp)]
end Mine

namespace Mine
open PySem.Spec PySem.Calls PyProof.Rows.LCg

/-- a list as the ledger bears it -/
abbrev lob (vs : List Value) (n : Nat) : Obj := { cls := .type "list", data := .seq vs.toArray n }
/-- the row of hands, one behind the other -/
def wr (rs : List Nat) (l : List Nat) : List Nat := rs.foldl (fun x i => esc i x) l
abbrev handsV : List Value := [.ref 78, .ref 85, .ref 92, .ref 99, .ref 106]

theorem does_hand {w : World} (i : Nat) (hi : i < 5) (l : List Nat) (t : Tok) (news : List (Addr × Obj)) (hl : l.length ≤ 1000) : Does w 1 0 (78 + 7 * i) [.str (tx l) t] news (fun v => ∃ t', v = .str (tx (esc i l)) t') := by
  match i, hi with
  | 0, _ => exact does_esc0 l t news hl
  | 1, _ => exact does_esc1 l t news hl
  | 2, _ => exact does_esc2 l t news hl
  | 3, _ => exact does_esc3 l t news hl
  | 4, _ => exact does_esc4 l t news hl

theorem item_led {prog : Program} {w : World} {A : Around} {E : Value → Shared → Prop} {s : Shared} {h₀ : Heap} {L : Addr} {news : List (Addr × Obj)} {value slice : Expr} {a : Addr} {vs : List Value} {n : Nat} {k : Int} {u : Tok} {v : Value} {Q : Value → Shared → Prop}
    (N : News h₀ L s.heap news) (hm : (a, lob vs n) ∈ news) (h0 : 0 ≤ k) (hhi : k < 2 ^ 63) (hx : vs[k.toNat]? = some v) (h : Q v s)
    (hs : subscripted slice false (.ref a) (.int k u) = operate [.ref a, .int k u] (getItem (.ref a) (.int k u)) := by with_unfolding_all rfl) :
    wpAny (model prog w) A (subscriptTail value slice (.ref a) (.int k u)) Q E s :=
  have hl : s.heap.IsList a vs.toArray := ⟨_, (N _ hm).1, rfl, n, rfl⟩
  tail_any hl.typeIs slot_list_getitem.lookup (wpAny_getItem_list hl h0 hhi (by simpa using hx) h) hs

theorem does_written {w : World} (l : List Nat) (t : Tok) (ar ah : Addr) (rs : List Nat) (vs : List Value) (n k : Nat) (news : List (Addr × Obj)) (hr : (ar, lob vs n) ∈ news) (hh : (ah, lob handsV k) ∈ news) (hi : IntsAre vs (rs.map fun r : Nat => (r : Int)))
    (h5 : ∀ r ∈ rs, r < 5) (hb : ∀ j, (wr (rs.take j) l).length ≤ 1000) (hn : rs.length ≤ 1000) : Does w 2 1 120 [.str (tx l) t, .ref ar, .ref ah] news (fun v => ∃ t', v = .str (tx (wr rs l)) t') := by
  unfold Does
  k_fill
  w_on
  intro p loose mean mg mb dp un gd cn cs a ccd cl outer A₀ base h₀ L m s Q E hB hF hX hN hT hcs hk hdp hun hret
  refine wpAny_call ?_
  k_dflt (refine' code_def ?k1 ?k2 ?k3 ?k4 ?k5 ?kA ?kF ?kK ?k6 ?k7 ?k8 ?k9 ?kB ?_ ?c2 ?c3 ?c4 ?c5; (case kA => exact rfl); (case kF => exact rfl); (case kK => assumption); (case k1 => k_asm); (case k2 => k_asm); (case k3 => k_asm); (case k4 => k_asm); (case k5 => k_asm); (case k6 => k_is); (case k7 => k_is); (case k8 => ktr_room); (case k9 => first | exact BindsTo.of_eq rfl | exact binds_K (by k_in) rfl (by k_is) rfl rfl rfl); (case c5 => decide); (case kB => exact locs rfl); (case c2 => exact rfl); (case c3 => exact rfl); (case c4 => exact rfl); k_whole; intro g1 L1 h1 FG1 F1 N1 B1 X1 T1; (try dsimp only); (try k_fold))
  refine wpAny_execs_cons ?_
  walk1
  walk1
  walk1
  dsimp only
  refine wpAny_execs_cons ?_
  refine For_own (h₀ := g1) (L := L1) (fun i m nw => nw = news ∧ m (Str.ofString "hands") = some (.ref ah) ∧ ∃ t', m (Str.ofString "page") = some (.str (tx (wr (rs.take i) l)) t')) ?_
  walk1
  have hsrc : SrcAt g1 ar vs.toArray news := .inr ⟨_, hr, rfl, n, rfl⟩
  unfold ForAt
  refine ⟨1, _, _, _, news, _, by k_asm, by k_asm, (by dsimp only; omega), Src.list (m := _) rfl (by k_asm) (by k_asm) hsrc, ⟨rfl, rfl, _, rfl⟩, fun _ _ _ hJ => hJ.1 ▸ hsrc, ?_, ?_⟩
  · intro i v I oI m nw h tk E' hi' hP hJ F N off htk
    obtain ⟨rfl, hha, t', hpg⟩ := hJ
    have hP' : vs[i]? = some v := by simpa using hP
    obtain ⟨r', tr, e, hri⟩ := IntsAre.at hi i v hP'
    obtain ⟨r, hri', e'⟩ : ∃ r, rs[i]? = some r ∧ (r : Int) = r' := by simpa using hri
    subst e' e
    have hr5 : r < 5 := h5 r (List.mem_of_getElem? hri')
    rw [said m _ _ hha, said m _ _ hpg] at F
    have hstep : wr (rs.take (i + 1)) l = esc r (wr (rs.take i) l) := by
      unfold wr
      rw [List.take_add_one, hri', List.foldl_append]; rfl
    refine wpAny_assign_Name ?_
    walk1
    dsimp only
    refine wpAny_execs_cons ?_
    walk1
    walk1
    walk1
    walk1
    walk1
    obtain rfl | rfl | rfl | rfl | rfl : r = 0 ∨ r = 1 ∨ r = 2 ∨ r = 3 ∨ r = 4 := by omega
    · refine item_led (by k_asm) (List.mem_cons_of_mem _ hh) (by decide) (by decide) rfl ?_
      walk1
      walk1
      walk1
      walk1
      refine ⟨by k_in, ?_⟩
      dsimp only [List.nil_append]
      refine Does.use (does_esc0 _ _ _ (hb i)) (by k_asm) (by k_asm) (by k_asm) (by k_asm) (by k_asm) rfl (Nat.zero_le _) (by ktr_room) (by ktr_units) ?_
      intro v9 h9 tk9 hR F9 N9
      obtain ⟨t9, rfl⟩ := hR
      walk1
      refine wpAny_execs_nil ?_
      refine ⟨_, _, _, nw, rfl, by k_asm, by k_asm, off, rfl, rfl, t9, ?_⟩
      rw [hstep]; rfl
    · refine item_led (by k_asm) (List.mem_cons_of_mem _ hh) (by decide) (by decide) rfl ?_
      walk1
      walk1
      walk1
      walk1
      refine ⟨by k_in, ?_⟩
      dsimp only [List.nil_append]
      refine Does.use (does_esc1 _ _ _ (hb i)) (by k_asm) (by k_asm) (by k_asm) (by k_asm) (by k_asm) rfl (Nat.zero_le _) (by ktr_room) (by ktr_units) ?_
      intro v9 h9 tk9 hR F9 N9
      obtain ⟨t9, rfl⟩ := hR
      walk1
      refine wpAny_execs_nil ?_
      refine ⟨_, _, _, nw, rfl, by k_asm, by k_asm, off, rfl, rfl, t9, ?_⟩
      rw [hstep]; rfl
    · refine item_led (by k_asm) (List.mem_cons_of_mem _ hh) (by decide) (by decide) rfl ?_
      walk1
      walk1
      walk1
      walk1
      refine ⟨by k_in, ?_⟩
      dsimp only [List.nil_append]
      refine Does.use (does_esc2 _ _ _ (hb i)) (by k_asm) (by k_asm) (by k_asm) (by k_asm) (by k_asm) rfl (Nat.zero_le _) (by ktr_room) (by ktr_units) ?_
      intro v9 h9 tk9 hR F9 N9
      obtain ⟨t9, rfl⟩ := hR
      walk1
      refine wpAny_execs_nil ?_
      refine ⟨_, _, _, nw, rfl, by k_asm, by k_asm, off, rfl, rfl, t9, ?_⟩
      rw [hstep]; rfl
    · refine item_led (by k_asm) (List.mem_cons_of_mem _ hh) (by decide) (by decide) rfl ?_
      walk1
      walk1
      walk1
      walk1
      refine ⟨by k_in, ?_⟩
      dsimp only [List.nil_append]
      refine Does.use (does_esc3 _ _ _ (hb i)) (by k_asm) (by k_asm) (by k_asm) (by k_asm) (by k_asm) rfl (Nat.zero_le _) (by ktr_room) (by ktr_units) ?_
      intro v9 h9 tk9 hR F9 N9
      obtain ⟨t9, rfl⟩ := hR
      walk1
      refine wpAny_execs_nil ?_
      refine ⟨_, _, _, nw, rfl, by k_asm, by k_asm, off, rfl, rfl, t9, ?_⟩
      rw [hstep]; rfl
    · refine item_led (by k_asm) (List.mem_cons_of_mem _ hh) (by decide) (by decide) rfl ?_
      walk1
      walk1
      walk1
      walk1
      refine ⟨by k_in, ?_⟩
      dsimp only [List.nil_append]
      refine Does.use (does_esc4 _ _ _ (hb i)) (by k_asm) (by k_asm) (by k_asm) (by k_asm) (by k_asm) rfl (Nat.zero_le _) (by ktr_room) (by ktr_units) ?_
      intro v9 h9 tk9 hR F9 N9
      obtain ⟨t9, rfl⟩ := hR
      walk1
      refine wpAny_execs_nil ?_
      refine ⟨_, _, _, nw, rfl, by k_asm, by k_asm, off, rfl, rfl, t9, ?_⟩
      rw [hstep]; rfl
  · intro h tk m' nw F N htk hJ
    obtain ⟨rfl, ha, t', hc⟩ := hJ
    rw [said m' _ _ hc] at F
    k_steps
    refine hret _ _ _ ⟨t', ?_⟩ (by k_asm) (by k_asm)
    rw [List.take_of_length_le (by have := hi.length; simp at this; simp [this])]
end Mine

namespace Mine
open PySem.Spec PySem.Calls PyProof.Rows.LCg

theorem does_add {w : World} (x y : Int) (t u : Tok) (news : List (Addr × Obj))  : Does w 1 0 21 [.int x t, .int y u] news (fun v => ∃ t', v = .int (x + y) t') := by
  unfold Does
  k_fill
  w_on
  intro p loose mean mg mb dp un gd cn cs a ccd cl outer A₀ base h₀ L m s Q E hB hF hX hN hT hcs hk hdp hun hret
  refine wpAny_call ?_
  k_dflt (refine' code_def ?k1 ?k2 ?k3 ?k4 ?k5 ?kA ?kF ?kK ?k6 ?k7 ?k8 ?k9 ?kB ?_ ?c2 ?c3 ?c4 ?c5; (case kA => exact rfl); (case kF => exact rfl); (case kK => assumption); (case k1 => k_asm); (case k2 => k_asm); (case k3 => k_asm); (case k4 => k_asm); (case k5 => k_asm); (case k6 => k_is); (case k7 => k_is); (case k8 => ktr_room); (case k9 => first | exact BindsTo.of_eq rfl | exact binds_K (by k_in) rfl (by k_is) rfl rfl rfl); (case c5 => decide); (case kB => exact locs rfl); (case c2 => exact rfl); (case c3 => exact rfl); (case c4 => exact rfl); k_whole; intro g1 L1 h1 FG1 F1 N1 B1 X1 T1; (try dsimp only); (try k_fold))
  k_steps
  all_goals exact hret _ _ _ ⟨_, rfl⟩ (by k_asm) (by k_asm)

local macro_rules | `(tactic| walk_at "binaryOp FloorDiv") => `(tactic| ((with_reducible show wpAny _ _ (binaryOp Operator.FloorDiv (Value.int _ _) (Value.int _ _)) _ _ _); refine floordiv_int (by omega) ?_ (Or.inl (PyProof.noPylong_small (by omega)))))
theorem does_fdiv {w : World} (x y : Int) (t u : Tok) (news : List (Addr × Obj)) (hy : 0 < y) (hy' : y < 1000) : Does w 1 0 28 [.int x t, .int y u] news (fun v => ∃ t', v = .int (Int.fdiv x y) t') := by
  unfold Does
  k_fill
  w_on
  intro p loose mean mg mb dp un gd cn cs a ccd cl outer A₀ base h₀ L m s Q E hB hF hX hN hT hcs hk hdp hun hret
  refine wpAny_call ?_
  k_dflt (refine' code_def ?k1 ?k2 ?k3 ?k4 ?k5 ?kA ?kF ?kK ?k6 ?k7 ?k8 ?k9 ?kB ?_ ?c2 ?c3 ?c4 ?c5; (case kA => exact rfl); (case kF => exact rfl); (case kK => assumption); (case k1 => k_asm); (case k2 => k_asm); (case k3 => k_asm); (case k4 => k_asm); (case k5 => k_asm); (case k6 => k_is); (case k7 => k_is); (case k8 => ktr_room); (case k9 => first | exact BindsTo.of_eq rfl | exact binds_K (by k_in) rfl (by k_is) rfl rfl rfl); (case c5 => decide); (case kB => exact locs rfl); (case c2 => exact rfl); (case c3 => exact rfl); (case c4 => exact rfl); k_whole; intro g1 L1 h1 FG1 F1 N1 B1 X1 T1; (try dsimp only); (try k_fold))
  k_steps
  all_goals exact hret _ _ _ ⟨_, rfl⟩ (by k_asm) (by k_asm)

theorem does_fmod {w : World} (x y : Int) (t u : Tok) (news : List (Addr × Obj)) (hy : 0 < y) : Does w 1 0 35 [.int x t, .int y u] news (fun v => ∃ t', v = .int (Int.fmod x y) t') := by
  unfold Does
  k_fill
  w_on
  intro p loose mean mg mb dp un gd cn cs a ccd cl outer A₀ base h₀ L m s Q E hB hF hX hN hT hcs hk hdp hun hret
  refine wpAny_call ?_
  k_dflt (refine' code_def ?k1 ?k2 ?k3 ?k4 ?k5 ?kA ?kF ?kK ?k6 ?k7 ?k8 ?k9 ?kB ?_ ?c2 ?c3 ?c4 ?c5; (case kA => exact rfl); (case kF => exact rfl); (case kK => assumption); (case k1 => k_asm); (case k2 => k_asm); (case k3 => k_asm); (case k4 => k_asm); (case k5 => k_asm); (case k6 => k_is); (case k7 => k_is); (case k8 => ktr_room); (case k9 => first | exact BindsTo.of_eq rfl | exact binds_K (by k_in) rfl (by k_is) rfl rfl rfl); (case c5 => decide); (case kB => exact locs rfl); (case c2 => exact rfl); (case c3 => exact rfl); (case c4 => exact rfl); k_whole; intro g1 L1 h1 FG1 F1 N1 B1 X1 T1; (try dsimp only); (try k_fold))
  k_steps
  all_goals exact hret _ _ _ ⟨_, rfl⟩ (by k_asm) (by k_asm)

theorem does_mul {w : World} (x y : Int) (t u : Tok) (news : List (Addr × Obj)) (hx : 0 ≤ x) (hx' : x < 1000) : Does w 1 0 42 [.int x t, .int y u] news (fun v => ∃ t', v = .int (x * y) t') := by
  unfold Does
  k_fill
  w_on
  intro p loose mean mg mb dp un gd cn cs a ccd cl outer A₀ base h₀ L m s Q E hB hF hX hN hT hcs hk hdp hun hret
  refine wpAny_call ?_
  k_dflt (refine' code_def ?k1 ?k2 ?k3 ?k4 ?k5 ?kA ?kF ?kK ?k6 ?k7 ?k8 ?k9 ?kB ?_ ?c2 ?c3 ?c4 ?c5; (case kA => exact rfl); (case kF => exact rfl); (case kK => assumption); (case k1 => k_asm); (case k2 => k_asm); (case k3 => k_asm); (case k4 => k_asm); (case k5 => k_asm); (case k6 => k_is); (case k7 => k_is); (case k8 => ktr_room); (case k9 => first | exact BindsTo.of_eq rfl | exact binds_K (by k_in) rfl (by k_is) rfl rfl rfl); (case c5 => decide); (case kB => exact locs rfl); (case c2 => exact rfl); (case c3 => exact rfl); (case c4 => exact rfl); k_whole; intro g1 L1 h1 FG1 F1 N1 B1 X1 T1; (try dsimp only); (try k_fold))
  k_steps
  all_goals exact hret _ _ _ ⟨_, rfl⟩ (by k_asm) (by k_asm)

theorem does_sub {w : World} (x y : Int) (t u : Tok) (news : List (Addr × Obj))  : Does w 1 0 49 [.int x t, .int y u] news (fun v => ∃ t', v = .int (x - y) t') := by
  unfold Does
  k_fill
  w_on
  intro p loose mean mg mb dp un gd cn cs a ccd cl outer A₀ base h₀ L m s Q E hB hF hX hN hT hcs hk hdp hun hret
  refine wpAny_call ?_
  k_dflt (refine' code_def ?k1 ?k2 ?k3 ?k4 ?k5 ?kA ?kF ?kK ?k6 ?k7 ?k8 ?k9 ?kB ?_ ?c2 ?c3 ?c4 ?c5; (case kA => exact rfl); (case kF => exact rfl); (case kK => assumption); (case k1 => k_asm); (case k2 => k_asm); (case k3 => k_asm); (case k4 => k_asm); (case k5 => k_asm); (case k6 => k_is); (case k7 => k_is); (case k8 => ktr_room); (case k9 => first | exact BindsTo.of_eq rfl | exact binds_K (by k_in) rfl (by k_is) rfl rfl rfl); (case c5 => decide); (case kB => exact locs rfl); (case c2 => exact rfl); (case c3 => exact rfl); (case c4 => exact rfl); k_whole; intro g1 L1 h1 FG1 F1 N1 B1 X1 T1; (try dsimp only); (try k_fold))
  k_steps
  all_goals exact hret _ _ _ ⟨_, rfl⟩ (by k_asm) (by k_asm)


local macro_rules | `(tactic| walk_at "call ref") => `(tactic| (k_here; (try dsimp only [List.nil_append]); k_dflt (first | refine' Does.use (does_sub _ _ _ _ _) ?k1 ?k2 ?k3 ?k4 ?k5 rfl (Nat.zero_le _) ?k6 ?k7 ?_ | refine' Does.use (does_add _ _ _ _ _) ?k1 ?k2 ?k3 ?k4 ?k5 rfl (Nat.zero_le _) ?k6 ?k7 ?_ | refine' Does.use (does_mul _ _ _ _ _ (by decide) (by decide)) ?k1 ?k2 ?k3 ?k4 ?k5 rfl (Nat.zero_le _) ?k6 ?k7 ?_ | refine' Does.use (does_fdiv _ _ _ _ _ (by decide) (by decide)) ?k1 ?k2 ?k3 ?k4 ?k5 rfl (Nat.zero_le _) ?k6 ?k7 ?_); (case k1 => k_asm); (case k2 => k_asm); (case k3 => k_asm); (case k4 => k_asm); (case k5 => k_asm); (case k6 => ktr_room); (case k7 => ktr_units); intro v9 h9 tk9 hR9 F9 N9; obtain ⟨t9, hv9⟩ := hR9; subst hv9; (try dsimp only); (try k_fold)))

/-- what the seven lengths tell -/
def told (b0 b1 b2 b3 b4 b5 b6 : Int) : List Int :=
  let written := Int.fdiv (b2 - b1) 4
  let amps := b1 - b0 - 3 * written
  let others := Int.fdiv (b4 - b3) 4 - amps
  let marks := Int.fdiv (b3 - b0 - (4 * amps + 3 * others)) 2
  let more := others - marks
  let returns := Int.fdiv (b5 - b1) 4
  let ends := Int.fdiv (b6 - (b1 + (5 * marks + 4 * returns))) 4
  [amps, written - amps - more, more, marks, returns, ends]

/-- a call whose value is a new list -/
def DoesL (w : World) (d : Nat) (f : Addr) (vs : List Value) (news : List (Addr × Obj)) (R : List Value → Prop) : Prop :=
  ∀ (p : Program) (loose : List Str) (mean : ExcName → Option Value) (mg mb : Str → Option Value) (dp un : Nat) (gd : Option (List Code)) (cn : Str) (cs : Scope) (a : Addr) (ccd : Value) (cl : List (Str × Addr)) (outer : List Env) (A₀ : Around) (base h₀ : Heap) (L : Addr) (m : Str → Option Value) (s : Shared) (Q E : Value → Shared → Prop),
    Below A₀ base outer h₀ → Fr h₀ L s.heap m → (hd.heap_39 w.params).In h₀ → News h₀ L s.heap news → Top p loose mean mg mb h₀ → cs.kind = .function → dp + d < recursionLimit → un + 8 * d < cLine →
    (∀ D ys n h' tk', R ys → Fr h₀ L h' m → News h₀ L h' ((D, lob ys n) :: news) → Q (.ref D) { s with heap := h', toks := tk' }) →
    wpAny (model PySem.Challenge.rw_ph0124_01.row.prog w) (ktrTop dp un gd cn cs L a ccd cl outer) (call (.ref f) vs) Q E s

theorem does_told {w : World} (b0 b1 b2 b3 b4 b5 b6 : Int) (t0 t1 t2 t3 t4 t5 t6 : Tok) (al : Addr) (n : Nat) (news : List (Addr × Obj)) (hm : (al, lob [.int b0 t0, .int b1 t1, .int b2 t2, .int b3 t3, .int b4 t4, .int b5 t5, .int b6 t6] n) ∈ news) :
    DoesL w 2 113 [.ref al] news (fun ys => IntsAre ys (told b0 b1 b2 b3 b4 b5 b6)) := by
  unfold DoesL
  k_fill
  w_on
  intro p loose mean mg mb dp un gd cn cs a ccd cl outer A₀ base h₀ L m s Q E hB hF hX hN hT hcs hdp hun hret
  refine wpAny_call ?_
  k_dflt (refine' code_def ?k1 ?k2 ?k3 ?k4 ?k5 ?kA ?kF ?kK ?k6 ?k7 ?k8 ?k9 ?kB ?_ ?c2 ?c3 ?c4 ?c5; (case kA => exact rfl); (case kF => exact rfl); (case kK => assumption); (case k1 => k_asm); (case k2 => k_asm); (case k3 => k_asm); (case k4 => k_asm); (case k5 => k_asm); (case k6 => k_is); (case k7 => k_is); (case k8 => ktr_room); (case k9 => first | exact BindsTo.of_eq rfl | exact binds_K (by k_in) rfl (by k_is) rfl rfl rfl); (case c5 => decide); (case kB => exact locs rfl); (case c2 => exact rfl); (case c3 => exact rfl); (case c4 => exact rfl); k_whole; intro g1 L1 h1 FG1 F1 N1 B1 X1 T1; (try dsimp only); (try k_fold))
  k_steps
  refine hret _ _ _ _ _ ?_ (by k_asm) (by k_asm)
  exact .cons _ _ (.cons _ _ (.cons _ _ (.cons _ _ (.cons _ _ (.cons _ _ .nil)))))
end Mine

namespace Mine
open PySem.Spec PySem.Calls PyProof.Rows.LCg

def bodyOf : Stmt → List Stmt
  | .FunctionDef _ _ b _ _ _ _ _ _ _ => b
  | _ => []
def scopeOf : Stmt → Scope
  | .FunctionDef _ _ _ _ _ _ s _ _ _ => s
  | _ => default
def lawD : Stmt := (PySem.Challenge.pw_ph0124_01.main.body.getLast?).getD default
def lawB : List Stmt := bodyOf lawD
def lawS : Scope := scopeOf lawD
/-- the law's cells -/
abbrev lawC (c1 c2 c3 c4 c5 c6 c7 c8 : Addr) : List (Str × Addr) :=
  [(Str.ofString "row", c8), (Str.ofString "total", c7), (Str.ofString "tables", c6), (Str.ofString "hands", c5), (Str.ofString "turned", c4), (Str.ofString "sign", c3), (Str.ofString "text", c2), (Str.ofString "signs", c1)]
/-- the law from its k-th statement on goes well -/
structure Goes (w : World) (dp un : Nat) (gd : Option (List Code)) (fa : Addr) (ccd : Value) (L c1 c2 c3 c4 c5 c6 c7 c8 : Addr) (Q : Flow → Shared → Prop) (E : Value → Shared → Prop) (k : Nat) (s : Shared) : Prop where
  out : wpAny (model PySem.Challenge.rw_ph0124_01.row.prog w) (ktrTop dp un gd (Str.ofString "law") lawS L fa ccd (lawC c1 c2 c3 c4 c5 c6 c7 c8) []) (execs (lawB.drop k) (envX (Str.ofString "law") lawS L fa ccd (lawC c1 c2 c3 c4 c5 c6 c7 c8))) Q E s
/-- one statement of the law; what is behind it stays a word -/
theorem law_step {w : World} {dp un : Nat} {gd : Option (List Code)} {fa : Addr} {ccd : Value} {L c1 c2 c3 c4 c5 c6 c7 c8 : Addr} {Q : Flow → Shared → Prop} {E : Value → Shared → Prop} {s : Shared} (k k' : Nat) {st : Stmt} (e : lawB.drop k = st :: lawB.drop k')
    (h : wpAny (model PySem.Challenge.rw_ph0124_01.row.prog w) (ktrTop dp un gd (Str.ofString "law") lawS L fa ccd (lawC c1 c2 c3 c4 c5 c6 c7 c8) []) (exec st (envX (Str.ofString "law") lawS L fa ccd (lawC c1 c2 c3 c4 c5 c6 c7 c8)))
      (fun f s' => match f with | .next => Goes w dp un gd fa ccd L c1 c2 c3 c4 c5 c6 c7 c8 Q E k' s' | f => Q f s') E s) : Goes w dp un gd fa ccd L c1 c2 c3 c4 c5 c6 c7 c8 Q E k s := by
  constructor
  rw [e]
  refine wpAny_execs_cons (wpAny_mono h (fun f s' hf => ?_) fun _ _ x => x)
  cases f with
  | next => exact hf.out
  | _ => exact hf
end Mine

namespace Mine
open PySem.Spec PySem.Calls PyProof.Rows.LCg

theorem nameB_own {M : Model} {A : Around} {E : Value → Shared → Prop} {s : Shared} {K : Frag} {h₀ : Heap} {L : Addr} {m mg mb : Str → Option Value} {env : Env} {p : Program} {loose : List Str}
    {x : Str} {pos : Pos} {v : Value} {Q : Value → Shared → Prop} (F : Fr h₀ L s.heap m) (X : K.In h₀) (T : TopRead p loose mg mb h₀) (e : nsIn K mainGlobals x = some none) (hv : bootBuiltins x = some v) (hn : x ≠ "__name__") (h : Q v s)
    (hg : env.globals = mainGlobals) (hb : env.builtins = builtinsNs) (hk : env.scope.kind = .function) (hx : env.kindOf x = some .globalImplicit) (hd : (x == ("__debug__" : Str)) = false) :
    wpAny M A (eval (.Name x pos) env) Q E s :=
  Calls.Name_function_global hk hx (Calls.loadGlobal_builtin (env := env) (by rw [hg]; exact T.g.keeps F.keep) (mg_none_of X T.g e) (by rw [hb]; exact T.b.keeps F.keep) ((T.builtins x hn).trans hv) h) hd

/-- the sign that a number draws -/
def sgn (n : Int) : Nat := [38, 60, 62, 34, 13, 10, 9, 97, 59].getD (Int.fmod n 9).toNat 0

theorem fmod_range (n : Int) (k : Int) (hk : 0 < k) : 0 ≤ Int.fmod n k ∧ Int.fmod n k < k := ⟨fmod_lo n hk, fmod_hi n hk⟩

theorem item_sgn (n : Int) : Txt.item (Str.ofString "&<>\"\r\n\ta;") (Int.fmod n 9) = ⟨#[sgn n]⟩ := by
  have h := fmod_range n 9 (by decide)
  unfold sgn
  generalize Int.fmod n 9 = k at h
  obtain rfl | rfl | rfl | rfl | rfl | rfl | rfl | rfl | rfl : k = 0 ∨ k = 1 ∨ k = 2 ∨ k = 3 ∨ k = 4 ∨ k = 5 ∨ k = 6 ∨ k = 7 ∨ k = 8 := by omega
  all_goals decide +kernel

abbrev IsTx (l : List Nat) (v : Value) : Prop := ∃ t, v = .str (tx l) t
abbrev IsIn (i : Int) (v : Value) : Prop := ∃ t, v = .int i t

theorem paired_map {α β γ : Type} {G : α → γ → Prop} {H : β → γ → Prop} (f : α → β) : ∀ {l : List α} {vs : List γ}, Paired G l vs → (∀ a v, a ∈ l → G a v → H (f a) v) → Paired H (l.map f) vs
  | _, _, .nil, _ => .nil
  | _, _, .cons g r, h => .cons (h _ _ (List.mem_cons_self ..) g) (paired_map f r fun a v ha => h a v (List.mem_cons_of_mem _ ha))
theorem paired_strs : ∀ {ls : List (List Nat)} {vs : List Value}, Paired IsTx ls vs → StrsAre vs (ls.map tx)
  | _, _, .nil => .nil
  | _, _, .cons ⟨t, e⟩ r => by subst e; exact .cons _ t (paired_strs r)
theorem paired_ints : ∀ {is : List Int} {vs : List Value}, Paired IsIn is vs → IntsAre vs is
  | _, _, .nil => .nil
  | _, _, .cons ⟨t, e⟩ r => by subst e; exact .cons _ t (paired_ints r)
theorem filter_all (n : Nat) : (List.range n).filter (fun _ => true) = List.range n := by simp

theorem flat_ones (f : Int → Nat) : ∀ l : List Int, (List.map (fun i => [f (l.getD i 0)]) (List.range l.length)).flatten = l.map f
  | [] => rfl
  | a :: r => by
    have ih := flat_ones f r
    rw [List.length_cons, List.range_succ_eq_map, List.map_cons, List.flatten_cons, List.map_map]
    have : ((fun i => [f ((a :: r).getD i 0)]) ∘ Nat.succ) = fun i => [f (r.getD i 0)] := by funext i; simp
    rw [this, ih]; rfl

theorem join_tx (ls : List (List Nat)) : Txt.join (Str.ofString "") (ls.map tx) = tx ls.flatten := by
  show Builtin.Str.glued (Str.ofString "") (ls.map tx) = _
  rw [StrLaws.glued_eq_join]
  have e0 : Str.ofString "" = Str.empty := by decide +kernel
  rw [e0]
  induction ls with
  | nil => rfl
  | cons a r ih =>
    cases r with
    | nil => show tx a = _; simp
    | cons b r =>
      show tx a ++ Str.empty ++ Str.join Str.empty ((b :: r).map tx) = _
      rw [ih, Str.append_empty, tx_append]
      simp

theorem join_own {prog : Program} {w : World} {A : Around} {E : Value → Shared → Prop} {s : Shared} {h₀ : Heap} {L D : Addr} {led : List (Addr × Obj)} {vs : List Value} {n : Nat} {t : Tok} {Q : Value → Shared → Prop} {ls : List (List Nat)} (l : List Nat) (hfl : ls.flatten = l)
    (N : News h₀ L s.heap led) (hm : (D, lob vs n) ∈ led) (hp : Paired IsTx ls vs) (hw : (ls.map (·.length)).sum + ls.length ≤ 1048576) (h : ∀ t' k, Q (.str (tx l) t') { s with toks := k }) :
    wpAny (model prog w) A (call (.builtin "str.join") [.str (Str.ofString "") t, .ref D]) Q E s := by
  subst hfl
  refine join_listW (items := vs.toArray) (ys := ls.map tx) ⟨_, (N _ hm).1, rfl, n, rfl⟩ (by simpa using paired_strs hp) (by decide) ?_ ?_
  · rw [List.map_map, List.length_map]
    have : ((fun x : Str => x.length) ∘ tx) = fun l : List Nat => l.length := by funext l; exact tx_length l
    rw [this]; exact hw
  · intro t' k; rw [join_tx]; exact h t' k
end Mine

namespace Mine
open PySem.Spec PySem.Calls PyProof.Rows.LCg

/-- the law's five tables -/
def tab : Nat → List (Nat × List Nat)
  | 0 => [(60, [108, 116, 59]), (62, [103, 116, 59])]
  | 1 => [(60, [108, 116, 59]), (62, [103, 116, 59]), (34, [113, 117, 111, 116, 59]), (13, [35, 49, 51, 59]), (10, [35, 49, 48, 59]), (9, [35, 48, 57, 59])]
  | 2 => [(62, [103, 116, 59]), (34, [113, 117, 111, 116, 59])]
  | 3 => [(60, [108, 116, 59]), (62, [103, 116, 59]), (13, [35, 120, 68, 59])]
  | _ => [(60, [108, 116, 59]), (34, [113, 117, 111, 116, 59]), (13, [35, 120, 68, 59]), (10, [35, 120, 65, 59]), (9, [35, 120, 57, 59])]
/-- what a dict says of a sign, by a table -/
def TabV (tb : List (Nat × List Nat)) (kvs : List (Str × Value)) : Prop := ∀ c : Nat, match tb.lookup c with
  | some z => ∃ t, valueAt kvs (⟨#[c]⟩ : Str) = some (.str (tx z) t)
  | none => valueAt kvs (⟨#[c]⟩ : Str) = none
theorem TabV.nil : TabV [] [] := fun _ => rfl
theorem TabV.cons {tb : List (Nat × List Nat)} {kvs : List (Str × Value)} {cS zS : Str} {c : Nat} {z : List Nat} {t : Tok} (hc : cS = ⟨#[c]⟩) (hz : zS = tx z) (h : TabV tb kvs) : TabV ((c, z) :: tb) ((cS, .str zS t) :: kvs) := by
  subst hc hz
  intro d
  have hd := h d
  rw [List.lookup_cons]
  by_cases e : d = c
  · subst e
    simp only [beq_self_eq_true]
    exact ⟨t, by simp [valueAt]⟩
  · have e1 : (d == c) = false := by simpa using e
    have e2 : ¬ c = d := fun q => e q.symm
    rw [e1]
    have e3 : valueAt ((⟨#[c]⟩, Value.str (tx z) t) :: kvs) (⟨#[d]⟩ : Str) = valueAt kvs ⟨#[d]⟩ := by
      unfold valueAt
      rw [List.find?_cons]
      simp [e2]
    rw [e3]
    exact hd
/-- the object is the i-th table -/
def TabO (w : World) (i : Nat) (d : Addr) (o : Obj) : Prop := (d == sysModules) = false ∧ ∃ kvs : List (Str × Value), o.IsDictOf (strKind PySem.Challenge.rw_ph0124_01.row.prog w) kvs ∧ TabV (tab i) kvs

theorem tg9 : Str.ofString "\t" = ⟨#[9]⟩ := by decide +kernel
theorem tg10 : Str.ofString "\n" = ⟨#[10]⟩ := by decide +kernel
theorem tg13 : Str.ofString "\r" = ⟨#[13]⟩ := by decide +kernel
theorem tg34 : Str.ofString "\"" = ⟨#[34]⟩ := by decide +kernel
theorem tg60 : Str.ofString "<" = ⟨#[60]⟩ := by decide +kernel
theorem tg62 : Str.ofString ">" = ⟨#[62]⟩ := by decide +kernel
theorem tz0 : Str.ofString "lt;" = tx [108, 116, 59] := by decide +kernel
theorem tz1 : Str.ofString "gt;" = tx [103, 116, 59] := by decide +kernel
theorem tz2 : Str.ofString "quot;" = tx [113, 117, 111, 116, 59] := by decide +kernel
theorem tz3 : Str.ofString "#13;" = tx [35, 49, 51, 59] := by decide +kernel
theorem tz4 : Str.ofString "#10;" = tx [35, 49, 48, 59] := by decide +kernel
theorem tz5 : Str.ofString "#09;" = tx [35, 48, 57, 59] := by decide +kernel
theorem tz6 : Str.ofString "#xD;" = tx [35, 120, 68, 59] := by decide +kernel
theorem tz7 : Str.ofString "#xA;" = tx [35, 120, 65, 59] := by decide +kernel
theorem tz8 : Str.ofString "#x9;" = tx [35, 120, 57, 59] := by decide +kernel
theorem tabv0 (t0 t1 : Tok) : TabV (tab 0) [(Str.ofString "<", .str (Str.ofString "lt;") t0), (Str.ofString ">", .str (Str.ofString "gt;") t1)] :=
  (.cons tg60 tz0 (.cons tg62 tz1 .nil))
theorem tabv1 (t0 t1 t2 t3 t4 t5 : Tok) : TabV (tab 1) [(Str.ofString "<", .str (Str.ofString "lt;") t0), (Str.ofString ">", .str (Str.ofString "gt;") t1), (Str.ofString "\"", .str (Str.ofString "quot;") t2), (Str.ofString "\r", .str (Str.ofString "#13;") t3), (Str.ofString "\n", .str (Str.ofString "#10;") t4), (Str.ofString "\t", .str (Str.ofString "#09;") t5)] :=
  (.cons tg60 tz0 (.cons tg62 tz1 (.cons tg34 tz2 (.cons tg13 tz3 (.cons tg10 tz4 (.cons tg9 tz5 .nil))))))
theorem tabv2 (t0 t1 : Tok) : TabV (tab 2) [(Str.ofString ">", .str (Str.ofString "gt;") t0), (Str.ofString "\"", .str (Str.ofString "quot;") t1)] :=
  (.cons tg62 tz1 (.cons tg34 tz2 .nil))
theorem tabv3 (t0 t1 t2 : Tok) : TabV (tab 3) [(Str.ofString "<", .str (Str.ofString "lt;") t0), (Str.ofString ">", .str (Str.ofString "gt;") t1), (Str.ofString "\r", .str (Str.ofString "#xD;") t2)] :=
  (.cons tg60 tz0 (.cons tg62 tz1 (.cons tg13 tz6 .nil)))
theorem tabv4 (t0 t1 t2 t3 t4 : Tok) : TabV (tab 4) [(Str.ofString "<", .str (Str.ofString "lt;") t0), (Str.ofString "\"", .str (Str.ofString "quot;") t1), (Str.ofString "\r", .str (Str.ofString "#xD;") t2), (Str.ofString "\n", .str (Str.ofString "#xA;") t3), (Str.ofString "\t", .str (Str.ofString "#x9;") t4)] :=
  (.cons tg60 tz0 (.cons tg34 tz2 (.cons tg13 tz6 (.cons tg10 tz7 (.cons tg9 tz8 .nil)))))
end Mine

namespace Mine
open PySem.Spec PySem.Calls PyProof.Rows.LCg

/-- what the ledger bears behind the law's first seven statements -/
structure Ph (w : World) (c2 c4 c5 c6 c8 : Addr) (news : List (Addr × Obj)) (l tr : List Nat) (rs : List Nat) : Prop where
  text : ∃ o t, (c2, o) ∈ news ∧ o.data = .cell (some (.str (tx l) t))
  turned : ∃ o t, (c4, o) ∈ news ∧ o.data = .cell (some (.str (tx tr) t))
  hands : ∃ o ah n, (c5, o) ∈ news ∧ o.data = .cell (some (.ref ah)) ∧ (ah, lob handsV n) ∈ news
  tables : ∃ o ta a0 a1 a2 a3 a4 q0 q1 q2 q3 q4 k, (c6, o) ∈ news ∧ o.data = .cell (some (.ref ta)) ∧ (ta, lob [.ref a0, .ref a1, .ref a2, .ref a3, .ref a4] k) ∈ news ∧
    ((a0, q0) ∈ news ∧ TabO w 0 a0 q0) ∧ ((a1, q1) ∈ news ∧ TabO w 1 a1 q1) ∧ ((a2, q2) ∈ news ∧ TabO w 2 a2 q2) ∧ ((a3, q3) ∈ news ∧ TabO w 3 a3 q3) ∧ ((a4, q4) ∈ news ∧ TabO w 4 a4 q4)
  row : ∃ o ar rv n, (c8, o) ∈ news ∧ o.data = .cell (some (.ref ar)) ∧ (ar, lob rv n) ∈ news ∧ IntsAre rv (rs.map fun r : Nat => (r : Int))

/-- the seven ways -/
def waysL : List (List Nat) := [[], [0], [0, 0], [2], [2, 2], [3], [1]]
def WayAt (news : List (Addr × Obj)) (r : List Nat) (v : Value) : Prop := ∃ a vs n, v = .ref a ∧ (a, lob vs n) ∈ news ∧ IntsAre vs (r.map fun i : Nat => (i : Int))
def Ways (news : List (Addr × Obj)) (aw : Addr) : Prop := ∃ ws n, (aw, lob ws n) ∈ news ∧ Paired (WayAt news) waysL ws
end Mine

namespace Mine
open PySem.Spec PySem.Calls PyProof.Rows.LCg

/-- n times amp; -/
def amps : Nat → List Nat
  | 0 => []
  | n + 1 => [97, 109, 112, 59] ++ amps n
/-- the sign by the tables of the row's hands -/
def sgnGo (c : Nat) : List Nat → List Nat
  | [] => [c]
  | r :: rs => match (tab r).lookup c with
    | some z => [38] ++ amps rs.length ++ z
    | none => sgnGo c rs
def signOf (rs : List Nat) (c : Nat) : List Nat := if c = 38 then [38] ++ amps rs.length else sgnGo c rs

theorem foldl_amps (acc : Array Nat) : ∀ k : Nat, ((List.replicate k #[97, 109, 112, 59]).foldl (· ++ ·) acc).toList = acc.toList ++ amps k
  | 0 => by simp [amps]
  | k + 1 => by
    rw [List.replicate_succ, List.foldl_cons, foldl_amps _ k, amps]
    simp
theorem mul_amps (n : Int) : Txt.mul (Str.ofString "amp;") n = tx (amps n.toNat) := by
  have e : Str.ofString "amp;" = ⟨#[97, 109, 112, 59]⟩ := by decide +kernel
  rw [e]
  unfold Txt.mul
  split
  · have : n.toNat = 0 := by omega
    rw [this]; rfl
  · split
    · rename_i h1 h2
      have h3 : n = 1 := by simpa [Str.length] using h2
      subst h3; rfl
    · apply Str.ext'
      apply Array.toList_inj.mp
      exact foldl_amps #[] n.toNat
theorem amps_len : ∀ n, (amps n).length = 4 * n
  | 0 => rfl
  | n + 1 => by rw [amps, List.length_append, amps_len n]; simp; omega
section
variable {prog : Program} {w : World} {A : Around} {E : Value → Shared → Prop} {s : Shared} {t u : Tok} {Q : Value → Shared → Prop}
theorem mul_amp {n : Int} (h0 : 0 ≤ n) (hn : n ≤ 100) (h : ∀ t' k, Q (.str (tx (amps n.toNat)) t') { s with toks := k }) : wpAny (model prog w) A (binaryOp .Mult (.str (Str.ofString "amp;") t) (.int n u)) Q E s :=
  SB.mul (mulOk_of 16 1000 (by decide +kernel) (by omega) (by omega) (by decide) (by decide)) fun t' k => by rw [mul_amps]; exact h t' k
theorem add_tx {x y : Str} (a b : List Nat) (hx : x = tx a) (hy : y = tx b) (hsz : a.length + b.length ≤ 10000) (h : ∀ t' k, Q (.str (tx (a ++ b)) t') { s with toks := k }) : wpAny (model prog w) A (binaryOp .Add (.str x t) (.str y u)) Q E s := by
  subst hx hy
  refine PyProof.Rows.add_str (fun t' k => ?_) (by rw [tx_length, tx_length, sizeLine_eq]; omega)
  rw [tx_append]; exact h t' k
end
theorem len_led {prog : Program} {w : World} {A : Around} {E : Value → Shared → Prop} {s : Shared} {h₀ : Heap} {L : Addr} {news : List (Addr × Obj)} {a : Addr} {vs : List Value} {n : Nat} {Q : Value → Shared → Prop} (k : Nat)
    (N : News h₀ L s.heap news) (hm : (a, lob vs n) ∈ news) (hk : vs.length = k) (hfit : k ≤ 1048576) (h : Q (.int (k : Int) (s.toks + 1)) { s with toks := s.toks + 1 + 1 }) : wpAny (model prog w) A (call (.builtin "len") [.ref a]) Q E s := by
  subst hk
  have hl : s.heap.IsList a vs.toArray := ⟨_, (N _ hm).1, rfl, n, rfl⟩
  refine len_list hl ?_ (by simpa using h)
  rw [List.size_toArray]; omega

theorem mem_of_lookup {c : Nat} {z : List Nat} : ∀ {tb : List (Nat × List Nat)}, tb.lookup c = some z → (c, z) ∈ tb
  | [], h => by cases h
  | (d, y) :: r, h => by
    rw [List.lookup_cons] at h
    cases e : c == d with
    | true => rw [e] at h; cases h; rw [eq_of_beq e]; exact List.mem_cons_self
    | false => rw [e] at h; exact List.mem_cons_of_mem _ (mem_of_lookup h)
theorem tab_len {r c : Nat} {z : List Nat} (hr : r < 5) (h : (tab r).lookup c = some z) : z.length ≤ 5 := by
  have a : ∀ r : Fin 5, ∀ q ∈ tab r.1, q.2.length ≤ 5 := by decide
  exact a ⟨r, hr⟩ _ (mem_of_lookup h)
theorem News.tail {h₀ : Heap} {L : Addr} {h : Heap} {q₀ : Addr × Obj} {nw : List (Addr × Obj)} (N : News h₀ L h (q₀ :: nw)) : News h₀ L h nw := fun q hq => N q (List.mem_cons_of_mem _ hq)
theorem lead1 {h₀ : Heap} {L : Addr} {h : Heap} {q₀ : Addr × Obj} {nw : List (Addr × Obj)} (N : News h₀ L h nw) (m : q₀ ∈ nw) : News h₀ L h (q₀ :: nw) := fun q hq => by
  rcases List.mem_cons.mp hq with rfl | hq
  · exact N _ m
  · exact N _ hq
theorem paired_at {α β : Type} {G : α → β → Prop} : ∀ {xs : List α} {ys : List β} {i : Nat} {x : α} {y : β}, Paired G xs ys → xs[i]? = some x → ys[i]? = some y → G x y
  | _, _, _, _, _, .nil, h, _ => by simp at h
  | _, _, 0, _, _, .cons g _, h, h' => by simp at h h'; subst h h'; exact g
  | _, _, _ + 1, _, _, .cons _ r, h, h' => paired_at r (by simpa using h) (by simpa using h')
/-- the five tables as a list's items -/
def TabsAre (w : World) (news : List (Addr × Obj)) (tl : List Value) : Prop := ∀ r, r < 5 → ∃ d o, tl[r]? = some (.ref d) ∧ (d, o) ∈ news ∧ TabO w r d o

theorem does_sign {w : World} (c : Nat) (t : Tok) (ar ta : Addr) (rs : List Nat) (vs tl : List Value) (n k : Nat) (news : List (Addr × Obj)) (hr : (ar, lob vs n) ∈ news) (ht : (ta, lob tl k) ∈ news) (hi : IntsAre vs (rs.map fun r : Nat => (r : Int)))
    (hTab : TabsAre w news tl) (h5 : ∀ r ∈ rs, r < 5) (hn : rs.length ≤ 100) : Does w 2 1 127 [.str (tx [c]) t, .ref ar, .ref ta] news (fun v => ∃ t', v = .str (tx (signOf rs c)) t') := by
  unfold Does
  k_fill
  w_on
  intro p loose mean mg mb dp un gd cn cs a ccd cl outer A₀ base h₀ L m s Q E hB hF hX hN hT hcs hk hdp hun hret
  refine wpAny_call ?_
  k_dflt (refine' code_def ?k1 ?k2 ?k3 ?k4 ?k5 ?kA ?kF ?kK ?k6 ?k7 ?k8 ?k9 ?kB ?_ ?c2 ?c3 ?c4 ?c5; (case kA => exact rfl); (case kF => exact rfl); (case kK => assumption); (case k1 => k_asm); (case k2 => k_asm); (case k3 => k_asm); (case k4 => k_asm); (case k5 => k_asm); (case k6 => k_is); (case k7 => k_is); (case k8 => ktr_room); (case k9 => first | exact BindsTo.of_eq rfl | exact binds_K (by k_in) rfl (by k_is) rfl rfl rfl); (case c5 => decide); (case kB => exact locs rfl); (case c2 => exact rfl); (case c3 => exact rfl); (case c4 => exact rfl); k_whole; intro g1 L1 h1 FG1 F1 N1 B1 X1 T1; (try dsimp only); (try k_fold))
  refine wpAny_execs_cons ?_
  walk1
  walk1
  walk1
  walk1
  walk1
  walk1
  split
  · rename_i hq
    have hc : c = 38 := by
      rw [sg38] at hq
      have := eq_of_beq hq
      simpa using this
    repeat (walk1; (try dsimp only))
    have hlen : vs.length = rs.length := by simpa using hi.length
    refine len_led rs.length (by k_asm) hr hlen (by omega) ?_
    try dsimp only
    refine mul_amp (by omega) (by omega) fun t1 k1 => ?_
    refine add_tx [38] (amps rs.length) sg38 (by simp) (by rw [amps_len]; simp; omega) fun t2 k2 => ?_
    repeat (walk1; (try dsimp only))
    refine hret _ _ _ ⟨t2, ?_⟩ (by k_asm) (by k_asm)
    unfold signOf
    rw [if_pos hc]
  · rename_i hq
    have hc : ¬ c = 38 := fun e => hq (by subst e; rw [sg38]; simp)
    have hlen : vs.length = rs.length := by simpa using hi.length
    walk1
    refine wpAny_execs_cons ?_
    refine For_own (h₀ := g1) (L := L1) (fun i m nw => nw = news ∧ (∃ t', m (Str.ofString "sign") = some (.str (tx [c]) t')) ∧ m (Str.ofString "row") = some (.ref ar) ∧ m (Str.ofString "tables") = some (.ref ta) ∧ sgnGo c (rs.drop i) = sgnGo c rs) ?_
    repeat (walk1; (try dsimp only))
    refine len_led rs.length (by k_asm) hr hlen (by omega) ?_
    repeat (walk1; (try dsimp only))
    unfold ForAt
    refine ⟨0, _, rs.length, _, news, _, by k_asm, by k_asm, Nat.zero_le _, Src.range rfl (by assumption) ?hs ?hz, ⟨rfl, ⟨t, rfl⟩, rfl, rfl, rfl⟩, fun _ _ _ _ => trivial, ?_, ?_⟩
    case hs => exact small_one (by omega) (by omega) (by omega) (by omega)
    case hz =>
      rw [rangeSize_nat]
      have : ((rs.length : Int) - 0).toNat = rs.length := by omega
      rw [this]
    · intro i v I oI m nw h tk E' hi' hP hJ F N off htk
      obtain ⟨rfl, ⟨t', hs⟩, hro, hta, hgo⟩ := hJ
      obtain ⟨u', rfl⟩ := hP
      rw [said m _ _ hs, said m _ _ hro, said m _ _ hta] at F
      have hri : rs[i]? = some rs[i] := List.getElem?_eq_getElem hi'
      have hr5 : rs[i] < 5 := h5 _ (List.getElem_mem hi')
      have hv : ∃ tv, vs[i]? = some (.int (rs[i] : Nat) tv) := by
        have hii : i < vs.length := by omega
        obtain ⟨r', tr, e, hri'⟩ := IntsAre.at hi i vs[i] (List.getElem?_eq_getElem hii)
        rw [List.getElem?_map, hri] at hri'
        cases hri'
        exact ⟨tr, by rw [List.getElem?_eq_getElem hii, e]⟩
      obtain ⟨tv, hv⟩ := hv
      obtain ⟨d, o, htl, hdo, hlo, kvs, hkv, htb⟩ := hTab _ hr5
      have hdrop : rs.drop i = rs[i] :: rs.drop (i + 1) := List.drop_eq_getElem_cons hi'
      refine wpAny_assign_Name ?_
      walk1
      dsimp only
      refine wpAny_execs_cons ?_
      walk1
      repeat (walk1; (try dsimp only))
      have e0 : (0 + (i : Int)).toNat = i := by omega
      have er : ((rs[i] : Nat) : Int).toNat = rs[i] := Int.toNat_natCast _
      refine item_led (by k_asm) (List.mem_cons_of_mem _ hr) (by omega) (by omega) (by rw [e0]; exact hv) ?_
      refine item_led (by k_asm) (List.mem_cons_of_mem _ ht) (by omega) (by omega) (by rw [er]; exact htl) ?_
      have hl := htb c
      cases hz : (tab rs[i]).lookup c with
      | some z =>
        rw [hz] at hl
        obtain ⟨tz, hl⟩ := hl
        refine kda_in (by k_asm) (List.mem_cons_of_mem _ hdo) hkv hlo (strKind_is _ _ _ _) true (by rw [hl]; rfl) ?_
        repeat (walk1; (try dsimp only))
        refine len_led rs.length (by k_asm) (List.mem_cons_of_mem _ hr) hlen (by omega) ?_
        try dsimp only
        walk1
        walk1
        walk1
        walk1
        try dsimp only
        refine mul_amp (by omega) (by omega) fun t1 k1 => ?_
        have eN : ((rs.length : Int) - (0 + (i : Int)) - 1).toNat = (rs.drop (i + 1)).length := by rw [List.length_drop]; omega
        rw [eN]
        refine add_tx [38] (amps (rs.drop (i + 1)).length) sg38 rfl (by rw [amps_len, List.length_drop]; simp; omega) fun t2 k2 => ?_
        repeat (walk1; (try dsimp only))
        refine item_led (by k_asm) (List.mem_cons_of_mem _ hr) (by omega) (by omega) (by rw [e0]; exact hv) ?_
        refine item_led (by k_asm) (List.mem_cons_of_mem _ ht) (by omega) (by omega) (by rw [er]; exact htl) ?_
        repeat (walk1; (try dsimp only))
        refine kda_item (by k_asm) (List.mem_cons_of_mem _ hdo) hkv (strKind_is _ _ _ _) hl ?_
        have hzl := tab_len hr5 hz
        refine add_tx _ z rfl rfl (by rw [List.length_append, amps_len, List.length_drop]; simp; omega) fun t3 k3 => ?_
        unfold TurnEnd
        dsimp only
        k_steps
        refine hret _ _ _ ⟨t3, ?_⟩ (by k_asm) (News.tail (q₀ := (I, oI)) (by k_asm))
        unfold signOf
        rw [if_neg hc, ← hgo, hdrop, sgnGo, hz]
      | none =>
        rw [hz] at hl
        dsimp only at hl
        refine kda_in (by k_asm) (List.mem_cons_of_mem _ hdo) hkv hlo (strKind_is _ _ _ _) false (by rw [hl]; rfl) ?_
        repeat (walk1; (try dsimp only))
        refine ⟨_, _, _, nw, rfl, by k_asm, by k_asm, off, rfl, ⟨_, rfl⟩, rfl, rfl, ?_⟩
        rw [← hgo, hdrop, sgnGo, hz]
    · intro h tk m' nw F N htk hJ
      obtain ⟨rfl, ⟨t', hs⟩, _, _, hgo⟩ := hJ
      rw [said m' _ _ hs] at F
      k_steps
      refine hret _ _ _ ⟨t', ?_⟩ (by k_asm) (by k_asm)
      unfold signOf
      rw [if_neg hc, ← hgo, List.drop_length]; rfl
end Mine

namespace Mine
open PySem.Spec PySem.Calls PyProof.Rows.LCg

theorem said2 (m : Str → Option Value) (x : Str) (v : Value) (y : Str) (u : Value) (h : m x = some v) (h' : m y = some u) : m = fun z => if z = x then some v else if z = y then some u else m z := by
  funext z
  by_cases e : z = x
  · rw [if_pos e, e, h]
  · rw [if_neg e]
    by_cases e' : z = y
    · rw [if_pos e', e', h']
    · rw [if_neg e']
theorem ne_led {prog : Program} {w : World} {A : Around} {E : Value → Shared → Prop} {s : Shared} {h₀ : Heap} {L a b : Addr} {news : List (Addr × Obj)} {vs us : List Value} {n k : Nat} {ns ms : List Int} {Q : Value → Shared → Prop} (N : News h₀ L s.heap news)
    (ha : (a, lob vs n) ∈ news) (hi : IntsAre vs ns) (hb : (b, lob us k) ∈ news) (hi' : IntsAre us ms) (hu : A.units + 64 < cLine) (e : ns = ms) (h : Q (.bool false) s) : wpAny (model prog w) A (compareOp .NotEq (.ref a) (.ref b)) Q E s := by
  refine ne_intsK ⟨_, (N _ ha).1, rfl, n, rfl⟩ hi ⟨_, (N _ hb).1, rfl, k, rfl⟩ hi' hu ?_
  rw [decide_eq_true e]; exact h

theorem cnt_count (c : Nat) : ∀ l : List Nat, cnt c l = (l.count c : Nat)
  | [] => rfl
  | d :: r => by
    have ih := cnt_count c r
    rw [cnt_cons, ih, List.count_cons]
    by_cases e : d = c
    · subst e; simp; omega
    · simp [e]
theorem count_tx (l : List Nat) (x : Str) (c : Nat) (hx : x = ⟨#[c]⟩) : Txt.count (tx l) x = (l.count c : Nat) := by
  subst hx
  rw [count_cnt, tx_cps, cnt_count]
/-- the nine signs -/
abbrev alph : List Nat := [38, 60, 62, 34, 13, 10, 9, 97, 59]
/-- the signs that a hand writes -/
abbrev kinds : List Nat := [38, 60, 62, 34, 13, 10, 9]
theorem apart_pairs : ∀ r : Fin 5, apart (pairs r.1) = true := by decide
theorem esc_eq {r : Nat} (h : r < 5) (l : List Nat) : esc r l = l.flatMap (look (pairs r)) := reps_eq _ (apart_pairs ⟨r, h⟩) l
theorem esc_append {r : Nat} (h : r < 5) (a b : List Nat) : esc r (a ++ b) = esc r a ++ esc r b := by
  rw [esc_eq h, esc_eq h, esc_eq h, List.flatMap_append]
theorem look_38 : ∀ r : Fin 5, look (pairs r.1) 38 = [38, 97, 109, 112, 59] := by decide
theorem keys_kinds : ∀ r : Fin 5, ∀ q ∈ pairs r.1, q.1 ∈ kinds := by decide
theorem look_other {r : Nat} (h : r < 5) {c : Nat} (hc : c ∉ kinds) : look (pairs r) c = [c] := by
  have : (pairs r).lookup c = none := by
    rw [List.lookup_eq_none_iff]
    intro q hq
    have := keys_kinds ⟨r, h⟩ q hq
    simp only [bne_iff_ne, ne_eq]
    intro e; subst e; exact hc this
  simp [look, this]
theorem esc_free {r : Nat} (h : r < 5) {x : List Nat} (hx : ∀ c ∈ x, c ∉ kinds) : esc r x = x := by
  rw [esc_eq h]
  induction x with
  | nil => rfl
  | cons c x ih =>
    rw [List.flatMap_cons, look_other h (hx c List.mem_cons_self), ih fun d hd => hx d (List.mem_cons_of_mem _ hd)]
    rfl
theorem wr_append : ∀ {rs : List Nat}, (∀ r ∈ rs, r < 5) → ∀ a b, wr rs (a ++ b) = wr rs a ++ wr rs b
  | [], _, _, _ => rfl
  | r :: rs, h, a, b => by
    show wr rs (esc r (a ++ b)) = wr rs (esc r a) ++ wr rs (esc r b)
    rw [esc_append (h r List.mem_cons_self), wr_append fun q hq => h q (List.mem_cons_of_mem _ hq)]
theorem wr_nil (rs : List Nat) (h : ∀ r ∈ rs, r < 5) : wr rs [] = [] := by
  have := wr_append h [] []
  rw [List.append_nil] at this
  have e := congrArg List.length this
  rw [List.length_append] at e
  exact List.length_eq_zero_iff.mp (by omega)
theorem amps_free : ∀ n, ∀ c ∈ amps n, c ∉ kinds
  | 0, c, h => by cases h
  | n + 1, c, h => by
    rw [amps] at h
    rcases List.mem_append.mp h with h | h
    · have a : ∀ c ∈ [97, 109, 112, 59], c ∉ kinds := by decide
      exact a c h
    · exact amps_free n c h
theorem amps_add (a b : Nat) : amps a ++ amps b = amps (a + b) := by
  induction a with
  | zero => simp [amps]
  | succ a ih => rw [show a + 1 + b = (a + b) + 1 by omega, amps, amps, ← ih, List.append_assoc]
theorem wr_38 : ∀ {rs : List Nat}, (∀ r ∈ rs, r < 5) → ∀ x : List Nat, (∀ c ∈ x, c ∉ kinds) → wr rs ([38] ++ x) = [38] ++ amps rs.length ++ x
  | [], _, x, _ => rfl
  | r :: rs, h, x, hx => by
    have hr := h r List.mem_cons_self
    show wr rs (esc r ([38] ++ x)) = _
    have e : esc r ([38] ++ x) = [38] ++ ([97, 109, 112, 59] ++ x) := by
      rw [esc_append hr, esc_free hr hx, esc_eq hr]
      show look (pairs r) 38 ++ [] ++ x = _
      rw [look_38 ⟨r, hr⟩]; rfl
    rw [e, wr_38 (fun q hq => h q (List.mem_cons_of_mem _ hq)) _ (by
      intro c hc
      rcases List.mem_append.mp hc with hc | hc
      · have a : ∀ c ∈ [97, 109, 112, 59], c ∉ kinds := by decide
        exact a c hc
      · exact hx c hc)]
    have e2 : amps rs.length ++ [97, 109, 112, 59] = amps (rs.length + 1) := amps_add rs.length 1
    rw [List.length_cons, ← e2]
    simp only [List.append_assoc]
theorem look_tab : ∀ r : Fin 5, ∀ c ∈ alph, c ≠ 38 → look (pairs r.1) c = match (tab r.1).lookup c with | some z => [38] ++ z | none => [c] := by decide
theorem tab_free : ∀ r : Fin 5, ∀ q ∈ tab r.1, ∀ c ∈ q.2, c ∉ kinds := by decide
theorem wr_sign {c : Nat} (hc : c ∈ alph) (h38 : c ≠ 38) : ∀ {rs : List Nat}, (∀ r ∈ rs, r < 5) → wr rs [c] = sgnGo c rs
  | [], _ => rfl
  | r :: rs, h => by
    have hr := h r List.mem_cons_self
    have h' : ∀ q ∈ rs, q < 5 := fun q hq => h q (List.mem_cons_of_mem _ hq)
    show wr rs (esc r [c]) = _
    rw [esc_eq hr, List.flatMap_cons, List.flatMap_nil, List.append_nil, look_tab ⟨r, hr⟩ c hc h38, sgnGo]
    cases hz : (tab r).lookup c with
    | some z =>
      dsimp only
      rw [wr_38 h' z fun d hd => tab_free ⟨r, hr⟩ _ (mem_of_lookup hz) d hd]
    | none => exact wr_sign hc h38 h'
theorem wr_one {rs : List Nat} (h : ∀ r ∈ rs, r < 5) {c : Nat} (hc : c ∈ alph) : wr rs [c] = signOf rs c := by
  unfold signOf
  by_cases e : c = 38
  · rw [if_pos e, e]
    have := wr_38 h [] (by intro c hc; cases hc)
    simpa using this
  · rw [if_neg e, wr_sign hc e h]
/-- the row writes the text sign by sign -/
theorem wr_eq {rs : List Nat} (h : ∀ r ∈ rs, r < 5) : ∀ {l : List Nat}, (∀ c ∈ l, c ∈ alph) → wr rs l = l.flatMap (signOf rs)
  | [], _ => wr_nil rs h
  | c :: l, hl => by
    have e := wr_append h [c] l
    rw [List.flatMap_cons, ← wr_one h (hl c List.mem_cons_self), ← wr_eq h fun d hd => hl d (List.mem_cons_of_mem _ hd)]
    exact e
theorem sgnGo_len (c : Nat) : ∀ {rs : List Nat}, (∀ r ∈ rs, r < 5) → (sgnGo c rs).length ≤ 6 + 4 * rs.length
  | [], _ => by simp [sgnGo]
  | r :: rs, h => by
    have ih := sgnGo_len c fun q hq => h q (List.mem_cons_of_mem _ hq)
    rw [sgnGo, List.length_cons]
    cases hz : (tab r).lookup c with
    | some z =>
      have := tab_len (h r List.mem_cons_self) hz
      simp only [List.length_append, amps_len, List.length_cons, List.length_nil]
      omega
    | none => dsimp only; omega
theorem signOf_len {rs : List Nat} (h : ∀ r ∈ rs, r < 5) (c : Nat) : (signOf rs c).length ≤ 6 + 4 * rs.length := by
  unfold signOf
  split
  · simp only [List.length_append, amps_len, List.length_cons, List.length_nil]; omega
  · exact sgnGo_len c h
theorem wr_len {rs : List Nat} (h : ∀ r ∈ rs, r < 5) {l : List Nat} (hl : ∀ c ∈ l, c ∈ alph) : (wr rs l).length ≤ (6 + 4 * rs.length) * l.length := by
  rw [wr_eq h hl]
  exact flatMap_len_le (signOf_len h) l
theorem wr_bound {rs : List Nat} (h : ∀ r ∈ rs, r < 5) (hr : rs.length ≤ 5) {l : List Nat} (hl : ∀ c ∈ l, c ∈ alph) (h10 : l.length ≤ 10) (j : Nat) : (wr (rs.take j) l).length ≤ 1000 := by
  have h1 := wr_len (rs := rs.take j) (fun r q => h r (List.mem_of_mem_take q)) hl
  have h2 : (rs.take j).length ≤ 5 := by rw [List.length_take]; omega
  have h3 : (6 + 4 * (rs.take j).length) * l.length ≤ 26 * 10 := Nat.mul_le_mul (by omega) h10
  omega
end Mine

namespace Mine
open PySem.Spec PySem.Calls PyProof.Rows.LCg

theorem law_0 {w : World} {p : Program} {loose : List Str} {mean : ExcName → Option Value} {mg mb : Str → Option Value} {dp un : Nat} {gd : Option (List Code)} {fa : Addr} {ccd : Value} {A₀ : Around} {base h₀ : Heap} {L : Addr} {s : Shared} {m : Str → Option Value} {c1 c2 c3 c4 c5 c6 c7 c8 : Addr} {Q : Flow → Shared → Prop} {E : Value → Shared → Prop}
    (B : Below A₀ base [] h₀) (F : Fr h₀ L s.heap m) (X : (hd.heap_39 w.params).In h₀) (T : Top p loose mean mg mb h₀) (hdp : dp + 5 < recursionLimit) (hun : un + 100 < cLine)
    (e1 : @LT.lt Nat _ c1 c2) (e2 : @LT.lt Nat _ c2 c3) (e3 : @LT.lt Nat _ c3 c4) (e4 : @LT.lt Nat _ c4 c5) (e5 : @LT.lt Nat _ c5 c6) (e6 : @LT.lt Nat _ c6 c7) (e7 : @LT.lt Nat _ c7 c8)
    {a : Addr} {vs : List Value} {ns : List Int} {o1 o2 o3 o4 o5 o6 o7 o8 : Obj} (hm : m (Str.ofString "script") = some (.ref a)) (hl : h₀.IsList a vs.toArray) (hi : IntsAre vs ns) (hn : ns.length ≤ 63)
    (N : News h₀ L s.heap [(c8, o8), (c7, o7), (c6, o6), (c5, o5), (c4, o4), (c3, o3), (c2, o2), (c1, o1)])
    (d1 : o1.data = .cell none) (d2 : o2.data = .cell none)
    (K : ∀ (h : Heap) (tk : Nat) (o2 : Obj) (t : Tok), Fr h₀ L h m → News h₀ L h [(c8, o8), (c7, o7), (c6, o6), (c5, o5), (c4, o4), (c3, o3), (c2, o2)] → o2.data = .cell (some (.str (tx ((ns.take 7 ++ [4, 2, 12]).map sgn)) t)) → 1 ≤ tk → Goes w dp un gd fa ccd L c1 c2 c3 c4 c5 c6 c7 c8 Q E 2 { s with heap := h, toks := tk }) :
    Goes w dp un gd fa ccd L c1 c2 c3 c4 c5 c6 c7 c8 Q E 0 s := by
  refine law_step 0 1 rfl ?_
  revert X
  k_fill
  intro X
  w_on
  have em := said m _ _ hm
  rw [em] at F
  walk1
  walk1
  walk1
  dsimp only
  refine law_step 1 2 rfl ?_
  walk1
  walk1
  walk1
  walk1
  walk1
  walk1
  refine ListComp_own (h₀ := h₀) (L := L) (by k_asm) (fun _ => true) (fun i v => IsTx [sgn ((ns.take 7 ++ [4, 2, 12]).getD i 0)] v) (by with_unfolding_all rfl) (by decide) rfl (by decide) rfl ?_
  repeat walk1
  rename IntsAre _ (ns.take 7 ++ [4, 2, 12]) => hI
  have hlen := hI.length
  have hlen' : (ns.take 7 ++ [4, 2, 12]).length ≤ 10 := by
    simp only [List.length_append, List.length_take, List.length_cons, List.length_nil]
    omega
  refine CompAt.intro 1 (by k_asm) (by k_asm) (.inr ⟨_, by k_mem, rfl, _, rfl⟩) (by dsimp only; omega) ?hsz (Src.list (m := _) rfl (by k_asm) (by k_asm) (.inr ⟨_, by k_mem, rfl, _, rfl⟩)) (Turns.plain ?tt) ?ff
  case hsz =>
    rw [List.size_toArray, hlen, sizeLine_eq]
    omega
  case tt =>
    intro i v I oI C oC D m₂ ys h tk₀ tk E' hi hP hle hC hx F N htk
    have hP' : _ := hP
    rw [List.getElem?_toArray] at hP'
    obtain ⟨n, tn, e, hn'⟩ := IntsAre.at hI i v hP'
    subst e
    repeat walk1
    try dsimp only
    have e : Txt.item (Str.ofString "&<>\"\r\n\ta;") (Int.fmod n 9) = tx [sgn ((ns.take 7 ++ [4, 2, 12]).getD i 0)] := by
      rw [item_sgn, List.getD_eq_getElem?_getD, hn']; rfl
    rw [e]
    exact EltEnd.intro (by k_asm) (by k_asm) (fun _ hq => hq) ⟨_, rfl⟩
  case ff =>
    intro D ys hys hfr h tk F N htk
    rw [filter_all, List.size_toArray, hlen] at hys
    have hp := paired_map (fun i => [sgn ((ns.take 7 ++ [4, 2, 12]).getD i 0)]) hys (H := IsTx) (fun _ _ _ g => g)
    walk1
    refine wpAny_with_toks (n := 1) htk ?_
    refine join_own _ (flat_ones _ _) (by k_asm) (by k_mem) hp ?hw ?_
    case hw =>
      rw [List.length_map, List.length_range, List.map_map]
      have : ((fun x : List Nat => x.length) ∘ fun i => [sgn ((ns.take 7 ++ [4, 2, 12]).getD i 0)]) = fun _ => 1 := rfl
      rw [this, List.map_const', List.sum_replicate_nat, List.length_range]
      omega
    intro t' k hk1
    have N2 : News h₀ L h [(c8, o8), (c7, o7), (c6, o6), (c5, o5), (c4, o4), (c3, o3), (c2, o2)] := cb_drop N (by kcf_all)
    clear N
    dsimp only at hk1 ⊢
    walk1
    dsimp only
    exact K _ _ _ _ (by rw [em]; k_asm) (by k_asm) (by assumption) hk1
end Mine

namespace Mine
open PySem.Spec PySem.Calls PyProof.Rows.LCg

/-- line feed and tab exchanged -/
def swp (c : Nat) : Nat := if c = 10 then 9 else if c = 9 then 10 else c

theorem rev_tx (l : List Nat) (t : Tok) : Txt.sliceBy (tx l) none none (-1, t) = tx l.reverse := by
  apply Str.ext'
  apply Array.toList_inj.mp
  rw [step_rev_list]
  show _ = l.reverse
  rw [tx_length]
  apply List.ext_getElem?
  intro i
  by_cases hi : i < l.length
  · rw [List.getElem?_reverse hi]
    have h2 : l.length - 1 - i < l.length := by omega
    simp [hi, List.getElem?_eq_getElem h2]
  · rw [List.getElem?_eq_none (by simpa using hi), List.getElem?_eq_none (by simpa using hi)]

theorem swp_val (t1 t2 : Tok) (c : Nat) (u : Tok) : ∃ t, (valueAt [(Str.ofString "\n", Value.str (Str.ofString "\t") t1), (Str.ofString "\t", Value.str (Str.ofString "\n") t2)] (⟨#[c]⟩ : Str)).getD (.str ⟨#[c]⟩ u) = .str (tx [swp c]) t := by
  have e1 : Str.ofString "\n" = ⟨#[10]⟩ := by decide +kernel
  have e2 : Str.ofString "\t" = ⟨#[9]⟩ := by decide +kernel
  rw [e1, e2]
  unfold valueAt swp
  by_cases h1 : c = 10
  · subst h1; exact ⟨t1, by simp⟩
  · by_cases h2 : c = 9
    · subst h2; exact ⟨t2, by simp⟩
    · refine ⟨u, ?_⟩
      have h1' : ¬ 10 = c := fun e => h1 e.symm
      have h2' : ¬ 9 = c := fun e => h2 e.symm
      simp [h1, h2, h1', h2']
theorem flat_onesN (f : Nat → Nat) : ∀ l : List Nat, (List.map (fun i => [f (l.getD i 0)]) (List.range l.length)).flatten = l.map f
  | [] => rfl
  | a :: r => by
    have ih := flat_onesN f r
    rw [List.length_cons, List.range_succ_eq_map, List.map_cons, List.flatten_cons, List.map_map]
    have : ((fun i => [f ((a :: r).getD i 0)]) ∘ Nat.succ) = fun i => [f (r.getD i 0)] := by funext i; simp
    rw [this, ih]; rfl

theorem law_2 {w : World} {p : Program} {loose : List Str} {mean : ExcName → Option Value} {mg mb : Str → Option Value} {dp un : Nat} {gd : Option (List Code)} {fa : Addr} {ccd : Value} {A₀ : Around} {base h₀ : Heap} {L : Addr} {s : Shared} {m : Str → Option Value} {c1 c2 c3 c4 c5 c6 c7 c8 : Addr} {Q : Flow → Shared → Prop} {E : Value → Shared → Prop}
    (B : Below A₀ base [] h₀) (F : Fr h₀ L s.heap m) (X : (hd.heap_39 w.params).In h₀) (T : Top p loose mean mg mb h₀) (hdp : dp + 5 < recursionLimit) (hun : un + 100 < cLine) (hto : 1 ≤ s.toks)
    (e1 : @LT.lt Nat _ c1 c2) (e2 : @LT.lt Nat _ c2 c3) (e3 : @LT.lt Nat _ c3 c4) (e4 : @LT.lt Nat _ c4 c5) (e5 : @LT.lt Nat _ c5 c6) (e6 : @LT.lt Nat _ c6 c7) (e7 : @LT.lt Nat _ c7 c8)
    {l : List Nat} {t2 : Tok} {o2 o3 o4 o5 o6 o7 o8 : Obj} (N : News h₀ L s.heap [(c8, o8), (c7, o7), (c6, o6), (c5, o5), (c4, o4), (c3, o3), (c2, o2)])
    (d2 : o2.data = .cell (some (.str (tx l) t2))) (d4 : o4.data = .cell none) (hl : l.length ≤ 10)
    (K : ∀ (h : Heap) (tk : Nat) (o4 : Obj) (t : Tok), Fr h₀ L h m → News h₀ L h [(c8, o8), (c7, o7), (c6, o6), (c5, o5), (c4, o4), (c3, o3), (c2, o2)] → o4.data = .cell (some (.str (tx (l.reverse.map swp)) t)) → 1 ≤ tk → Goes w dp un gd fa ccd L c1 c2 c3 c4 c5 c6 c7 c8 Q E 3 { s with heap := h, toks := tk }) :
    Goes w dp un gd fa ccd L c1 c2 c3 c4 c5 c6 c7 c8 Q E 2 s := by
  refine law_step 2 3 rfl ?_
  revert X
  k_fill
  intro X
  w_on
  walk1
  walk1
  walk1
  walk1
  walk1
  walk1
  refine ListComp_own (h₀ := h₀) (L := L) (by k_asm) (fun _ => true) (fun i v => IsTx [swp (l.reverse.getD i 0)] v) (by with_unfolding_all rfl) (by decide) rfl (by decide) rfl ?_
  refine wpAny_with_toks (n := 1) (by dsimp only; omega) ?_
  repeat walk1
  rename 1 ≤ _ => hk1
  rw [rev_tx]
  refine CompAt.intro 1 (by k_asm) (by k_asm) trivial hk1 ?hsz (Src.str rfl _ _) (Turns.plain ?tt) ?ff
  case hsz =>
    rw [sizeLine_eq]
    show l.reverse.toArray.size ≤ _
    rw [List.size_toArray, List.length_reverse]; omega
  case tt =>
    intro i v I oI C oC D m₂ ys h tk₀ tk E' hi hP hle hC hx F N htk
    obtain ⟨c, u, hc, hku, hut, rfl⟩ := hP
    have hc' : l.reverse[i]? = some c := by simpa using hc
    dsimp only at *
    repeat ((fail_if_success (with_reducible show wpAny _ _ (call (Value.builtin "dict.get") _) _ _ _)); walk1)
    refine kdg_get2 (by k_asm) (by k_mem) (by assumption) (by assumption) (strKind_is _ _ _ _) _ rfl ?_
    k_unfold
    have hg : l.reverse.getD i 0 = c := by rw [List.getD_eq_getElem?_getD, hc']; rfl
    exact EltEnd.intro (by k_asm) (by k_asm) (fun _ hq => List.mem_cons_of_mem _ hq) (by show IsTx [swp (l.reverse.getD i 0)] _; rw [hg]; exact swp_val _ _ c u)
  case ff =>
    intro D ys hys hfr h tk F N htk
    have hsz : (tx l.reverse).cps.size = l.reverse.length := by simp
    rw [filter_all, hsz] at hys
    have hp := paired_map (fun i => [swp (l.reverse.getD i 0)]) hys (H := IsTx) (fun _ _ _ g => g)
    walk1
    refine wpAny_with_toks (n := 1) htk ?_
    refine join_own _ (flat_onesN _ _) (by k_asm) (by k_mem) hp ?hw ?_
    case hw =>
      rw [List.length_map, List.length_range, List.map_map]
      have : ((fun x : List Nat => x.length) ∘ fun i => [swp (l.reverse.getD i 0)]) = fun _ => 1 := rfl
      rw [this, List.map_const', List.sum_replicate_nat, List.length_range, List.length_reverse]
      omega
    intro t' k hk1
    have N2 : News h₀ L h [(c8, o8), (c7, o7), (c6, o6), (c5, o5), (c4, o4), (c3, o3), (c2, o2)] := cb_drop N (by kcf_all)
    clear N
    dsimp only at hk1 ⊢
    walk1
    dsimp only
    exact K _ _ _ _ (by k_asm) (by k_asm) (by assumption) hk1
end Mine

namespace Mine
open PySem.Spec PySem.Calls PyProof.Rows.LCg

theorem law_3 {w : World} {p : Program} {loose : List Str} {mean : ExcName → Option Value} {mg mb : Str → Option Value} {dp un : Nat} {gd : Option (List Code)} {fa : Addr} {ccd : Value} {A₀ : Around} {base h₀ : Heap} {L : Addr} {s : Shared} {m : Str → Option Value} {c1 c2 c3 c4 c5 c6 c7 c8 : Addr} {Q : Flow → Shared → Prop} {E : Value → Shared → Prop}
    (B : Below A₀ base [] h₀) (F : Fr h₀ L s.heap m) (X : (hd.heap_39 w.params).In h₀) (T : Top p loose mean mg mb h₀) (hdp : dp + 5 < recursionLimit) (hun : un + 100 < cLine) (hto : 1 ≤ s.toks)
    (e1 : @LT.lt Nat _ c1 c2) (e2 : @LT.lt Nat _ c2 c3) (e3 : @LT.lt Nat _ c3 c4) (e4 : @LT.lt Nat _ c4 c5) (e5 : @LT.lt Nat _ c5 c6) (e6 : @LT.lt Nat _ c6 c7) (e7 : @LT.lt Nat _ c7 c8)
    {o2 o3 o4 o5 o6 o7 o8 : Obj} (N : News h₀ L s.heap [(c8, o8), (c7, o7), (c6, o6), (c5, o5), (c4, o4), (c3, o3), (c2, o2)]) (d5 : o5.data = .cell none)
    (K : ∀ (h : Heap) (tk : Nat) (o5 : Obj) (ah : Addr) (n : Nat), Fr h₀ L h m → News h₀ L h ((ah, lob handsV n) :: [(c8, o8), (c7, o7), (c6, o6), (c5, o5), (c4, o4), (c3, o3), (c2, o2)]) → o5.data = .cell (some (.ref ah)) → @LT.lt Nat _ c8 ah → 1 ≤ tk → Goes w dp un gd fa ccd L c1 c2 c3 c4 c5 c6 c7 c8 Q E 4 { s with heap := h, toks := tk }) :
    Goes w dp un gd fa ccd L c1 c2 c3 c4 c5 c6 c7 c8 Q E 3 s := by
  refine law_step 3 4 rfl ?_
  revert X
  k_fill
  intro X
  w_on
  refine wpAny_with_toks (n := 1) hto ?_
  repeat ((fail_if_success (with_reducible show _ → _)); walk1; (try dsimp only))
  intro hk1
  try dsimp only at hk1 ⊢
  exact K _ _ _ _ _ (by k_asm) (by k_asm) (by assumption) (by omega) hk1

theorem law_4 {w : World} {p : Program} {loose : List Str} {mean : ExcName → Option Value} {mg mb : Str → Option Value} {dp un : Nat} {gd : Option (List Code)} {fa : Addr} {ccd : Value} {A₀ : Around} {base h₀ : Heap} {L : Addr} {s : Shared} {m : Str → Option Value} {c1 c2 c3 c4 c5 c6 c7 c8 : Addr} {Q : Flow → Shared → Prop} {E : Value → Shared → Prop}
    (B : Below A₀ base [] h₀) (F : Fr h₀ L s.heap m) (X : (hd.heap_39 w.params).In h₀) (T : Top p loose mean mg mb h₀) (hdp : dp + 5 < recursionLimit) (hun : un + 100 < cLine) (hto : 1 ≤ s.toks)
    (e1 : @LT.lt Nat _ c1 c2) (e2 : @LT.lt Nat _ c2 c3) (e3 : @LT.lt Nat _ c3 c4) (e4 : @LT.lt Nat _ c4 c5) (e5 : @LT.lt Nat _ c5 c6) (e6 : @LT.lt Nat _ c6 c7) (e7 : @LT.lt Nat _ c7 c8)
    {o2 o3 o4 o5 o6 o7 o8 : Obj} {ah : Addr} {n : Nat} (ha : @LT.lt Nat _ c8 ah) (N : News h₀ L s.heap ((ah, lob handsV n) :: [(c8, o8), (c7, o7), (c6, o6), (c5, o5), (c4, o4), (c3, o3), (c2, o2)])) (d6 : o6.data = .cell none)
    (K : ∀ (h : Heap) (tk : Nat) (o6 q0 q1 q2 q3 q4 : Obj) (ta a0 a1 a2 a3 a4 : Addr) (k : Nat), Fr h₀ L h m → News h₀ L h ((ta, lob [.ref a0, .ref a1, .ref a2, .ref a3, .ref a4] k) :: (a4, q4) :: (a3, q3) :: (a2, q2) :: (a1, q1) :: (a0, q0) :: (ah, lob handsV n) :: [(c8, o8), (c7, o7), (c6, o6), (c5, o5), (c4, o4), (c3, o3), (c2, o2)]) → o6.data = .cell (some (.ref ta)) →
      TabO w 0 a0 q0 → TabO w 1 a1 q1 → TabO w 2 a2 q2 → TabO w 3 a3 q3 → TabO w 4 a4 q4 → @LT.lt Nat _ c8 a0 → @LT.lt Nat _ c8 a1 → @LT.lt Nat _ c8 a2 → @LT.lt Nat _ c8 a3 → @LT.lt Nat _ c8 a4 → @LT.lt Nat _ c8 ta → 1 ≤ tk → Goes w dp un gd fa ccd L c1 c2 c3 c4 c5 c6 c7 c8 Q E 5 { s with heap := h, toks := tk }) :
    Goes w dp un gd fa ccd L c1 c2 c3 c4 c5 c6 c7 c8 Q E 4 s := by
  refine law_step 4 5 rfl ?_
  revert X
  k_fill
  intro X
  w_on
  refine wpAny_with_toks (n := 1) hto ?_
  repeat ((fail_if_success (with_reducible show _ → _)); walk1; (try dsimp only))
  intro hk1
  try dsimp only at hk1 ⊢
  refine K _ _ _ _ _ _ _ _ _ _ _ _ _ _ _ (by k_asm) (by k_asm) (by assumption) ?t0 ?t1 ?t2 ?t3 ?t4 (by omega) (by omega) (by omega) (by omega) (by omega) (by omega) hk1
  case t0 =>
    refine ⟨by assumption, ?kv0, ?hx0, ?hy0⟩
    case hx0 => assumption
    case hy0 => exact tabv0 _ _
  case t1 =>
    refine ⟨by assumption, ?kv1, ?hx1, ?hy1⟩
    case hx1 => assumption
    case hy1 => exact tabv1 _ _ _ _ _ _
  case t2 =>
    refine ⟨by assumption, ?kv2, ?hx2, ?hy2⟩
    case hx2 => assumption
    case hy2 => exact tabv2 _ _
  case t3 =>
    refine ⟨by assumption, ?kv3, ?hx3, ?hy3⟩
    case hx3 => assumption
    case hy3 => exact tabv3 _ _ _
  case t4 =>
    refine ⟨by assumption, ?kv4, ?hx4, ?hy4⟩
    case hx4 => assumption
    case hy4 => exact tabv4 _ _ _ _ _
end Mine

namespace Mine
open PySem.Spec PySem.Calls PyProof.Rows.LCg

/-- the row of hands, by the sum of all numbers -/
def rowOf (tot : Int) : List Nat := (List.range (1 + Int.fmod tot 5).toNat).map fun k => (Int.fmod (Int.fdiv tot (5 ^ (k + 1))) 5).toNat

theorem law_5 {w : World} {p : Program} {loose : List Str} {mean : ExcName → Option Value} {mg mb : Str → Option Value} {dp un : Nat} {gd : Option (List Code)} {fa : Addr} {ccd : Value} {A₀ : Around} {base h₀ : Heap} {L : Addr} {s : Shared} {m : Str → Option Value} {c1 c2 c3 c4 c5 c6 c7 c8 : Addr} {Q : Flow → Shared → Prop} {E : Value → Shared → Prop}
    (B : Below A₀ base [] h₀) (F : Fr h₀ L s.heap m) (X : (hd.heap_39 w.params).In h₀) (T : Top p loose mean mg mb h₀) (hdp : dp + 5 < recursionLimit) (hun : un + 100 < cLine) (hto : 1 ≤ s.toks)
    (e1 : @LT.lt Nat _ c1 c2) (e2 : @LT.lt Nat _ c2 c3) (e3 : @LT.lt Nat _ c3 c4) (e4 : @LT.lt Nat _ c4 c5) (e5 : @LT.lt Nat _ c5 c6) (e6 : @LT.lt Nat _ c6 c7) (e7 : @LT.lt Nat _ c7 c8)
    {a : Addr} {vs : List Value} {ns : List Int} (hm : m (Str.ofString "script") = some (.ref a)) (hl : h₀.IsList a vs.toArray) (hi : IntsAre vs ns) (hn : ns.length ≤ 63)
    {o2 o3 o4 o5 o6 o7 o8 q0 q1 q2 q3 q4 : Obj} {ah ta a0 a1 a2 a3 a4 : Addr} {n k : Nat} (ha : @LT.lt Nat _ c8 ah) (g0 : @LT.lt Nat _ c8 a0) (g1 : @LT.lt Nat _ c8 a1) (g2 : @LT.lt Nat _ c8 a2) (g3 : @LT.lt Nat _ c8 a3) (g4 : @LT.lt Nat _ c8 a4) (gt : @LT.lt Nat _ c8 ta) (N : News h₀ L s.heap ((ta, lob [.ref a0, .ref a1, .ref a2, .ref a3, .ref a4] k) :: (a4, q4) :: (a3, q3) :: (a2, q2) :: (a1, q1) :: (a0, q0) :: (ah, lob handsV n) :: [(c8, o8), (c7, o7), (c6, o6), (c5, o5), (c4, o4), (c3, o3), (c2, o2)])) (d7 : o7.data = .cell none)
    (K : ∀ (h : Heap) (tk : Nat) (o7 : Obj) (t : Tok), Fr h₀ L h m → News h₀ L h ((ta, lob [.ref a0, .ref a1, .ref a2, .ref a3, .ref a4] k) :: (a4, q4) :: (a3, q3) :: (a2, q2) :: (a1, q1) :: (a0, q0) :: (ah, lob handsV n) :: [(c8, o8), (c7, o7), (c6, o6), (c5, o5), (c4, o4), (c3, o3), (c2, o2)]) → o7.data = .cell (some (.int ns.sum t)) → 1 ≤ tk → Goes w dp un gd fa ccd L c1 c2 c3 c4 c5 c6 c7 c8 Q E 6 { s with heap := h, toks := tk }) :
    Goes w dp un gd fa ccd L c1 c2 c3 c4 c5 c6 c7 c8 Q E 5 s := by
  refine law_step 5 6 rfl ?_
  revert X
  k_fill
  intro X
  w_on
  have em := said m _ _ hm
  rw [em] at F
  refine wpAny_with_toks (n := 1) hto ?_
  repeat ((fail_if_success (with_reducible show _ → _)); walk1; (try dsimp only))
  intro hk1
  exact K _ _ _ _ (by rw [em]; k_asm) (by k_asm) (by assumption) hk1

theorem law_6 {w : World} {p : Program} {loose : List Str} {mean : ExcName → Option Value} {mg mb : Str → Option Value} {dp un : Nat} {gd : Option (List Code)} {fa : Addr} {ccd : Value} {A₀ : Around} {base h₀ : Heap} {L : Addr} {s : Shared} {m : Str → Option Value} {c1 c2 c3 c4 c5 c6 c7 c8 : Addr} {Q : Flow → Shared → Prop} {E : Value → Shared → Prop}
    (B : Below A₀ base [] h₀) (F : Fr h₀ L s.heap m) (X : (hd.heap_39 w.params).In h₀) (T : Top p loose mean mg mb h₀) (hdp : dp + 5 < recursionLimit) (hun : un + 100 < cLine) (hto : 1 ≤ s.toks)
    (e1 : @LT.lt Nat _ c1 c2) (e2 : @LT.lt Nat _ c2 c3) (e3 : @LT.lt Nat _ c3 c4) (e4 : @LT.lt Nat _ c4 c5) (e5 : @LT.lt Nat _ c5 c6) (e6 : @LT.lt Nat _ c6 c7) (e7 : @LT.lt Nat _ c7 c8)
    {tot : Int} {t7 : Tok}
    {o2 o3 o4 o5 o6 o7 o8 q0 q1 q2 q3 q4 : Obj} {ah ta a0 a1 a2 a3 a4 : Addr} {n k : Nat} (ha : @LT.lt Nat _ c8 ah) (g0 : @LT.lt Nat _ c8 a0) (g1 : @LT.lt Nat _ c8 a1) (g2 : @LT.lt Nat _ c8 a2) (g3 : @LT.lt Nat _ c8 a3) (g4 : @LT.lt Nat _ c8 a4) (gt : @LT.lt Nat _ c8 ta) (N : News h₀ L s.heap ((ta, lob [.ref a0, .ref a1, .ref a2, .ref a3, .ref a4] k) :: (a4, q4) :: (a3, q3) :: (a2, q2) :: (a1, q1) :: (a0, q0) :: (ah, lob handsV n) :: [(c8, o8), (c7, o7), (c6, o6), (c5, o5), (c4, o4), (c3, o3), (c2, o2)])) (d7 : o7.data = .cell (some (.int tot t7))) (d8 : o8.data = .cell none)
    (K : ∀ (h : Heap) (tk : Nat) (o8 : Obj) (ar : Addr) (rv : List Value) (n' : Nat), Fr h₀ L h m → News h₀ L h ((ar, lob rv n') :: (ta, lob [.ref a0, .ref a1, .ref a2, .ref a3, .ref a4] k) :: (a4, q4) :: (a3, q3) :: (a2, q2) :: (a1, q1) :: (a0, q0) :: (ah, lob handsV n) :: [(c8, o8), (c7, o7), (c6, o6), (c5, o5), (c4, o4), (c3, o3), (c2, o2)]) → o8.data = .cell (some (.ref ar)) → IntsAre rv ((rowOf tot).map fun r : Nat => (r : Int)) → @LT.lt Nat _ c8 ar → 1 ≤ tk → Goes w dp un gd fa ccd L c1 c2 c3 c4 c5 c6 c7 c8 Q E 7 { s with heap := h, toks := tk }) :
    Goes w dp un gd fa ccd L c1 c2 c3 c4 c5 c6 c7 c8 Q E 6 s := by
  refine law_step 6 7 rfl ?_
  revert X
  k_fill
  intro X
  w_on
  walk1
  refine ListComp_own (h₀ := h₀) (L := L) (by k_asm) (fun _ => true) (fun i v => IsIn (Int.fmod (Int.fdiv tot (5 ^ (i + 1))) 5) v) (by with_unfolding_all rfl) (by decide) rfl (by decide) rfl ?_
  refine wpAny_with_toks (n := 1) hto ?_
  repeat (walk1; (try dsimp only))
  rename 1 ≤ _ => hk1
  have hb := fmod_range tot 5 (by decide)
  refine CompAt.intro (n := (1 + Int.fmod tot 5).toNat) 1 (by k_asm) (by k_asm) trivial hk1 ?hsz (Src.range rfl (by assumption) ?hs ?hz) (Turns.plain ?tt) ?ff
  case hsz => rw [sizeLine_eq]; omega
  case hs => exact small_one (by omega) (by omega) (by omega) (by omega)
  case hz =>
    rw [rangeSize_nat]
    have : (1 + Int.fmod tot 5 - 0).toNat = (1 + Int.fmod tot 5).toNat := by omega
    rw [this]
  case tt =>
    intro i v I oI C oC D m₂ ys h tk₀ tk E' hi hP hle hC hx F N htk
    obtain ⟨t, rfl⟩ := hP
    repeat (walk1; (try dsimp only))
    have e5 : (0 + (i : Int) + 1).toNat = i + 1 := by omega
    have hp5 : (0 : Int) < 5 ^ (i + 1) ∧ ((5 : Int) ^ (i + 1)).natAbs < 1073741824 := by
      obtain rfl | rfl | rfl | rfl | rfl : i = 0 ∨ i = 1 ∨ i = 2 ∨ i = 3 ∨ i = 4 := by omega
      all_goals decide
    rw [e5]
    refine floordiv_int (Int.ne_of_gt hp5.1) ?_ (Or.inl (PyProof.noPylong_small hp5.2))
    repeat (walk1; (try dsimp only))
    exact EltEnd.intro (by k_asm) (by k_asm) (fun _ hq => hq) ⟨_, rfl⟩
  case ff =>
    intro D ys hys hfr h tk F N htk
    rw [filter_all] at hys
    have hp := paired_ints (paired_map (fun i : Nat => Int.fmod (Int.fdiv tot (5 ^ (i + 1))) 5) hys (H := IsIn) (fun _ _ _ g => g))
    have er : (List.range (1 + Int.fmod tot 5).toNat).map (fun i : Nat => Int.fmod (Int.fdiv tot (5 ^ (i + 1))) 5) = (rowOf tot).map fun r : Nat => (r : Int) := by
      unfold rowOf
      rw [List.map_map]
      apply List.map_congr_left
      intro i _
      show _ = ((Int.fmod (Int.fdiv tot (5 ^ (i + 1))) 5).toNat : Int)
      rw [Int.toNat_of_nonneg (fmod_range _ 5 (by decide)).1]
    rw [er] at hp
    replace hfr := allLt_of hfr
    simp only [AllLt, and_true] at hfr
    refine wpAny_with_toks (n := 1) htk ?_
    walk1
    intro hk2
    try dsimp only at hk2 ⊢
    exact K _ _ _ _ _ _ (by k_asm) (by k_asm) (by assumption) hp (by omega) hk2
end Mine

namespace Mine
open PySem.Spec PySem.Calls PyProof.Rows.LCg

theorem law_7 {w : World} {p : Program} {loose : List Str} {mean : ExcName → Option Value} {mg mb : Str → Option Value} {dp un : Nat} {gd : Option (List Code)} {fa : Addr} {ccd : Value} {A₀ : Around} {base h₀ : Heap} {L : Addr} {s : Shared} {m : Str → Option Value} {c1 c2 c3 c4 c5 c6 c7 c8 : Addr} {Q : Flow → Shared → Prop} {E : Value → Shared → Prop}
    (B : Below A₀ base [] h₀) (F : Fr h₀ L s.heap m) (X : (hd.heap_39 w.params).In h₀) (T : Top p loose mean mg mb h₀) (hdp : dp + 5 < recursionLimit) (hun : un + 100 < cLine) (hto : 1 ≤ s.toks)
    (e1 : @LT.lt Nat _ c1 c2) (e2 : @LT.lt Nat _ c2 c3) (e3 : @LT.lt Nat _ c3 c4) (e4 : @LT.lt Nat _ c4 c5) (e5 : @LT.lt Nat _ c5 c6) (e6 : @LT.lt Nat _ c6 c7) (e7 : @LT.lt Nat _ c7 c8)
    {news : List (Addr × Obj)} (N : News h₀ L s.heap news)
    (K : ∀ (h : Heap) (tk : Nat) (news' : List (Addr × Obj)) (aw : Addr), Fr h₀ L h (fun y => if y = Str.ofString "ways" then some (.ref aw) else m y) → News h₀ L h (news' ++ news) →
      Ways news' aw → 1 ≤ tk → Goes w dp un gd fa ccd L c1 c2 c3 c4 c5 c6 c7 c8 Q E 8 { s with heap := h, toks := tk }) :
    Goes w dp un gd fa ccd L c1 c2 c3 c4 c5 c6 c7 c8 Q E 7 s := by
  refine law_step 7 8 rfl ?_
  revert X
  k_fill
  intro X
  w_on
  repeat (walk1; (try dsimp only))
  refine K _ _ [(_, _), (_, _), (_, _), (_, _), (_, _), (_, _), (_, _), (_, _)] _ (by k_asm) (by k_asm) ?_ (by omega)
  refine ⟨[.ref _, .ref _, .ref _, .ref _, .ref _, .ref _, .ref _], 0, List.mem_cons_self, ?_⟩
  refine .cons ⟨_, [], 0, rfl, by k_mem, .nil⟩ (.cons ⟨_, [_], 0, rfl, by k_mem, .cons _ _ .nil⟩ (.cons ⟨_, [_, _], 0, rfl, by k_mem, .cons _ _ (.cons _ _ .nil)⟩ (.cons ⟨_, [_], 0, rfl, by k_mem, .cons _ _ .nil⟩ (.cons ⟨_, [_, _], 0, rfl, by k_mem, .cons _ _ (.cons _ _ .nil)⟩ (.cons ⟨_, [_], 0, rfl, by k_mem, .cons _ _ .nil⟩ (.cons ⟨_, [_], 0, rfl, by k_mem, .cons _ _ .nil⟩ .nil))))))
end Mine

namespace Mine
open PySem.Spec PySem.Calls PyProof.Rows.LCg

theorem hb_way {l : List Nat} (hal : ∀ c ∈ l, c ∈ alph) (hl : l.length ≤ 10) {r : List Nat} (hr : r ∈ waysL) (j : Nat) : (wr (r.take j) l).length ≤ 1000 := by
  have a : ∀ r ∈ waysL, (∀ q ∈ r, q < 5) ∧ r.length ≤ 5 := by decide
  exact wr_bound (a r hr).1 (a r hr).2 hal hl j

theorem law_8 {w : World} {p : Program} {loose : List Str} {mean : ExcName → Option Value} {mg mb : Str → Option Value} {dp un : Nat} {gd : Option (List Code)} {fa : Addr} {ccd : Value} {A₀ : Around} {base h₀ : Heap} {L : Addr} {s : Shared} {m : Str → Option Value} {c1 c2 c3 c4 c5 c6 c7 c8 : Addr} {Q : Flow → Shared → Prop} {E : Value → Shared → Prop}
    (B : Below A₀ base [] h₀) (F : Fr h₀ L s.heap m) (X : (hd.heap_39 w.params).In h₀) (T : Top p loose mean mg mb h₀) (hdp : dp + 5 < recursionLimit) (hun : un + 100 < cLine) (hto : 1 ≤ s.toks)
    (e1 : @LT.lt Nat _ c1 c2) (e2 : @LT.lt Nat _ c2 c3) (e3 : @LT.lt Nat _ c3 c4) (e4 : @LT.lt Nat _ c4 c5) (e5 : @LT.lt Nat _ c5 c6) (e6 : @LT.lt Nat _ c6 c7) (e7 : @LT.lt Nat _ c7 c8)
    {news : List (Addr × Obj)} {o2 o5 : Obj} {l : List Nat} {t2 : Tok} {ah aw : Addr} {n : Nat} (N : News h₀ L s.heap news)
    (m2 : (c2, o2) ∈ news) (d2 : o2.data = .cell (some (.str (tx l) t2))) (m5 : (c5, o5) ∈ news) (d5 : o5.data = .cell (some (.ref ah))) (mh : (ah, lob handsV n) ∈ news)
    (hal : ∀ c ∈ l, c ∈ alph) (hl : l.length ≤ 10) (W : Ways news aw) (hw : m (Str.ofString "ways") = some (.ref aw))
    (K : ∀ (h : Heap) (tk : Nat) (D : Addr) (ys : List Value), Fr h₀ L h (fun y => if y = Str.ofString "lengths" then some (.ref D) else m y) → News h₀ L h ((D, lob ys ys.length) :: news) →
      IntsAre ys (waysL.map fun r => ((wr r l).length : Int)) → (∀ q ∈ news, q.1 < D) → 1 ≤ tk → Goes w dp un gd fa ccd L c1 c2 c3 c4 c5 c6 c7 c8 Q E 9 { s with heap := h, toks := tk }) :
    Goes w dp un gd fa ccd L c1 c2 c3 c4 c5 c6 c7 c8 Q E 8 s := by
  refine law_step 8 9 rfl ?_
  revert X
  k_fill
  intro X
  w_on
  have em := said m _ _ hw
  rw [em] at F
  have N0 : News h₀ L s.heap ((c2, o2) :: (c5, o5) :: (ah, lob handsV n) :: news) := lead1 (lead1 (lead1 N mh) (.tail _ m5)) (.tail _ (.tail _ m2))
  obtain ⟨ws, nw, hws, hp⟩ := W
  have hlen : ws.length = 7 := hp.length.symm
  refine Assign_ListComp_own (h₀ := h₀) (L := L) (by k_asm) (fun _ => true) (fun i v => IsIn ((wr (waysL.getD i []) l).length : Int) v) rfl rfl (by with_unfolding_all rfl) (by decide) rfl (by decide) rfl rfl rfl ?_
  walk1
  have hsrc : SrcAt h₀ aw ws.toArray ((c2, o2) :: (c5, o5) :: (ah, lob handsV n) :: news) := .inr ⟨_, .tail _ (.tail _ (.tail _ hws)), rfl, nw, rfl⟩
  refine CompAt.intro 1 (by k_asm) N0 hsrc hto ?hsz (Src.list (m := _) rfl (by k_asm) (by k_asm) hsrc) (Turns.plain ?tt) ?ff
  case hsz => rw [List.size_toArray, hlen, sizeLine_eq]; omega
  case tt =>
    intro i v I oI C oC D m₂ ys h tk₀ tk E' hi hP hle hC hx F N htk
    rw [List.size_toArray, hlen] at hi
    have hP' : ws[i]? = some v := by simpa using hP
    have hwi : waysL[i]? = some (waysL.getD i []) := by
      rw [List.getD_eq_getElem?_getD, List.getElem?_eq_getElem (by exact hi)]; rfl
    obtain ⟨aw', vs', n', rfl, hma, hia⟩ : WayAt news (waysL.getD i []) v := paired_at hp hwi hP'
    repeat (walk1; (try dsimp only))
    have hr : waysL.getD i [] ∈ waysL := List.mem_of_getElem? hwi
    have a : ∀ r ∈ waysL, (∀ q ∈ r, q < 5) ∧ r.length ≤ 5 := by decide
    refine Does.use (does_written l t2 aw' ah (waysL.getD i []) vs' n' n ((I, oI) :: (C, oC) :: (D, lst ys) :: (c2, o2) :: (c5, o5) :: (ah, lob handsV n) :: news) (by repeat (first | assumption | apply List.mem_cons_of_mem)) (by k_mem) hia (a _ hr).1 (hb_way hal hl hr) (by have := (a _ hr).2; omega)) (by k_asm) (by k_asm) (by k_asm) (by k_asm) (by k_asm) rfl (by assumption) (by ktr_room) (by ktr_units) ?_
    intro v9 h9 tk9 hR9 F9 N9
    obtain ⟨t9, rfl⟩ := hR9
    repeat (walk1; (try dsimp only))
    have hb := hb_way hal hl hr 10
    rw [List.take_of_length_le (by have := (a _ hr).2; omega)] at hb
    refine Does.use (does_hint _ t9 ((I, oI) :: (C, oC) :: (D, lst ys) :: (c2, o2) :: (c5, o5) :: (ah, lob handsV n) :: news) (by omega)) (by k_asm) (by k_asm) (by k_asm) (by k_asm) (by k_asm) rfl (Nat.zero_le _) (by ktr_room) (by ktr_units) ?_
    intro v8 h8 tk8 hR8 F8 N8
    exact EltEnd.intro (by k_asm) (by k_asm) (fun _ hq => hq) hR8
  case ff =>
    intro D ys hys hfr h tk F N htk
    rw [filter_all, List.size_toArray, hlen] at hys
    have hp := paired_ints (paired_map (fun i : Nat => ((wr (waysL.getD i []) l).length : Int)) hys (H := IsIn) (fun _ _ _ g => g))
    have e7 : (List.range 7).map (fun i : Nat => ((wr (waysL.getD i []) l).length : Int)) = waysL.map fun r => ((wr r l).length : Int) := rfl
    rw [e7] at hp
    refine K _ _ _ _ (by rw [em]; k_asm) (fun q hq => N q ?_) hp (fun q hq => hfr q (.tail _ (.tail _ (.tail _ hq)))) htk
    rcases List.mem_cons.mp hq with rfl | hq
    · exact (show (D, lst ys) ∈ _ from List.mem_cons_self)
    · exact .tail _ (.tail _ (.tail _ (.tail _ hq)))
end Mine

namespace Mine
open PySem.Spec PySem.Calls PyProof.Rows.LCg

theorem law_9 {w : World} {p : Program} {loose : List Str} {mean : ExcName → Option Value} {mg mb : Str → Option Value} {dp un : Nat} {gd : Option (List Code)} {fa : Addr} {ccd : Value} {A₀ : Around} {base h₀ : Heap} {L : Addr} {s : Shared} {m : Str → Option Value} {c1 c2 c3 c4 c5 c6 c7 c8 : Addr} {Q : Flow → Shared → Prop} {E : Value → Shared → Prop}
    (B : Below A₀ base [] h₀) (F : Fr h₀ L s.heap m) (X : (hd.heap_39 w.params).In h₀) (T : Top p loose mean mg mb h₀) (hdp : dp + 5 < recursionLimit) (hun : un + 100 < cLine) (hto : 1 ≤ s.toks)
    (e1 : @LT.lt Nat _ c1 c2) (e2 : @LT.lt Nat _ c2 c3) (e3 : @LT.lt Nat _ c3 c4) (e4 : @LT.lt Nat _ c4 c5) (e5 : @LT.lt Nat _ c5 c6) (e6 : @LT.lt Nat _ c6 c7) (e7 : @LT.lt Nat _ c7 c8)
    {news : List (Addr × Obj)} {o4 o5 : Obj} {l : List Nat} {t2 : Tok} {ah aw al : Addr} {n nz : Nat} {zs : List Value} {is : List Int} (N : News h₀ L s.heap news)
    (m4 : (c4, o4) ∈ news) (d4 : o4.data = .cell (some (.str (tx l) t2))) (m5 : (c5, o5) ∈ news) (d5 : o5.data = .cell (some (.ref ah))) (mh : (ah, lob handsV n) ∈ news)
    (hal : ∀ c ∈ l, c ∈ alph) (hl : l.length ≤ 10) (W : Ways news aw) (hw : m (Str.ofString "ways") = some (.ref aw))
    (hle : m (Str.ofString "lengths") = some (.ref al)) (mz : (al, lob zs nz) ∈ news) (hz : IntsAre zs is) (his : (waysL.map fun r => ((wr r l).length : Int)) = is)
    (K : ∀ (h : Heap) (tk : Nat), Fr h₀ L h m → News h₀ L h news → 1 ≤ tk → Goes w dp un gd fa ccd L c1 c2 c3 c4 c5 c6 c7 c8 Q E 10 { s with heap := h, toks := tk }) :
    Goes w dp un gd fa ccd L c1 c2 c3 c4 c5 c6 c7 c8 Q E 9 s := by
  refine law_step 9 10 rfl ?_
  revert X
  k_fill
  intro X
  w_on
  have em : m = fun y => if y = Str.ofString "lengths" then some (.ref al) else if y = Str.ofString "ways" then some (.ref aw) else m y := said2 m _ _ _ _ hle hw
  rw [em] at F
  have N0 : News h₀ L s.heap ((c4, o4) :: (c5, o5) :: (ah, lob handsV n) :: news) := lead1 (lead1 (lead1 N mh) (.tail _ m5)) (.tail _ (.tail _ m4))
  obtain ⟨ws, nw, hws, hp⟩ := W
  have hlen : ws.length = 7 := hp.length.symm
  walk1
  walk1
  refine ListComp_own (h₀ := h₀) (L := L) (by k_asm) (fun _ => true) (fun i v => IsIn ((wr (waysL.getD i []) l).length : Int) v) (by with_unfolding_all rfl) (by decide) rfl (by decide) rfl ?_
  walk1
  have hsrc : SrcAt h₀ aw ws.toArray ((c4, o4) :: (c5, o5) :: (ah, lob handsV n) :: news) := .inr ⟨_, .tail _ (.tail _ (.tail _ hws)), rfl, nw, rfl⟩
  refine CompAt.intro 1 (by k_asm) N0 hsrc hto ?hsz (Src.list (m := _) rfl (by k_asm) (by k_asm) hsrc) (Turns.plain ?tt) ?ff
  case hsz => rw [List.size_toArray, hlen, sizeLine_eq]; omega
  case tt =>
    intro i v I oI C oC D m₂ ys h tk₀ tk E' hi hP hle hC hx F N htk
    rw [List.size_toArray, hlen] at hi
    have hP' : ws[i]? = some v := by simpa using hP
    have hwi : waysL[i]? = some (waysL.getD i []) := by
      rw [List.getD_eq_getElem?_getD, List.getElem?_eq_getElem (by exact hi)]; rfl
    obtain ⟨aw', vs', n', rfl, hma, hia⟩ : WayAt news (waysL.getD i []) v := paired_at hp hwi hP'
    repeat (walk1; (try dsimp only))
    have hr : waysL.getD i [] ∈ waysL := List.mem_of_getElem? hwi
    have a : ∀ r ∈ waysL, (∀ q ∈ r, q < 5) ∧ r.length ≤ 5 := by decide
    refine Does.use (does_written l t2 aw' ah (waysL.getD i []) vs' n' n ((I, oI) :: (C, oC) :: (D, lst ys) :: (c4, o4) :: (c5, o5) :: (ah, lob handsV n) :: news) (by repeat (first | assumption | apply List.mem_cons_of_mem)) (by k_mem) hia (a _ hr).1 (hb_way hal hl hr) (by have := (a _ hr).2; omega)) (by k_asm) (by k_asm) (by k_asm) (by k_asm) (by k_asm) rfl (by assumption) (by ktr_room) (by ktr_units) ?_
    intro v9 h9 tk9 hR9 F9 N9
    obtain ⟨t9, rfl⟩ := hR9
    repeat (walk1; (try dsimp only))
    have hb := hb_way hal hl hr 10
    rw [List.take_of_length_le (by have := (a _ hr).2; omega)] at hb
    refine Does.use (does_hint _ t9 ((I, oI) :: (C, oC) :: (D, lst ys) :: (c4, o4) :: (c5, o5) :: (ah, lob handsV n) :: news) (by omega)) (by k_asm) (by k_asm) (by k_asm) (by k_asm) (by k_asm) rfl (Nat.zero_le _) (by ktr_room) (by ktr_units) ?_
    intro v8 h8 tk8 hR8 F8 N8
    exact EltEnd.intro (by k_asm) (by k_asm) (fun _ hq => hq) hR8
  case ff =>
    intro D ys hys hfr h tk F N htk
    rw [filter_all, List.size_toArray, hlen] at hys
    have hp := paired_ints (paired_map (fun i : Nat => ((wr (waysL.getD i []) l).length : Int)) hys (H := IsIn) (fun _ _ _ g => g))
    have e7 : (List.range 7).map (fun i : Nat => ((wr (waysL.getD i []) l).length : Int)) = waysL.map fun r => ((wr r l).length : Int) := rfl
    rw [e7, his] at hp
    refine wpAny_with_toks (n := 1) htk ?_
    walk1
    intro hk2
    dsimp only at hk2 ⊢
    refine ne_led (a := D) (b := al) (by k_asm) (by k_mem) hp (by repeat (first | assumption | apply List.mem_cons_of_mem)) hz (by ktr_units) rfl ?_
    repeat (walk1; (try dsimp only))
    exact K _ _ (by rw [em]; k_asm) (fun q hq => N q (.tail _ (.tail _ (.tail _ (.tail _ hq))))) hk2
end Mine

namespace Mine
open PySem.Spec PySem.Calls PyProof.Rows.LCg

local macro_rules | `(tactic| walk_at "call ref") => `(tactic| (k_here; (try dsimp only [List.nil_append]); k_dflt (first | refine' Does.use (does_sub _ _ _ _ _) ?k1 ?k2 ?k3 ?k4 ?k5 rfl (Nat.zero_le _) ?k6 ?k7 ?_ | refine' Does.use (does_add _ _ _ _ _) ?k1 ?k2 ?k3 ?k4 ?k5 rfl (Nat.zero_le _) ?k6 ?k7 ?_ | refine' Does.use (does_mul _ _ _ _ _ (by decide) (by decide)) ?k1 ?k2 ?k3 ?k4 ?k5 rfl (Nat.zero_le _) ?k6 ?k7 ?_ | refine' Does.use (does_fdiv _ _ _ _ _ (by decide) (by decide)) ?k1 ?k2 ?k3 ?k4 ?k5 rfl (Nat.zero_le _) ?k6 ?k7 ?_ | refine' Does.use (does_fmod _ _ _ _ _ (by decide)) ?k1 ?k2 ?k3 ?k4 ?k5 rfl (Nat.zero_le _) ?k6 ?k7 ?_); (case k1 => k_asm); (case k2 => k_asm); (case k3 => k_asm); (case k4 => k_asm); (case k5 => k_asm); (case k6 => ktr_room); (case k7 => ktr_units); intro v9 h9 tk9 hR9 F9 N9; obtain ⟨t9, hv9⟩ := hR9; subst hv9; (try dsimp only); (try k_fold)))
theorem law_10 {w : World} {p : Program} {loose : List Str} {mean : ExcName → Option Value} {mg mb : Str → Option Value} {dp un : Nat} {gd : Option (List Code)} {fa : Addr} {ccd : Value} {A₀ : Around} {base h₀ : Heap} {L : Addr} {s : Shared} {m : Str → Option Value} {c1 c2 c3 c4 c5 c6 c7 c8 : Addr} {Q : Flow → Shared → Prop} {E : Value → Shared → Prop}
    (B : Below A₀ base [] h₀) (F : Fr h₀ L s.heap m) (X : (hd.heap_39 w.params).In h₀) (T : Top p loose mean mg mb h₀) (hdp : dp + 5 < recursionLimit) (hun : un + 100 < cLine) (hto : 1 ≤ s.toks)
    (e1 : @LT.lt Nat _ c1 c2) (e2 : @LT.lt Nat _ c2 c3) (e3 : @LT.lt Nat _ c3 c4) (e4 : @LT.lt Nat _ c4 c5) (e5 : @LT.lt Nat _ c5 c6) (e6 : @LT.lt Nat _ c6 c7) (e7 : @LT.lt Nat _ c7 c8)
    {news : List (Addr × Obj)} {al : Addr} {nz : Nat} {b0 b1 b2 b3 b4 b5 b6 : Int} {t0 t1 t2 t3 t4 t5 t6 : Tok} (N : News h₀ L s.heap news)
    (hle : m (Str.ofString "lengths") = some (.ref al)) (mz : (al, lob [.int b0 t0, .int b1 t1, .int b2 t2, .int b3 t3, .int b4 t4, .int b5 t5, .int b6 t6] nz) ∈ news)
    (f1 : Int.fmod (b2 - b1) 4 = 0) (f2 : Int.fmod (b4 - b3) 4 = 0) (f3 : Int.fmod (b5 - b1) 4 = 0)
    (K : ∀ (h : Heap) (tk : Nat), Fr h₀ L h m → News h₀ L h news → 1 ≤ tk → Goes w dp un gd fa ccd L c1 c2 c3 c4 c5 c6 c7 c8 Q E 11 { s with heap := h, toks := tk }) :
    Goes w dp un gd fa ccd L c1 c2 c3 c4 c5 c6 c7 c8 Q E 10 s := by
  refine law_step 10 11 rfl ?_
  revert X
  k_fill
  intro X
  w_on
  have em := said m _ _ hle
  rw [em] at F
  have N0 := lead1 N mz
  refine wpAny_with_toks (n := 1) hto ?_
  repeat ((fail_if_success (with_reducible show wpAny _ _ (compareOp CmpOp.NotEq (Value.ref _) (Value.ref _)) _ _ _)); walk1; (try dsimp only))
  refine ne_led (vs := [.int _ _, .int _ _, .int _ _]) (us := [.int _ _, .int _ _, .int _ _]) (n := 0) (k := 0) (ns := [_, _, _]) (ms := [_, _, _]) (by k_asm) (List.mem_cons_of_mem _ List.mem_cons_self) (.cons _ _ (.cons _ _ (.cons _ _ .nil))) List.mem_cons_self (.cons _ _ (.cons _ _ (.cons _ _ .nil))) (by ktr_units) ?_ ?_
  · show [Int.fmod (b2 - b1) 4, Int.fmod (b4 - b3) 4, Int.fmod (b5 - b1) 4] = [0, 0, 0]
    rw [f1, f2, f3]
  repeat ((fail_if_success (with_reducible show _ → _)); walk1; (try dsimp only))
  intro hk2
  try dsimp only at hk2 ⊢
  refine K _ _ (by rw [em]; k_asm) ?_ hk2
  rename News h₀ L _ (_ :: _ :: _ :: news) => N9
  exact fun q hq => N9 q (.tail _ (.tail _ (.tail _ hq)))
end Mine

namespace Mine
open PySem.Spec PySem.Calls PyProof.Rows.LCg

local macro_rules | `(tactic| walk_at "call ref") => `(tactic| (k_here; (try dsimp only [List.nil_append]); k_dflt (first | refine' Does.use (does_sub _ _ _ _ _) ?k1 ?k2 ?k3 ?k4 ?k5 rfl (Nat.zero_le _) ?k6 ?k7 ?_ | refine' Does.use (does_add _ _ _ _ _) ?k1 ?k2 ?k3 ?k4 ?k5 rfl (Nat.zero_le _) ?k6 ?k7 ?_ | refine' Does.use (does_mul _ _ _ _ _ (by decide) (by decide)) ?k1 ?k2 ?k3 ?k4 ?k5 rfl (Nat.zero_le _) ?k6 ?k7 ?_ | refine' Does.use (does_fdiv _ _ _ _ _ (by decide) (by decide)) ?k1 ?k2 ?k3 ?k4 ?k5 rfl (Nat.zero_le _) ?k6 ?k7 ?_ | refine' Does.use (does_fmod _ _ _ _ _ (by decide)) ?k1 ?k2 ?k3 ?k4 ?k5 rfl (Nat.zero_le _) ?k6 ?k7 ?_); (case k1 => k_asm); (case k2 => k_asm); (case k3 => k_asm); (case k4 => k_asm); (case k5 => k_asm); (case k6 => ktr_room); (case k7 => ktr_units); intro v9 h9 tk9 hR9 F9 N9; obtain ⟨t9, hv9⟩ := hR9; subst hv9; (try dsimp only); (try k_fold)))
theorem said4 (m : Str → Option Value) (x1 : Str) (v1 : Value) (x2 : Str) (v2 : Value) (x3 : Str) (v3 : Value) (x4 : Str) (v4 : Value) (h1 : m x1 = some v1) (h2 : m x2 = some v2) (h3 : m x3 = some v3) (h4 : m x4 = some v4) :
    m = fun z => if z = x1 then some v1 else if z = x2 then some v2 else if z = x3 then some v3 else if z = x4 then some v4 else m z := by
  funext z
  split
  · rename_i e; rw [e, h1]
  · split
    · rename_i e; rw [e, h2]
    · split
      · rename_i e; rw [e, h3]
      · split
        · rename_i e; rw [e, h4]
        · rfl
theorem law_11 {w : World} {p : Program} {loose : List Str} {mean : ExcName → Option Value} {mg mb : Str → Option Value} {dp un : Nat} {gd : Option (List Code)} {fa : Addr} {ccd : Value} {A₀ : Around} {base h₀ : Heap} {L : Addr} {s : Shared} {m : Str → Option Value} {c1 c2 c3 c4 c5 c6 c7 c8 : Addr} {Q : Flow → Shared → Prop} {E : Value → Shared → Prop}
    (B : Below A₀ base [] h₀) (F : Fr h₀ L s.heap m) (X : (hd.heap_39 w.params).In h₀) (T : Top p loose mean mg mb h₀) (hdp : dp + 5 < recursionLimit) (hun : un + 100 < cLine) (hto : 1 ≤ s.toks)
    (e1 : @LT.lt Nat _ c1 c2) (e2 : @LT.lt Nat _ c2 c3) (e3 : @LT.lt Nat _ c3 c4) (e4 : @LT.lt Nat _ c4 c5) (e5 : @LT.lt Nat _ c5 c6) (e6 : @LT.lt Nat _ c6 c7) (e7 : @LT.lt Nat _ c7 c8)
    {news : List (Addr × Obj)} {al : Addr} {nz : Nat} {b0 b1 b2 b3 b4 b5 b6 : Int} {t0 t1 t2 t3 t4 t5 t6 : Tok} (N : News h₀ L s.heap news)
    (hle : m (Str.ofString "lengths") = some (.ref al)) (mz : (al, lob [.int b0 t0, .int b1 t1, .int b2 t2, .int b3 t3, .int b4 t4, .int b5 t5, .int b6 t6] nz) ∈ news)
    (K : ∀ (h : Heap) (tk : Nat) (t : Tok), Fr h₀ L h (fun y => if y = Str.ofString "short" then some (.int (b0 - b1) t) else m y) → News h₀ L h news → 1 ≤ tk → Goes w dp un gd fa ccd L c1 c2 c3 c4 c5 c6 c7 c8 Q E 12 { s with heap := h, toks := tk }) :
    Goes w dp un gd fa ccd L c1 c2 c3 c4 c5 c6 c7 c8 Q E 11 s := by
  refine law_step 11 12 rfl ?_
  revert X
  k_fill
  intro X
  w_on
  have em := said m _ _ hle
  rw [em] at F
  have N0 := lead1 N mz
  refine wpAny_with_toks (n := 1) hto ?_
  repeat ((fail_if_success (with_reducible show _ → _)); walk1; (try dsimp only))
  intro hk2
  try dsimp only at hk2 ⊢
  refine K _ _ _ (by rw [em]; k_asm) ?_ hk2
  rename News h₀ L _ (_ :: news) => N9
  exact fun q hq => N9 q (.tail _ hq)

theorem law_12 {w : World} {p : Program} {loose : List Str} {mean : ExcName → Option Value} {mg mb : Str → Option Value} {dp un : Nat} {gd : Option (List Code)} {fa : Addr} {ccd : Value} {A₀ : Around} {base h₀ : Heap} {L : Addr} {s : Shared} {m : Str → Option Value} {c1 c2 c3 c4 c5 c6 c7 c8 : Addr} {Q : Flow → Shared → Prop} {E : Value → Shared → Prop}
    (B : Below A₀ base [] h₀) (F : Fr h₀ L s.heap m) (X : (hd.heap_39 w.params).In h₀) (T : Top p loose mean mg mb h₀) (hdp : dp + 5 < recursionLimit) (hun : un + 100 < cLine) (hto : 1 ≤ s.toks)
    (e1 : @LT.lt Nat _ c1 c2) (e2 : @LT.lt Nat _ c2 c3) (e3 : @LT.lt Nat _ c3 c4) (e4 : @LT.lt Nat _ c4 c5) (e5 : @LT.lt Nat _ c5 c6) (e6 : @LT.lt Nat _ c6 c7) (e7 : @LT.lt Nat _ c7 c8)
    {news : List (Addr × Obj)} {o2 : Obj} {l : List Nat} {t2 : Tok} (N : News h₀ L s.heap news)
    (m2 : (c2, o2) ∈ news) (d2 : o2.data = .cell (some (.str (tx l) t2))) (hl : l.length ≤ 10)
    (K : ∀ (h : Heap) (tk : Nat) (t : Tok), Fr h₀ L h (fun y => if y = Str.ofString "marked" then some (.int ((l.count 60 : Nat) + (l.count 62 : Nat)) t) else m y) → News h₀ L h news → 1 ≤ tk → Goes w dp un gd fa ccd L c1 c2 c3 c4 c5 c6 c7 c8 Q E 13 { s with heap := h, toks := tk }) :
    Goes w dp un gd fa ccd L c1 c2 c3 c4 c5 c6 c7 c8 Q E 12 s := by
  refine law_step 12 13 rfl ?_
  revert X
  k_fill
  intro X
  w_on
  have N0 := lead1 N m2
  refine wpAny_with_toks (n := 1) hto ?_
  repeat ((fail_if_success (with_reducible show _ → _)); walk1; (try dsimp only))
  intro hk2
  try dsimp only at hk2 ⊢
  rename News h₀ L _ (_ :: news) => N9
  rename Fr h₀ L _ _ => F9
  rw [count_tx l _ 60 sg60, count_tx l _ 62 sg62] at F9
  exact K _ _ _ F9 (fun q hq => N9 q (.tail _ hq)) hk2

theorem law_13 {w : World} {p : Program} {loose : List Str} {mean : ExcName → Option Value} {mg mb : Str → Option Value} {dp un : Nat} {gd : Option (List Code)} {fa : Addr} {ccd : Value} {A₀ : Around} {base h₀ : Heap} {L : Addr} {s : Shared} {m : Str → Option Value} {c1 c2 c3 c4 c5 c6 c7 c8 : Addr} {Q : Flow → Shared → Prop} {E : Value → Shared → Prop}
    (B : Below A₀ base [] h₀) (F : Fr h₀ L s.heap m) (X : (hd.heap_39 w.params).In h₀) (T : Top p loose mean mg mb h₀) (hdp : dp + 5 < recursionLimit) (hun : un + 100 < cLine) (hto : 1 ≤ s.toks)
    (e1 : @LT.lt Nat _ c1 c2) (e2 : @LT.lt Nat _ c2 c3) (e3 : @LT.lt Nat _ c3 c4) (e4 : @LT.lt Nat _ c4 c5) (e5 : @LT.lt Nat _ c5 c6) (e6 : @LT.lt Nat _ c6 c7) (e7 : @LT.lt Nat _ c7 c8)
    {news : List (Addr × Obj)} {a : Addr} {vs : List Value} {ns : List Int} (hm : m (Str.ofString "script") = some (.ref a)) (hls : h₀.IsList a vs.toArray) (hi : IntsAre vs ns) (hn : ns.length ≤ 63)
    {o2 : Obj} {l : List Nat} {t2 : Tok} {al : Addr} {nz : Nat} {b0 b1 b2 b3 b4 b5 b6 sh mk : Int} {t0 t1 t2' t3 t4 t5 t6 ts tm : Tok} (N : News h₀ L s.heap news)
    (hle : m (Str.ofString "lengths") = some (.ref al)) (mz : (al, lob [.int b0 t0, .int b1 t1, .int b2 t2', .int b3 t3, .int b4 t4, .int b5 t5, .int b6 t6] nz) ∈ news)
    (hsh : m (Str.ofString "short") = some (.int sh ts)) (hmk : m (Str.ofString "marked") = some (.int mk tm))
    (m2 : (c2, o2) ∈ news) (d2 : o2.data = .cell (some (.str (tx l) t2))) (hl : l.length ≤ 10)
    (eq : [b0, Int.fmod sh 4, Int.fdiv sh 4] = [((ns.take 7).length : Int) + 3, Int.fmod mk 4, - (l.count 38 : Nat) - Int.fdiv (3 * mk + 3) 4])
    (K : ∀ (h : Heap) (tk : Nat), Fr h₀ L h m → News h₀ L h news → 1 ≤ tk → Goes w dp un gd fa ccd L c1 c2 c3 c4 c5 c6 c7 c8 Q E 14 { s with heap := h, toks := tk }) :
    Goes w dp un gd fa ccd L c1 c2 c3 c4 c5 c6 c7 c8 Q E 13 s := by
  refine law_step 13 14 rfl ?_
  revert X
  k_fill
  intro X
  w_on
  have em : m = fun y => if y = Str.ofString "script" then some (.ref a) else if y = Str.ofString "lengths" then some (.ref al) else if y = Str.ofString "short" then some (.int sh ts) else if y = Str.ofString "marked" then some (.int mk tm) else m y := said4 m _ _ _ _ _ _ _ _ hm hle hsh hmk
  rw [em] at F
  have N0 := lead1 (lead1 N m2) (.tail _ mz)
  refine wpAny_with_toks (n := 1) hto ?_
  repeat ((fail_if_success (with_reducible show wpAny _ _ (eval (Expr.Slice _ _ _ _) _) _ _ _)); walk1; (try dsimp only))
  iterate 6 walk1
  repeat ((fail_if_success (with_reducible show wpAny _ _ (compareOp CmpOp.NotEq (Value.ref _) (Value.ref _)) _ _ _)); walk1; (try dsimp only))
  refine ne_led (vs := [.int _ _, .int _ _, .int _ _]) (us := [.int _ _, .int _ _, .int _ _]) (n := 0) (k := 0) (ns := [_, _, _]) (ms := [_, _, _]) (by k_asm) (List.mem_cons_of_mem _ (List.mem_cons_of_mem _ List.mem_cons_self)) (.cons _ _ (.cons _ _ (.cons _ _ .nil))) List.mem_cons_self (.cons _ _ (.cons _ _ (.cons _ _ .nil))) (by ktr_units) ?_ ?_
  · rw [count_tx l _ 38 sg38]
    exact eq
  repeat ((fail_if_success (with_reducible show _ → _)); walk1; (try dsimp only))
  intro hk2
  try dsimp only at hk2 ⊢
  refine K _ _ (by rw [em]; k_asm) ?_ hk2
  rename News h₀ L _ (_ :: _ :: _ :: _ :: _ :: news) => N9
  exact fun q hq => N9 q (.tail _ (.tail _ (.tail _ (.tail _ (.tail _ hq)))))
end Mine

namespace Mine
open PySem.Spec PySem.Calls PyProof.Rows.LCg

theorem law_14 {w : World} {p : Program} {loose : List Str} {mean : ExcName → Option Value} {mg mb : Str → Option Value} {dp un : Nat} {gd : Option (List Code)} {fa : Addr} {ccd : Value} {A₀ : Around} {base h₀ : Heap} {L : Addr} {s : Shared} {m : Str → Option Value} {c1 c2 c3 c4 c5 c6 c7 c8 : Addr} {Q : Flow → Shared → Prop} {E : Value → Shared → Prop}
    (B : Below A₀ base [] h₀) (F : Fr h₀ L s.heap m) (X : (hd.heap_39 w.params).In h₀) (T : Top p loose mean mg mb h₀) (hdp : dp + 5 < recursionLimit) (hun : un + 100 < cLine) (hto : 1 ≤ s.toks)
    (e1 : @LT.lt Nat _ c1 c2) (e2 : @LT.lt Nat _ c2 c3) (e3 : @LT.lt Nat _ c3 c4) (e4 : @LT.lt Nat _ c4 c5) (e5 : @LT.lt Nat _ c5 c6) (e6 : @LT.lt Nat _ c6 c7) (e7 : @LT.lt Nat _ c7 c8)
    {news : List (Addr × Obj)} {al : Addr} {nz : Nat} {b0 b1 b2 b3 b4 b5 b6 : Int} {t0 t1 t2 t3 t4 t5 t6 : Tok} (N : News h₀ L s.heap news)
    (hle : m (Str.ofString "lengths") = some (.ref al)) (mz : (al, lob [.int b0 t0, .int b1 t1, .int b2 t2, .int b3 t3, .int b4 t4, .int b5 t5, .int b6 t6] nz) ∈ news)
    (K : ∀ (h : Heap) (tk : Nat) (D : Addr) (ys : List Value) (n : Nat), Fr h₀ L h (fun y => if y = Str.ofString "counts" then some (.ref D) else m y) → News h₀ L h ((D, lob ys n) :: news) → IntsAre ys (told b0 b1 b2 b3 b4 b5 b6) → 1 ≤ tk → Goes w dp un gd fa ccd L c1 c2 c3 c4 c5 c6 c7 c8 Q E 15 { s with heap := h, toks := tk }) :
    Goes w dp un gd fa ccd L c1 c2 c3 c4 c5 c6 c7 c8 Q E 14 s := by
  refine law_step 14 15 rfl ?_
  revert X
  k_fill
  intro X
  w_on
  have em := said m _ _ hle
  rw [em] at F
  have N0 := lead1 N mz
  refine wpAny_with_toks (n := 1) hto ?_
  repeat ((fail_if_success (with_reducible show wpAny _ _ (call (Value.ref _) _) _ _ _)); walk1; (try dsimp only))
  refine does_told b0 b1 b2 b3 b4 b5 b6 t0 t1 t2 t3 t4 t5 t6 al nz ((al, lob [.int b0 t0, .int b1 t1, .int b2 t2, .int b3 t3, .int b4 t4, .int b5 t5, .int b6 t6] nz) :: news) List.mem_cons_self p loose mean mg mb dp un gd _ _ _ _ _ _ A₀ base h₀ L _ _ _ _ B (by k_asm) (by k_asm) (by k_asm) (by k_asm) rfl (by ktr_room) (by ktr_units) ?_
  intro D ys n h9 tk9 hR9 F9 N9
  walk1
  intro hk2
  try dsimp only at hk2 ⊢
  refine K _ _ D ys n (by rw [em]; k_asm) ?_ hR9 hk2
  rename News h₀ L _ _ => N8
  intro q hq
  rcases List.mem_cons.mp hq with rfl | hq
  · exact N8 _ List.mem_cons_self
  · exact N8 _ (.tail _ (.tail _ hq))

/-- how many of a sign -/
abbrev cI (l : List Nat) (c : Nat) : Int := ((l.count c : Nat) : Int)
theorem sg5 : Str.ofString "&<>\"\r" = tx [38, 60, 62, 34, 13] := by decide +kernel
theorem law_15 {w : World} {p : Program} {loose : List Str} {mean : ExcName → Option Value} {mg mb : Str → Option Value} {dp un : Nat} {gd : Option (List Code)} {fa : Addr} {ccd : Value} {A₀ : Around} {base h₀ : Heap} {L : Addr} {s : Shared} {m : Str → Option Value} {c1 c2 c3 c4 c5 c6 c7 c8 : Addr} {Q : Flow → Shared → Prop} {E : Value → Shared → Prop}
    (B : Below A₀ base [] h₀) (F : Fr h₀ L s.heap m) (X : (hd.heap_39 w.params).In h₀) (T : Top p loose mean mg mb h₀) (hdp : dp + 5 < recursionLimit) (hun : un + 100 < cLine) (hto : 1 ≤ s.toks)
    (e1 : @LT.lt Nat _ c1 c2) (e2 : @LT.lt Nat _ c2 c3) (e3 : @LT.lt Nat _ c3 c4) (e4 : @LT.lt Nat _ c4 c5) (e5 : @LT.lt Nat _ c5 c6) (e6 : @LT.lt Nat _ c6 c7) (e7 : @LT.lt Nat _ c7 c8)
    {news : List (Addr × Obj)} {o2 : Obj} {l : List Nat} {t2 : Tok} {ac : Addr} {cs : List Value} {nc : Nat} {is : List Int} (N : News h₀ L s.heap news)
    (m2 : (c2, o2) ∈ news) (d2 : o2.data = .cell (some (.str (tx l) t2))) (hl : l.length ≤ 10)
    (hc : m (Str.ofString "counts") = some (.ref ac)) (mc : (ac, lob cs nc) ∈ news) (hi : IntsAre cs is)
    (his : is = [cI l 38, cI l 60, cI l 62, cI l 34, cI l 13, cI l 10 + cI l 9])
    (K : ∀ (h : Heap) (tk : Nat), Fr h₀ L h m → News h₀ L h news → 1 ≤ tk → Goes w dp un gd fa ccd L c1 c2 c3 c4 c5 c6 c7 c8 Q E 16 { s with heap := h, toks := tk }) :
    Goes w dp un gd fa ccd L c1 c2 c3 c4 c5 c6 c7 c8 Q E 15 s := by
  refine law_step 15 16 rfl ?_
  revert X
  k_fill
  intro X
  w_on
  have em := said m _ _ hc
  rw [em] at F
  have N0 := lead1 (lead1 N m2) (.tail _ mc)
  walk1
  walk1
  walk1
  walk1
  refine ListComp_own (h₀ := h₀) (L := L) (by k_asm) (fun _ => true) (fun i v => IsIn (cI l ([38, 60, 62, 34, 13].getD i 0)) v) (by with_unfolding_all rfl) (by decide) rfl (by decide) rfl ?_
  refine wpAny_with_toks (n := 1) hto ?_
  repeat ((fail_if_success (with_reducible show _ → _)); walk1; (try dsimp only))
  intro hk1
  try dsimp only at hk1 ⊢
  rw [sg5]
  refine CompAt.intro 1 (by k_asm) (by k_asm) trivial hk1 ?hsz (Src.str rfl _ _) (Turns.plain ?tt) ?ff
  case hsz => decide
  case tt =>
    intro i v I oI C oC D m₂ ys h tk₀ tk E' hi hP hle hC hx F N htk
    obtain ⟨c, u, hc, hku, hut, rfl⟩ := hP
    have hc' : [38, 60, 62, 34, 13][i]? = some c := by simpa using hc
    repeat ((fail_if_success (with_reducible show wpAny _ _ (call (Value.ref _) _) _ _ _)); walk1; (try dsimp only))
    rename News h₀ L h _ => N8
    have hcu : cI l ([38, 60, 62, 34, 13].getD i 0) = cI l c := by rw [List.getD_eq_getElem?_getD, hc']; rfl
    refine Does.use (does_count l c t2 u _ (Nat.ne_of_gt hku)) (by k_asm) (by k_asm) (by k_asm) N8 (by k_asm) rfl (by show u + 1 ≤ tk; omega) (by ktr_room) (by ktr_units) ?_
    intro v9 h9 tk9 hR9 F9 N9
    refine EltEnd.intro (by k_asm) (by k_asm) (fun _ hq => hq) ?_
    show IsIn (cI l ([38, 60, 62, 34, 13].getD i 0)) _
    rw [hcu]; exact hR9
  case ff =>
    intro D ys hys hfr h tk F N htk
    have hsz : (tx [38, 60, 62, 34, 13]).cps.size = 5 := rfl
    rw [filter_all, hsz] at hys
    have hp := paired_ints (paired_map (fun i : Nat => cI l ([38, 60, 62, 34, 13].getD i 0)) hys (H := IsIn) (fun _ _ _ g => g))
    refine wpAny_with_toks (n := 1) htk ?_
    repeat ((fail_if_success (with_reducible show wpAny _ _ (call (Value.ref _) _) _ _ _)); walk1; (try dsimp only))
    rw [sg10]
    refine wpAny_with_toks (n := 1) (by dsimp only; omega) ?_
    refine Does.use (does_count l 10 t2 tk _ (Nat.ne_of_gt htk)) (by k_asm) (by k_asm) (by k_asm) N (by k_asm) rfl (Nat.le_refl _) (by ktr_room) (by ktr_units) ?_
    intro v9 h9 tk9 hR9 F9 N9 hk9
    obtain ⟨t9, rfl⟩ := hR9
    dsimp only at hk9
    repeat ((fail_if_success (with_reducible show wpAny _ _ (call (Value.ref _) _) _ _ _)); walk1; (try dsimp only))
    rw [sg9]
    refine wpAny_with_toks (n := 1) (by dsimp only; omega) ?_
    refine Does.use (does_count l 9 t2 tk9 _ (Nat.ne_of_gt hk9)) (by k_asm) (by k_asm) (by k_asm) N9 (by k_asm) rfl (Nat.le_refl _) (by ktr_room) (by ktr_units) ?_
    intro v8 h8 tk8 hR8 F8 N8 hk8
    dsimp only at hk8
    obtain ⟨t8, rfl⟩ := hR8
    repeat ((fail_if_success (with_reducible show wpAny _ _ (call (Value.ref _) _) _ _ _)); walk1; (try dsimp only))
    refine wpAny_with_toks (n := 1) (by dsimp only; omega) ?_
    refine Does.use (does_add _ _ _ _ _) (by k_asm) (by k_asm) (by k_asm) N8 (by k_asm) rfl (Nat.zero_le _) (by ktr_room) (by ktr_units) ?_
    intro v7 h7 tk7 hR7 F7 N7 hk7
    dsimp only at hk7
    obtain ⟨t7, rfl⟩ := hR7
    repeat ((fail_if_success (with_reducible show wpAny _ _ (binaryOp Operator.Add (Value.ref _) (Value.ref _)) _ _ _)); walk1; (try dsimp only))
    rename News h₀ L _ ((_, _) :: (D, lst ys) :: _) => N6
    refine add_arrays_ints (by k_asm) N6 (its := ys.toArray) (its2 := [Value.int _ _].toArray) ⟨_, (N6 _ (.tail _ List.mem_cons_self)).1, rfl, _, rfl⟩ ⟨_, (N6 _ List.mem_cons_self).1, rfl, _, rfl⟩ (by simpa using hp) (.cons _ _ .nil) ?_ (by rw [sizeLine_eq]; simp)
    intro h5 F5 N5 hI5
    refine wpAny_with_toks (n := 1) hk7 ?_
    dsimp only
    refine ne_led (vs := cs) (n := nc) (k := 0) N5 (by repeat (first | assumption | apply List.mem_cons_of_mem)) hi List.mem_cons_self hI5 (by ktr_units) ?_ ?_
    · rw [his]; rfl
    intro hk2
    try dsimp only at hk2 ⊢
    repeat (walk1; (try dsimp only))
    exact K _ _ (by rw [em]; k_asm) (fun q hq => N5 q (.tail _ (.tail _ (.tail _ (.tail _ (.tail _ hq)))))) hk2
end Mine

namespace Mine
open PySem.Spec PySem.Calls PyProof.Rows.LCg

theorem law_16 {w : World} {p : Program} {loose : List Str} {mean : ExcName → Option Value} {mg mb : Str → Option Value} {dp un : Nat} {gd : Option (List Code)} {fa : Addr} {ccd : Value} {A₀ : Around} {base h₀ : Heap} {L : Addr} {s : Shared} {m : Str → Option Value} {c1 c2 c3 c4 c5 c6 c7 c8 : Addr} {Q : Flow → Shared → Prop} {E : Value → Shared → Prop}
    (B : Below A₀ base [] h₀) (F : Fr h₀ L s.heap m) (X : (hd.heap_39 w.params).In h₀) (T : Top p loose mean mg mb h₀) (hdp : dp + 5 < recursionLimit) (hun : un + 100 < cLine) (hto : 1 ≤ s.toks)
    (e1 : @LT.lt Nat _ c1 c2) (e2 : @LT.lt Nat _ c2 c3) (e3 : @LT.lt Nat _ c3 c4) (e4 : @LT.lt Nat _ c4 c5) (e5 : @LT.lt Nat _ c5 c6) (e6 : @LT.lt Nat _ c6 c7) (e7 : @LT.lt Nat _ c7 c8)
    {news : List (Addr × Obj)} {al ac ar : Addr} {nz nc nr : Nat} {b0 b1 b2 b3 b4 b5 b6 k0 k1 k2 k3 k4 k5 : Int} {t0 t1 t2 t3 t4 t5 t6 u0 u1 u2 u3 u4 u5 : Tok} {rv : List Value} {rs : List Nat} {o8 : Obj} (N : News h₀ L s.heap news)
    (hle : m (Str.ofString "lengths") = some (.ref al)) (mz : (al, lob [.int b0 t0, .int b1 t1, .int b2 t2, .int b3 t3, .int b4 t4, .int b5 t5, .int b6 t6] nz) ∈ news)
    (hcn : m (Str.ofString "counts") = some (.ref ac)) (mc : (ac, lob [.int k0 u0, .int k1 u1, .int k2 u2, .int k3 u3, .int k4 u4, .int k5 u5] nc) ∈ news)
    (m8 : (c8, o8) ∈ news) (d8 : o8.data = .cell (some (.ref ar))) (mr : (ar, lob rv nr) ∈ news) (hr : rv.length = rs.length) (h5 : rs.length ≤ 5)
    (K : ∀ (h : Heap) (tk : Nat) (t : Tok), Fr h₀ L h (fun y => if y = Str.ofString "due" then some (.int (b0 + 4 * (rs.length : Int) * k0) t) else m y) → News h₀ L h news → 1 ≤ tk → Goes w dp un gd fa ccd L c1 c2 c3 c4 c5 c6 c7 c8 Q E 17 { s with heap := h, toks := tk }) :
    Goes w dp un gd fa ccd L c1 c2 c3 c4 c5 c6 c7 c8 Q E 16 s := by
  refine law_step 16 17 rfl ?_
  revert X
  k_fill
  intro X
  w_on
  have em := said2 m _ _ _ _ hle hcn
  rw [em] at F
  have N0 := lead1 (lead1 (lead1 N mz) (.tail _ mc)) (.tail _ (.tail _ m8))
  refine wpAny_with_toks (n := 1) hto ?_
  repeat ((fail_if_success (with_reducible show wpAny _ _ (call (Value.builtin "len") _) _ _ _)); walk1; (try dsimp only))
  refine len_led rs.length N0 (by repeat (first | assumption | apply List.mem_cons_of_mem)) hr (by omega) ?_
  repeat ((fail_if_success (with_reducible show _ → _)); walk1; (try dsimp only))
  intro hk2
  try dsimp only at hk2 ⊢
  refine K _ _ _ (by rw [em]; k_asm) ?_ hk2
  rename News h₀ L _ (_ :: _ :: _ :: news) => N9
  exact fun q hq => N9 q (.tail _ (.tail _ (.tail _ hq)))
end Mine

namespace Mine
open PySem.Spec PySem.Calls PyProof.Rows.LCg

/-- the five kinds: the sign, what the first hand lays to it -/
abbrev kinds5 : List (Nat × Int) := [(60, 3), (62, 3), (34, 5), (13, 4), (10, 4)]
/-- the places of the row whose hand writes the sign -/
def placesOf (rs : List Nat) (c : Nat) : List Nat := (List.range rs.length).filter fun i => ((tab (rs.getD i 0)).lookup c).isSome
/-- what one sign of the kind grows by -/
def growOf (rs : List Nat) (c : Nat) (laid : Int) : Int := match placesOf rs c with
  | [] => 0
  | i :: _ => laid + 4 * ((rs.length : Int) - (i : Int) - 1)

abbrev tupO (c : Str) (t : Tok) (laid : Int) (t' : Tok) (many : Int) (t'' : Tok) : Obj := { cls := .type "tuple", data := .seq #[.str c t, .int laid t', .int many t''] }
def TupAt (R : List (Addr × Obj)) (q : Nat × Int × Int) (v : Value) : Prop := ∃ T t t' t'', v = .ref T ∧ (T, tupO ⟨#[q.1]⟩ t q.2.1 t' q.2.2 t'') ∈ R
abbrev K17 (k1 k2 k3 k4 k5 : Int) : List (Nat × Int × Int) := [(60, 3, k1), (62, 3, k2), (34, 5, k3), (13, 4, k4), (10, 4, k5)]
theorem start_17 {h₀ : Heap} {L : Addr} {h : Heap} {ll D0 D1 D2 D3 D4 ac c3 : Addr} {oc o3 : Obj} {k1 k2 k3 k4 k5 : Int} {t0 t1 t2 t3 t4 t0' t1' t2' t3' t4' t0'' t1'' t2'' t3'' t4'' : Tok} {news : List (Addr × Obj)}
    (N : News h₀ L h ((ll, W.listOf #[.ref D0, .ref D1, .ref D2, .ref D3, .ref D4] 0) :: (D4, tupO (Str.ofString "\n") t4 4 t4' k5 t4'') :: (D3, tupO (Str.ofString "\r") t3 4 t3' k4 t3'') :: (D2, tupO (Str.ofString "\"") t2 5 t2' k3 t2'') ::
      (D1, tupO (Str.ofString ">") t1 3 t1' k2 t1'') :: (D0, tupO (Str.ofString "<") t0 3 t0' k1 t0'') :: (ac, oc) :: (c3, o3) :: news))
    (off3 : ∀ q ∈ news, q.1 ≠ c3) (hac : (ac, oc) ∈ news) (l0 : ac < D0 ∧ c3 < D0 ∧ AllLt D0 news) (l1 : D0 < D1 ∧ ac < D1 ∧ c3 < D1 ∧ AllLt D1 news) (l2 : D1 < D2 ∧ D0 < D2 ∧ ac < D2 ∧ c3 < D2 ∧ AllLt D2 news)
    (l3 : D2 < D3 ∧ D1 < D3 ∧ D0 < D3 ∧ ac < D3 ∧ c3 < D3 ∧ AllLt D3 news) (l4 : D3 < D4 ∧ D2 < D4 ∧ D1 < D4 ∧ D0 < D4 ∧ ac < D4 ∧ c3 < D4 ∧ AllLt D4 news) (l5 : D4 < ll ∧ D3 < ll ∧ D2 < ll ∧ D1 < ll ∧ D0 < ll ∧ ac < ll ∧ c3 < ll ∧ AllLt ll news) :
    ∃ R its, News h₀ L h ((c3, o3) :: R) ∧ (∀ q ∈ R, q.1 ≠ c3) ∧ (∀ q ∈ news, q ∈ R) ∧ (ll, lob its 0) ∈ R ∧ Paired (TupAt R) (K17 k1 k2 k3 k4 k5) its := by
  refine ⟨(ll, W.listOf #[.ref D0, .ref D1, .ref D2, .ref D3, .ref D4] 0) :: (D4, tupO (Str.ofString "\n") t4 4 t4' k5 t4'') :: (D3, tupO (Str.ofString "\r") t3 4 t3' k4 t3'') :: (D2, tupO (Str.ofString "\"") t2 5 t2' k3 t2'') ::
      (D1, tupO (Str.ofString ">") t1 3 t1' k2 t1'') :: (D0, tupO (Str.ofString "<") t0 3 t0' k1 t0'') :: news, [.ref D0, .ref D1, .ref D2, .ref D3, .ref D4], ?_, ?_, ?_, ?_, ?_⟩
  · intro q hq
    apply N q
    simp only [List.mem_cons] at hq ⊢
    rcases hq with h | h | h | h | h | h | h | h <;> simp [h]
  · intro q hq
    simp only [List.mem_cons] at hq
    rcases hq with rfl | rfl | rfl | rfl | rfl | rfl | hq
    · exact Nat.ne_of_gt l5.2.2.2.2.2.2.1
    · exact Nat.ne_of_gt l4.2.2.2.2.2.1
    · exact Nat.ne_of_gt l3.2.2.2.2.1
    · exact Nat.ne_of_gt l2.2.2.2.1
    · exact Nat.ne_of_gt l1.2.2.1
    · exact Nat.ne_of_gt l0.2.1
    · exact off3 q hq
  · intro q hq
    simp only [List.mem_cons]
    simp [hq]
  · exact List.mem_cons_self
  · rw [sg10, sg13, sg34, sg60, sg62]
    exact .cons ⟨_, _, _, _, rfl, by repeat (first | exact List.mem_cons_self | apply List.mem_cons_of_mem)⟩ (.cons ⟨_, _, _, _, rfl, by repeat (first | exact List.mem_cons_self | apply List.mem_cons_of_mem)⟩ (.cons ⟨_, _, _, _, rfl, by repeat (first | exact List.mem_cons_self | apply List.mem_cons_of_mem)⟩ (.cons ⟨_, _, _, _, rfl, by repeat (first | exact List.mem_cons_self | apply List.mem_cons_of_mem)⟩ (.cons ⟨_, _, _, _, rfl, by repeat (first | exact List.mem_cons_self | apply List.mem_cons_of_mem)⟩ .nil))))

def sum17 (rs : List Nat) (ks : List (Nat × Int × Int)) (i : Nat) : Int := ((ks.take i).map fun q => q.2.2 * growOf rs q.1 q.2.1).sum

theorem law_17 {w : World} {p : Program} {loose : List Str} {mean : ExcName → Option Value} {mg mb : Str → Option Value} {dp un : Nat} {gd : Option (List Code)} {fa : Addr} {ccd : Value} {A₀ : Around} {base h₀ : Heap} {L : Addr} {s : Shared} {m : Str → Option Value} {c1 c2 c3 c4 c5 c6 c7 c8 : Addr} {Q : Flow → Shared → Prop} {E : Value → Shared → Prop}
    (B : Below A₀ base [] h₀) (F : Fr h₀ L s.heap m) (X : (hd.heap_39 w.params).In h₀) (T : Top p loose mean mg mb h₀) (hdp : dp + 5 < recursionLimit) (hun : un + 100 < cLine) (hto : 1 ≤ s.toks)
    (e1 : @LT.lt Nat _ c1 c2) (e2 : @LT.lt Nat _ c2 c3) (e3 : @LT.lt Nat _ c3 c4) (e4 : @LT.lt Nat _ c4 c5) (e5 : @LT.lt Nat _ c5 c6) (e6 : @LT.lt Nat _ c6 c7) (e7 : @LT.lt Nat _ c7 c8)
    {news : List (Addr × Obj)} {ac ar ta : Addr} {nc nr nt : Nat} {k0 k1 k2 k3 k4 k5 due : Int} {u0 u1 u2 u3 u4 u5 td : Tok} {rv tl : List Value} {rs : List Nat} {o3 o6 o8 : Obj} (N : News h₀ L s.heap ((c3, o3) :: news)) (off3 : ∀ q ∈ news, q.1 ≠ c3) (d3 : o3.data = .cell none)
    (hdue : m (Str.ofString "due") = some (.int due td))
    (hcn : m (Str.ofString "counts") = some (.ref ac)) (mc : (ac, lob [.int k0 u0, .int k1 u1, .int k2 u2, .int k3 u3, .int k4 u4, .int k5 u5] nc) ∈ news)
    (m8 : (c8, o8) ∈ news) (d8 : o8.data = .cell (some (.ref ar))) (mr : (ar, lob rv nr) ∈ news) (hi : IntsAre rv (rs.map fun r : Nat => (r : Int))) (h5 : rs.length ≤ 5) (hlt : ∀ r ∈ rs, r < 5)
    (m6 : (c6, o6) ∈ news) (d6 : o6.data = .cell (some (.ref ta))) (mt : (ta, lob tl nt) ∈ news) (hT : TabsAre w news tl)
    (b1 : k1.natAbs ≤ 10) (b2 : k2.natAbs ≤ 10) (b3 : k3.natAbs ≤ 10) (b4 : k4.natAbs ≤ 10) (b5 : k5.natAbs ≤ 10)
    (K : ∀ (h : Heap) (tk : Nat) (t : Tok) (m' : Str → Option Value), Fr h₀ L h m' → m' (Str.ofString "due") = some (.int (due + k1 * growOf rs 60 3 + k2 * growOf rs 62 3 + k3 * growOf rs 34 5 + k4 * growOf rs 13 4 + k5 * growOf rs 10 4) t) → News h₀ L h news → 1 ≤ tk → Goes w dp un gd fa ccd L c1 c2 c3 c4 c5 c6 c7 c8 Q E 18 { s with heap := h, toks := tk }) :
    Goes w dp un gd fa ccd L c1 c2 c3 c4 c5 c6 c7 c8 Q E 17 s := by
  refine law_step 17 18 rfl ?_
  revert X
  k_fill
  intro X
  w_on
  have em := said2 m _ _ _ _ hdue hcn
  rw [em] at F
  have N0 : News h₀ L s.heap ((ac, lob [.int k0 u0, .int k1 u1, .int k2 u2, .int k3 u3, .int k4 u4, .int k5 u5] nc) :: (c3, o3) :: news) := lead1 N (.tail _ mc)
  refine ForL_own (h₀ := h₀) (L := L) rfl ?_
  refine wpAny_with_toks (n := 1) hto ?_
  repeat ((fail_if_success (with_reducible show _ → _)); walk1; (try dsimp only))
  intro hk2
  try dsimp only at hk2 ⊢
  rename News h₀ L _ _ => N9
  rename Fr h₀ L _ _ => F9
  obtain ⟨R, its, NR, offR, subR, mll, hp⟩ := start_17 N9 off3 mc (by assumption) (by assumption) (by assumption) (by assumption) (by assumption) (by assumption)
  clear N9
  have hlen : its.length = 5 := hp.length.symm
  unfold ForAtL
  refine ⟨1, _, its.toArray, (c3, o3) :: R, _, fun i m nw => ∃ o3', nw = (c3, o3') :: R ∧ (∃ v0, o3'.data = .cell v0) ∧ ∃ t, m (Str.ofString "due") = some (.int (due + sum17 rs (K17 k1 k2 k3 k4 k5) i) t), rfl, F9, NR, ?SS, ?TT, hk2, ?J0, ?JS, ?turn, ?fin⟩
  case SS => exact .inr ⟨_, List.mem_cons_of_mem _ mll, rfl, 0, rfl⟩
  case TT =>
    intro v hv
    obtain ⟨q, T, t, t', t'', e, _⟩ := hp.right v (by simpa using hv)
    exact ⟨T, e⟩
  case J0 => exact ⟨o3, rfl, ⟨_, d3⟩, td, by simp [sum17]⟩
  case JS =>
    rintro i m' nw ⟨o3', rfl, _⟩
    exact .inr ⟨_, List.mem_cons_of_mem _ mll, rfl, 0, rfl⟩
  case fin =>
    rintro h tk m' nw F N htk ⟨o3', rfl, _, t, hd⟩
    refine K h tk t m' F ?_ (fun q hq => N q (List.mem_cons_of_mem _ (subR q hq))) htk
    rw [hd]
    have : its.toArray.size = 5 := by simpa using hlen
    rw [this]
    simp only [sum17, List.take_succ_cons, List.take_zero, List.map_cons, List.map_nil, List.sum_cons, List.sum_nil]
    congr 2
    omega
  case turn =>
    intro i v I oI m nw h tk E' hi' hP hJ F N off htk
    obtain ⟨o3', rfl, ⟨v0, hv0⟩, t, hd⟩ := hJ
    rw [List.size_toArray, hlen] at hi'
    have hP' : its[i]? = some v := by simpa using hP
    obtain ⟨q, hq⟩ : ∃ q, (K17 k1 k2 k3 k4 k5)[i]? = some q := ⟨_, List.getElem?_eq_getElem (show i < (K17 k1 k2 k3 k4 k5).length from hi')⟩
    obtain ⟨T', t1, t2, t3, rfl, mT⟩ := paired_at hp hq hP'
    have hqm : q ∈ K17 k1 k2 k3 k4 k5 := List.mem_of_getElem? hq
    have hlaid : 0 ≤ q.2.1 ∧ q.2.1 ≤ 5 := by
      simp only [List.mem_cons, List.mem_nil_iff, or_false] at hqm
      rcases hqm with rfl | rfl | rfl | rfl | rfl <;> dsimp only <;> omega
    have hmany : q.2.2.natAbs ≤ 10 := by
      simp only [List.mem_cons, List.mem_nil_iff, or_false] at hqm
      rcases hqm with rfl | rfl | rfl | rfl | rfl <;> assumption
    have hsum : sum17 rs (K17 k1 k2 k3 k4 k5) (i + 1) = sum17 rs (K17 k1 k2 k3 k4 k5) i + q.2.2 * growOf rs q.1 q.2.1 := by
      unfold sum17
      rw [List.take_add_one, hq]
      simp
    generalize sum17 rs (K17 k1 k2 k3 k4 k5) i = Sold at hsum hd
    obtain ⟨c, laid, many⟩ := q
    dsimp only at mT hlaid hmany hsum
    rw [said m _ _ hd] at F
    have hT3 : T' ≠ c3 := offR _ mT
    have h63 : c6 ≠ c3 := offR _ (subR _ m6)
    have h83 : c8 ≠ c3 := offR _ (subR _ m8)
    have hI3 : I ≠ c3 := fun e => off _ List.mem_cons_self e.symm
    have N1 : News h₀ L h ((T', tupO ⟨#[c]⟩ t1 laid t2 many t3) :: (c6, o6) :: (c8, o8) :: (I, oI) :: (c3, o3') :: R) := lead1 (lead1 (lead1 N (.tail _ (.tail _ (subR _ m8)))) (.tail _ (.tail _ (.tail _ (subR _ m6))))) (.tail _ (.tail _ (.tail _ (.tail _ mT))))
    refine wpAny_with_toks (n := 1) htk ?_
    walk1
    walk1
    walk1
    try dsimp only
    refine storeX_C (cl := lawC c1 c2 c3 c4 c5 c6 c7 c8) (c := c3) (by k_asm) (by k_asm) rfl (UpdF.tail hT3 (UpdF.tail h63 (UpdF.tail h83 (UpdF.tail hI3 (UpdF.head offR))))) hv0 ?_
    intro h9 o3'' F9 N9 hd9
    try dsimp only at N9
    repeat ((fail_if_success (with_reducible show _ → _)); walk1; (try dsimp only))
    intro hk3
    try dsimp only at hk3 ⊢
    refine wpAny_execs_cons ?_
    rename Fr h₀ L _ _ => F8
    rename News h₀ L _ _ => N8
    refine Assign_ListComp_own (h₀ := h₀) (L := L) F8 (fun i => ((tab (rs.getD i 0)).lookup c).isSome) (fun i v => IsIn (i : Int) v) rfl rfl (by with_unfolding_all rfl) (by decide) rfl (by decide) rfl rfl rfl ?_
    refine wpAny_with_toks (n := 1) hk3 ?_
    repeat ((fail_if_success (with_reducible show wpAny _ _ (call (Value.builtin "len") _) _ _ _)); walk1; (try dsimp only))
    have hrl : rv.length = rs.length := by simpa using hi.length
    have sub8 : ∀ q ∈ news, q ∈ (T', tupO ⟨#[c]⟩ t1 laid t2 many t3) :: (c6, o6) :: (c8, o8) :: (I, oI) :: (c3, o3'') :: R := fun q hq => .tail _ (.tail _ (.tail _ (.tail _ (.tail _ (subR q hq)))))
    refine len_led rs.length N8 (sub8 _ mr) hrl (by omega) ?_
    repeat ((fail_if_success (with_reducible show _ → _)); walk1; (try dsimp only))
    intro hk4
    try dsimp only at hk4 ⊢
    refine CompAt.intro (n := rs.length) 1 (by k_asm) (by k_asm) trivial hk4 ?hsz (Src.range rfl (by assumption) ?hs ?hz) ?tt ?ff
    case hsz => rw [sizeLine_eq]; omega
    case hs => exact small_one (by omega) (by omega) (by omega) (by omega)
    case hz =>
      rw [rangeSize_nat]
      have : ((rs.length : Int) - 0).toNat = rs.length := by omega
      rw [this]
    case tt =>
      intro j v J oJ C oC D m₂ ys h tk₀ tk E' hj hP hle hC hx F N htk
      obtain ⟨u', rfl⟩ := hP
      unfold testsOf
      refine wpAny_tests_one ?_
      have hrj : rs[j]? = some (rs.getD j 0) := by rw [List.getD_eq_getElem?_getD, List.getElem?_eq_getElem hj]; rfl
      have hr5 : rs.getD j 0 < 5 := hlt _ (List.mem_of_getElem? hrj)
      obtain ⟨tv, hv⟩ : ∃ tv, rv[j]? = some (.int (rs.getD j 0 : Nat) tv) := by
        have hii : j < rv.length := by omega
        obtain ⟨r', tr, e, hri'⟩ := IntsAre.at hi j rv[j] (List.getElem?_eq_getElem hii)
        rw [List.getElem?_map, hrj] at hri'
        cases hri'
        exact ⟨tr, by rw [List.getElem?_eq_getElem hii, e]⟩
      obtain ⟨d, o, htl, hdo, hlo, kvs, hkv, htb⟩ := hT _ hr5
      have e0 : (0 + (j : Int)).toNat = j := by omega
      have er : ((rs.getD j 0 : Nat) : Int).toNat = rs.getD j 0 := Int.toNat_natCast _
      repeat ((fail_if_success (with_reducible show wpAny _ _ (subscriptTail _ _ _ _) _ _ _)); walk1; (try dsimp only))
      have sub9 : ∀ q ∈ news, q ∈ (J, oJ) :: (C, oC) :: (D, lst ys) :: (T', tupO ⟨#[c]⟩ t1 laid t2 many t3) :: (c6, o6) :: (c8, o8) :: (I, oI) :: (c3, o3'') :: R := fun q hq => .tail _ (.tail _ (.tail _ (sub8 q hq)))
      refine item_led N (sub9 _ mr) (by omega) (by omega) (by rw [e0]; exact hv) ?_
      refine item_led N (sub9 _ mt) (by omega) (by omega) (by rw [er]; exact htl) ?_
      have hl := htb c
      have hin : (valueAt kvs (⟨#[c]⟩ : Str)).isSome = ((tab (rs.getD j 0)).lookup c).isSome := by
        cases hz : (tab (rs.getD j 0)).lookup c with
        | some z => rw [hz] at hl; obtain ⟨tz, hl⟩ := hl; rw [hl]; rfl
        | none => rw [hz] at hl; dsimp only at hl; rw [hl]; rfl
      refine kda_in (k := (⟨#[c]⟩ : Str)) N (sub9 _ hdo) hkv hlo (strKind_is _ _ _ _) _ hin ?_
      walk1
      try dsimp only
      refine TestEnd.intro rfl (by k_asm) (by k_asm) (fun _ hq => hq) fun _ => ?_
      try dsimp only
      repeat (walk1; (try dsimp only))
      exact EltEnd.intro (by k_asm) (by k_asm) (fun _ hq => hq) ⟨u', by rw [Int.zero_add]⟩
    case ff =>
      intro D ys hys hfr h tk F N htk
      have hg : growOf rs c laid = match placesOf rs c with | [] => 0 | i :: _ => laid + 4 * ((rs.length : Int) - (i : Int) - 1) := rfl
      replace hys : Paired (fun (i : Nat) v => IsIn (i : Int) v) (placesOf rs c) ys := hys
      have hpl : ∀ i ∈ placesOf rs c, i < rs.length := fun i hi => by
        unfold placesOf at hi
        exact List.mem_range.mp (List.mem_filter.mp hi).1
      refine wpAny_execs_cons ?_
      refine wpAny_with_toks (n := 1) htk ?_
      generalize hplen : placesOf rs c = pl at hg hys hpl
      have sub9 : ∀ q ∈ news, q ∈ (D, lst ys) :: (T', tupO ⟨#[c]⟩ t1 laid t2 many t3) :: (c6, o6) :: (c8, o8) :: (I, oI) :: (c3, o3'') :: R := fun q hq => .tail _ (sub8 q hq)
      have off' : ∀ q ∈ (c3, o3'') :: R, q.1 ≠ I := fun q hq => by
        rcases List.mem_cons.mp hq with rfl | hq
        · exact off (c3, o3') List.mem_cons_self
        · exact off q (.tail _ hq)
      have dropN : ∀ {h9 : Heap} {x : List (Addr × Obj)}, News h₀ L h9 x → (∀ q ∈ (I, oI) :: (c3, o3'') :: R, q ∈ x) → News h₀ L h9 ((I, oI) :: (c3, o3'') :: R) := fun N hx q hq => N q (hx q hq)
      cases hys with
      | nil => 
        repeat ((fail_if_success (with_reducible show _ → _)); (fail_if_success (with_reducible show wpAny _ _ (truthy _) _ _ _)); walk1; (try dsimp only))
        refine kgr_truthy N List.mem_cons_self rfl rfl (by simp) ?_
        repeat ((fail_if_success (with_reducible show _ → _)); walk1; (try dsimp only))
        intro hk5
        try dsimp only at hk5 ⊢
        refine wpAny_execs_nil ?_
        refine ⟨_, _, _, (c3, o3'') :: R, rfl, by k_asm, dropN N (fun q hq => .tail _ (.tail _ (.tail _ (.tail _ hq)))), off', o3'', rfl, ⟨_, hd9⟩, t, ?_⟩
        rw [hsum, hg]
        show _ = some (Value.int (due + (Sold + many * 0)) t)
        rw [Int.mul_zero, Int.add_zero]
        rfl
      | @cons i0 v0 pl' ys' g0 gr =>
        obtain ⟨tg, rfl⟩ := g0
        have hi0 : i0 < rs.length := hpl i0 List.mem_cons_self
        repeat ((fail_if_success (with_reducible show _ → _)); (fail_if_success (with_reducible show wpAny _ _ (truthy _) _ _ _)); walk1; (try dsimp only))
        have hyl : ys'.length ≤ 1000 := by
          have h1 : ys'.length = pl'.length := gr.length.symm
          have h2 : (i0 :: pl').length ≤ rs.length := by
            rw [← hplen]
            unfold placesOf
            refine Nat.le_trans (List.length_filter_le _ _) ?_
            rw [List.length_range]; exact Nat.le_refl _
          rw [List.length_cons] at h2
          omega
        refine kgr_truthy N List.mem_cons_self rfl rfl (by simp; omega) ?_
        simp only [List.isEmpty_cons, Bool.not_false]
        repeat ((fail_if_success (with_reducible show _ → _)); (fail_if_success (with_reducible show wpAny _ _ (call (Value.builtin "len") _) _ _ _)); walk1; (try dsimp only))
        refine wpAny_loadName_local rfl rfl F.ns rfl ?_
        repeat ((fail_if_success (with_reducible show _ → _)); (fail_if_success (with_reducible show wpAny _ _ (call (Value.builtin "len") _) _ _ _)); walk1; (try dsimp only))
        refine len_led rs.length N (sub9 _ mr) hrl (by omega) ?_
        repeat ((fail_if_success (with_reducible show _ → _)); (fail_if_success (with_reducible show wpAny _ _ (subscriptTail _ _ _ _) _ _ _)); walk1; (try dsimp only))
        refine item_led N List.mem_cons_self (by decide) (by decide) rfl ?_
        repeat ((fail_if_success (with_reducible show _ → _)); walk1; (try dsimp only))
        intro hk5
        try dsimp only at hk5 ⊢
        refine wpAny_execs_nil ?_
        rename Fr h₀ L _ _ => F6
        rename News h₀ L _ _ => N6
        refine ⟨_, _, _, (c3, o3'') :: R, rfl, F6, dropN N6 (fun q hq => .tail _ (.tail _ (.tail _ (.tail _ hq)))), off', o3'', rfl, ⟨_, hd9⟩, ?tkk, ?vv⟩
        case vv =>
          rw [hsum, hg]
          show _ = some (Value.int (due + (Sold + many * (laid + 4 * ((rs.length : Int) - (i0 : Int) - 1)))) ?tkk)
          rw [← Int.add_assoc]
          rfl
end Mine

namespace Mine
open PySem.Spec PySem.Calls PyProof.Rows.LCg

theorem law_18 {w : World} {p : Program} {loose : List Str} {mean : ExcName → Option Value} {mg mb : Str → Option Value} {dp un : Nat} {gd : Option (List Code)} {fa : Addr} {ccd : Value} {A₀ : Around} {base h₀ : Heap} {L : Addr} {s : Shared} {m : Str → Option Value} {c1 c2 c3 c4 c5 c6 c7 c8 : Addr} {Q : Flow → Shared → Prop} {E : Value → Shared → Prop}
    (B : Below A₀ base [] h₀) (F : Fr h₀ L s.heap m) (X : (hd.heap_39 w.params).In h₀) (T : Top p loose mean mg mb h₀) (hdp : dp + 5 < recursionLimit) (hun : un + 100 < cLine) (hto : 1 ≤ s.toks)
    (e1 : @LT.lt Nat _ c1 c2) (e2 : @LT.lt Nat _ c2 c3) (e3 : @LT.lt Nat _ c3 c4) (e4 : @LT.lt Nat _ c4 c5) (e5 : @LT.lt Nat _ c5 c6) (e6 : @LT.lt Nat _ c6 c7) (e7 : @LT.lt Nat _ c7 c8)
    {news : List (Addr × Obj)} {o2 o5 o8 : Obj} {l : List Nat} {t2 : Tok} {ah ar : Addr} {n nr : Nat} {rv : List Value} {rs : List Nat} (N : News h₀ L s.heap news)
    (m2 : (c2, o2) ∈ news) (d2 : o2.data = .cell (some (.str (tx l) t2))) (m5 : (c5, o5) ∈ news) (d5 : o5.data = .cell (some (.ref ah))) (mh : (ah, lob handsV n) ∈ news)
    (m8 : (c8, o8) ∈ news) (d8 : o8.data = .cell (some (.ref ar))) (mr : (ar, lob rv nr) ∈ news) (hi : IntsAre rv (rs.map fun r : Nat => (r : Int))) (h5 : rs.length ≤ 5) (hlt : ∀ r ∈ rs, r < 5)
    (hal : ∀ c ∈ l, c ∈ alph) (hl : l.length ≤ 10)
    (K : ∀ (h : Heap) (tk : Nat) (t : Tok), Fr h₀ L h (fun y => if y = Str.ofString "page" then some (.str (tx (wr rs l)) t) else m y) → News h₀ L h news → 1 ≤ tk → Goes w dp un gd fa ccd L c1 c2 c3 c4 c5 c6 c7 c8 Q E 19 { s with heap := h, toks := tk }) :
    Goes w dp un gd fa ccd L c1 c2 c3 c4 c5 c6 c7 c8 Q E 18 s := by
  refine law_step 18 19 rfl ?_
  revert X
  k_fill
  intro X
  w_on
  have N0 : News h₀ L s.heap ((c2, o2) :: (c5, o5) :: (c8, o8) :: (ar, lob rv nr) :: (ah, lob handsV n) :: news) := lead1 (lead1 (lead1 (lead1 (lead1 N mh) (.tail _ mr)) (.tail _ (.tail _ m8))) (.tail _ (.tail _ (.tail _ m5)))) (.tail _ (.tail _ (.tail _ (.tail _ m2))))
  refine wpAny_with_toks (n := 1) hto ?_
  repeat ((fail_if_success (with_reducible show wpAny _ _ (call (Value.ref _) _) _ _ _)); walk1; (try dsimp only))
  refine Does.use (does_written l t2 ar ah rs rv nr n ((c2, o2) :: (c5, o5) :: (c8, o8) :: (ar, lob rv nr) :: (ah, lob handsV n) :: news) (by k_mem) (by k_mem) hi hlt (wr_bound hlt h5 hal hl) (by omega)) (by k_asm) (by k_asm) (by k_asm) (by k_asm) (by k_asm) rfl (by assumption) (by ktr_room) (by ktr_units) ?_
  intro v9 h9 tk9 hR9 F9 N9
  obtain ⟨t9, rfl⟩ := hR9
  repeat ((fail_if_success (with_reducible show _ → _)); walk1; (try dsimp only))
  intro hk2
  try dsimp only at hk2 ⊢
  refine K _ _ t9 (by k_asm) ?_ hk2
  rename News h₀ L _ (_ :: _ :: _ :: _ :: _ :: news) => N8
  exact fun q hq => N8 q (.tail _ (.tail _ (.tail _ (.tail _ (.tail _ hq)))))

theorem flat_gen (f : Nat → List Nat) : ∀ l : List Nat, (List.map (fun i => f (l.getD i 0)) (List.range l.length)).flatten = l.flatMap f
  | [] => rfl
  | a :: r => by
    have ih := flat_gen f r
    rw [List.length_cons, List.range_succ_eq_map, List.map_cons, List.flatten_cons, List.map_map, List.flatMap_cons]
    have : ((fun i => f ((a :: r).getD i 0)) ∘ Nat.succ) = fun i => f (r.getD i 0) := by funext i; simp
    rw [this, ih]; rfl
theorem ne_tx {prog : Program} {w : World} {A : Around} {E : Value → Shared → Prop} {s : Shared} {x y : Str} {t u : Tok} {Q : Value → Shared → Prop} (e : x = y) (h : Q (.bool false) s) : wpAny (model prog w) A (compareOp .NotEq (.str x t) (.str y u)) Q E s := by
  refine PyProof.Rows.ne_str ?_
  rw [e]
  simpa using h

theorem law_19 {w : World} {p : Program} {loose : List Str} {mean : ExcName → Option Value} {mg mb : Str → Option Value} {dp un : Nat} {gd : Option (List Code)} {fa : Addr} {ccd : Value} {A₀ : Around} {base h₀ : Heap} {L : Addr} {s : Shared} {m : Str → Option Value} {c1 c2 c3 c4 c5 c6 c7 c8 : Addr} {Q : Flow → Shared → Prop} {E : Value → Shared → Prop}
    (B : Below A₀ base [] h₀) (F : Fr h₀ L s.heap m) (X : (hd.heap_39 w.params).In h₀) (T : Top p loose mean mg mb h₀) (hdp : dp + 5 < recursionLimit) (hun : un + 100 < cLine) (hto : 1 ≤ s.toks)
    (e1 : @LT.lt Nat _ c1 c2) (e2 : @LT.lt Nat _ c2 c3) (e3 : @LT.lt Nat _ c3 c4) (e4 : @LT.lt Nat _ c4 c5) (e5 : @LT.lt Nat _ c5 c6) (e6 : @LT.lt Nat _ c6 c7) (e7 : @LT.lt Nat _ c7 c8)
    {news : List (Addr × Obj)} {o2 o6 o8 : Obj} {l : List Nat} {t2 tp : Tok} {ar ta : Addr} {nr nt : Nat} {rv tl : List Value} {rs : List Nat} (N : News h₀ L s.heap news)
    (m2 : (c2, o2) ∈ news) (d2 : o2.data = .cell (some (.str (tx l) t2)))
    (m8 : (c8, o8) ∈ news) (d8 : o8.data = .cell (some (.ref ar))) (mr : (ar, lob rv nr) ∈ news) (hi : IntsAre rv (rs.map fun r : Nat => (r : Int))) (h5 : rs.length ≤ 5) (hlt : ∀ r ∈ rs, r < 5)
    (m6 : (c6, o6) ∈ news) (d6 : o6.data = .cell (some (.ref ta))) (mt : (ta, lob tl nt) ∈ news) (hT : TabsAre w news tl)
    (hal : ∀ c ∈ l, c ∈ alph) (hl : l.length ≤ 10) (hpg : m (Str.ofString "page") = some (.str (tx (wr rs l)) tp))
    (K : ∀ (h : Heap) (tk : Nat), Fr h₀ L h m → News h₀ L h news → 1 ≤ tk → Goes w dp un gd fa ccd L c1 c2 c3 c4 c5 c6 c7 c8 Q E 20 { s with heap := h, toks := tk }) :
    Goes w dp un gd fa ccd L c1 c2 c3 c4 c5 c6 c7 c8 Q E 19 s := by
  refine law_step 19 20 rfl ?_
  revert X
  k_fill
  intro X
  w_on
  have em := said m _ _ hpg
  rw [em] at F
  have N0 : News h₀ L s.heap ((c2, o2) :: (c6, o6) :: (c8, o8) :: news) := lead1 (lead1 (lead1 N m8) (.tail _ m6)) (.tail _ (.tail _ m2))
  have hTl : ∀ r, r < 5 → ∃ d o, tl[r]? = some (.ref d) ∧ (d, o) ∈ news ∧ TabO w r d o := hT
  walk1
  walk1
  walk1
  walk1
  walk1
  walk1
  walk1
  walk1
  refine ListComp_own (h₀ := h₀) (L := L) (by k_asm) (fun _ => true) (fun i v => IsTx (signOf rs (l.getD i 0)) v) (by with_unfolding_all rfl) (by decide) rfl (by decide) rfl ?_
  refine wpAny_with_toks (n := 1) (by dsimp only; omega) ?_
  repeat ((fail_if_success (with_reducible show _ → _)); walk1; (try dsimp only))
  intro hk1
  try dsimp only at hk1 ⊢
  refine CompAt.intro 1 (by k_asm) (by k_asm) trivial hk1 ?hsz (Src.str rfl _ _) (Turns.plain ?tt) ?ff
  case hsz =>
    rw [sizeLine_eq]
    show l.toArray.size ≤ _
    rw [List.size_toArray]; omega
  case tt =>
    intro i v I oI C oC D m₂ ys h tk₀ tk E' hi' hP hle hC hx F N htk
    obtain ⟨c, u, hc, hku, hut, rfl⟩ := hP
    have hc' : l[i]? = some c := by simpa using hc
    have hcg : signOf rs (l.getD i 0) = signOf rs c := by rw [List.getD_eq_getElem?_getD, hc']; rfl
    repeat ((fail_if_success (with_reducible show wpAny _ _ (call (Value.ref _) _) _ _ _)); walk1; (try dsimp only))
    have sub9 : ∀ q ∈ news, q ∈ (I, oI) :: (C, oC) :: (D, lst ys) :: (c2, o2) :: (c6, o6) :: (c8, o8) :: news := fun q hq => .tail _ (.tail _ (.tail _ (.tail _ (.tail _ (.tail _ hq)))))
    refine Does.use (does_sign c u ar ta rs rv tl nr nt ((I, oI) :: (C, oC) :: (D, lst ys) :: (c2, o2) :: (c6, o6) :: (c8, o8) :: news) (sub9 _ mr) (sub9 _ mt) hi (fun r hr => by obtain ⟨d, o, a1, a2, a3⟩ := hTl r hr; exact ⟨d, o, a1, sub9 _ a2, a3⟩) hlt (by omega)) (by k_asm) (by k_asm) (by k_asm) (by k_asm) (by k_asm) rfl (by assumption) (by ktr_room) (by ktr_units) ?_
    intro v9 h9 tk9 hR9 F9 N9
    refine EltEnd.intro (by k_asm) (by k_asm) (fun _ hq => hq) ?_
    show IsTx (signOf rs (l.getD i 0)) _
    rw [hcg]; exact hR9
  case ff =>
    intro D ys hys hfr h tk F N htk
    have hsz : (tx l).cps.size = l.length := by simp
    rw [filter_all, hsz] at hys
    have hp := paired_map (fun i => signOf rs (l.getD i 0)) hys (H := IsTx) (fun _ _ _ g => g)
    walk1
    refine wpAny_with_toks (n := 1) htk ?_
    refine join_own _ (flat_gen _ _) (by k_asm) (by k_mem) hp ?hw ?_
    case hw =>
      rw [← List.length_flatten, flat_gen, ← wr_eq hlt hal]
      have := wr_bound hlt h5 hal hl 10
      rw [List.take_of_length_le (by omega)] at this
      rw [List.length_map, List.length_range]
      omega
    intro t' k hk3
    dsimp only at hk3 ⊢
    refine ne_tx (by rw [wr_eq hlt hal]) ?_
    repeat (walk1; (try dsimp only))
    exact K _ _ (by rw [em]; k_asm) (fun q hq => N q (.tail _ (.tail _ (.tail _ (.tail _ hq))))) hk3
end Mine

namespace Mine
open PySem.Spec PySem.Calls PyProof.Rows.LCg

theorem eq_same {prog : Program} {w : World} {A : Around} {E : Value → Shared → Prop} {s : Shared} {x y : Int} {t u : Tok} {Q : Value → Shared → Prop} (e : x = y) (h : Q (.bool true) s) : wpAny (model prog w) A (compareOp .Eq (.int x t) (.int y u)) Q E s := by
  refine PyProof.Rows.eq_int ?_
  rw [e]
  simpa using h
theorem law_20 {w : World} {p : Program} {loose : List Str} {mean : ExcName → Option Value} {mg mb : Str → Option Value} {dp un : Nat} {gd : Option (List Code)} {fa : Addr} {ccd : Value} {A₀ : Around} {base h₀ : Heap} {L : Addr} {s : Shared} {m : Str → Option Value} {c1 c2 c3 c4 c5 c6 c7 c8 : Addr} {Q : Flow → Shared → Prop} {E : Value → Shared → Prop}
    (B : Below A₀ base [] h₀) (F : Fr h₀ L s.heap m) (X : (hd.heap_39 w.params).In h₀) (T : Top p loose mean mg mb h₀) (hdp : dp + 5 < recursionLimit) (hun : un + 100 < cLine) (hto : 1 ≤ s.toks)
    (e1 : @LT.lt Nat _ c1 c2) (e2 : @LT.lt Nat _ c2 c3) (e3 : @LT.lt Nat _ c3 c4) (e4 : @LT.lt Nat _ c4 c5) (e5 : @LT.lt Nat _ c5 c6) (e6 : @LT.lt Nat _ c6 c7) (e7 : @LT.lt Nat _ c7 c8)
    {news : List (Addr × Obj)} {o4 o5 o8 : Obj} {tr pg : List Nat} {t4 tp td : Tok} {ah ar : Addr} {n nr : Nat} {rv : List Value} {rs : List Nat} {due : Int} (N : News h₀ L s.heap news)
    (m4 : (c4, o4) ∈ news) (d4 : o4.data = .cell (some (.str (tx tr) t4))) (m5 : (c5, o5) ∈ news) (d5 : o5.data = .cell (some (.ref ah))) (mh : (ah, lob handsV n) ∈ news)
    (m8 : (c8, o8) ∈ news) (d8 : o8.data = .cell (some (.ref ar))) (mr : (ar, lob rv nr) ∈ news) (hi : IntsAre rv (rs.map fun r : Nat => (r : Int))) (h5 : rs.length ≤ 5) (hlt : ∀ r ∈ rs, r < 5)
    (hal : ∀ c ∈ tr, c ∈ alph) (hl : tr.length ≤ 10) (hpl : pg.length ≤ 1000) (hpg : m (Str.ofString "page") = some (.str (tx pg) tp)) (hdue : m (Str.ofString "due") = some (.int due td))
    (q1 : (pg.length : Int) = due) (q2 : ((wr rs tr).length : Int) = due)
    (K : ∀ (h : Heap) (tk : Nat), Fr h₀ L h m → News h₀ L h news → Q (.ret (.bool true)) { s with heap := h, toks := tk }) :
    Goes w dp un gd fa ccd L c1 c2 c3 c4 c5 c6 c7 c8 Q E 20 s := by
  refine law_step 20 21 rfl ?_
  revert X
  k_fill
  intro X
  w_on
  have em := said2 m _ _ _ _ hpg hdue
  rw [em] at F
  have N0 : News h₀ L s.heap ((c4, o4) :: (c5, o5) :: (c8, o8) :: (ar, lob rv nr) :: (ah, lob handsV n) :: news) := lead1 (lead1 (lead1 (lead1 (lead1 N mh) (.tail _ mr)) (.tail _ (.tail _ m8))) (.tail _ (.tail _ (.tail _ m5)))) (.tail _ (.tail _ (.tail _ (.tail _ m4))))
  repeat ((fail_if_success (with_reducible show wpAny _ _ (call (Value.ref _) _) _ _ _)); walk1; (try dsimp only))
  refine wpAny_with_toks (n := 1) hto ?_
  refine Does.use (does_hint pg tp ((c4, o4) :: (c5, o5) :: (c8, o8) :: (ar, lob rv nr) :: (ah, lob handsV n) :: news) (by omega)) (by k_asm) (by k_asm) (by k_asm) (by k_asm) (by k_asm) rfl (Nat.zero_le _) (by ktr_room) (by ktr_units) ?_
  intro v9 h9 tk9 hR9 F9 N9 hk9
  obtain ⟨t9, rfl⟩ := hR9
  dsimp only at hk9
  walk1
  refine eq_same q1 ?_
  repeat ((fail_if_success (with_reducible show wpAny _ _ (call (Value.ref _) _) _ _ _)); walk1; (try dsimp only))
  refine Does.use (does_written tr t4 ar ah rs rv nr n ((c4, o4) :: (c5, o5) :: (c8, o8) :: (ar, lob rv nr) :: (ah, lob handsV n) :: news) (by k_mem) (by k_mem) hi hlt (wr_bound hlt h5 hal hl) (by omega)) (by k_asm) (by k_asm) (by k_asm) N9 (by k_asm) rfl (by assumption) (by ktr_room) (by ktr_units) ?_
  intro v8 h8 tk8 hR8 F8 N8
  obtain ⟨t8, rfl⟩ := hR8
  repeat ((fail_if_success (with_reducible show wpAny _ _ (call (Value.ref _) _) _ _ _)); walk1; (try dsimp only))
  have hb := wr_bound hlt h5 hal hl 10
  rw [List.take_of_length_le (by omega)] at hb
  refine Does.use (does_hint (wr rs tr) t8 ((c4, o4) :: (c5, o5) :: (c8, o8) :: (ar, lob rv nr) :: (ah, lob handsV n) :: news) (by omega)) (by k_asm) (by k_asm) (by k_asm) N8 (by k_asm) rfl (Nat.zero_le _) (by ktr_room) (by ktr_units) ?_
  intro v7 h7 tk7 hR7 F7 N7
  obtain ⟨t7, rfl⟩ := hR7
  walk1
  refine eq_same q2 ?_
  try dsimp only
  exact K _ _ (by rw [em]; k_asm) (fun q hq => N7 q (.tail _ (.tail _ (.tail _ (.tail _ (.tail _ hq))))))
end Mine

namespace Mine

theorem sgn_alph (n : Int) : sgn n ∈ alph := by
  have h := fmod_range n 9 (by decide)
  unfold sgn
  generalize Int.fmod n 9 = k at h
  obtain rfl | rfl | rfl | rfl | rfl | rfl | rfl | rfl | rfl : k = 0 ∨ k = 1 ∨ k = 2 ∨ k = 3 ∨ k = 4 ∨ k = 5 ∨ k = 6 ∨ k = 7 ∨ k = 8 := by omega
  all_goals decide
theorem swp_alph : ∀ c ∈ alph, swp c ∈ alph := by decide
theorem swp_swp (c : Nat) : swp (swp c) = c := by
  unfold swp
  by_cases h1 : c = 10
  · subst h1; rfl
  · by_cases h2 : c = 9
    · subst h2; rfl
    · simp [h1, h2]
theorem count_map_swp (c : Nat) : ∀ l : List Nat, (l.map swp).count c = l.count (swp c)
  | [] => rfl
  | d :: l => by
    rw [List.map_cons, List.count_cons, List.count_cons, count_map_swp c l]
    have e : (swp d == c) = (d == swp c) := by
      by_cases h : swp d = c
      · subst h; rw [swp_swp, beq_self_eq_true, beq_self_eq_true]
      · have h' : ¬ d = swp c := fun q => h (by rw [q, swp_swp])
        rw [beq_eq_false_iff_ne.mpr h, beq_eq_false_iff_ne.mpr h']
    rw [e]
theorem count_swp (l : List Nat) (c : Nat) : (l.reverse.map swp).count c = l.count (swp c) := by
  rw [count_map_swp, List.count_reverse]

theorem sum_alph (f : Nat → Nat) : ∀ l : List Nat, (∀ c ∈ l, c ∈ alph) → (l.map f).sum = l.count 38 * f 38 + l.count 60 * f 60 + l.count 62 * f 62 + l.count 34 * f 34 + l.count 13 * f 13 + l.count 10 * f 10 + l.count 9 * f 9 + l.count 97 * f 97 + l.count 59 * f 59
  | [], _ => by simp
  | c :: l, h => by
    have ih := sum_alph f l fun d hd => h d (List.mem_cons_of_mem _ hd)
    have hc := h c List.mem_cons_self
    rw [List.map_cons, List.sum_cons, ih]
    simp only [List.mem_cons, List.mem_nil_iff, or_false] at hc
    rcases hc with rfl | rfl | rfl | rfl | rfl | rfl | rfl | rfl | rfl <;> simp [Nat.add_mul] <;> omega
theorem len_wr {rs : List Nat} (h : ∀ r ∈ rs, r < 5) {l : List Nat} (hl : ∀ c ∈ l, c ∈ alph) : (wr rs l).length = l.count 38 * (signOf rs 38).length + l.count 60 * (signOf rs 60).length + l.count 62 * (signOf rs 62).length + l.count 34 * (signOf rs 34).length + l.count 13 * (signOf rs 13).length +
    l.count 10 * (signOf rs 10).length + l.count 9 * (signOf rs 9).length + l.count 97 * (signOf rs 97).length + l.count 59 * (signOf rs 59).length := by
  rw [wr_eq h hl, List.length_flatMap]
  exact sum_alph (fun c => (signOf rs c).length) l hl
theorem len_counts {l : List Nat} (hl : ∀ c ∈ l, c ∈ alph) : l.length = l.count 38 + l.count 60 + l.count 62 + l.count 34 + l.count 13 + l.count 10 + l.count 9 + l.count 97 + l.count 59 := by
  have := sum_alph (fun _ => 1) l hl
  rw [List.map_const', List.sum_replicate_nat] at this
  omega

theorem tab_10_9 : ∀ r : Fin 5, ((tab r.1).lookup 10).map (·.length) = ((tab r.1).lookup 9).map (·.length) := by decide
theorem go_10_9 : ∀ {rs : List Nat}, (∀ r ∈ rs, r < 5) → (sgnGo 10 rs).length = (sgnGo 9 rs).length
  | [], _ => rfl
  | r :: rs, h => by
    have ht := tab_10_9 ⟨r, h r List.mem_cons_self⟩
    have ih := go_10_9 fun q hq => h q (List.mem_cons_of_mem _ hq)
    rw [sgnGo, sgnGo]
    dsimp only at ht
    cases h1 : (tab r).lookup 10 with
    | some z =>
      cases h2 : (tab r).lookup 9 with
      | some y =>
        rw [h1, h2] at ht
        have e : z.length = y.length := by simpa using ht
        simp only [List.length_append, e]
      | none => rw [h1, h2] at ht; simp at ht
    | none =>
      cases h2 : (tab r).lookup 9 with
      | some y => rw [h1, h2] at ht; simp at ht
      | none => exact ih
theorem len_turned {rs : List Nat} (h : ∀ r ∈ rs, r < 5) {l : List Nat} (hl : ∀ c ∈ l, c ∈ alph) : (wr rs (l.reverse.map swp)).length = (wr rs l).length := by
  have hl' : ∀ c ∈ l.reverse.map swp, c ∈ alph := fun c hc => by
    obtain ⟨d, hd, rfl⟩ := List.mem_map.mp hc
    exact swp_alph d (hl d (List.mem_reverse.mp hd))
  rw [len_wr h hl', len_wr h hl]
  simp only [count_swp]
  have e : (signOf rs 10).length = (signOf rs 9).length := by
    unfold signOf
    rw [if_neg (by decide), if_neg (by decide)]
    exact go_10_9 h
  rw [e]
  have s1 : swp 38 = 38 := rfl
  have s2 : swp 60 = 60 := rfl
  have s3 : swp 62 = 62 := rfl
  have s4 : swp 34 = 34 := rfl
  have s5 : swp 13 = 13 := rfl
  have s6 : swp 10 = 9 := rfl
  have s7 : swp 9 = 10 := rfl
  have s8 : swp 97 = 97 := rfl
  have s9 : swp 59 = 59 := rfl
  rw [s1, s2, s3, s4, s5, s6, s7, s8, s9]
  omega

theorem kinds5_len : ∀ r : Fin 5, ∀ q ∈ kinds5, ∀ z ∈ (tab r.1).lookup q.1, (z.length : Int) = q.2 := by decide
theorem grow_go {c : Nat} {laid : Int} (hq : (c, laid) ∈ kinds5) : ∀ {rs : List Nat}, (∀ r ∈ rs, r < 5) → growOf rs c laid = ((sgnGo c rs).length : Int) - 1
  | [], _ => rfl
  | r :: rs, h => by
    have ih := grow_go hq fun q hq => h q (List.mem_cons_of_mem _ hq)
    have hp : placesOf (r :: rs) c = (if ((tab r).lookup c).isSome then [0] else []) ++ (placesOf rs c).map Nat.succ := by
      unfold placesOf
      rw [List.length_cons, List.range_succ_eq_map, List.filter_cons, List.filter_map]
      have e : ((fun i => (List.lookup c (tab ((r :: rs).getD i 0))).isSome) ∘ Nat.succ) = fun i => (List.lookup c (tab (rs.getD i 0))).isSome := by funext i; simp
      rw [e]
      by_cases hs : ((tab r).lookup c).isSome = true
      · simp [hs]
      · simp [hs]
    unfold growOf
    rw [hp, sgnGo]
    cases hz : (tab r).lookup c with
    | some z =>
      have hl := kinds5_len ⟨r, h r List.mem_cons_self⟩ _ hq z (by rw [hz]; rfl)
      dsimp only at hl
      simp only [Option.isSome_some, if_true, List.cons_append, List.length_append, amps_len, List.length_cons, List.length_nil]
      omega
    | none =>
      simp only [Option.isSome_none, Bool.false_eq_true, if_false, List.nil_append]
      rw [← ih]
      unfold growOf
      cases placesOf rs c with
      | nil => rfl
      | cons i pl =>
        simp only [List.map_cons, List.length_cons]
        omega
theorem grow_sign {c : Nat} {laid : Int} (hq : (c, laid) ∈ kinds5) {rs : List Nat} (h : ∀ r ∈ rs, r < 5) : ((signOf rs c).length : Int) = 1 + growOf rs c laid := by
  rw [grow_go hq h]
  have : c ≠ 38 := by
    intro e; subst e
    simp at hq
  unfold signOf
  rw [if_neg this]
  omega
end Mine

namespace Mine

theorem fd4 (x : Int) : Int.fdiv x 4 = x / 4 := Int.fdiv_eq_ediv_of_nonneg _ (by decide)
theorem fd2 (x : Int) : Int.fdiv x 2 = x / 2 := Int.fdiv_eq_ediv_of_nonneg _ (by decide)
theorem fm4 (x : Int) : Int.fmod x 4 = x % 4 := Int.fmod_eq_emod_of_nonneg _ (by decide)
/-- the length of what a way makes -/
abbrev bI (l : List Nat) (r : List Nat) : Int := ((wr r l).length : Int)
section
variable {l : List Nat} (hl : ∀ c ∈ l, c ∈ alph)
include hl
theorem bw0 : (wr [] l).length = l.count 38 * 1 + l.count 60 * 1 + l.count 62 * 1 + l.count 34 * 1 + l.count 13 * 1 + l.count 10 * 1 + l.count 9 * 1 + l.count 97 * 1 + l.count 59 * 1 := len_wr (rs := []) (by decide) hl
theorem bw1 : (wr [0] l).length = l.count 38 * 5 + l.count 60 * 4 + l.count 62 * 4 + l.count 34 * 1 + l.count 13 * 1 + l.count 10 * 1 + l.count 9 * 1 + l.count 97 * 1 + l.count 59 * 1 := len_wr (rs := [0]) (by decide) hl
theorem bw2 : (wr [0, 0] l).length = l.count 38 * 9 + l.count 60 * 8 + l.count 62 * 8 + l.count 34 * 1 + l.count 13 * 1 + l.count 10 * 1 + l.count 9 * 1 + l.count 97 * 1 + l.count 59 * 1 := len_wr (rs := [0, 0]) (by decide) hl
theorem bw3 : (wr [2] l).length = l.count 38 * 5 + l.count 60 * 1 + l.count 62 * 4 + l.count 34 * 6 + l.count 13 * 1 + l.count 10 * 1 + l.count 9 * 1 + l.count 97 * 1 + l.count 59 * 1 := len_wr (rs := [2]) (by decide) hl
theorem bw4 : (wr [2, 2] l).length = l.count 38 * 9 + l.count 60 * 1 + l.count 62 * 8 + l.count 34 * 10 + l.count 13 * 1 + l.count 10 * 1 + l.count 9 * 1 + l.count 97 * 1 + l.count 59 * 1 := len_wr (rs := [2, 2]) (by decide) hl
theorem bw5 : (wr [3] l).length = l.count 38 * 5 + l.count 60 * 4 + l.count 62 * 4 + l.count 34 * 1 + l.count 13 * 5 + l.count 10 * 1 + l.count 9 * 1 + l.count 97 * 1 + l.count 59 * 1 := len_wr (rs := [3]) (by decide) hl
theorem bw6 : (wr [1] l).length = l.count 38 * 5 + l.count 60 * 4 + l.count 62 * 4 + l.count 34 * 6 + l.count 13 * 5 + l.count 10 * 5 + l.count 9 * 5 + l.count 97 * 1 + l.count 59 * 1 := len_wr (rs := [1]) (by decide) hl
theorem d10 : bI l [0] = bI l [] + (4 * cI l 38 + 3 * (cI l 60 + cI l 62)) := by
  have h0 := bw0 hl
  have h1 := bw1 hl
  unfold bI cI; omega
theorem d21 : bI l [0, 0] - bI l [0] = 4 * (cI l 38 + cI l 60 + cI l 62) := by
  have h1 := bw1 hl
  have h2 := bw2 hl
  unfold bI cI; omega
theorem d30 : bI l [2] - bI l [] = 4 * cI l 38 + 3 * cI l 62 + 5 * cI l 34 := by
  have h0 := bw0 hl
  have h3 := bw3 hl
  unfold bI cI; omega
theorem d43 : bI l [2, 2] - bI l [2] = 4 * (cI l 38 + cI l 62 + cI l 34) := by
  have h3 := bw3 hl
  have h4 := bw4 hl
  unfold bI cI; omega
theorem d51 : bI l [3] - bI l [0] = 4 * cI l 13 := by
  have h1 := bw1 hl
  have h5 := bw5 hl
  unfold bI cI; omega
theorem d65 : bI l [1] = bI l [0] + (5 * cI l 34 + 4 * cI l 13 + 4 * (cI l 10 + cI l 9)) := by
  have h1 := bw1 hl
  have h6 := bw6 hl
  unfold bI cI; omega
theorem mods_law : Int.fmod (bI l [0, 0] - bI l [0]) 4 = 0 ∧ Int.fmod (bI l [2, 2] - bI l [2]) 4 = 0 ∧ Int.fmod (bI l [3] - bI l [0]) 4 = 0 := by
  rw [d21 hl, d43 hl, d51 hl, fm4, fm4, fm4]
  exact ⟨Int.mul_emod_right _ _, Int.mul_emod_right _ _, Int.mul_emod_right _ _⟩
end
theorem told_alg (b0 b1 b2 b3 b4 b5 b6 a lt gt q r e : Int) (h1 : b1 = b0 + (4 * a + 3 * (lt + gt))) (h2 : b2 - b1 = 4 * (a + lt + gt)) (h3 : b3 - b0 = 4 * a + 3 * gt + 5 * q) (h4 : b4 - b3 = 4 * (a + gt + q)) (h5 : b5 - b1 = 4 * r)
    (h6 : b6 = b1 + (5 * q + 4 * r + 4 * e)) : told b0 b1 b2 b3 b4 b5 b6 = [a, lt, gt, q, r, e] := by
  have k4 : ∀ x : Int, Int.fdiv (4 * x) 4 = x := fun x => by rw [fd4]; exact Int.mul_ediv_cancel_left _ (by decide)
  have k2 : ∀ x : Int, Int.fdiv (2 * x) 2 = x := fun x => by rw [fd2]; exact Int.mul_ediv_cancel_left _ (by decide)
  have e2 : b1 - b0 - 3 * (a + lt + gt) = a := by clear h2 h3 h4 h5 h6 k4 k2; omega
  have e3 : a + gt + q - a = gt + q := by clear h1 h2 h3 h4 h5 h6 k4 k2 e2; omega
  have e4 : b3 - b0 - (4 * a + 3 * (gt + q)) = 2 * q := by clear h1 h2 h4 h5 h6 k4 k2 e2 e3; omega
  have e6 : b6 - (b1 + (5 * q + 4 * r)) = 4 * e := by clear h1 h2 h3 h4 h5 k4 k2 e2 e3 e4; omega
  have e7 : gt + q - q = gt := Int.add_sub_cancel _ _
  have e8 : a + lt + gt - a - gt = lt := by clear h1 h2 h3 h4 h5 h6 k4 k2 e2 e3 e4 e6 e7; omega
  unfold told
  simp only [h2, h4, h5, k4, e2, e3, e4, k2, e6, e7, e8]
theorem short_alg (b0 b1 a lt gt n : Int) (h0 : b0 = n) (h1 : b1 = b0 + (4 * a + 3 * (lt + gt))) : [b0, Int.fmod (b0 - b1) 4, Int.fdiv (b0 - b1) 4] = [n, Int.fmod (lt + gt) 4, - a - Int.fdiv (3 * (lt + gt) + 3) 4] := by
  rw [fm4, fm4, fd4, fd4]
  have e : b0 - b1 = -(4 * a + 3 * (lt + gt)) := by clear h0; omega
  rw [e, h0]
  generalize lt + gt = x
  have e2 : -(4 * a + 3 * x) % 4 = x % 4 := by clear h0 h1 e; omega
  have e3 : -(4 * a + 3 * x) / 4 = - a - (3 * x + 3) / 4 := by clear h0 h1 e e2; omega
  rw [e2, e3]
section
variable {l : List Nat} (hl : ∀ c ∈ l, c ∈ alph)
include hl
theorem told_law : told (bI l []) (bI l [0]) (bI l [0, 0]) (bI l [2]) (bI l [2, 2]) (bI l [3]) (bI l [1]) = [cI l 38, cI l 60, cI l 62, cI l 34, cI l 13, cI l 10 + cI l 9] :=
  told_alg _ _ _ _ _ _ _ _ _ _ _ _ _ (d10 hl) (d21 hl) (d30 hl) (d43 hl) (d51 hl) (d65 hl)
theorem b0_law : bI l [] = (l.length : Int) := by
  have h0 := bw0 hl
  have hc := len_counts hl
  unfold bI; omega
theorem short_law : [bI l [], Int.fmod (bI l [] - bI l [0]) 4, Int.fdiv (bI l [] - bI l [0]) 4] = [(l.length : Int), Int.fmod (cI l 60 + cI l 62) 4, - cI l 38 - Int.fdiv (3 * (cI l 60 + cI l 62) + 3) 4] :=
  short_alg _ _ _ _ _ _ (b0_law hl) (d10 hl)
end
theorem tab_97 : ∀ r : Fin 5, (tab r.1).lookup 97 = none ∧ (tab r.1).lookup 59 = none := by decide
theorem go_97 : ∀ {rs : List Nat}, (∀ r ∈ rs, r < 5) → (sgnGo 97 rs).length = 1 ∧ (sgnGo 59 rs).length = 1
  | [], _ => ⟨rfl, rfl⟩
  | r :: rs, h => by
    have ih := go_97 fun q hq => h q (List.mem_cons_of_mem _ hq)
    have ht := tab_97 ⟨r, h r List.mem_cons_self⟩
    rw [sgnGo, sgnGo, ht.1, ht.2]
    exact ih
theorem due_alg (a b c d e f g h i R p q r s t : Int) : a * (1 + 4 * R) + b * (1 + p) + c * (1 + q) + d * (1 + r) + e * (1 + s) + f * (1 + t) + g * (1 + t) + h * 1 + i * 1 =
    (a + b + c + d + e + f + g + h + i) + 4 * R * a + b * p + c * q + d * r + e * s + (f + g) * t := by
  have h1 : a * (4 * R) = 4 * R * a := Int.mul_comm _ _
  simp only [Int.mul_add, Int.add_mul, Int.mul_one, h1]
  omega
theorem due_law {rs : List Nat} (h : ∀ r ∈ rs, r < 5) {l : List Nat} (hl : ∀ c ∈ l, c ∈ alph) : ((wr rs l).length : Int) = bI l [] + 4 * (rs.length : Int) * cI l 38 + cI l 60 * growOf rs 60 3 + cI l 62 * growOf rs 62 3 + cI l 34 * growOf rs 34 5 + cI l 13 * growOf rs 13 4 + (cI l 10 + cI l 9) * growOf rs 10 4 := by
  have hw := len_wr h hl
  have hc := len_counts hl
  have g1 := grow_sign (c := 60) (laid := 3) (by decide) h
  have g2 := grow_sign (c := 62) (laid := 3) (by decide) h
  have g3 := grow_sign (c := 34) (laid := 5) (by decide) h
  have g4 := grow_sign (c := 13) (laid := 4) (by decide) h
  have g5 := grow_sign (c := 10) (laid := 4) (by decide) h
  have g6 : (signOf rs 9).length = (signOf rs 10).length := by
    unfold signOf
    rw [if_neg (by decide), if_neg (by decide)]
    exact (go_10_9 h).symm
  have g7 : (signOf rs 97).length = 1 := by
    unfold signOf
    rw [if_neg (by decide)]
    exact (go_97 h).1
  have g8 : (signOf rs 59).length = 1 := by
    unfold signOf
    rw [if_neg (by decide)]
    exact (go_97 h).2
  have g0 : ((signOf rs 38).length : Int) = 1 + 4 * (rs.length : Int) := by
    unfold signOf
    rw [if_pos rfl, List.length_append, amps_len]
    simp only [List.length_cons, List.length_nil]
    omega
  rw [g6, g7, g8] at hw
  have hw' : ((wr rs l).length : Int) = cI l 38 * (signOf rs 38).length + cI l 60 * (signOf rs 60).length + cI l 62 * (signOf rs 62).length + cI l 34 * (signOf rs 34).length + cI l 13 * (signOf rs 13).length +
    cI l 10 * (signOf rs 10).length + cI l 9 * (signOf rs 10).length + cI l 97 * 1 + cI l 59 * 1 := by
    rw [hw]
    simp only [Int.natCast_add, Int.natCast_mul]
    rfl
  rw [hw', g0, g1, g2, g3, g4, g5, due_alg, b0_law hl]
  have e : cI l 38 + cI l 60 + cI l 62 + cI l 34 + cI l 13 + cI l 10 + cI l 9 + cI l 97 + cI l 59 = (l.length : Int) := by unfold cI; omega
  rw [e]
theorem row_facts (tot : Int) : (∀ r ∈ rowOf tot, r < 5) ∧ (rowOf tot).length ≤ 5 := by
  have hb := fmod_range tot 5 (by decide)
  constructor
  · intro r hr
    unfold rowOf at hr
    obtain ⟨k, _, rfl⟩ := List.mem_map.mp hr
    have := fmod_range (Int.fdiv tot (5 ^ (k + 1))) 5 (by decide)
    omega
  · unfold rowOf
    rw [List.length_map, List.length_range]
    omega
theorem text_facts (ns : List Int) : (∀ c ∈ (ns.take 7 ++ [4, 2, 12]).map sgn, c ∈ alph) ∧ ((ns.take 7 ++ [4, 2, 12]).map sgn).length = (ns.take 7).length + 3 ∧ ((ns.take 7 ++ [4, 2, 12]).map sgn).length ≤ 10 := by
  refine ⟨fun c hc => ?_, by simp, ?_⟩
  · obtain ⟨n, _, rfl⟩ := List.mem_map.mp hc
    exact sgn_alph n
  · simp only [List.length_map, List.length_append, List.length_take, List.length_cons, List.length_nil]
    omega
theorem turned_facts {l : List Nat} (hl : ∀ c ∈ l, c ∈ alph) : (∀ c ∈ l.reverse.map swp, c ∈ alph) ∧ (l.reverse.map swp).length = l.length := by
  refine ⟨fun c hc => ?_, by simp⟩
  obtain ⟨d, hd, rfl⟩ := List.mem_map.mp hc
  exact swp_alph d (hl d (List.mem_reverse.mp hd))
theorem ways_turned {l : List Nat} (hl : ∀ c ∈ l, c ∈ alph) : (waysL.map fun r => ((wr r (l.reverse.map swp)).length : Int)) = waysL.map fun r => ((wr r l).length : Int) := by
  apply List.map_congr_left
  intro r hr
  have a : ∀ r ∈ waysL, ∀ q ∈ r, q < 5 := by decide
  rw [len_turned (a r hr) hl]
end Mine

namespace Mine
open PySem.Spec PySem.Calls PyProof.Rows.LCg

theorem hit {y : Str} {u e : Option Value} : (if y = y then u else e) = u := if_pos rfl
theorem miss {x y : Str} {u e v : Option Value} (h : x ≠ y) (q : e = v) : (if x = y then u else e) = v := by
  rw [if_neg h, q]
theorem apartL {h₀ : Heap} {L : Addr} {h : Heap} {led : List (Addr × Obj)} {c a : Addr} {o : Obj} {vs : List Value} {n : Nat} (N : News h₀ L h led) (hc : (c, o) ∈ led) (d : o.data = .cell none) (ha : (a, lob vs n) ∈ led) : a ≠ c := fun e => by
  subst e
  have h1 := (N _ hc).1
  have h2 := (N _ ha).1
  rw [h1] at h2
  cases h2
  cases d
theorem ints7 {ys : List Value} {f : List Nat → Int} (h : IntsAre ys (waysL.map f)) : ∃ t0 t1 t2 t3 t4 t5 t6, ys = [.int (f []) t0, .int (f [0]) t1, .int (f [0, 0]) t2, .int (f [2]) t3, .int (f [2, 2]) t4, .int (f [3]) t5, .int (f [1]) t6] := by
  cases h with | cons _ t0 h => cases h with | cons _ t1 h => cases h with | cons _ t2 h => cases h with | cons _ t3 h => cases h with | cons _ t4 h => cases h with | cons _ t5 h => cases h with | cons _ t6 h => cases h; exact ⟨_, _, _, _, _, _, _, rfl⟩
theorem ints6 {ys : List Value} {a b c d e f : Int} (h : IntsAre ys [a, b, c, d, e, f]) : ∃ t0 t1 t2 t3 t4 t5, ys = [.int a t0, .int b t1, .int c t2, .int d t3, .int e t4, .int f t5] := by
  cases h with | cons _ t0 h => cases h with | cons _ t1 h => cases h with | cons _ t2 h => cases h with | cons _ t3 h => cases h with | cons _ t4 h => cases h with | cons _ t5 h => cases h; exact ⟨_, _, _, _, _, _, rfl⟩

theorem Ways.mono {n1 n2 : List (Addr × Obj)} {aw : Addr} (h : Ways n1 aw) (sub : ∀ q ∈ n1, q ∈ n2) : Ways n2 aw := by
  obtain ⟨ws, n, hm, hp⟩ := h
  exact ⟨ws, n, sub _ hm, hp.mono fun r v ⟨a, vs, k, e, hm', hi⟩ => ⟨a, vs, k, e, sub _ hm', hi⟩⟩

theorem law_all {w : World} {p : Program} {loose : List Str} {mean : ExcName → Option Value} {mg mb : Str → Option Value} {dp un : Nat} {gd : Option (List Code)} {fa : Addr} {ccd : Value} {A₀ : Around} {base h₀ : Heap} {L : Addr} {s : Shared} {m : Str → Option Value} {c1 c2 c3 c4 c5 c6 c7 c8 : Addr} {Q : Flow → Shared → Prop} {E : Value → Shared → Prop}
    (B : Below A₀ base [] h₀) (F : Fr h₀ L s.heap m) (X : (hd.heap_39 w.params).In h₀) (T : Top p loose mean mg mb h₀) (hdp : dp + 5 < recursionLimit) (hun : un + 100 < cLine)
    (e1 : @LT.lt Nat _ c1 c2) (e2 : @LT.lt Nat _ c2 c3) (e3 : @LT.lt Nat _ c3 c4) (e4 : @LT.lt Nat _ c4 c5) (e5 : @LT.lt Nat _ c5 c6) (e6 : @LT.lt Nat _ c6 c7) (e7 : @LT.lt Nat _ c7 c8)
    {a : Addr} {vs : List Value} {ns : List Int} {o1 o2 o3 o4 o5 o6 o7 o8 : Obj} (hm : m (Str.ofString "script") = some (.ref a)) (hl : h₀.IsList a vs.toArray) (hi : IntsAre vs ns) (hn : ns.length ≤ 63)
    (N : News h₀ L s.heap [(c8, o8), (c7, o7), (c6, o6), (c5, o5), (c4, o4), (c3, o3), (c2, o2), (c1, o1)])
    (d1 : o1.data = .cell none) (d2 : o2.data = .cell none) (d3 : o3.data = .cell none) (d4 : o4.data = .cell none) (d5 : o5.data = .cell none) (d6 : o6.data = .cell none) (d7 : o7.data = .cell none) (d8 : o8.data = .cell none)
    (K : ∀ (h : Heap) (tk : Nat) (m' : Str → Option Value), Fr h₀ L h m' → Q (.ret (.bool true)) { s with heap := h, toks := tk }) :
    Goes w dp un gd fa ccd L c1 c2 c3 c4 c5 c6 c7 c8 Q E 0 s := by
  obtain ⟨hal, hlen, hl10⟩ := text_facts ns
  refine law_0 B F X T hdp hun e1 e2 e3 e4 e5 e6 e7 hm hl hi hn N d1 d2 ?_
  intro hp2 tk2 o2 t2 F N d2 hk
  obtain ⟨hat, htl⟩ := turned_facts hal
  have hlt10 := htl ▸ hl10
  have hways := ways_turned hal
  obtain ⟨hrow, hrow5⟩ := row_facts ns.sum
  obtain ⟨md1, md2, md3⟩ := mods_law hal
  have htold := told_law hal
  have hshort := short_law hal
  have hdue := due_law hrow hal
  have hdue' := len_turned hrow hal
  rw [hlen] at hshort
  generalize hL : (ns.take 7 ++ [4, 2, 12]).map sgn = l at *
  generalize htr : l.reverse.map swp = tr at *
  generalize hrs : rowOf ns.sum = rs at *
  refine law_2 B F X T hdp hun hk e1 e2 e3 e4 e5 e6 e7 N d2 d4 hl10 ?_
  intro hp3 tk3 o4 t4 F N d4 hk
  rw [htr] at d4
  refine law_3 B F X T hdp hun hk e1 e2 e3 e4 e5 e6 e7 N d5 ?_
  intro hp4 tk4 o5 ah nh F N d5 gh hk
  refine law_4 B F X T hdp hun hk e1 e2 e3 e4 e5 e6 e7 gh N d6 ?_
  intro hp5 tk5 o6 q0 q1 q2 q3 q4 ta a0 a1 a2 a3 a4 nt F N d6 T0 T1 T2 T3 T4 g0 g1 g2 g3 g4 gt hk
  refine law_5 B F X T hdp hun hk e1 e2 e3 e4 e5 e6 e7 hm hl hi hn gh g0 g1 g2 g3 g4 gt N d7 ?_
  intro hp6 tk6 o7 t7 F N d7 hk
  refine law_6 B F X T hdp hun hk e1 e2 e3 e4 e5 e6 e7 gh g0 g1 g2 g3 g4 gt N d7 d8 ?_
  intro hp7 tk7 o8 ar rv nr F N d8 hrv gr hk
  rw [hrs] at hrv
  refine law_7 B F X T hdp hun hk e1 e2 e3 e4 e5 e6 e7 N ?_
  intro hp8 tk8 new7 aw F N W hk
  generalize hf7 : (ar, lob rv nr) :: (ta, lob [.ref a0, .ref a1, .ref a2, .ref a3, .ref a4] nt) :: (a4, q4) :: (a3, q3) :: (a2, q2) :: (a1, q1) :: (a0, q0) :: (ah, lob handsV nh) :: [(c8, o8), (c7, o7), (c6, o6), (c5, o5), (c4, o4), (c3, o3), (c2, o2)] = full7 at N
  have M : ∀ q ∈ (ar, lob rv nr) :: (ta, lob [.ref a0, .ref a1, .ref a2, .ref a3, .ref a4] nt) :: (a4, q4) :: (a3, q3) :: (a2, q2) :: (a1, q1) :: (a0, q0) :: (ah, lob handsV nh) :: [(c8, o8), (c7, o7), (c6, o6), (c5, o5), (c4, o4), (c3, o3), (c2, o2)], q ∈ new7 ++ full7 := fun q hq => List.mem_append_right _ (hf7 ▸ hq)
  have W' : Ways (new7 ++ full7) aw := W.mono fun q hq => List.mem_append_left _ hq
  clear W hf7
  have m2 : (c2, o2) ∈ new7 ++ full7 := M _ (by repeat (first | exact List.mem_cons_self | apply List.mem_cons_of_mem))
  have m3 : (c3, o3) ∈ new7 ++ full7 := M _ (by repeat (first | exact List.mem_cons_self | apply List.mem_cons_of_mem))
  have m4 : (c4, o4) ∈ new7 ++ full7 := M _ (by repeat (first | exact List.mem_cons_self | apply List.mem_cons_of_mem))
  have m5 : (c5, o5) ∈ new7 ++ full7 := M _ (by repeat (first | exact List.mem_cons_self | apply List.mem_cons_of_mem))
  have m6 : (c6, o6) ∈ new7 ++ full7 := M _ (by repeat (first | exact List.mem_cons_self | apply List.mem_cons_of_mem))
  have m8 : (c8, o8) ∈ new7 ++ full7 := M _ (by repeat (first | exact List.mem_cons_self | apply List.mem_cons_of_mem))
  have mh : (ah, lob handsV nh) ∈ new7 ++ full7 := M _ (by repeat (first | exact List.mem_cons_self | apply List.mem_cons_of_mem))
  have mr : (ar, lob rv nr) ∈ new7 ++ full7 := M _ (by repeat (first | exact List.mem_cons_self | apply List.mem_cons_of_mem))
  have mt : (ta, lob [.ref a0, .ref a1, .ref a2, .ref a3, .ref a4] nt) ∈ new7 ++ full7 := M _ (by repeat (first | exact List.mem_cons_self | apply List.mem_cons_of_mem))
  have ma0 : (a0, q0) ∈ new7 ++ full7 := M _ (by repeat (first | exact List.mem_cons_self | apply List.mem_cons_of_mem))
  have ma1 : (a1, q1) ∈ new7 ++ full7 := M _ (by repeat (first | exact List.mem_cons_self | apply List.mem_cons_of_mem))
  have ma2 : (a2, q2) ∈ new7 ++ full7 := M _ (by repeat (first | exact List.mem_cons_self | apply List.mem_cons_of_mem))
  have ma3 : (a3, q3) ∈ new7 ++ full7 := M _ (by repeat (first | exact List.mem_cons_self | apply List.mem_cons_of_mem))
  have ma4 : (a4, q4) ∈ new7 ++ full7 := M _ (by repeat (first | exact List.mem_cons_self | apply List.mem_cons_of_mem))
  clear M
  generalize new7 ++ full7 = led at *
  refine law_8 B F X T hdp hun hk e1 e2 e3 e4 e5 e6 e7 N m2 d2 m5 d5 mh hal hl10 W' hit ?_
  intro hp9 tk9 D8 ys F N hys8 fr8 hk
  obtain ⟨t80, t81, t82, t83, t84, t85, t86, rfl⟩ := ints7 hys8
  refine law_9 B F X T hdp hun hk e1 e2 e3 e4 e5 e6 e7 N (.tail _ m4) d4 (.tail _ m5) d5 (.tail _ mh) hat hlt10 (W'.mono fun q hq => .tail _ hq) (miss (by decide +kernel) hit) hit List.mem_cons_self hys8 hways ?_
  intro hp10 tk10 F N hk
  refine law_10 B F X T hdp hun hk e1 e2 e3 e4 e5 e6 e7 N hit List.mem_cons_self md1 md2 md3 ?_
  intro hp11 tk11 F N hk
  refine law_11 B F X T hdp hun hk e1 e2 e3 e4 e5 e6 e7 N hit List.mem_cons_self ?_
  intro hp12 tk12 tsh F N hk
  refine law_12 B F X T hdp hun hk e1 e2 e3 e4 e5 e6 e7 N (.tail _ m2) d2 hl10 ?_
  intro hp13 tk13 tmk F N hk
  refine law_13 B F X T hdp hun hk e1 e2 e3 e4 e5 e6 e7 (miss (by decide +kernel) (miss (by decide +kernel) (miss (by decide +kernel) (miss (by decide +kernel) hm)))) hl hi hn N
    (miss (by decide +kernel) (miss (by decide +kernel) hit)) List.mem_cons_self (miss (by decide +kernel) hit) hit (.tail _ m2) d2 hl10 hshort ?_
  intro hp14 tk14 F N hk
  refine law_14 B F X T hdp hun hk e1 e2 e3 e4 e5 e6 e7 N (miss (by decide +kernel) (miss (by decide +kernel) hit)) List.mem_cons_self ?_
  intro hp15 tk15 D14 cs n14 F N hcs hk
  replace hcs : IntsAre cs [cI l 38, cI l 60, cI l 62, cI l 34, cI l 13, cI l 10 + cI l 9] := by rw [← htold]; exact hcs
  obtain ⟨u0, u1, u2, u3, u4, u5, rfl⟩ := ints6 hcs
  refine law_15 B F X T hdp hun hk e1 e2 e3 e4 e5 e6 e7 N (.tail _ (.tail _ m2)) d2 hl10 hit List.mem_cons_self hcs rfl ?_
  intro hp16 tk16 F N hk
  have hrl : rv.length = rs.length := by simpa using hrv.length
  refine law_16 B F X T hdp hun hk e1 e2 e3 e4 e5 e6 e7 N (miss (by decide +kernel) (miss (by decide +kernel) (miss (by decide +kernel) hit))) (.tail _ List.mem_cons_self) hit List.mem_cons_self (.tail _ (.tail _ m8)) d8 (.tail _ (.tail _ mr)) hrl hrow5 ?_
  intro hp17 tk17 tdu F N hk
  have hD14 : D14 ≠ c3 := apartL N (.tail _ (.tail _ m3)) d3 List.mem_cons_self
  obtain ⟨nar, hnar⟩ : ∃ x, x = (D14, lob [.int (cI l 38) u0, .int (cI l 60) u1, .int (cI l 62) u2, .int (cI l 34) u3, .int (cI l 13) u4, .int (cI l 10 + cI l 9) u5] n14) :: (ar, lob rv nr) :: (ta, lob [.ref a0, .ref a1, .ref a2, .ref a3, .ref a4] nt) :: (a4, q4) :: (a3, q3) :: (a2, q2) :: (a1, q1) :: (a0, q0) :: (ah, lob handsV nh) :: [(c8, o8), (c6, o6), (c5, o5), (c4, o4), (c2, o2)] := ⟨_, rfl⟩
  have N17 : News h₀ L hp17 ((c3, o3) :: nar) := fun q hq => N q (by
    subst hnar
    simp only [List.mem_cons, List.mem_nil_iff, or_false] at hq
    rcases hq with rfl | rfl | rfl | rfl | rfl | rfl | rfl | rfl | rfl | rfl | rfl | rfl | rfl | rfl | rfl
    · exact .tail _ (.tail _ m3)
    · exact List.mem_cons_self
    all_goals exact .tail _ (.tail _ (by assumption)))
  have off3 : ∀ q ∈ nar, q.1 ≠ c3 := fun q hq => by
    subst hnar
    simp only [List.mem_cons, List.mem_nil_iff, or_false] at hq
    have ne : ∀ {x : Addr}, @LT.lt Nat _ c3 x → x ≠ c3 := fun h e => by subst e; exact absurd h (Nat.lt_irrefl _)
    have ne' : c2 ≠ c3 := fun e => by subst e; exact absurd e2 (Nat.lt_irrefl _)
    have l8 : @LT.lt Nat _ c3 c8 := Nat.lt_trans e3 (Nat.lt_trans e4 (Nat.lt_trans e5 (Nat.lt_trans e6 e7)))
    rcases hq with rfl | rfl | rfl | rfl | rfl | rfl | rfl | rfl | rfl | rfl | rfl | rfl | rfl | rfl
    · exact hD14
    · exact ne (Nat.lt_trans l8 gr)
    · exact ne (Nat.lt_trans l8 gt)
    · exact ne (Nat.lt_trans l8 g4)
    · exact ne (Nat.lt_trans l8 g3)
    · exact ne (Nat.lt_trans l8 g2)
    · exact ne (Nat.lt_trans l8 g1)
    · exact ne (Nat.lt_trans l8 g0)
    · exact ne (Nat.lt_trans l8 gh)
    · exact ne l8
    · exact ne (Nat.lt_trans e3 (Nat.lt_trans e4 e5))
    · exact ne (Nat.lt_trans e3 e4)
    · exact ne e3
    · exact ne'
  have M : ∀ q ∈ (D14, lob [.int (cI l 38) u0, .int (cI l 60) u1, .int (cI l 62) u2, .int (cI l 34) u3, .int (cI l 13) u4, .int (cI l 10 + cI l 9) u5] n14) :: (ar, lob rv nr) :: (ta, lob [.ref a0, .ref a1, .ref a2, .ref a3, .ref a4] nt) :: (a4, q4) :: (a3, q3) :: (a2, q2) :: (a1, q1) :: (a0, q0) :: (ah, lob handsV nh) :: [(c8, o8), (c6, o6), (c5, o5), (c4, o4), (c2, o2)], q ∈ nar := fun q hq => hnar ▸ hq
  replace m2 : (c2, o2) ∈ nar := M _ (by repeat (first | exact List.mem_cons_self | apply List.mem_cons_of_mem))
  replace m4 : (c4, o4) ∈ nar := M _ (by repeat (first | exact List.mem_cons_self | apply List.mem_cons_of_mem))
  replace m5 : (c5, o5) ∈ nar := M _ (by repeat (first | exact List.mem_cons_self | apply List.mem_cons_of_mem))
  replace m6 : (c6, o6) ∈ nar := M _ (by repeat (first | exact List.mem_cons_self | apply List.mem_cons_of_mem))
  replace m8 : (c8, o8) ∈ nar := M _ (by repeat (first | exact List.mem_cons_self | apply List.mem_cons_of_mem))
  replace mh : (ah, lob handsV nh) ∈ nar := M _ (by repeat (first | exact List.mem_cons_self | apply List.mem_cons_of_mem))
  replace mr : (ar, lob rv nr) ∈ nar := M _ (by repeat (first | exact List.mem_cons_self | apply List.mem_cons_of_mem))
  replace mt : (ta, lob [.ref a0, .ref a1, .ref a2, .ref a3, .ref a4] nt) ∈ nar := M _ (by repeat (first | exact List.mem_cons_self | apply List.mem_cons_of_mem))
  have mc : (D14, lob [.int (cI l 38) u0, .int (cI l 60) u1, .int (cI l 62) u2, .int (cI l 34) u3, .int (cI l 13) u4, .int (cI l 10 + cI l 9) u5] n14) ∈ nar := M _ (by repeat (first | exact List.mem_cons_self | apply List.mem_cons_of_mem))
  have hTab : TabsAre w nar [.ref a0, .ref a1, .ref a2, .ref a3, .ref a4] := fun r hr => by
    match r, hr with
    | 0, _ => exact ⟨a0, q0, rfl, M _ (by repeat (first | exact List.mem_cons_self | apply List.mem_cons_of_mem)), T0⟩
    | 1, _ => exact ⟨a1, q1, rfl, M _ (by repeat (first | exact List.mem_cons_self | apply List.mem_cons_of_mem)), T1⟩
    | 2, _ => exact ⟨a2, q2, rfl, M _ (by repeat (first | exact List.mem_cons_self | apply List.mem_cons_of_mem)), T2⟩
    | 3, _ => exact ⟨a3, q3, rfl, M _ (by repeat (first | exact List.mem_cons_self | apply List.mem_cons_of_mem)), T3⟩
    | 4, _ => exact ⟨a4, q4, rfl, M _ (by repeat (first | exact List.mem_cons_self | apply List.mem_cons_of_mem)), T4⟩
  clear M hnar N ma0 ma1 ma2 ma3 ma4
  have hcl := len_counts hal
  have hcb : ∀ c, (cI l c).natAbs ≤ 10 := fun c => by
    have := List.count_le_length (a := c) (l := l)
    show ((l.count c : Nat) : Int).natAbs ≤ 10
    omega
  have hcs9 : (cI l 10 + cI l 9).natAbs ≤ 10 := by
    show (((l.count 10 : Nat) : Int) + ((l.count 9 : Nat) : Int)).natAbs ≤ 10
    omega
  refine law_17 B F X T hdp hun hk e1 e2 e3 e4 e5 e6 e7 N17 off3 d3 hit (miss (by decide +kernel) hit) mc m8 d8 mr hrv hrow5 hrow m6 d6 mt hTab (hcb 60) (hcb 62) (hcb 34) (hcb 13) hcs9 ?_
  intro hp18 tk18 tdd m18 F hd18 N hk
  refine law_18 B F X T hdp hun hk e1 e2 e3 e4 e5 e6 e7 N m2 d2 m5 d5 mh m8 d8 mr hrv hrow5 hrow hal hl10 ?_
  intro hp19 tk19 tpg F N hk
  refine law_19 B F X T hdp hun hk e1 e2 e3 e4 e5 e6 e7 N m2 d2 m8 d8 mr hrv hrow5 hrow m6 d6 mt hTab hal hl10 hit ?_
  intro hp20 tk20 F N hk
  have hpl := wr_bound hrow hrow5 hal hl10 10
  rw [List.take_of_length_le (by omega)] at hpl
  refine law_20 B F X T hdp hun hk e1 e2 e3 e4 e5 e6 e7 N m4 d4 m5 d5 mh m8 d8 mr hrv hrow5 hrow hat hlt10 hpl hit (miss (by decide +kernel) hd18) hdue (by rw [hdue']; exact hdue) ?_
  intro hp21 tk21 F N
  exact K hp21 tk21 _ F
end Mine

namespace Mine
open PySem.Spec PySem.Calls PyProof.Rows.LCg
theorem law_holds : PySem.Challenge.rw_ph0124_01.Holds := by
  refine hd ?_
  k_go0
  all_goals try k_fold
  rename Below callerA _ [] _ => K0
  rename Fr _ _ _ _ => F
  rename Frag.In _ _ => KX
  rename Top _ _ _ _ _ _ => T
  rename News _ _ _ _ => N0
  rename Heap.IsList _ _ _ => hLs
  rename IntsAre _ _ => hIs
  refine (law_all (dp := _) (un := _) (gd := _) (fa := _) (ccd := _) K0 F KX T ?hdp ?hun ?e1 ?e2 ?e3 ?e4 ?e5 ?e6 ?e7 ?hm hLs hIs ?hn N0 ?d1 ?d2 ?d3 ?d4 ?d5 ?d6 ?d7 ?d8 ?K).out
  case hm => rfl
  case hn => omega
  case e1 => exact Nat.lt_succ_self _
  case e2 => exact Nat.lt_succ_self _
  case e3 => exact Nat.lt_succ_self _
  case e4 => exact Nat.lt_succ_self _
  case e5 => exact Nat.lt_succ_self _
  case e6 => exact Nat.lt_succ_self _
  case e7 => exact Nat.lt_succ_self _
  case d1 => assumption
  case d2 => assumption
  case d3 => assumption
  case d4 => assumption
  case d5 => assumption
  case d6 => assumption
  case d7 => assumption
  case d8 => assumption
  case hdp => decide +kernel
  case hun => decide +kernel
  case K =>
    intro h tk m' F'
    try dsimp only
    k_steps
    all_goals (try k_data)
    all_goals w_report
end Mine

theorem PySem.Challenge.cw_ph0124_01_holds : PySem.Challenge.rw_ph0124_01.Holds :=
  Mine.law_holds
