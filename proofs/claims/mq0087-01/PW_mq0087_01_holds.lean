import PyProof.Rows.All
import Wide.All
import OpenK.AllK
import Wide.FinOn
import PySem.Challenge.RW_mq0087_01
set_option Elab.async false
section
open PySem PySem.W PyProof.Rows
set_option maxRecDepth 100000
set_option maxHeartbeats 8000000
namespace Mine
open_top hd for PySem.Challenge.rw_mq0087_01
end Mine
end
theorem Mine.off0 : True := by (w_top off); trivial
section
open PySem PySem.W PySem.Spec PySem.Calls PyProof.Rows
set_option maxRecDepth 100000
set_option maxHeartbeats 8000000
namespace Mine
abbrev Keeps (g h : Heap) : Prop := ∀ b o, g.get? b = some o → h.get? b = some o
abbrev lst (vs : List Value) (n : Nat) : Obj := { cls := .type "list", data := .seq vs.toArray n }
abbrev tup (vs : List Value) : Obj := { cls := .type "tuple", data := .seq vs.toArray }
abbrev FTell (w : World) (f : Addr) (vs : List Value) (dn uu : Nat) (Pre : Heap → Prop) (Post : Heap → Heap → Value → Prop) : Prop :=
  ∀ (p : Program) (loose : List Str) (mean : ExcName → Option Value) (mg mb : Str → Option Value) (dp un : Nat) (fr : Option (List Env)) (gd : Option (List Code)) (s : Shared) (Q E : Value → Shared → Prop),
    dp + dn < recursionLimit → un + uu < cLine → (hd.heap_39 w.params).In s.heap → Top p loose mean mg mb s.heap → Pre s.heap →
    (∀ v h' tk', Keeps s.heap h' → Post s.heap h' v → Q v { s with heap := h', toks := tk' }) →
    wpAny (model PySem.Challenge.rw_mq0087_01.row.prog w) { handled := none, depth := dp, frames := fr, guards := gd, units := un } (call (.ref f) vs) Q E s
end Mine
end
theorem Mine.off1 : True := by (w_top off); trivial
section
open PySem PySem.W PySem.Spec PySem.Calls PyProof.Rows
set_option maxRecDepth 100000
set_option maxHeartbeats 8000000
namespace Mine
theorem off1_of {D : Addr} : ∀ {l : List (Addr × Obj)}, (∀ p ∈ l, p.1 ≠ D) → LCg.Off1 D l
  | [], _ => trivial
  | _ :: _, h => ⟨h _ List.mem_cons_self, off1_of fun p hp => h p (List.mem_cons_of_mem _ hp)⟩
theorem back {h₀ g h' : Heap} {L q : Addr} {m : Str → Option Value} {news : List (Addr × Obj)} {o : Obj} (F : Fr h₀ L g m) (N : News h₀ L g news) (k : Keeps g h') (fresh : g.get? q = none) (ho : h'.get? q = some o) :
    Fr h₀ L h' m ∧ News h₀ L h' ((q, o) :: news) ∧ LCg.Off1 q news := by
  obtain ⟨oL, _, _, hL, _⟩ := F.ns
  refine ⟨F.keeps k, fun p hp => ?_, off1_of fun p hp e => ?_⟩
  · rcases List.mem_cons.mp hp with rfl | hp
    · refine ⟨ho, fun e => ?_, ?_⟩
      · rw [show q = L from e, hL] at fresh; cases fresh
      · cases e : h₀.get? q with
        | none => rfl
        | some o' => rw [F.keep _ _ e] at fresh; cases fresh
    · exact N.grown k p hp
  · rw [← e, (N p hp).1] at fresh; cases fresh
section
variable {prog : Program} {w : World} {A : Around} {E : Value → Shared → Prop} {s : Shared} {h₀ : Heap} {L : Addr} {m : Str → Option Value} {env : Env}
def TupAt (ax : Addr) (its : Array Value) (news : List (Addr × Obj)) : Prop := ∃ o, (ax, o) ∈ news ∧ o.cls = .type "tuple" ∧ ∃ n, o.data = .seq its n
theorem TupAt.tup {h : Heap} {ax : Addr} {its : Array Value} {news : List (Addr × Obj)} (x : TupAt ax its news) (N : News h₀ L h news) : h.IsTuple ax its := by
  obtain ⟨o, hm, r⟩ := x
  exact ⟨o, (N _ hm).1, r⟩
def SrcT (prog : Program) (w : World) (A : Around) (h₀ : Heap) (L : Addr) (m : Str → Option Value) (env : Env) (elt : Expr) (x : Str) (scope : Scope) (cl : List (Str × Addr)) (Q : Value → Shared → Prop) (xv : Value) (s₁ : Shared) : Prop :=
  ∃ ax its news, xv = .ref ax ∧ A.handled = none ∧ Fr h₀ L s₁.heap m ∧ News h₀ L s₁.heap news ∧ TupAt ax its news ∧ its.size ≤ sizeLine ∧
    ∀ s₂ : Shared, (∃ h, s₂ = { s₁ with heap := h }) → LCg.CompRest prog w A h₀ L m env elt x scope cl s₂ (TupAt ax its) (fun i v => its[i]? = some v) (LCg.FinE h₀ L m s₂ Q) its.size 0 [] news
theorem SrcT.mk {elt : Expr} {x : Str} {scope : Scope} {cl : List (Str × Addr)} {Q : Value → Shared → Prop} {ax : Addr} {its : Array Value} {k : Nat} {news : List (Addr × Obj)} {s₁ : Shared}
    (hh : A.handled = none) (F : Fr h₀ L s₁.heap m) (N : News h₀ L s₁.heap news) (hm : (ax, ({ cls := .type "tuple", data := .seq its k } : Obj)) ∈ news) (hsz : its.size ≤ sizeLine)
    (h : ∀ g, LCg.CompRest prog w A h₀ L m env elt x scope cl { s₁ with heap := g } (TupAt ax its) (fun i v => its[i]? = some v) (LCg.FinE h₀ L m { s₁ with heap := g } Q) its.size 0 [] news) :
    SrcT prog w A h₀ L m env elt x scope cl Q (.ref ax) s₁ := ⟨ax, its, news, rfl, hh, F, N, ⟨_, hm, rfl, _, rfl⟩, hsz, fun _ ⟨g, e⟩ => e ▸ h g⟩
theorem tup_st {ax I : Addr} {its : Array Value} : ∀ i (h h' : Heap) (o : Obj) (nw : List (Addr × Obj)), (h.IsTupleIter I ax i ∧ h.IsTuple ax its) → h.get? I = some o → h'.get? I = some o → (∀ b o, h₀.get? b = some o → h'.get? b = some o) → News h₀ L h' nw → TupAt ax its nw → (h'.IsTupleIter I ax i ∧ h'.IsTuple ax its) := by
  intro i h h' o nw st e e' _ N S
  refine ⟨?_, S.tup N⟩
  obtain ⟨o', q, r⟩ := st.1
  rw [e] at q
  cases q
  exact ⟨o, e', r⟩
theorem ListComp_T {elt iter : Expr} {x : Str} {px : Pos} {scope : Scope} {cl : List (Str × Addr)} {pos : Pos} {Q : Value → Shared → Prop} (_F₀ : Fr h₀ L s.heap m)
    (hclos : closureFor scope env = pure cl) (hcell : ∀ y ∈ scope.names, y.2 ≠ .cell) (hkind : scope.kind = .function)
    (hnames : ∀ y ∈ scope.names, y.2 = .local → scope.names.lookup y.1 = some .local) (hx : scope.names.lookup x = some .local)
    (h : wpAny (model prog w) A (eval iter env) (SrcT prog w A h₀ L m env elt x scope cl Q) E s)
    (hs : ∀ x, foldedSetIterable iter env x = pure x := by intro _; rfl) :
    wpAny (model prog w) A (eval (.ListComp elt [⟨.Name x px, iter, [], 0⟩] scope pos) env) Q E s := by
  rw [eval_ListComp]
  refine wpAny_comprehension_free (use := none) rfl hs hclos hkind hnames (wpAny_mono h (fun xv s₁ h₁ => ?_) fun _ _ e => e)
  obtain ⟨ax, its, news, rfl, hh, F, N, S, hsz, R⟩ := h₁
  have hl := S.tup N
  have hlt : ax < s₁.heap.objs.size := by obtain ⟨_, e, _⟩ := hl; exact Heap.lt_size e
  refine wpAny_pyIter_tuple hl ?_
  have up : Keeps s₁.heap (s₁.heap.push { cls := .type "tuple_iterator", data := .fields #[.ref ax, .int 0 0] }) := fun b o e => Heap.get?_push_of_some _ e
  refine LCg.block_U (Walks.tuple hh s₁.heap.objs.size ax (Nat.ne_of_lt hlt) its) hsz (fun i h st => by obtain ⟨o, e, _⟩ := st.1; exact ⟨o, e⟩) tup_st hcell hkind hx
    ⟨⟨_, Heap.get?_push_size _ rfl, rfl, rfl⟩, hl.push _⟩ (fun b hb => ?_) (F.keeps up) (N.grown up) (Nat.ne_of_lt F.ns.lt) (next_is_new F) (fun p hp => Nat.ne_of_lt (Heap.lt_size (N p hp).1)) S (R _ ⟨_, rfl⟩) ?_
  · show b < (s₁.heap.push _).objs.size
    rw [Heap.size_push]
    rcases List.mem_cons.mp hb with rfl | hb
    · exact Nat.lt_succ_self _
    · rw [List.mem_singleton.mp hb]; exact Nat.lt_succ_of_lt hlt
  · intro D C h' tk m' ys news' F' N' o1 hn hC₀ hD₀ hCL hDL hCD offC fin
    refine ⟨m', hn, fun h'' hs'' => fin D h'' tk (F'.change hs'' hCL hC₀) (fun p hp => ?_) o1⟩
    refine ⟨hs''.extBut _ _ ?_ (N' p hp).1, (N' p hp).2⟩
    rcases List.mem_cons.mp hp with rfl | hp
    · exact Ne.symm hCD
    · exact offC p hp
def SrcTA (prog : Program) (w : World) (A : Around) (h₀ : Heap) (L : Addr) (m : Str → Option Value) (env : Env) (elt : Expr) (x : Str) (scope : Scope) (cl : List (Str × Addr)) (y : Str) (Q : Flow → Shared → Prop) (xv : Value) (s₁ : Shared) : Prop :=
  ∃ ax its news, xv = .ref ax ∧ A.handled = none ∧ Fr h₀ L s₁.heap m ∧ News h₀ L s₁.heap news ∧ TupAt ax its news ∧ its.size ≤ sizeLine ∧
    ∀ s₂ : Shared, (∃ h, s₂ = { s₁ with heap := h }) → LCg.CompRest prog w A h₀ L m env elt x scope cl s₂ (TupAt ax its) (fun i v => its[i]? = some v) (LCg.FinA h₀ L m s₂ y Q) its.size 0 [] news
theorem SrcTA.mk {elt : Expr} {x y : Str} {scope : Scope} {cl : List (Str × Addr)} {Q : Flow → Shared → Prop} {ax : Addr} {its : Array Value} {k : Nat} {news : List (Addr × Obj)} {s₁ : Shared}
    (hh : A.handled = none) (F : Fr h₀ L s₁.heap m) (N : News h₀ L s₁.heap news) (hm : (ax, ({ cls := .type "tuple", data := .seq its k } : Obj)) ∈ news) (hsz : its.size ≤ sizeLine)
    (h : ∀ g, LCg.CompRest prog w A h₀ L m env elt x scope cl { s₁ with heap := g } (TupAt ax its) (fun i v => its[i]? = some v) (LCg.FinA h₀ L m { s₁ with heap := g } y Q) its.size 0 [] news) :
    SrcTA prog w A h₀ L m env elt x scope cl y Q (.ref ax) s₁ := ⟨ax, its, news, rfl, hh, F, N, ⟨_, hm, rfl, _, rfl⟩, hsz, fun _ ⟨g, e⟩ => e ▸ h g⟩
theorem Assign_ListComp_T {elt iter : Expr} {x y : Str} {px py : Pos} {scope : Scope} {cl : List (Str × Addr)} {pos spos : Pos} {Q : Flow → Shared → Prop} (_F₀ : Fr h₀ env.locals s.heap m)
    (hsw : swapsWith (.ListComp elt [⟨.Name x px, iter, [], 0⟩] scope pos) (some (.Name y py)) spos.line env = pure true)
    (hclos : closureFor scope env = pure cl) (hcell : ∀ z ∈ scope.names, z.2 ≠ .cell) (hkind : scope.kind = .function)
    (hnames : ∀ z ∈ scope.names, z.2 = .local → scope.names.lookup z.1 = some .local) (hx : scope.names.lookup x = some .local)
    (hy : env.kindOf y = some .local) (hp : (env.scope.kind == .class || (env.scope.kind == .module && env.locals != env.globals)) = false)
    (h : wpAny (model prog w) A (eval iter env) (SrcTA prog w A h₀ env.locals m env elt x scope cl y Q) E s)
    (hs : ∀ x, foldedSetIterable iter env x = pure x := by intro _; rfl) :
    wpAny (model prog w) A (exec (.Assign [.Name y py] (.ListComp elt [⟨.Name x px, iter, [], 0⟩] scope pos) spos) env) Q E s := by
  rw [exec_Assign_Name_used _ _ _ _ hsw]
  refine wpAny_bind (wpAny_standAt (wpAny_bind ?_))
  show wpAny _ A (do let _ ← comprehension (.ListComp elt [⟨.Name x px, iter, [], 0⟩] scope pos) scope env _ (newList []) false (eval iter env) (some (assign (.Name y py) env))) _ _ s
  refine wpAny_bind (wpAny_mono (wpAny_comprehension_free (use := some (assign (.Name y py) env)) (Q := fun _ s' => Q .next s') rfl hs hclos hkind hnames
    (wpAny_mono h (fun xv s₁ h₁ => ?_) fun _ _ e => e)) (fun _ s' hq => wpAny_pure (wpAny_pure hq)) fun _ _ e => e)
  obtain ⟨ax, its, news, rfl, hh, F, N, S, hsz, R⟩ := h₁
  have hl := S.tup N
  have hlt : ax < s₁.heap.objs.size := by obtain ⟨_, e, _⟩ := hl; exact Heap.lt_size e
  refine wpAny_pyIter_tuple hl ?_
  have up : Keeps s₁.heap (s₁.heap.push { cls := .type "tuple_iterator", data := .fields #[.ref ax, .int 0 0] }) := fun b o e => Heap.get?_push_of_some _ e
  refine LCg.block_U (Walks.tuple hh s₁.heap.objs.size ax (Nat.ne_of_lt hlt) its) hsz (fun i h st => by obtain ⟨o, e, _⟩ := st.1; exact ⟨o, e⟩) tup_st hcell hkind hx
    ⟨⟨_, Heap.get?_push_size _ rfl, rfl, rfl⟩, hl.push _⟩ (fun b hb => ?_) (F.keeps up) (N.grown up) (Nat.ne_of_lt F.ns.lt) (next_is_new F) (fun p hp => Nat.ne_of_lt (Heap.lt_size (N p hp).1)) S (R _ ⟨_, rfl⟩) ?_
  · show b < (s₁.heap.push _).objs.size
    rw [Heap.size_push]
    rcases List.mem_cons.mp hb with rfl | hb
    · exact Nat.lt_succ_self _
    · rw [List.mem_singleton.mp hb]; exact Nat.lt_succ_of_lt hlt
  · intro D C h' tk m' ys news' F' N' o1 hn hC₀ hD₀ hCL hDL hCD offC fin
    show wpAny _ A (assign (.Name y py) env (.ref D)) _ _ _
    refine wpAny_assign_Name (wpAny_storeName_local hy F'.ns (fun h₂ hn₂ hs₂ => ?_) hp)
    have hL₀ : h₀.get? env.locals = none := Heap.get?_none_of_le F'.above
    have F₂ : Fr h₀ env.locals h₂ (fun z => if z = y then some (.ref D) else m z) := ⟨hn₂, fun b o e => hs₂.extBut b o (fun q => by rw [q, hL₀] at e; cases e) (F'.keep b o e), F'.above⟩
    refine ⟨m', hn.sameBut hs₂ hCL, fun h'' hs'' => fin D h'' _ (F₂.change hs'' hCL hC₀) (fun p hp => ?_) o1⟩
    have z : h₂.get? p.1 = some p.2 := hs₂.extBut _ _ (N' p hp).2.1 (N' p hp).1
    refine ⟨hs''.extBut _ _ ?_ z, (N' p hp).2⟩
    rcases List.mem_cons.mp hp with rfl | hp
    · exact Ne.symm hCD
    · exact offC p hp
end
def divI (a b : Int) : UInt64 := Float64.ofFrac (decide (a < 0) != decide (b < 0)) a.natAbs b.natAbs
theorem small_fits {n : Int} (h1 : -1000000 ≤ n) (h2 : n ≤ 1000000) : n.natAbs < 2 ^ 1023 :=
  Nat.lt_of_le_of_lt (show n.natAbs ≤ 1000000 by omega) (Nat.lt_of_lt_of_le (show 1000000 < 2 ^ 20 by decide) (Nat.pow_le_pow_right (by decide) (by decide)))
section
variable {prog : Program} {w : World} {A : Around} {E : Value → Shared → Prop} {s : Shared} {Q : Value → Shared → Prop} {t u : Tok}
theorem div_int {a b : Int} (hA : A.handled = none) (h1 : -1000000 ≤ a) (h2 : a ≤ 1000000) (hb : b ≠ 0) (h : Q (.float (divI a b) s.toks) { s with toks := s.toks + 1 }) : wpAny (model prog w) A (binaryOp .Div (.int a t) (.int b u)) Q E s :=
  PySem.Flt.div_ii_fits hA (small_fits h1 h2) (fun e => absurd e hb) fun _ _ => h
theorem mul_int {a : UInt64} {n : Int} (h1 : -1000000 ≤ n) (h2 : n ≤ 1000000) (h : Q (.float (Float64.mul (Float64.ofInt n) a) s.toks) { s with toks := s.toks + 1 }) : wpAny (model prog w) A (binaryOp .Mult (.int n u) (.float a t)) Q E s :=
  mul_if_fits (small_fits h1 h2) h
theorem int_mul {a : UInt64} {n : Int} (h1 : -1000000 ≤ n) (h2 : n ≤ 1000000) (h : Q (.float (Float64.mul a (Float64.ofInt n)) s.toks) { s with toks := s.toks + 1 }) : wpAny (model prog w) A (binaryOp .Mult (.float a t) (.int n u)) Q E s :=
  mul_fi_fits (small_fits h1 h2) h
end
end Mine
end
theorem Mine.off2 : True := by (w_top off); trivial
section
open PySem PySem.W PySem.Spec PySem.Calls PyProof.Rows
set_option maxRecDepth 100000
set_option maxHeartbeats 8000000
namespace Mine
def NoE (_ : Value) (_ : Shared) : Prop := False
def ForAt (prog : Program) (w : World) (A : Around) (env : Env) (x : Str) (px : Pos) (body : List Stmt) (Q : Flow → Shared → Prop) (it : Value) (s₂ : Shared) : Prop :=
  ∃ (I : Addr) (fp wr : List Addr) (n : Nat) (P : Nat → Value → Prop) (St : Nat → Heap → Prop) (J : Nat → Shared → Prop),
    it = .ref I ∧ Walks prog w A I fp wr n P St ∧ (∀ i s, J i s → St i s.heap) ∧ J 0 s₂ ∧
    (∀ i s v h' tk, i < n → J i s → P i v → St (i + 1) h' → (∀ b o, b ∉ wr → s.heap.get? b = some o → h'.get? b = some o) →
      wpAny (model prog w) A (assign (.Name x px) env v) (fun _ s₃ => wpAny (model prog w) A (execs body env) (fun f s₄ => match f with
        | .next | .cont => J (i + 1) s₄
        | .brk => Q .next s₄
        | .ret v => Q (.ret v) s₄) NoE s₃) NoE { s with heap := h', toks := tk }) ∧
    (∀ s h' tk, J n s → (∀ b o, b ∉ wr → s.heap.get? b = some o → h'.get? b = some o) → Q .next { s with heap := h', toks := tk })
theorem for_inv {prog : Program} {w : World} {A : Around} {env : Env} {s : Shared} {x : Str} {px pos : Pos} {iter : Expr} {body : List Stmt} {Q : Flow → Shared → Prop} {E : Value → Shared → Prop}
    (h : wpAny (model prog w) A (eval iter env) (fun xv s₁ => wpAny (model prog w) A (pyIter xv) (ForAt prog w A env x px body Q) NoE s₁) NoE s)
    (hs : ∀ x, foldedSetIterable iter env x = pure x := by intro _; rfl) :
    wpAny (model prog w) A (exec (.For (.Name x px) iter body [] pos) env) Q E s := by
  refine wpAny_For (wpAny_mono h (fun xv s₁ h₁ => wpAny_mono h₁ (fun it s₂ h₂ => ?_) fun _ _ e => e.elim) fun _ _ e => e.elim) hs
  obtain ⟨I, fp, wr, n, P, St, J, rfl, W, hJS, hJ0, turn, done⟩ := h₂
  refine codeAny_forLoop (fun k s => ∃ i, i ≤ n ∧ k = n - i ∧ J i s) (fun k s hI => ?_) n ⟨0, Nat.zero_le _, rfl, hJ0⟩
  obtain ⟨i, hi, rfl, hJ⟩ := hI
  by_cases hlt : i < n
  · refine W.item i s _ _ hlt (hJS i s hJ) fun v h' tk hP hSt hk => ?_
    refine wpAny_mono (turn i s v h' tk hlt hJ hP hSt hk) (fun _ s₃ h₃ => wpAny_mono h₃ (fun f s₄ h₄ => ?_) fun _ _ e => e.elim) fun _ _ e => e.elim
    cases f with
    | next => exact ⟨n - (i + 1), by omega, i + 1, hlt, rfl, h₄⟩
    | cont => exact ⟨n - (i + 1), by omega, i + 1, hlt, rfl, h₄⟩
    | brk => exact h₄
    | ret v => exact h₄
  · have hin : i = n := by omega
    subst hin
    exact W.done s _ _ (hJS _ s hJ) fun h' tk hk => wpAny_execs_nil (done s h' tk hJ hk)
end Mine
namespace Mine
def Halt (P : Prop) : Prop := P
theorem halt_for {M : Model} {A : Around} {env : Env} {s : Shared} {x : Str} {px pos : Pos} {iter : Expr} {body : List Stmt} {Q : Flow → Shared → Prop} {E : Value → Shared → Prop}
    (h : Halt (wpAny M A (exec (.For (.Name x px) iter body [] pos) env) Q E s)) : wpAny M A (exec (.For (.Name x px) iter body [] pos) env) Q E s := h
structure TurnEnd (h₀ : Heap) (L I : Addr) (oI : Obj) (J : (Str → Option Value) → List (Addr × Obj) → Prop) (s : Shared) (f : Flow) (s' : Shared) : Prop where
  next : f = .next
  here : ∃ h' tk' m' news', s' = { s with heap := h', toks := tk' } ∧ Fr h₀ L h' m' ∧ News h₀ L h' ((I, oI) :: news') ∧ (∀ p ∈ news', p.1 ≠ I) ∧ J m' news'
theorem for_list {prog : Program} {w : World} {A : Around} {env : Env} {s : Shared} {x y : Str} {px py pos : Pos} {body : List Stmt} {Q : Flow → Shared → Prop} {E : Value → Shared → Prop} {h₀ : Heap} {m : Str → Option Value} {news : List (Addr × Obj)} {l : Addr} {vs : List Value}
    (J : Nat → (Str → Option Value) → List (Addr × Obj) → Prop) (hh : A.handled = none) (F : Fr h₀ env.locals s.heap m) (N : News h₀ env.locals s.heap news) (hl : h₀.IsList l vs.toArray) (hJ : J 0 m news)
    (hn : ∀ Q' : Value → Shared → Prop, Q' (.ref l) s → wpAny (model prog w) A (eval (.Name y py) env) Q' NoE s)
    (turn : ∀ i v m₁ news₁ h₁ tk I oI, vs[i]? = some v → J i m₁ news₁ → Fr h₀ env.locals h₁ m₁ → News h₀ env.locals h₁ ((I, oI) :: news₁) → (∀ p ∈ news₁, p.1 ≠ I) →
      wpAny (model prog w) A (assign (.Name x px) env v) (fun _ s₃ => wpAny (model prog w) A (execs body env) (TurnEnd h₀ env.locals I oI (J (i + 1)) { s with heap := h₁, toks := tk }) NoE s₃) NoE { s with heap := h₁, toks := tk })
    (done : ∀ m₁ news₁ h₁ tk, J vs.length m₁ news₁ → Fr h₀ env.locals h₁ m₁ → News h₀ env.locals h₁ news₁ → Q .next { s with heap := h₁, toks := tk }) :
    wpAny (model prog w) A (exec (.For (.Name x px) (.Name y py) body [] pos) env) Q E s := by
  have hls : s.heap.IsList l vs.toArray := hl.at fun o e => F.keep l o e
  have hlt : l < h₀.objs.size := by obtain ⟨_, e, _⟩ := id hl; exact Heap.lt_size e
  have hne : l ≠ s.heap.objs.size := Nat.ne_of_lt (Nat.lt_trans (Nat.lt_of_lt_of_le hlt F.above) F.ns.lt)
  have hI0 : h₀.get? s.heap.objs.size = none := next_is_new F
  have hIL : s.heap.objs.size ≠ env.locals := Ne.symm (Nat.ne_of_lt F.ns.lt)
  have hsz : vs.toArray.size = vs.length := by simp
  refine for_inv (hn _ (wpAny_pyIter_list hls ?_))
  refine ⟨s.heap.objs.size, _, _, vs.length, _, _, fun i s' => ∃ h tk m₁ news₁, s' = { s with heap := h, toks := tk } ∧ h.IsListIter s.heap.objs.size l i ∧ Fr h₀ env.locals h m₁ ∧ News h₀ env.locals h news₁ ∧ (∀ p ∈ news₁, p.1 ≠ s.heap.objs.size) ∧ J i m₁ news₁, rfl,
    hsz ▸ Walks.list hh s.heap.objs.size l hne vs.toArray, ?_, ?_, ?_, ?_⟩
  · rintro i s' ⟨h, tk, m₁, news₁, rfl, hit, F₁, _, _, _⟩
    exact ⟨hit, hl.at fun o e => F₁.keep l o e⟩
  · refine ⟨_, _, m, news, rfl, ⟨_, Heap.get?_push_size _ rfl, rfl, rfl⟩, F.push _, fun p hp => ⟨Heap.get?_push_of_some _ (N p hp).1, (N p hp).2⟩, fun p hp => Nat.ne_of_lt (Heap.lt_size (N p hp).1), hJ⟩
  · rintro i s' v h' tk' hi ⟨h, tk, m₁, news₁, rfl, hit, F₁, N₁, off, hJ₁⟩ hP hSt hk
    have hv : vs[i]? = some v := by simpa using hP
    obtain ⟨⟨oI, hoI, hr⟩, hl'⟩ := hSt
    have F₂ : Fr h₀ env.locals h' m₁ := LCg.fr_but F₁ hk (Ne.symm hIL) hI0
    have N₂ : News h₀ env.locals h' ((s.heap.objs.size, oI) :: news₁) := fun p hp => by
      rcases List.mem_cons.mp hp with rfl | hp
      · exact ⟨hoI, hIL, hI0⟩
      · exact LCg.news_but N₁ hk off p hp
    refine wpAny_mono (turn i v m₁ news₁ h' tk' s.heap.objs.size oI hv hJ₁ F₂ N₂ off) (fun _ s₃ h₃ => wpAny_mono h₃ (fun f s₄ h₄ => ?_) fun _ _ e => e) fun _ _ e => e
    obtain ⟨rfl, h₅, tk₅, m₅, news₅, rfl, F₅, N₅, off₅, hJ₅⟩ := h₄
    exact ⟨h₅, tk₅, m₅, news₅, rfl, ⟨oI, (N₅ _ List.mem_cons_self).1, hr⟩, F₅, fun p hp => N₅ p (List.mem_cons_of_mem _ hp), off₅, hJ₅⟩
  · rintro s' h' tk' ⟨h, tk, m₁, news₁, rfl, hit, F₁, N₁, off, hJ₁⟩ hk
    exact done m₁ news₁ h' tk' hJ₁ (LCg.fr_but F₁ hk (Ne.symm hIL) hI0) (LCg.news_but N₁ hk off)
end Mine
namespace Mine
structure TurnSame (h₀ : Heap) (L I : Addr) (oI : Obj) (m : Str → Option Value) (J : List (Addr × Obj) → Prop) (s : Shared) (f : Flow) (s' : Shared) : Prop where
  next : f = .next
  here : ∃ h' tk' news', s' = { s with heap := h', toks := tk' } ∧ Fr h₀ L h' m ∧ News h₀ L h' ((I, oI) :: news') ∧ LCg.Off1 I news' ∧ J news'
theorem off1_mem {D : Addr} : ∀ {l : List (Addr × Obj)}, LCg.Off1 D l → ∀ p ∈ l, p.1 ≠ D
  | [], _, _, h => nomatch h
  | _ :: _, x, p, h => by
    rcases List.mem_cons.mp h with rfl | h
    · exact x.1
    · exact off1_mem x.2 p h
theorem for_same {prog : Program} {w : World} {A : Around} {env : Env} {s : Shared} {x y : Str} {px py pos : Pos} {body : List Stmt} {Q : Flow → Shared → Prop} {E : Value → Shared → Prop} {h₀ : Heap} {m : Str → Option Value} {news : List (Addr × Obj)} {l : Addr} {vs : List Value}
    (J : Nat → List (Addr × Obj) → Prop) (hh : A.handled = none) (F : Fr h₀ env.locals s.heap m) (N : News h₀ env.locals s.heap news) (hl : h₀.IsList l vs.toArray) (hJ : J 0 news)
    (hn : ∀ Q' : Value → Shared → Prop, Q' (.ref l) s → wpAny (model prog w) A (eval (.Name y py) env) Q' NoE s)
    (turn : ∀ i v news₁ h₁ tk I oI, vs[i]? = some v → J i news₁ → Fr h₀ env.locals h₁ m → News h₀ env.locals h₁ ((I, oI) :: news₁) → LCg.Off1 I news₁ →
      wpAny (model prog w) A (assign (.Name x px) env v) (fun _ s₃ => wpAny (model prog w) A (execs body env) (TurnSame h₀ env.locals I oI m (J (i + 1)) { s with heap := h₁, toks := tk }) NoE s₃) NoE { s with heap := h₁, toks := tk })
    (done : ∀ news₁ h₁ tk, J vs.length news₁ → Fr h₀ env.locals h₁ m → News h₀ env.locals h₁ news₁ → Q .next { s with heap := h₁, toks := tk }) :
    wpAny (model prog w) A (exec (.For (.Name x px) (.Name y py) body [] pos) env) Q E s := by
  refine for_list (fun i m₁ news₁ => m₁ = m ∧ J i news₁) hh F N hl ⟨rfl, hJ⟩ hn ?_ ?_
  · rintro i v m₁ news₁ h₁ tk I oI hv ⟨rfl, hJ₁⟩ F₁ N₁ off
    refine wpAny_mono (turn i v news₁ h₁ tk I oI hv hJ₁ F₁ N₁ (off1_of off)) (fun _ s₃ h₃ => wpAny_mono h₃ (fun f s₄ h₄ => ?_) fun _ _ e => e) fun _ _ e => e
    obtain ⟨rfl, h', tk', news', rfl, F', N', off', hJ'⟩ := h₄
    exact ⟨rfl, h', tk', _, news', rfl, F', N', off1_mem off', rfl, hJ'⟩
  · rintro m₁ news₁ h₁ tk ⟨rfl, hJ₁⟩ F₁ N₁
    exact done news₁ h₁ tk hJ₁ F₁ N₁
end Mine
namespace Mine
theorem halt_nil {M : Model} {A : Around} {env : Env} {s : Shared} {Q : Flow → Shared → Prop} {E : Value → Shared → Prop}
    (h : Halt (Q .next s)) : wpAny M A (execs [] env) Q E s := wpAny_execs_nil h
end Mine
namespace Mine
theorem halt_tree {α : Type} {M : Model} {A : Around} {t : Sem α} {s : Shared} {Q : α → Shared → Prop} {E : Value → Shared → Prop}
    (h : Halt (wpAny M A t Q E s)) : wpAny M A t Q E s := h
end Mine
end
theorem Mine.off3 : True := by (w_top off); trivial
section
open PySem PySem.W PySem.Spec PySem.Calls PyProof.Rows
set_option maxRecDepth 100000
set_option maxHeartbeats 1000000
namespace Mine
theorem runs_toks {M : Model} {Γ : PySem.Ctx} {p : Pos} {t : Sem Fin} {fs : List Frame} {s s' : Shared} {e : End} (h : Runs M Γ p t fs s e s') : s.toks ≤ s'.toks := by
  induction h with
  | done | raise | yield => exact Nat.le_refl _
  | again _ _ ih | rule _ ih | «at» _ ih | load _ _ ih | update _ _ ih | loadIfAlive _ ih | point _ ih | alloc _ ih | ask _ ih | choose _ _ ih | os _ ih | handled _ ih | genState _ _ ih | stack _ ih | thread _ ih | newGen _ ih => exact ih
  | fresh _ ih => exact Nat.le_trans (Nat.le_succ _) ih
  | call _ _ ih1 ih2 => exact Nat.le_trans ih1 ih2
  | callSusp _ ih => exact ih
  | resumeFresh _ _ _ _ ih1 ih2 => exact Nat.le_trans ih1 ih2
  | resumeSuspended _ _ _ _ ih1 ih2 => exact Nat.le_trans ih1 ih2
  | resumeJustStarted _ _ _ ih => exact ih
  | resumeThrowFresh _ _ ih => exact ih
  | resumeRunning _ _ ih => exact ih
  | resumeFinished _ _ ih => exact ih
  | segRet _ _ ih1 ih2 => exact Nat.le_trans ih1 ih2
  | segGen _ _ ih1 ih2 => exact Nat.le_trans ih1 ih2
  | segSuspOut _ _ ih => exact ih
  | segSuspGen _ _ _ _ ih1 ih2 => exact Nat.le_trans ih1 ih2
theorem wakes_toks {M : Model} {Γ : PySem.Ctx} {p : Pos} {g : Nat} {r : Resume} {s s' : Shared} {res : GenResult} (h : Wakes M Γ p g r s res s') : s.toks ≤ s'.toks := by
  unfold Wakes at h
  split at h
  · exact h.elim
  · split at h
    · obtain ⟨e₁, s₁, hr, _, _, rfl⟩ := h
      have q := runs_toks hr
      exact q
    · rw [h.2]; exact Nat.le_refl _
    · rw [h.2]; exact Nat.le_refl _
  · obtain ⟨e₁, s₁, hr, _, _, rfl⟩ := h
    have q := runs_toks hr
    exact q
  · rw [h.2]; exact Nat.le_refl _
  · rw [h.2]; exact Nat.le_refl _
theorem wp_toks {X : Type} (M : Model) (Γ : PySem.Ctx) (t : Sem X) (n : Nat) : ∀ {Q : X → Pos → Shared → Prop} {E : Value → Pos → Shared → Prop} (p : Pos) (s : Shared), n ≤ s.toks → Sem.wp M Γ t Q E p s →
    Sem.wp M Γ t (fun a p' s' => Q a p' s' ∧ n ≤ s'.toks) E p s := by
  induction t with
  | pure x => intro Q E p s hn h; exact ⟨h, hn⟩
  | raise v => intro Q E p s hn h; exact h
  | unsupported | finish | yield | fork | await | register => intro Q E p s hn h; exact h
  | rule _ k ih | «at» _ k ih | alloc _ k ih | loadIfAlive _ k ih | point _ k ih | ask k ih | os _ _ k ih | handled _ k ih | newGen _ k ih | stack k ih | thread k ih => intro Q E p s hn h; exact ih _ _ _ (by exact hn) h
  | fresh k ih => intro Q E p s hn h; exact ih _ _ _ (Nat.le_trans hn (Nat.le_succ _)) h
  | load a _ k ih | genState a k ih => intro Q E p s hn ⟨o, ho, h⟩; exact ⟨o, ho, ih _ _ _ hn h⟩
  | update a _ f k ih | choose _ _ k ih => intro Q E p s hn ⟨ha, h⟩; exact ⟨ha, ih _ _ _ (by exact hn) h⟩
  | call c h g l k ih =>
    intro Q E p s hn ⟨r, s', hr, h⟩
    exact ⟨r, s', hr, ih _ _ _ (Nat.le_trans hn (runs_toks hr)) h⟩
  | resume g r l k ih =>
    intro Q E p s hn ⟨res, s', hw, h⟩
    exact ⟨res, s', hw, ih _ _ _ (Nat.le_trans hn (wakes_toks hw)) h⟩
def ToksE (E : Value → Shared → Prop) : Value → Shared → Prop := E
theorem with_toks {α : Type} {M : Model} {A : Around} {t : Sem α} {s : Shared} {Q : α → Shared → Prop} {E : Value → Shared → Prop} (h : wpAny M A t (fun a s' => s.toks ≤ s'.toks → Q a s') (ToksE E) s) : wpAny M A t Q E s := fun Γ p hΓ =>
  Sem.wp_mono M Γ t (fun _ _ _ x => x.1 x.2) (fun _ _ _ x => x) p s (wp_toks M Γ t s.toks p s (Nat.le_refl _) (h Γ p hΓ))
end Mine
end
theorem Mine.off4 : True := by (w_top off); trivial
section
open PySem PySem.W PySem.Spec PySem.Calls PyProof.Rows
set_option maxRecDepth 100000
set_option maxHeartbeats 8000000
namespace Mine
def yOf (r g b : UInt64) : UInt64 := Float64.add (Float64.add (Float64.mul 4599075939470750515 r) (Float64.mul 4603489467105573601 g)) (Float64.mul 4592590756007337001 b)
def iOf (r g b : UInt64) : UInt64 := Float64.sub (Float64.mul 4604840546993784750 (Float64.sub r (yOf r g b))) (Float64.mul 4598535507515466056 (Float64.sub b (yOf r g b)))
def qOf (r g b : UInt64) : UInt64 := Float64.add (Float64.mul 4602318531202457272 (Float64.sub r (yOf r g b))) (Float64.mul 4601057523306793533 (Float64.sub b (yOf r g b)))
theorem c_rgb (w : World) (r g b : UInt64) (tr tg tb : Tok) :
  FTell w 21 [.float r tr, .float g tg, .float b tb] 1 16 (fun _ => True) fun g0 h v => ∃ q t1 t2 t3, v = .ref q ∧ g0.get? q = none ∧ h.get? q = some (tup [.float (yOf r g b) t1, .float (iOf r g b) t2, .float (qOf r g b) t3]) := by
  unfold FTell; k_fill
  intro p loose mean mg mb dp un fr gd s Q E hd hu X T hpre hret
  refine wpAny_call ?_
  k_dflt (refine' call_plain_ret ?k1 ?k2 ?k3 ?k4 ?k5 ?k6 ?k7 ?_ ?c1 ?c2 ?c3 ?c4; (case k2 => exact X _ _ (by k_is)); (case k3 => exact rfl); (case k1 => exact Nat.lt_of_le_of_lt (Nat.le_add_right _ _) hd); (case k4 => exact Top.nolimit T); (case k5 => exact codeRec_of X (by k_is)); (case k6 => exact rfl); (case k7 => exact locs rfl); (case c1 => exact rfl); (case c2 => exact rfl); (case c3 => exact rfl); (case c4 => decide))
  intro h₁ F'
  have N' : News s.heap s.heap.objs.size h₁ [] := News.nil
  k_steps
  all_goals (
    (rename Fr _ _ _ _ => F9); (rename News _ _ _ _ => N9)
    exact hret _ _ _ (Fr.keep F9) ⟨_, _, _, _, rfl, (N9 _ (List.Mem.head _)).2.2, (N9 _ (List.Mem.head _)).1⟩)
end Mine
end
theorem Mine.off5 : True := by (w_top off); trivial
section
open PySem PySem.W PySem.Spec PySem.Calls PyProof.Rows
set_option maxRecDepth 100000
set_option maxHeartbeats 8000000
namespace Mine
def loF (x : UInt64) : UInt64 := if Float64.cmp x 0 == some .lt then 0 else x
def hiF (x : UInt64) : UInt64 := if Float64.cmp x 4607182418800017408 == some .gt then 4607182418800017408 else x
def clF (x : UInt64) : UInt64 := hiF (loF x)
def rOf (y i q : UInt64) : UInt64 := Float64.add (Float64.add y (Float64.mul 4606703976345377586 i)) (Float64.mul 4603791717925830846 q)
def gOf (y i q : UInt64) : UInt64 := Float64.sub (Float64.sub y (Float64.mul 4598621754083818298 i)) (Float64.mul 4603901015759978483 q)
def bOf (y i q : UInt64) : UInt64 := Float64.add (Float64.sub y (Float64.mul 4607671262177584182 i)) (Float64.mul 4610375502138591871 q)
section
variable {prog : Program} {w : World} {A : Around} {E : Value → Shared → Prop} {s : Shared} {h₀ : Heap} {L a : Addr} {m : Str → Option Value} {news : List (Addr × Obj)} {nm : Str} {scope : Scope} {cd : Value} {x : Str} {v : UInt64} {t : Tok} {Q : Flow → Shared → Prop} {p1 p2 p3 p4 p5 p6 p7 : Pos} {k1 k2 : Nat}
theorem if_lo (F : Fr h₀ L s.heap m) (N : News h₀ L s.heap news) (hx : m x = some (.float v t))
    (h : ∀ h' tk t', Fr h₀ L h' (fun y => if y = x then some (.float (loF v) t') else m y) → News h₀ L h' news → Q .next { s with heap := h', toks := tk })
    (hk : scope.kind = .function := by rfl) (hl : (envOf nm scope L a cd).kindOf x = some .local := by rfl) (hd : (x == ("__debug__" : Str)) = false := by decide) :
    wpAny (model prog w) A (exec (.If (.Compare (.Name x p1) [.Lt] [.Constant (.float 0) k1 p2] p3) [.Assign [.Name x p4] (.Constant (.float 0) k2 p5) p6] [] p7) (envOf nm scope L a cd)) Q E s := by
  refine wpAny_If (wpAny_isTrue_Compare1 (ld F hx (wpAny_Constant_float (AutoFloatOps.lt_0 (wpAny_truthy_bool ?_))) hk hl hd))
  split
  · rename_i hc
    refine wpAny_execs_cons (wpAny_Assign_Name (wpAny_Constant_float (stN F N (fun h' F' N' => ?_) hk hl)))
    refine wpAny_execs_nil (h h' _ (s.toks + 1) ?_ N')
    unfold loF
    rw [if_pos hc]
    exact F'
  · rename_i hc
    refine wpAny_execs_nil (h s.heap _ t ?_ N)
    unfold loF
    rw [if_neg hc]
    have e : (fun y => if y = x then some (Value.float v t) else m y) = m := by
      funext y
      by_cases hy : y = x
      · rw [if_pos hy, hy, hx]
      · rw [if_neg hy]
    rw [e]
    exact F
theorem if_hi (F : Fr h₀ L s.heap m) (N : News h₀ L s.heap news) (hx : m x = some (.float v t))
    (h : ∀ h' tk t', Fr h₀ L h' (fun y => if y = x then some (.float (hiF v) t') else m y) → News h₀ L h' news → Q .next { s with heap := h', toks := tk })
    (hk : scope.kind = .function := by rfl) (hl : (envOf nm scope L a cd).kindOf x = some .local := by rfl) (hd : (x == ("__debug__" : Str)) = false := by decide) :
    wpAny (model prog w) A (exec (.If (.Compare (.Name x p1) [.Gt] [.Constant (.float 4607182418800017408) k1 p2] p3) [.Assign [.Name x p4] (.Constant (.float 4607182418800017408) k2 p5) p6] [] p7) (envOf nm scope L a cd)) Q E s := by
  refine wpAny_If (wpAny_isTrue_Compare1 (ld F hx (wpAny_Constant_float (AutoFloatOps.gt_0 (wpAny_truthy_bool ?_))) hk hl hd))
  split
  · rename_i hc
    refine wpAny_execs_cons (wpAny_Assign_Name (wpAny_Constant_float (stN F N (fun h' F' N' => ?_) hk hl)))
    refine wpAny_execs_nil (h h' _ (s.toks + 1) ?_ N')
    unfold hiF
    rw [if_pos hc]
    exact F'
  · rename_i hc
    refine wpAny_execs_nil (h s.heap _ t ?_ N)
    unfold hiF
    rw [if_neg hc]
    have e : (fun y => if y = x then some (Value.float v t) else m y) = m := by
      funext y
      by_cases hy : y = x
      · rw [if_pos hy, hy, hx]
      · rw [if_neg hy]
    rw [e]
    exact F
end
local macro_rules | `(tactic| walk_at "exec If") => `(tactic| (k_here; k_dflt (first | (refine' if_lo ?k1 ?k2 ?k3 ?_; (case k1 => k_asm); (case k2 => k_asm); (case k3 => exact rfl); k_whole; intro h' tk' t' F' N') | (refine' if_hi ?k1 ?k2 ?k3 ?_; (case k1 => k_asm); (case k2 => k_asm); (case k3 => exact rfl); k_whole; intro h' tk' t' F' N'))))
theorem c_yiq (w : World) (y i q : UInt64) (ty ti tq : Tok) :
  FTell w 28 [.float y ty, .float i ti, .float q tq] 1 16 (fun _ => True) fun g0 h v => ∃ a t1 t2 t3, v = .ref a ∧ g0.get? a = none ∧ h.get? a = some (tup [.float (clF (rOf y i q)) t1, .float (clF (gOf y i q)) t2, .float (clF (bOf y i q)) t3]) := by
  unfold FTell; k_fill
  intro p loose mean mg mb dp un fr gd s Q E hd hu X T hpre hret
  refine wpAny_call ?_
  k_dflt (refine' call_plain_ret ?k1 ?k2 ?k3 ?k4 ?k5 ?k6 ?k7 ?_ ?c1 ?c2 ?c3 ?c4; (case k2 => exact X _ _ (by k_is)); (case k3 => exact rfl); (case k1 => exact Nat.lt_of_le_of_lt (Nat.le_add_right _ _) hd); (case k4 => exact Top.nolimit T); (case k5 => exact codeRec_of X (by k_is)); (case k6 => exact rfl); (case k7 => exact locs rfl); (case c1 => exact rfl); (case c2 => exact rfl); (case c3 => exact rfl); (case c4 => decide))
  intro h₁ F'
  have N' : News s.heap s.heap.objs.size h₁ [] := News.nil
  k_steps
  all_goals (
    (rename Fr _ _ _ _ => F9); (rename News _ _ _ _ => N9)
    exact hret _ _ _ (Fr.keep F9) ⟨_, _, _, _, rfl, (N9 _ (List.Mem.head _)).2.2, (N9 _ (List.Mem.head _)).1⟩)
end Mine
end
theorem Mine.off6 : True := by (w_top off); trivial
section
open PySem PySem.W PySem.Spec PySem.Calls PyProof.Rows
set_option maxRecDepth 100000
set_option maxHeartbeats 8000000
namespace Mine
theorem int_fin {prog : Program} {w : World} {A : Around} {E : Value → Shared → Prop} {s : Shared} {x : UInt64} {t : Tok} {Q : Value → Shared → Prop} (hf : Float64.isFinite x = true)
    (h : Q (.int (PySem.Flt.toInt Float64.truncOf x) s.toks) { s with toks := s.toks + 1 }) : wpAny (model prog w) A (call (.type "int") [.float x t]) Q E s := by
  unfold Float64.isFinite at hf
  split at hf
  · rename_i hd
    rw [PySem.Flt.toInt_fin hd] at h
    exact call_int_float hd h
  · cases hf
local macro_rules | `(tactic| walk_at "call type:int") => `(tactic| (k_here; k_dflt (refine' int_fin ?k1 ?_; (case k1 => assumption); k_whole)))
theorem c_row (w : World) (d : Int) (t : Tok) :
  FTell w 51 [.int d t] 1 16 (fun _ => True) fun g0 h v => ∃ a t1 t2 t3 t4 n, v = .ref a ∧ g0.get? a = none ∧ h.get? a = some (lst [.int (Int.fmod (Int.fdiv d 4913) 7 - 3) t1, .int (Int.fmod d 17) t2, .int (Int.fmod (Int.fdiv d 17) 17) t3, .int (Int.fmod (Int.fdiv d 289) 17) t4] n) := by
  unfold FTell; k_fill
  intro p loose mean mg mb dp un fr gd s Q E hd hu X T hpre hret
  refine wpAny_call ?_
  k_dflt (refine' call_plain_ret ?k1 ?k2 ?k3 ?k4 ?k5 ?k6 ?k7 ?_ ?c1 ?c2 ?c3 ?c4; (case k2 => exact X _ _ (by k_is)); (case k3 => exact rfl); (case k1 => exact Nat.lt_of_le_of_lt (Nat.le_add_right _ _) hd); (case k4 => exact Top.nolimit T); (case k5 => exact codeRec_of X (by k_is)); (case k6 => exact rfl); (case k7 => exact locs rfl); (case c1 => exact rfl); (case c2 => exact rfl); (case c3 => exact rfl); (case c4 => decide))
  intro h₁ F'
  have N' : News s.heap s.heap.objs.size h₁ [] := News.nil
  k_steps
  all_goals (
    (rename Fr _ _ _ _ => F9); (rename News _ _ _ _ => N9)
    exact hret _ _ _ (Fr.keep F9) ⟨_, _, _, _, _, _, rfl, (N9 _ (List.Mem.head _)).2.2, (N9 _ (List.Mem.head _)).1⟩)
def wholeOf (x : UInt64) : Int := PySem.Flt.toInt Float64.truncOf (Float64.add x 4726483295917834240) - 100000000
theorem c_whole (w : World) (x : UInt64) (t : Tok) (hf : Float64.isFinite (Float64.add x 4726483295917834240) = true) :
  FTell w 68 [.float x t] 1 16 (fun _ => True) fun g0 h v => ∃ t1, v = .int (wholeOf x) t1 := by
  unfold FTell; k_fill
  intro p loose mean mg mb dp un fr gd s Q E hd hu X T hpre hret
  refine wpAny_call ?_
  k_dflt (refine' call_plain_ret ?k1 ?k2 ?k3 ?k4 ?k5 ?k6 ?k7 ?_ ?c1 ?c2 ?c3 ?c4; (case k2 => exact X _ _ (by k_is)); (case k3 => exact rfl); (case k1 => exact Nat.lt_of_le_of_lt (Nat.le_add_right _ _) hd); (case k4 => exact Top.nolimit T); (case k5 => exact codeRec_of X (by k_is)); (case k6 => exact rfl); (case k7 => exact locs rfl); (case c1 => exact rfl); (case c2 => exact rfl); (case c3 => exact rfl); (case c4 => decide))
  intro h₁ F'
  have N' : News s.heap s.heap.objs.size h₁ [] := News.nil
  k_steps
  all_goals (
    (rename Fr _ _ _ _ => F9); (rename News _ _ _ _ => N9)
    exact hret _ _ _ (Fr.keep F9) ⟨_, rfl⟩)
end Mine
end
theorem Mine.off7 : True := by (w_top off); trivial
section
open PySem PySem.W PySem.Spec PySem.Calls PyProof.Rows
set_option maxRecDepth 100000
set_option maxHeartbeats 8000000
set_option pp.deepTerms false
namespace Mine
theorem item_at {prog : Program} {w : World} {A : Around} {E : Value → Shared → Prop} {s : Shared} {value slice : PySem.Expr} {l : Addr} {vs : List Value} {k : Int} {u : Tok} {v : Value} {Q : Value → Shared → Prop}
    (hl : s.heap.IsList l vs.toArray) (h0 : 0 ≤ k) (hhi : k < 2 ^ 63) (hx : vs[k.toNat]? = some v) (h : Q v s)
    (hs : subscripted slice false (.ref l) (.int k u) = operate [.ref l, .int k u] (getItem (.ref l) (.int k u)) := by with_unfolding_all rfl) :
    wpAny (model prog w) A (subscriptTail value slice (.ref l) (.int k u)) Q E s :=
  tail_any hl.typeIs slot_list_getitem.lookup (wpAny_getItem_list hl h0 hhi (by simpa using hx) h) hs
theorem ld_free {M : Model} {A : Around} {E : Value → Shared → Prop} {s : Shared} {h₀ : Heap} {L C : Addr} {news : List (Addr × Obj)} {scope : Scope} {cl : List (Str × Addr)} {env : Env} {x : Str} {pos : Pos} {v : Value} {c : Addr} {o : Obj} {Q : Value → Shared → Prop}
    (N : News h₀ L s.heap news) (hc : cl.lookup x = some c) (hm : (c, o) ∈ news) (hd : o.data = .cell (some v)) (h : Q v s)
    (hk : (compEnvC scope cl C env).scope.kind = .function := by rfl) (hx : (compEnvC scope cl C env).kindOf x = some .cell := by rfl) (hb : (x == ("__debug__" : Str)) = false := by decide) :
    wpAny M A (eval (.Name x pos) (compEnvC scope cl C env)) Q E s := wpAny_Name (wpAny_loadName_cell hk hx hc ⟨o, N.get hm, hd⟩ h) hb
end Mine
end
theorem Mine.off8 : True := by (w_top off); trivial
section
open PySem PySem.W PySem.Spec PySem.Calls PyProof.Rows
set_option maxRecDepth 100000
set_option maxHeartbeats 8000000
set_option pp.deepTerms false
namespace Mine
theorem use_rgb {w : World} {p : Program} {loose : List Str} {mean : ExcName → Option Value} {mg mb : Str → Option Value} {dp un : Nat} {fr : Option (List Env)} {gd : Option (List Code)} {s : Shared} {Q E : Value → Shared → Prop} {h₀ : Heap} {L : Addr} {m : Str → Option Value} {news : List (Addr × Obj)} {r g b : UInt64} {tr tg tb : Tok}
    (F : Fr h₀ L s.heap m) (N : News h₀ L s.heap news) (X : (hd.heap_39 w.params).In h₀) (T : Top p loose mean mg mb h₀) (hdp : dp + 1 < recursionLimit) (hun : un + 16 < cLine)
    (h : ∀ q t1 t2 t3 h' tk', Fr h₀ L h' m → News h₀ L h' ((q, tup [.float (yOf r g b) t1, .float (iOf r g b) t2, .float (qOf r g b) t3]) :: news) → LCg.Off1 q news → Q (.ref q) { s with heap := h', toks := tk' }) :
    wpAny (model PySem.Challenge.rw_mq0087_01.row.prog w) { handled := none, depth := dp, frames := fr, guards := gd, units := un } (call (.ref 21) [.float r tr, .float g tg, .float b tb]) Q E s := by
  refine c_rgb w r g b tr tg tb p loose mean mg mb dp un fr gd s Q E hdp hun (X.keeps F.keep) (T.keeps F.keep) trivial fun v h' tk' k hp => ?_
  obtain ⟨q, t1, t2, t3, rfl, hf, ho⟩ := hp
  obtain ⟨F', N', o1⟩ := back F N k hf ho
  exact h q t1 t2 t3 h' tk' F' N' o1
local macro_rules | `(tactic| walk_at "eval ListComp") => `(tactic| (k_here; k_dflt (refine ListComp_T (by k_asm) (by rfl) (by decide) (by rfl) (by decide) (by rfl) ?_)))
local macro_rules | `(tactic| walk_at "SrcT") => `(tactic| (k_here; k_dflt (refine SrcT.mk (by rfl) (by k_asm) (by k_asm) (by k_mem) (by first | size_fits | exact Nat.le_of_ble_eq_true rfl) ?_; intro g'; lcg_lit)))
local macro_rules | `(tactic| lcg_src) => `(tactic| exact ⟨_, by k_mem, rfl, _, rfl⟩)
local macro_rules | `(tactic| walk_at "eval Name") => `(tactic| (k_here; (with_reducible show wpAny _ _ (eval (Expr.Name _ _) (compEnvC _ _ _ _)) _ _ _); k_dflt (refine' ld_free ?N ?c ?m ?d ?_ ?a ?b; (case a => rfl); (case b => rfl); (case N => k_asm); (case c => rfl); (case m => k_mem); (case d => k_asm); k_whole)))
local macro_rules | `(tactic| kun_lst) => `(tactic| is_list)
local macro_rules | `(tactic| walk_at "binaryOp Div int int") => `(tactic| (k_here; k_dflt (refine' div_int ?k1 ?k2 ?k3 ?k4 ?_; (case k1 => exact rfl); (case k2 => omega); (case k3 => omega); (case k4 => decide); k_whole)))
local macro_rules | `(tactic| walk_at "binaryOp Mult int float") => `(tactic| (k_here; k_dflt (refine' mul_int ?k2 ?k3 ?_; (case k2 => omega); (case k3 => omega); k_whole)))
local macro_rules | `(tactic| walk_at "call ref") => `(tactic| (k_here; (with_reducible show wpAny _ _ (call (Value.ref 21) _) _ _ _); k_dflt (refine' use_rgb ?k1 ?k2 ?k3 ?k4 ?k5 ?k6 ?_; (case k1 => k_asm); (case k2 => k_asm); (case k3 => k_asm); (case k4 => k_asm); (case k5 => ktr_room); (case k6 => ktr_units); k_whole; intro q' t1' t2' t3' h' tk' F' N' o1'; (try simp only [LCg.Off1, and_true] at o1'))))
theorem c_weighed (w : World) (l1 : Addr) (a1 a2 a3 a4 : Int) (ta1 ta2 ta3 ta4 : Tok) (h1 : -3 ≤ a1) (h1' : a1 ≤ 3) (h2 : 0 ≤ a2) (h2' : a2 ≤ 16) (h3 : 0 ≤ a3) (h3' : a3 ≤ 16) (h4 : 0 ≤ a4) (h4' : a4 ≤ 16) :
  FTell w 56 [.ref l1] 2 32 (fun g => g.IsList l1 [.int a1 ta1, .int a2 ta2, .int a3 ta3, .int a4 ta4].toArray)
   fun g0 h v => ∃ a t1 t2 t3 t4 n, v = .ref a ∧ g0.get? a = none ∧ h.get? a = some (lst [.int a1 t1, .float (Float64.mul (Float64.ofInt a1) (yOf (divI a2 16) (divI a3 16) (divI a4 16))) t2, .float (Float64.mul (Float64.ofInt a1) (iOf (divI a2 16) (divI a3 16) (divI a4 16))) t3, .float (Float64.mul (Float64.ofInt a1) (qOf (divI a2 16) (divI a3 16) (divI a4 16))) t4] n) := by
  unfold FTell; k_fill
  intro p loose mean mg mb dp un fr gd s Q E hd hu X T hl1 hret
  refine wpAny_call ?_
  k_dflt (refine' call_cellsN_ret ?k1 ?k2 ?k3 ?k4 ?k5 ?k6 ?k7 ?k8 ?_ ?c1 ?c2 ?c3; (case k2 => exact X _ _ (by k_is)); (case k3 => exact rfl); (case k1 => exact Nat.lt_of_le_of_lt (Nat.le_add_right _ _) hd); (case k4 => exact Top.nolimit T); (case k5 => exact codeRec_of X (by k_is)); (case k6 => exact rfl); (case k7 => exact kindsX rfl _); (case k8 => decide +kernel); (case c1 => exact rfl); (case c2 => exact rfl); (case c3 => exact rfl))
  intro h₁ tk' cells' F' N' Y'
  k_cells Y'
  k_steps
  all_goals (
    (rename Fr _ _ _ _ => F9); (rename News _ _ _ _ => N9)
    exact hret _ _ _ (Fr.keep F9) ⟨_, _, _, _, _, _, rfl, (N9 _ (List.Mem.head _)).2.2, (N9 _ (List.Mem.head _)).1⟩)
end Mine
end
theorem Mine.off9 : True := by (w_top off); trivial
section
open PySem PySem.W PySem.Spec PySem.Calls PyProof.Rows
set_option maxRecDepth 100000
set_option maxHeartbeats 1000000
set_option pp.deepTerms false
namespace Mine
structure RowD where
  a : Addr
  w : Int
  r : Int
  g : Int
  b : Int
  tw : Tok
  tr : Tok
  tg : Tok
  tb : Tok
abbrev RowD.items (d : RowD) : List Value := [.int d.w d.tw, .int d.r d.tr, .int d.g d.tg, .int d.b d.tb]
structure RowD.Ok (d : RowD) : Prop where
  w1 : -3 ≤ d.w
  w2 : d.w ≤ 3
  r1 : 0 ≤ d.r
  r2 : d.r ≤ 16
  g1 : 0 ≤ d.g
  g2 : d.g ≤ 16
  b1 : 0 ≤ d.b
  b2 : d.b ≤ 16
def sW (rs : List RowD) : Int := (rs.map fun d => d.w).sum
def sR (rs : List RowD) : Int := (rs.map fun d => d.w * d.r).sum
def sG (rs : List RowD) : Int := (rs.map fun d => d.w * d.g).sum
def sB (rs : List RowD) : Int := (rs.map fun d => d.w * d.b).sum
def StJ (L : Addr) (oW : Obj) (rs : List RowD) (i : Nat) (news : List (Addr × Obj)) : Prop :=
  ∃ lD n t1 t2 t3 t4 oS oR oD vR, news = [(lD, lst [.int (sW (rs.take i)) t1, .int (sR (rs.take i)) t2, .int (sG (rs.take i)) t3, .int (sB (rs.take i)) t4] n), (L + 1 + 1 + 1 + 1, oS), (L + 1 + 1 + 1, oR), (L + 1 + 1, oD), (L + 1, oW)] ∧
    oD.data = .cell (some (.ref lD)) ∧ oR.data = .cell vR ∧ oS.data = .cell none ∧ @LT.lt Nat _ (L + 4) lD
section
variable {w : World} {p : Program} {loose : List Str} {mean : ExcName → Option Value} {mg mb : Str → Option Value} {dp un : Nat} {fr : Option (List Env)} {gd : Option (List Code)} {s : Shared} {Q E : Value → Shared → Prop} {h₀ : Heap} {L : Addr} {m : Str → Option Value} {news : List (Addr × Obj)}
theorem use_whole {x : UInt64} {t : Tok} (F : Fr h₀ L s.heap m) (N : News h₀ L s.heap news) (X : (hd.heap_39 w.params).In h₀) (T : Top p loose mean mg mb h₀) (hdp : dp + 1 < recursionLimit) (hun : un + 16 < cLine)
    (hf : Float64.isFinite (Float64.add x 4726483295917834240) = true)
    (h : ∀ t' h' tk', Fr h₀ L h' m → News h₀ L h' news → Q (.int (wholeOf x) t') { s with heap := h', toks := tk' }) :
    wpAny (model PySem.Challenge.rw_mq0087_01.row.prog w) { handled := none, depth := dp, frames := fr, guards := gd, units := un } (call (.ref 68) [.float x t]) Q E s := by
  refine c_whole w x t hf p loose mean mg mb dp un fr gd s Q E hdp hun (X.keeps F.keep) (T.keeps F.keep) trivial fun v h' tk' k hp => ?_
  obtain ⟨t', rfl⟩ := hp
  exact h t' h' tk' (F.keeps k) (N.grown k)
theorem use_yiq {y i q : UInt64} {ty ti tq : Tok} (F : Fr h₀ L s.heap m) (N : News h₀ L s.heap news) (X : (hd.heap_39 w.params).In h₀) (T : Top p loose mean mg mb h₀) (hdp : dp + 1 < recursionLimit) (hun : un + 16 < cLine)
    (h : ∀ a t1 t2 t3 h' tk', Fr h₀ L h' m → News h₀ L h' ((a, tup [.float (clF (rOf y i q)) t1, .float (clF (gOf y i q)) t2, .float (clF (bOf y i q)) t3]) :: news) → LCg.Off1 a news → Q (.ref a) { s with heap := h', toks := tk' }) :
    wpAny (model PySem.Challenge.rw_mq0087_01.row.prog w) { handled := none, depth := dp, frames := fr, guards := gd, units := un } (call (.ref 28) [.float y ty, .float i ti, .float q tq]) Q E s := by
  refine c_yiq w y i q ty ti tq p loose mean mg mb dp un fr gd s Q E hdp hun (X.keeps F.keep) (T.keeps F.keep) trivial fun v h' tk' k hp => ?_
  obtain ⟨a, t1, t2, t3, rfl, hf, ho⟩ := hp
  obtain ⟨F', N', o1⟩ := back F N k hf ho
  exact h a t1 t2 t3 h' tk' F' N' o1
end
theorem div_by {prog : Program} {w : World} {A : Around} {E : Value → Shared → Prop} {s : Shared} {Q : Value → Shared → Prop} {t u : Tok} {a : UInt64} {n : Int} (hA : A.handled = none) (h1 : -1000000 ≤ n) (h2 : n ≤ 1000000) (hn : n ≠ 0) (h : Q (.float (Float64.div a (Float64.ofInt n)) s.toks) { s with toks := s.toks + 1 }) : wpAny (model prog w) A (binaryOp .Div (.float a t) (.int n u)) Q E s :=
  AutoFloatOps.truediv_fi_2 (Float64.ofInt_fits (small_fits h1 h2)) (fun x => hn ((PySem.Flt.isZero_ofInt n).mp x)) h
theorem ne_two {prog : Program} {w : World} {A : Around} {E : Value → Shared → Prop} {s : Shared} {a b : Addr} {x1 x2 y1 y2 : Int} {t1 t2 u1 u2 : Tok} {Q : Value → Shared → Prop} (hl : s.heap.IsList a [.int x1 t1, .int x2 t2].toArray) (hl' : s.heap.IsList b [.int y1 u1, .int y2 u2].toArray) (hu : A.units + 64 < cLine)
    (e1 : x1 = y1) (e2 : x2 = y2) (h : Q (.bool false) s) : wpAny (model prog w) A (compareOp .NotEq (.ref a) (.ref b)) Q E s :=
  ne_intsK hl (.cons _ _ (.cons _ _ .nil)) hl' (.cons _ _ (.cons _ _ .nil)) hu (by subst e1; subst e2; simpa using h)
theorem eq_three {prog : Program} {w : World} {A : Around} {E : Value → Shared → Prop} {s : Shared} {a b : Addr} {x1 x2 x3 y1 y2 y3 : Int} {t1 t2 t3 u1 u2 u3 : Tok} {Q : Value → Shared → Prop} (hl : s.heap.IsList a [.int x1 t1, .int x2 t2, .int x3 t3].toArray) (hl' : s.heap.IsList b [.int y1 u1, .int y2 u2, .int y3 u3].toArray) (hu : A.units + 64 < cLine)
    (e1 : x1 = y1) (e2 : x2 = y2) (e3 : x3 = y3) (h : Q (.bool true) s) : wpAny (model prog w) A (compareOp .Eq (.ref a) (.ref b)) Q E s :=
  eq_intsK hl (.cons _ _ (.cons _ _ (.cons _ _ .nil))) hl' (.cons _ _ (.cons _ _ (.cons _ _ .nil))) hu (by subst e1; subst e2; subst e3; simpa using h)
abbrev sizeI (W : Int) : Int := 16 * if W < 0 then -W else W
def upI (z S : Int) : Int := if (if z > 0 then z else 0) < S then if z > 0 then z else 0 else S
def mixI (W X : Int) : Int := upI (if W > 0 then X else -X) (sizeI W)
structure MixOk (W X : Int) (x : UInt64) : Prop where
  fin : Float64.isFinite (Float64.add (Float64.mul x (Float64.ofInt (sizeI W))) 4602678819172646912) = true
  eq : PySem.Flt.toInt Float64.truncOf (Float64.add (Float64.mul x (Float64.ofInt (sizeI W))) 4602678819172646912) = mixI W X
structure StageOk (W R G B : Int) (y i q : UInt64) : Prop where
  b1 : -21 ≤ W
  b2 : W ≤ 21
  fy : Float64.isFinite (Float64.add (Float64.mul y (Float64.ofInt 1600)) 4726483295917834240) = true
  ey : wholeOf (Float64.mul y (Float64.ofInt 1600)) = 30 * R + 59 * G + 11 * B
  fi : Float64.isFinite (Float64.add (Float64.mul i (Float64.ofInt 160000)) 4726483295917834240) = true
  ei : wholeOf (Float64.mul i (Float64.ofInt 160000)) = 74 * (100 * R - (30 * R + 59 * G + 11 * B)) - 27 * (100 * B - (30 * R + 59 * G + 11 * B))
  fq : Float64.isFinite (Float64.add (Float64.mul q (Float64.ofInt 160000)) 4726483295917834240) = true
  eq : wholeOf (Float64.mul q (Float64.ofInt 160000)) = 48 * (100 * R - (30 * R + 59 * G + 11 * B)) + 41 * (100 * B - (30 * R + 59 * G + 11 * B))
  mr : W ≠ 0 → MixOk W R (clF (rOf (Float64.div y (Float64.ofInt W)) (Float64.div i (Float64.ofInt W)) (Float64.div q (Float64.ofInt W))))
  mg : W ≠ 0 → MixOk W G (clF (gOf (Float64.div y (Float64.ofInt W)) (Float64.div i (Float64.ofInt W)) (Float64.div q (Float64.ofInt W))))
  mb : W ≠ 0 → MixOk W B (clF (bOf (Float64.div y (Float64.ofInt W)) (Float64.div i (Float64.ofInt W)) (Float64.div q (Float64.ofInt W))))
local macro_rules | `(tactic| walk_at "exec For Name Name cons nil") => `(tactic| (k_here; refine halt_for ?_))
local macro_rules | `(tactic| kun_lst) => `(tactic| is_list)
local macro_rules | `(tactic| walk_at "eval ListComp") => `(tactic| (k_here; k_dflt (refine LCg.ListComp_U (F₀ := by k_asm) (by rfl) (by decide) (by rfl) (by decide) (by rfl) ?_)))
local macro_rules | `(tactic| walk_at "eval Name") => `(tactic| (k_here; (with_reducible show wpAny _ _ (eval (Expr.Name _ _) (compEnvC _ _ _ _)) _ _ _); k_dflt (refine' ld_free ?N ?c ?m ?d ?_ ?a ?b; (case a => rfl); (case b => rfl); (case N => k_asm); (case c => rfl); (case m => k_mem); (case d => k_asm); k_whole)))
local macro_rules | `(tactic| walk_at "subscriptTail Name Name ref int") => `(tactic| (k_here; k_dflt (refine' item_at ?k1 ?k2 ?k3 ?k4 ?_ ?k6; (case k1 => is_list); (case k2 => decide); (case k3 => decide); (case k4 => rfl); (case k6 => with_unfolding_all rfl); k_whole)))
local macro_rules | `(tactic| walk_at "subscriptTail Name Constant ref int") => `(tactic| (k_here; k_dflt (refine' item_at ?k1 ?k2 ?k3 ?k4 ?_ ?k6; (case k1 => is_list); (case k2 => decide); (case k3 => decide); (case k4 => rfl); (case k6 => with_unfolding_all rfl); k_whole)))
local macro_rules | `(tactic| walk_at "CompSrc") => `(tactic| (k_here; k_dflt (refine LCg.CompSrc.ledger (by rfl) (by k_asm) (by k_asm) (by k_mem) (by first | size_fits | exact Nat.le_of_ble_eq_true rfl) ?_; intro g'; lcg_lit)))
local macro_rules | `(tactic| walk_at "CompRest") => `(tactic| (with_unfolding_all first
  | (refine LCg.CompRest.succ ?_; intro v' I' oI' C' oC' D' m' h' tk' E' hv' hC' hx' F' N' off' ne'; clear ne'; (first | lcg_open hv' | (obtain ⟨t9', hv9'⟩ := hv'; subst hv9')))
  | refine LCg.CompRest.zero ?_))
local macro_rules | `(tactic| walk_at "CompEnd") => `(tactic| (k_dflt (refine' LCg.CompEnd.intro ?F ?N _ ?sub ?off ?S ?_; (case off => assumption); (case F => assumption); (case N => assumption); (case sub => lcg_sub); (case S => lcg_src))))
local macro_rules | `(tactic| walk_at "FinE") => `(tactic| ((unfold LCg.FinE); intro D' h' tk' F' N' o1'; (try simp only [List.nil_append, List.cons_append] at N'); (try dsimp only)))
local macro_rules | `(tactic| k_ne) => `(tactic| (refine neN ?_; (try dsimp only); first
  | (refine' Ne.symm (off1_mem ?h (_, _) ?hm); (case h => with_reducible assumption); (case hm => k_mem))
  | (refine' off1_mem ?h (_, _) ?hm; (case h => with_reducible assumption); (case hm => k_mem))
  | omega))
local macro_rules | `(tactic| walk_at "execs nil") => `(tactic| (k_here; (with_reducible show wpAny _ _ _ (TurnSame _ _ _ _ _ _ _) _ _); k_dflt (refine halt_nil ?_)))
local macro_rules | `(tactic| walk_at "binaryOp Mult float int") => `(tactic| (k_here; k_dflt (refine' int_mul ?k2 ?k3 ?_; (case k2 => omega); (case k3 => omega); k_whole)))
local macro_rules | `(tactic| walk_at "binaryOp Div float int") => `(tactic| (k_here; k_dflt (refine' div_by ?k1 ?k2 ?k3 ?k4 ?_; (case k1 => exact rfl); (case k2 => omega); (case k3 => omega); (case k4 => assumption); k_whole)))
local macro_rules | `(tactic| walk_at "call type:int") => `(tactic| (k_here; k_dflt (refine' int_fin ?k1 ?_; (case k1 => assumption); k_whole)))
local macro_rules | `(tactic| walk_at "call ref") => `(tactic| (k_here; (with_reducible show wpAny _ _ (call (Value.ref 68) _) _ _ _); k_dflt (refine' use_whole ?k1 ?k2 ?k3 ?k4 ?k5 ?k6 ?k7 ?_; (case k1 => k_asm); (case k2 => k_asm); (case k3 => k_asm); (case k4 => k_asm); (case k5 => ktr_room); (case k6 => ktr_units); (case k7 => assumption); k_whole; intro t1' h' tk' F' N')))
local macro_rules | `(tactic| walk_at "call ref") => `(tactic| (k_here; (with_reducible show wpAny _ _ (call (Value.ref 28) _) _ _ _); k_dflt (refine' use_yiq ?k1 ?k2 ?k3 ?k4 ?k5 ?k6 ?_; (case k1 => k_asm); (case k2 => k_asm); (case k3 => k_asm); (case k4 => k_asm); (case k5 => ktr_room); (case k6 => ktr_units); k_whole; intro q' t1' t2' t3' h' tk' F' N' o1')))
local macro_rules | `(tactic| walk_at "compareOp NotEq ref ref") => `(tactic| (k_here; k_dflt (refine' ne_two ?k1 ?k2 ?k3 ?k4 ?k5 ?_; (case k1 => is_list); (case k2 => is_list); (case k3 => ktr_units); (case k4 => assumption); (case k5 => assumption); k_whole)))
local macro_rules | `(tactic| walk_at "exec Assign cons ListComp") => `(tactic| (k_here; k_dflt (refine halt_tree ?_)))
local macro_rules | `(tactic| walk_at "eval ListComp") => `(tactic| (k_here; (with_reducible show wpAny _ _ (eval (Expr.ListComp _ [⟨_, Expr.Call _ _ _ _, _, _⟩] _ _) _) _ _ _); k_dflt (refine ListComp_T (by k_asm) (by rfl) (by decide) (by rfl) (by decide) (by rfl) ?_)))
local macro_rules | `(tactic| walk_at "SrcT") => `(tactic| (k_here; k_dflt (refine SrcT.mk (by rfl) (by k_asm) (by k_asm) (by k_mem) (by first | size_fits | exact Nat.le_of_ble_eq_true rfl) ?_; intro g'; lcg_lit)))
local macro_rules | `(tactic| lcg_src) => `(tactic| exact ⟨_, by k_mem, rfl, _, rfl⟩)
local macro_rules | `(tactic| walk_at "SrcTA") => `(tactic| (k_here; k_dflt (refine SrcTA.mk (by rfl) (by k_asm) (by k_asm) (by k_mem) (by first | size_fits | exact Nat.le_of_ble_eq_true rfl) ?_; intro g'; lcg_lit)))
local macro_rules | `(tactic| walk_at "FinA") => `(tactic| ((unfold LCg.FinA); intro D' h' tk' F' N' o1'; (try simp only [List.nil_append, List.cons_append] at N'); (try dsimp only)))
theorem c_stage (w : World) (rs : List RowD) (la sa : Addr) (W : Int) (y i q : UInt64) (tw ty ti tq : Tok) (hok : ∀ d ∈ rs, d.Ok) (hW : sW rs = W) (sok : StageOk W (sR rs) (sG rs) (sB rs) y i q) :
  FTell w 73 [.ref la, .ref sa] 2 128 (fun g => g.IsList la (rs.map fun d => Value.ref d.a).toArray ∧ (∀ d ∈ rs, g.IsList d.a d.items.toArray) ∧ g.IsList sa [.int W tw, .float y ty, .float i ti, .float q tq].toArray)
   fun _ _ v => v = .bool true := by
  unfold FTell; k_fill
  intro p loose mean mg mb dp un fr gd s Q E hd hu X T ⟨hla, hrs, hsa⟩ hret
  refine wpAny_call ?_
  k_dflt (refine' call_cellsN_ret ?k1 ?k2 ?k3 ?k4 ?k5 ?k6 ?k7 ?k8 ?_ ?c1 ?c2 ?c3; (case k2 => exact X _ _ (by k_is)); (case k3 => exact rfl); (case k1 => exact Nat.lt_of_le_of_lt (Nat.le_add_right _ _) hd); (case k4 => exact Top.nolimit T); (case k5 => exact codeRec_of X (by k_is)); (case k6 => exact rfl); (case k7 => exact kindsX rfl _); (case k8 => decide +kernel); (case c1 => exact rfl); (case c2 => exact rfl); (case c3 => exact rfl))
  intro h₁ tk' cells' F' N' Y'
  k_cells Y'
  rename_i o1 o2 o3 o4 d1 d2 d3 d4
  replace F' : Fr s.heap s.heap.objs.size h₁ (fun z => if z = Str.ofString "stage" then some (.ref sa) else if z = Str.ofString "rows" then some (.ref la) else none) := F'
  replace d1 : o1.data = .cell none := d1
  replace d2 : o2.data = .cell none := d2
  replace d3 : o3.data = .cell none := d3
  replace d4 : o4.data = .cell none := d4
  k_steps
  rename_i x1 x2 oW dW x3 x4 x5 lD x6 l1 h9 oD F9 N9 dD
  unfold Halt
  refine for_same (StJ s.heap.objs.size oW rs) rfl F9 N9 hla ?_ ?_ ?_ ?_
  · exact ⟨lD, 0, _, _, _, _, o1, o2, oD, none, rfl, dD, d2, d1, l1.1⟩
  · intro Q' hQ
    exact nameX_L F9 rfl hQ rfl rfl
  · clear N9 F9 dD l1 d1 d2 d3 d4
    intro j v news₁ h₂ tk₂ I oI hv hJ F N off
    obtain ⟨d, hdj, rfl⟩ : ∃ d, rs[j]? = some d ∧ Value.ref d.a = v := by
      rw [List.getElem?_map] at hv
      exact Option.map_eq_some_iff.mp hv
    obtain ⟨lD', n', t1, t2, t3, t4, oS, oR, oD', vR, rfl, dD', dR', dS', hlt⟩ := hJ
    have hdl := hrs d (List.mem_of_getElem? hdj)
    obtain ⟨w1, w2, r1, r2, g1, g2, b1, b2⟩ := hok d (List.mem_of_getElem? hdj)
    have eW : sW (rs.take (j + 1)) = sW (rs.take j) + d.w := by simp [sW, List.take_add_one, hdj]
    have eR : sR (rs.take (j + 1)) = sR (rs.take j) + d.w * d.r := by simp [sR, List.take_add_one, hdj]
    have eG : sG (rs.take (j + 1)) = sG (rs.take j) + d.w * d.g := by simp [sG, List.take_add_one, hdj]
    have eB : sB (rs.take (j + 1)) = sB (rs.take j) + d.w * d.b := by simp [sB, List.take_add_one, hdj]
    simp only [LCg.Off1, and_true] at off
    k_steps
    rename_i D9 x7 l9 h8 oD8 F8 N8 d8
    unfold Halt
    rw [← eW, ← eR, ← eG, ← eB] at N8
    refine' ⟨rfl, h8, _, _, rfl, F8, ?sub, ?off, D9, _, _, _, _, _, _, _, oD8, _, rfl, d8, ?dR, ?dS, ?lt⟩
    case sub => exact cb_drop N8 (by lcg_sub)
    case off => simp only [LCg.Off1, and_true]; omega
    case dR => assumption
    case dS => assumption
    case lt => omega
  · clear N9 F9 dD l1 d1 d2 d3 d4
    intro news₁ h₂ tk₂ hJ F N
    obtain ⟨lD', n', t1, t2, t3, t4, oS, oR, oD', vR, rfl, dD', dR', dS', hlt⟩ := hJ
    simp only [List.length_map, List.take_length] at N
    obtain ⟨b1, b2, fy, ey, fi, ei, fq, eq, mr, mg', mb'⟩ := sok
    have hW' := hW.symm
    k_steps
    · (rename Fr _ _ _ _ => F9)
      exact hret _ _ _ (Fr.keep F9) rfl
    · unfold Halt
      have hne : W ≠ 0 := by assumption
      obtain ⟨fr', er⟩ := mr hne
      obtain ⟨fg', eg⟩ := mg' hne
      obtain ⟨fb', eb⟩ := mb' hne
      clear mr mg' mb'
      (rename Fr _ _ _ _ => F7)
      k_dflt (refine Assign_ListComp_T F7 (by with_unfolding_all rfl) (by rfl) (by decide) (by rfl) (by decide) (by rfl) (by rfl) (by rfl) ?_)
      k_steps
      · (rename Fr _ _ _ _ => F9)
        have hp : W > 0 := by assumption
        refine hret _ _ _ (Fr.keep F9) ?_
        rw [er, eg, eb]
        simp [mixI, upI, if_pos hp]
      · (rename Fr _ _ _ _ => F9)
        have hp : ¬ W > 0 := by assumption
        refine hret _ _ _ (Fr.keep F9) ?_
        rw [er, eg, eb]
        simp [mixI, upI, if_neg hp]
end Mine
end
theorem Mine.off10 : True := by (w_top off); trivial
section
open PySem PySem.W PySem.Spec PySem.Calls PyProof.Rows
set_option maxRecDepth 100000
set_option maxHeartbeats 1000000
set_option pp.deepTerms false
namespace Mine
theorem iter_lst {prog : Program} {w : World} {A : Around} {E : Value → Shared → Prop} {s : Shared} {l : Addr} {its : Array Value} {Q : Value → Shared → Prop} {h₀ : Heap} {L : Addr} {m : Str → Option Value} {news : List (Addr × Obj)} (F : Fr h₀ L s.heap m) (N : News h₀ L s.heap news) (hl : h₀.IsList l its)
    (h : ∀ I oI h', h'.get? I = some oI → (∀ g : Heap, g.get? I = some oI → g.IsListIter I l 0) → Fr h₀ L h' m → News h₀ L h' ((I, oI) :: news) → Q (.ref I) { s with heap := h' }) :
    wpAny (model prog w) A (call (.builtin "iter") [.ref l]) Q E s := by
  refine call_function_entry (by decide +kernel) (by decide +kernel) kdk_entry_iter (kdk_args_iter _) ?_
  unfold Builtin.«iter»
  refine wpAny_bind (m := someArgs "iter" 1 2 _) (wpAny_of_eq (a := [Value.ref l]) (by first | rfl | kernel_rfl!) ?_)
  show wpAny _ _ (pyIter (.ref l) >>= _) _ _ _
  refine wpAny_bind (wpAny_pyIter_list (hl.at fun o e => F.keep l o e) ?_)
  exact wpAny_pure ⟨_, rfl, h _ _ _ (Heap.get?_push_size _ rfl) (fun g e => ⟨_, e, rfl, rfl⟩) (F.push _) (News.push F N _ rfl)⟩
theorem next_lst {prog : Program} {w : World} {A : Around} {E : Value → Shared → Prop} {s : Shared} {it l : Addr} {i : Nat} {items : Array Value} {x : Value} {Q : Value → Shared → Prop} (hit : s.heap.IsListIter it l i) (hl : s.heap.IsList l items) (hx : items[i]? = some x)
    (hQ : ∀ h', h'.IsListIter it l (i + 1) → Heap.SameBut it s.heap h' → Q x { s with heap := h' }) :
    wpAny (model prog w) A (call (.builtin "next") [.ref it]) Q E s := by
  refine call_function_entry (by decide +kernel) (by decide +kernel) kdk_entry_next (kdk_args_next _) ?_
  unfold Builtin.«next»
  refine wpAny_bind (m := someArgs "next" 1 2 _) (wpAny_of_eq (a := [Value.ref it]) (by first | rfl | kernel_rfl!) ?_)
  dsimp only
  refine wpAny_bind (wpAny_specialOf (name := Str.ofString "__next__") hit.typeIs slot_listiter_next.lookup ?_)
  refine wpAny_ite_split (fun hab => absurd hab (by decide)) (fun _ => ?_)
  obtain ⟨o, ho, hc, hd⟩ := id hit
  obtain ⟨ol, hol, _, nl, hdl⟩ := hl
  refine wpAny_bind (wpAny_callSpecial?_slot (name := Str.ofString "__next__") hit.typeIs slot_listiter_next
    (wpAny_call_entry slot_listiter_next hit.typeIs entry_listiter_next ?_ (args_listiter_next _)))
  show wpAny _ _ (field (.ref it) 0 >>= _) _ _ s
  refine wpAny_bind (wpAny_field ho hd (x := .ref l) rfl ?_)
  show wpAny _ _ (if (Value.ref l == Value.none) = true then _ else _) _ _ s
  rw [if_neg (show ¬ ((Value.ref l == Value.none) = true) from Bool.false_ne_true)]
  show wpAny _ _ (field (.ref it) 1 >>= _) _ _ s
  refine wpAny_bind (wpAny_field ho hd (x := .int i 0) rfl ?_)
  show wpAny _ _ (seqItems? (.ref l) >>= _) _ _ s
  refine wpAny_bind (wpAny_seqItems hol hdl ?_)
  simp only [Int.toNat_natCast, hx]
  refine wpAny_bind (wpAny_setField ho hd (by simp) (wpAny_pure ⟨x, rfl, wpAny_pure ⟨_, rfl, (hQ _ ?_ (Heap.SameBut.update ..))⟩⟩))
  exact ⟨_, Heap.get?_update_self _ ho (Obj.isFreed_of_fields (Obj.data_mapFields hd _)), (Obj.cls_mapFields ..).trans hc, by
    rw [Obj.data_mapFields hd]; simp [rawInt]⟩
theorem walks_from {prog : Program} {w : World} {A : Around} {I : Addr} {fp wr : List Addr} {n : Nat} (k : Nat) {P : Nat → Value → Prop} {St : Nat → Heap → Prop} (W : Walks prog w A I fp wr (k + n) P St) : Walks prog w A I fp wr n (fun i => P (k + i)) (fun i => St (k + i)) where
  sub := W.sub
  frame := fun i => W.frame (k + i)
  item := fun i s Q E hi st hQ => W.item (k + i) s Q E (by omega) st fun v h' tk hP hSt hk => hQ v h' tk hP hSt hk
  done := W.done
  self := fun i => W.self (k + i)
theorem callWith_F {M : Model} {A : Around} {E : Value → Shared → Prop} {s : Shared} {env : Env} {pos : Pos} {fa : Addr} {c : Value} {d : Option Addr} {fd : FuncData} {sl : Array (Option Value)} {first : List Value} {Q : Value → Shared → Prop} {e : Expr} {rest : List Expr}
    (h : wpAny M A (spliced (backTo pos (starEach (e :: rest) env))) (fun vs s₁ => s₁.heap.get? fa = some ⟨c, d, .func fd, sl⟩ ∧ wpAny M A (call (.ref fa) (first ++ vs)) Q E s₁) E s)
    (he : starEach (e :: rest) env = (false, eval e env) :: starEach rest env := by rfl) (hplain : (backTo pos (starEach rest env)).any (·.1) = false := by rfl) :
    wpAny M A (callWith pos (.ref fa) first (backTo pos (starEach (e :: rest) env)) []) Q E s := by
  rw [he] at h ⊢
  exact callWith_of (P := fun h => h.get? fa = some ⟨c, d, .func fd, sl⟩) (by show ((false || (backTo pos (starEach rest env)).any (·.1)) || false) = false; rw [hplain]; rfl)
    (fun h ho => ⟨.frame, .inl rfl, (Looks.ld (part := none) ho).andThen .now⟩) (evalArgs_plain h)
theorem enterF {prog : Program} {w : World} {A : Around} {R : Result → Shared → Prop} {s : Shared} {K : Frag} {name qual : Str} {params : Arguments} {body : List Stmt} {scope : Scope} {dV kV doc pm cdv ct oc : Value} {an od : Option Addr} {osl : Array (Option Value)} {f : Addr} {args : Args} {binds : List (Str × Value)}
    (X : K.In s.heap) (hlim : s.heap.NoLimit) (ho : K.lookup f = some ⟨oc, od, .func (fnOf name qual params body scope dV kV doc pm an cdv ct), osl⟩) (hcd : codeIn K cdv qual = true) (hroom : A.depth < recursionLimit)
    (hbind : BindsTo s (fnOf name qual params body scope dV kV doc pm an cdv ct) args binds) (hloc : ∀ y ∈ binds, scope.names.lookup y.1 = some .local)
    (h : ∀ h₁, Fr s.heap s.heap.objs.size h₁ (fun y => binds.reverse.lookup y) →
      wpAny (model prog w) (A.deeper (envOf qual scope s.heap.objs.size f cdv)) (execs body (envOf qual scope s.heap.objs.size f cdv))
        (fun fl s' => R (.ok (.ret (match fl with | .ret v => v | _ => .none))) s') NoE { s with heap := h₁, toks := s.toks + binds.length })
    (hco : scope.isCoroutine = false) (hgen : scope.isGenerator = false) (hk : scope.kind = .function)
    (hcell : ∀ x ∈ scope.names, x.2 ≠ .cell) : codeAny (model prog w) A (.call (.ref f) args) R s := by
  refine codeAny_call_def (fd := fnOf name qual params body scope dV kV doc pm an cdv ct) hroom (X _ _ ho) rfl hlim (codeRec_of X hcd) rfl hbind hcell hloc (fun h₁ hns hk₁ => ?_) hco hgen hk
  exact wpAny_mono (h h₁ ⟨hns, hk₁, Nat.le_refl _⟩) (fun _ _ x => x) fun _ _ x => x.elim
abbrev KeepsL (g h : Heap) : Prop := ∀ b o, (∃ its n, o.data = .seq its n) → g.get? b = some o → h.get? b = some o
theorem keepsL_set {h₀ h h' : Heap} {L : Addr} {m : Str → Option Value} (F : Fr h₀ L h m) (hs : Heap.SameBut L h h') : KeepsL h h' := by
  intro b o hc e
  by_cases hb : b = L
  · obtain ⟨oL, es, ep, hL, hd, _⟩ := F.ns
    rw [hb, hL] at e
    cases e
    obtain ⟨its, n, hq⟩ := hc
    rw [hd] at hq
    cases hq
  · exact (hs.2 b hb).trans e
theorem stK {M : Model} {A : Around} {E : Value → Shared → Prop} {s : Shared} {nm : Str} {scope : Scope} {L a : Addr} {cd : Value} {h₀ : Heap} {m : Str → Option Value} {news : List (Addr × Obj)} {x : Str} {v : Value} {Q : Unit → Shared → Prop} (F : Fr h₀ L s.heap m) (N : News h₀ L s.heap news)
    (h : ∀ h', Fr h₀ L h' (fun y => if y = x then some v else m y) → News h₀ L h' news → KeepsL s.heap h' → Q () { s with heap := h', toks := s.toks + 1 })
    (hk : scope.kind = .function := by rfl) (hl : (envOf nm scope L a cd).kindOf x = some .local := by rfl) :
    wpAny M A (storeName (envOf nm scope L a cd) x v) Q E s :=
  wpAny_storeName_local hl F.ns (fun h' hn hs => h h' (F.set hn hs) (N.set hs) (keepsL_set F hs))
    (by show (scope.kind == .class || (scope.kind == .module && L != mainGlobals)) = false; rw [hk]; rfl)
structure TurnIt (h₀ : Heap) (L I : Addr) (oI : Obj) (J : (Str → Option Value) → Heap → Prop) (s : Shared) (f : Flow) (s' : Shared) : Prop where
  next : f = .next
  here : ∃ h' tk' m', s' = { s with heap := h', toks := tk' } ∧ Fr h₀ L h' m' ∧ News h₀ L h' [(I, oI)] ∧ J m' h'
theorem for_iter {prog : Program} {w : World} {A : Around} {env : Env} {s : Shared} {x y : Str} {px py pos : Pos} {body : List Stmt} {Q : Flow → Shared → Prop} {E : Value → Shared → Prop} {h₀ : Heap} {m : Str → Option Value} {l I : Addr} {oI : Obj} {vs : List Value}
    (k : Nat) (J : Nat → (Str → Option Value) → Heap → Prop) (hh : A.handled = none) (F : Fr h₀ env.locals s.heap m) (N : News h₀ env.locals s.heap [(I, oI)]) (hl : h₀.IsList l vs.toArray) (hit : s.heap.IsListIter I l k) (hk : k ≤ vs.length) (hJ : J k m s.heap)
    (mono : ∀ i m₁ h h', J i m₁ h → KeepsL h h' → J i m₁ h')
    (hn : ∀ Q' : Value → Shared → Prop, Q' (.ref I) s → wpAny (model prog w) A (eval (.Name y py) env) Q' NoE s)
    (turn : ∀ i v m₁ h₁ tk oI, vs[i]? = some v → J i m₁ h₁ → Fr h₀ env.locals h₁ m₁ → News h₀ env.locals h₁ [(I, oI)] →
      wpAny (model prog w) A (assign (.Name x px) env v) (fun _ s₃ => wpAny (model prog w) A (execs body env) (TurnIt h₀ env.locals I oI (J (i + 1)) { s with heap := h₁, toks := tk }) NoE s₃) NoE { s with heap := h₁, toks := tk })
    (done : ∀ m₁ h₁ tk, J vs.length m₁ h₁ → Fr h₀ env.locals h₁ m₁ → Q .next { s with heap := h₁, toks := tk }) :
    wpAny (model prog w) A (exec (.For (.Name x px) (.Name y py) body [] pos) env) Q E s := by
  obtain ⟨n, hn'⟩ : ∃ n, vs.length = k + n := ⟨vs.length - k, by omega⟩
  have hlt : l < h₀.objs.size := by obtain ⟨_, e, _⟩ := id hl; exact Heap.lt_size e
  have hI0 : h₀.get? I = none := (N _ List.mem_cons_self).2.2
  have hIL : I ≠ env.locals := (N _ List.mem_cons_self).2.1
  have hne : l ≠ I := fun e => by obtain ⟨o, ho, _⟩ := id hl; rw [e, hI0] at ho; cases ho
  have W := Walks.list (prog := prog) (w := w) hh I l hne vs.toArray
  rw [show vs.toArray.size = k + n by simp [hn']] at W
  refine for_inv (hn _ (W.self k _ _ _ ⟨hit, hl.at fun o e => F.keep l o e⟩ ?_))
  refine ⟨I, _, _, n, _, _, fun i s' => ∃ h tk m₁, s' = { s with heap := h, toks := tk } ∧ h.IsListIter I l (k + i) ∧ Fr h₀ env.locals h m₁ ∧ J (k + i) m₁ h, rfl, walks_from k W, ?_, ?_, ?_, ?_⟩
  · rintro i s' ⟨h, tk, m₁, rfl, hit', F₁, _⟩
    exact ⟨hit', hl.at fun o e => F₁.keep l o e⟩
  · exact ⟨s.heap, s.toks, m, rfl, hit, F, hJ⟩
  · rintro i s' v h' tk' hi ⟨h, tk, m₁, rfl, hit', F₁, hJ₁⟩ hP hSt hkp
    have hv : vs[k + i]? = some v := by simpa using hP
    obtain ⟨⟨oI', hoI, hr⟩, _⟩ := hSt
    have F₂ : Fr h₀ env.locals h' m₁ := LCg.fr_but F₁ hkp (Ne.symm hIL) hI0
    have N₂ : News h₀ env.locals h' [(I, oI')] := fun p hp => by
      rw [List.mem_singleton.mp hp]
      exact ⟨hoI, hIL, hI0⟩
    have hJ₂ : J (k + i) m₁ h' := mono _ _ _ _ hJ₁ fun b o hc e => by
      by_cases hb : b = I
      · obtain ⟨o₂, ho₂, _, hd₂⟩ := hit'
        obtain ⟨its, n, hq⟩ := hc
        rw [hb] at e
        have e' : h.get? I = some o := e
        rw [ho₂] at e'
        cases e'
        rw [hd₂] at hq
        cases hq
      · exact hkp b o (by simpa using hb) e
    refine wpAny_mono (turn (k + i) v m₁ h' tk' oI' hv hJ₂ F₂ N₂) (fun _ s₃ h₃ => wpAny_mono h₃ (fun f s₄ h₄ => ?_) fun _ _ e => e) fun _ _ e => e
    obtain ⟨rfl, h₅, tk₅, m₅, rfl, F₅, N₅, hJ₅⟩ := h₄
    exact ⟨h₅, tk₅, m₅, rfl, ⟨oI', (N₅ _ List.mem_cons_self).1, hr⟩, F₅, hJ₅⟩
  · rintro s' h' tk' ⟨h, tk, m₁, rfl, hit', F₁, hJ₁⟩ hkp
    refine done m₁ h' tk' ?_ (LCg.fr_but F₁ hkp (Ne.symm hIL) hI0)
    rw [hn']
    refine mono _ _ _ _ hJ₁ fun b o hc e => ?_
    by_cases hb : b = I
    · obtain ⟨o₂, ho₂, _, hd₂⟩ := hit'
      obtain ⟨its, n, hq⟩ := hc
      rw [hb] at e
      have e' : h.get? I = some o := e
      rw [ho₂] at e'
      cases e'
      rw [hd₂] at hq
      cases hq
    · exact hkp b o (by simpa using hb) e
end Mine
end
theorem Mine.off11 : True := by (w_top off); trivial
section
open PySem PySem.W PySem.Spec PySem.Calls PyProof.Rows
set_option maxRecDepth 100000
set_option maxHeartbeats 1000000
set_option pp.deepTerms false
namespace Mine
theorem is_missing {M : Model} {A : Around} {E : Value → Shared → Prop} {s : Shared} {K : Frag} {h₀ : Heap} {L : Addr} {m : Str → Option Value} {x y : Addr} {ox oy : Obj} {Q : Value → Shared → Prop} (F : Fr h₀ L s.heap m) (X : K.In h₀) (hx : h₀.get? x = some ox) (hc : ox.cls = .type "list") (hy : K.lookup y = some oy) (hxy : x ≠ y) (hq : Q (.bool false) s) :
    wpAny M A (compareOp .Is (.ref x) (.ref y)) Q E s := kto_is (F.keep _ _ hx) (F.keep _ _ (X _ _ hy)) hxy (by rw [hc]; decide) hq
local macro_rules | `(tactic| walk_at "compareOp Is ref ref") => `(tactic| (k_here; k_dflt (refine' is_missing ?k1 ?k2 ?k3 ?k4 ?k5 ?k6 ?_; (case k1 => k_asm); (case k2 => k_asm); (case k3 => assumption); (case k4 => assumption); (case k5 => k_is); (case k6 => assumption); k_whole)))
local macro_rules | `(tactic| walk_at "call builtin:iter") => `(tactic| (k_here; k_dflt (refine' iter_lst ?k1 ?k2 ?k3 ?_; (case k1 => k_asm); (case k2 => k_asm); (case k3 => assumption); k_whole); intro I' oI' h' hI' hIt' F' N'; clear hI'))
local macro_rules | `(tactic| walk_at "exec For Name Name cons nil") => `(tactic| (k_here; refine halt_for ?_))
theorem look3 (a b c : Str) (x y z : Value) : (fun s => List.lookup s [(c, z), (b, y), (a, x)]) = fun s => if s = c then some z else if s = b then some y else if s = a then some x else none := by
  funext s
  simp only [List.lookup]
  by_cases h1 : s = c
  · simp [h1]
  · by_cases h2 : s = b
    · simp [h1, h2, beq_eq_false_iff_ne.mpr h1]
      split <;> simp_all
    · by_cases h3 : s = a
      · simp [h1, h2, h3]
        split <;> simp_all
        split <;> simp_all
      · simp only [if_neg h1, if_neg h2, if_neg h3, beq_eq_false_iff_ne.mpr h1, beq_eq_false_iff_ne.mpr h2, beq_eq_false_iff_ne.mpr h3]
theorem callWith_G {M : Model} {A : Around} {E : Value → Shared → Prop} {s : Shared} {g : Heap} {env : Env} {pos : Pos} {fa : Addr} {c : Value} {d : Option Addr} {fd : FuncData} {sl : Array (Option Value)} {first : List Value} {Q : Value → Shared → Prop} {e : Expr} {rest : List Expr}
    (_hfa : g.get? fa = some ⟨c, d, .func fd, sl⟩) (h : wpAny M A (spliced (backTo pos (starEach (e :: rest) env))) (fun vs s₁ => s₁.heap.get? fa = some ⟨c, d, .func fd, sl⟩ ∧ wpAny M A (call (.ref fa) (first ++ vs)) Q E s₁) E s)
    (he : starEach (e :: rest) env = (false, eval e env) :: starEach rest env := by rfl) (hplain : (backTo pos (starEach rest env)).any (·.1) = false := by rfl) :
    wpAny M A (callWith pos (.ref fa) first (backTo pos (starEach (e :: rest) env)) []) Q E s := callWith_F h he hplain
abbrev redM (fa l I : Addr) (ini : Value) (v : Value) (u : Option Value) : Str → Option Value := fun z =>
  if z = Str.ofString "value" then some v else if z = Str.ofString "element" then u else if z = Str.ofString "it" then some (.ref I) else if z = Str.ofString "initial" then some ini else if z = Str.ofString "sequence" then some (.ref l) else if z = Str.ofString "function" then some (.ref fa) else none
theorem redM_start (fa l I : Addr) (ini v : Value) : (fun z => if z = Str.ofString "value" then some v else if z = Str.ofString "it" then some (.ref I) else if z = Str.ofString "initial" then some ini else if z = Str.ofString "sequence" then some (.ref l) else if z = Str.ofString "function" then some (.ref fa) else none) = redM fa l I ini v none := by
  funext z
  simp only [redM]
  by_cases h1 : z = Str.ofString "value"
  · simp [h1]
  · by_cases h2 : z = Str.ofString "element"
    · subst h2; rfl
    · simp only [if_neg h1, if_neg h2]
theorem redM_next (fa l I : Addr) (ini v v' e : Value) (u : Option Value) : (fun z => if z = Str.ofString "value" then some v' else if z = Str.ofString "element" then some e else redM fa l I ini v u z) = redM fa l I ini v' (some e) := by
  funext z
  simp only [redM]
  by_cases h1 : z = Str.ofString "value"
  · simp [h1]
  · by_cases h2 : z = Str.ofString "element"
    · simp [h1, h2]
    · simp only [if_neg h1, if_neg h2]
local macro_rules | `(tactic| walk_at "callWith ref") => `(tactic| (k_here; k_dflt (refine' callWith_G ?hfa ?_; (case hfa => assumption); k_whole)))
local macro_rules | `(tactic| walk_at "And") => `(tactic| ((with_reducible show Heap.get? _ _ = _ ∧ _); refine' ⟨Fr.keep (by k_asm) _ _ (by assumption), ?_⟩; (try dsimp only [List.nil_append, List.cons_append])))
local macro_rules | `(tactic| walk_at "call ref") => `(tactic| (k_here; k_dflt (refine halt_tree ?_)))
local macro_rules | `(tactic| walk_at "execs nil") => `(tactic| (k_here; (with_reducible show wpAny _ _ _ (TurnIt _ _ _ _ _ _) _ _); k_dflt (refine halt_nil ?_)))
local macro_rules | `(tactic| walk_at "storeName") => `(tactic| (k_here; k_dflt (refine' stK ?F ?N ?_ ?a ?b; (case F => k_asm); (case N => k_asm); (case a => rfl); (case b => rfl); k_whole; intro h' F' N' kL'; (try k_sweep))))
theorem c_reduce3 (w : World) (fa l ia : Addr) (c : Value) (d : Option Addr) (fd : FuncData) (sl : Array (Option Value)) (vs : List Value) (dn uu : Nat) (Inv : Nat → Value → Heap → Prop)
    (mono : ∀ i v h h', Inv i v h → KeepsL h h' → Inv i v h') (hia : ia ≠ 29) (oia : Obj) (hoc : oia.cls = .type "list") :
  FTell w 37 [.ref fa, .ref l, .ref ia] (dn + 1) (uu + 16) (fun g => g.IsList l vs.toArray ∧ g.get? fa = some ⟨c, d, .func fd, sl⟩ ∧ g.get? ia = some oia ∧ Inv 0 (.ref ia) g ∧
      ∀ i e v, vs[i]? = some e → FTell w fa [v, e] dn uu (fun h => Keeps g h ∧ Inv i v h) (fun _ h' v' => Inv (i + 1) v' h'))
   fun _ h v => Inv vs.length v h := by
  unfold FTell; k_fill
  intro p loose mean mg mb dp un fr gd s Q E hd hu X T ⟨hl, hfa, hio, hI0, step⟩ hret
  refine wpAny_call ?_
  k_dflt (refine' enterF X ?k4 ?k2 ?k3 ?k1 ?k6 ?k7 ?_ ?c1 ?c2 ?c3 ?c4; (case k2 => k_is); (case k3 => k_is); (case k1 => exact Nat.lt_of_le_of_lt (Nat.le_add_right _ _) hd); (case k4 => exact Top.nolimit T); (case k6 => exact binds_K X rfl (by k_is) rfl rfl rfl); (case k7 => exact locs rfl); (case c1 => exact rfl); (case c2 => exact rfl); (case c3 => exact rfl); (case c4 => decide))
  intro h₁ F'
  replace F' : Fr s.heap s.heap.objs.size h₁ (fun z => List.lookup z [(Str.ofString "initial", .ref ia), (Str.ofString "sequence", .ref l), (Str.ofString "function", .ref fa)]) := F'
  rw [look3] at F'
  have N' : News s.heap s.heap.objs.size h₁ [] := News.nil
  k_steps
  rename_i I oI x1 hIt x2 x3 h9 F9 N9 x4
  unfold Halt
  rw [redM_start] at F9
  refine for_iter 0 (fun i m₁ h => ∃ v u, m₁ = redM fa l I (.ref ia) v u ∧ Inv i v h) rfl F9 N9 hl (hIt _ (N9 _ (.head _)).1) (Nat.zero_le _) ⟨_, _, rfl, mono _ _ _ _ hI0 fun b o _ e => F9.keep b o e⟩ ?_ ?_ ?_ ?_
  · rintro i m₁ h h' ⟨v, u, rfl, hi⟩ hk
    exact ⟨v, u, rfl, mono _ _ _ _ hi hk⟩
  · intro Q' hQ
    exact nameX_L F9 rfl hQ rfl rfl
  · clear F9 N9 hIt
    rintro i e m₁ h₂ tk₂ oI' hv ⟨v, u, rfl, hInv⟩ F N
    k_steps
    (rename Fr _ _ _ _ => F8); (rename News _ _ _ _ => N8); (rename KeepsL _ _ => kL8)
    unfold Halt
    refine step i e v hv p loose mean mg mb _ _ _ _ _ _ _ (by show dp + 1 + dn < recursionLimit; omega) (by show un + 3 + uu < cLine; omega) (X.keeps F8.keep) (T.keeps F8.keep) ⟨F8.keep, mono _ _ _ _ hInv kL8⟩ ?_
    · intro v' h' tk' hk hInv'
      have F7 := F8.keeps hk
      have N7 := N8.grown hk
      clear F8 N8 F N
      k_steps
      (rename Fr _ _ _ _ => F6); (rename News _ _ _ _ => N6); (rename KeepsL _ _ => kL6)
      unfold Halt
      rw [redM_next] at F6
      refine ⟨rfl, _, _, _, rfl, F6, N6, v', _, rfl, mono _ _ _ _ hInv' kL6⟩
  · rintro m₁ h₂ tk₂ ⟨v, u, rfl, hInv⟩ F
    have N : News s.heap s.heap.objs.size h₂ [] := News.nil
    k_steps
    (rename Fr _ _ _ _ => F8)
    exact hret _ _ _ F8.keep hInv
theorem next_led {prog : Program} {w : World} {A : Around} {E : Value → Shared → Prop} {s : Shared} {it l : Addr} {i : Nat} {vs : List Value} {x : Value} {Q : Value → Shared → Prop} {h₀ : Heap} {L : Addr} {m : Str → Option Value} {oI : Obj} (F : Fr h₀ L s.heap m) (N : News h₀ L s.heap [(it, oI)])
    (hit : ∀ g : Heap, g.get? it = some oI → g.IsListIter it l i) (hl : h₀.IsList l vs.toArray) (hx : vs[i]? = some x)
    (h : ∀ h' oI', (∀ g : Heap, g.get? it = some oI' → g.IsListIter it l (i + 1)) → Fr h₀ L h' m → News h₀ L h' [(it, oI')] → Q x { s with heap := h' }) :
    wpAny (model prog w) A (call (.builtin "next") [.ref it]) Q E s := by
  have hm := N _ List.mem_cons_self
  refine next_lst (hit _ hm.1) (hl.at fun o e => F.keep l o e) (by simpa using hx) fun h' hit' hs => ?_
  obtain ⟨oI', ho', hr⟩ := hit'
  refine h h' oI' (fun g e => ⟨oI', e, hr⟩) (F.change hs hm.2.1 hm.2.2) fun p hp => ?_
  rw [List.mem_singleton.mp hp]
  exact ⟨ho', hm.2.1, hm.2.2⟩
local macro_rules | `(tactic| walk_at "call builtin:next") => `(tactic| (k_here; k_dflt (refine' next_led ?F ?N ?h ?l ?x ?_; (case F => k_asm); (case N => k_asm); (case h => assumption); (case l => assumption); (case x => assumption); k_whole); intro h' oI' hIt' F' N'; (try k_sweep)))
local macro_rules | `(tactic| walk_at "compareOp Is ref ref") => `(tactic| (k_here; (with_reducible show wpAny _ _ (compareOp CmpOp.Is (Value.ref 29) (Value.ref 29)) _ _ _); k_dflt (refine wpAny_is_ref_self ?_)))
theorem c_reduce2 (w : World) (fa l : Addr) (c : Value) (d : Option Addr) (fd : FuncData) (sl : Array (Option Value)) (vs : List Value) (e0 : Value) (hv0 : vs[0]? = some e0) (dn uu : Nat) (Inv : Nat → Value → Heap → Prop)
    (mono : ∀ i v h h', Inv i v h → KeepsL h h' → Inv i v h') :
  FTell w 37 [.ref fa, .ref l] (dn + 1) (uu + 16) (fun g => g.IsList l vs.toArray ∧ g.get? fa = some ⟨c, d, .func fd, sl⟩ ∧ Inv 1 e0 g ∧
      ∀ i e v, vs[i]? = some e → FTell w fa [v, e] dn uu (fun h => Keeps g h ∧ Inv i v h) (fun _ h' v' => Inv (i + 1) v' h'))
   fun _ h v => Inv vs.length v h := by
  unfold FTell; k_fill
  intro p loose mean mg mb dp un fr gd s Q E hd hu X T ⟨hl, hfa, hI0, step⟩ hret
  refine wpAny_call ?_
  k_dflt (refine' enterF X ?k4 ?k2 ?k3 ?k1 ?k6 ?k7 ?_ ?c1 ?c2 ?c3 ?c4; (case k2 => k_is); (case k3 => k_is); (case k1 => exact Nat.lt_of_le_of_lt (Nat.le_add_right _ _) hd); (case k4 => exact Top.nolimit T); (case k6 => exact binds_K X rfl (by k_is) rfl rfl rfl); (case k7 => exact locs rfl); (case c1 => exact rfl); (case c2 => exact rfl); (case c3 => exact rfl); (case c4 => decide))
  intro h₁ F'
  replace F' : Fr s.heap s.heap.objs.size h₁ (fun z => List.lookup z [(Str.ofString "initial", .ref 29), (Str.ofString "sequence", .ref l), (Str.ofString "function", .ref fa)]) := F'
  rw [look3] at F'
  have N' : News s.heap s.heap.objs.size h₁ [] := News.nil
  k_steps
  rename_i I oI1 x1 x2 x3 x4 x5 x6 oI hIt h9 F9 N9 x7
  unfold Halt
  rw [redM_start] at F9
  have hpos : 1 ≤ vs.length := by
    cases vs with
    | nil => cases hv0
    | cons _ _ => exact Nat.succ_le_succ (Nat.zero_le _)
  refine for_iter 1 (fun i m₁ h => ∃ v u, m₁ = redM fa l I (.ref 29) v u ∧ Inv i v h) rfl F9 N9 hl (hIt _ (N9 _ (.head _)).1) hpos ⟨_, _, rfl, mono _ _ _ _ hI0 fun b o _ e => F9.keep b o e⟩ ?_ ?_ ?_ ?_
  · rintro i m₁ h h' ⟨v, u, rfl, hi⟩ hk
    exact ⟨v, u, rfl, mono _ _ _ _ hi hk⟩
  · intro Q' hQ
    exact nameX_L F9 rfl hQ rfl rfl
  · clear F9 N9 hIt
    rintro i e m₁ h₂ tk₂ oI' hv ⟨v, u, rfl, hInv⟩ F N
    k_steps
    (rename Fr _ _ _ _ => F8); (rename News _ _ _ _ => N8); (rename KeepsL _ _ => kL8)
    unfold Halt
    refine step i e v hv p loose mean mg mb _ _ _ _ _ _ _ (by show dp + 1 + dn < recursionLimit; omega) (by show un + 3 + uu < cLine; omega) (X.keeps F8.keep) (T.keeps F8.keep) ⟨F8.keep, mono _ _ _ _ hInv kL8⟩ ?_
    · intro v' h' tk' hk hInv'
      have F7 := F8.keeps hk
      have N7 := N8.grown hk
      clear F8 N8 F N
      k_steps
      (rename Fr _ _ _ _ => F6); (rename News _ _ _ _ => N6); (rename KeepsL _ _ => kL6)
      unfold Halt
      rw [redM_next] at F6
      refine ⟨rfl, _, _, _, rfl, F6, N6, v', _, rfl, mono _ _ _ _ hInv' kL6⟩
  · rintro m₁ h₂ tk₂ ⟨v, u, rfl, hInv⟩ F
    have N : News s.heap s.heap.objs.size h₂ [] := News.nil
    k_steps
    (rename Fr _ _ _ _ => F8)
    exact hret _ _ _ F8.keep hInv
end Mine
end
theorem Mine.off12 : True := by (w_top off); trivial
section
open PySem PySem.W PySem.Spec PySem.Calls PyProof.Rows
set_option maxRecDepth 100000
set_option maxHeartbeats 1000000
set_option pp.deepTerms false
namespace Mine
structure Wt where
  w : Int
  y : UInt64
  i : UInt64
  q : UInt64
abbrev Wt.add (a b : Wt) : Wt := ⟨a.w + b.w, Float64.add a.y b.y, Float64.add a.i b.i, Float64.add a.q b.q⟩
def IsWt (h : Heap) (a : Addr) (x : Wt) : Prop := ∃ t1 t2 t3 t4 n, h.get? a = some (lst [.int x.w t1, .float x.y t2, .float x.i t3, .float x.q t4] n)
theorem IsWt.mono {g h : Heap} {a : Addr} {x : Wt} (k : KeepsL g h) : IsWt g a x → IsWt h a x := fun ⟨t1, t2, t3, t4, n, e⟩ => ⟨t1, t2, t3, t4, n, k a _ ⟨_, _, rfl⟩ e⟩
theorem IsWt.keeps {g h : Heap} {a : Addr} {x : Wt} (k : Keeps g h) : IsWt g a x → IsWt h a x := fun ⟨t1, t2, t3, t4, n, e⟩ => ⟨t1, t2, t3, t4, n, k a _ e⟩
theorem fresh_of {g h : Heap} {a : Addr} (k : Keeps g h) (e : h.get? a = none) : g.get? a = none := by
  cases q : g.get? a with
  | none => rfl
  | some o => rw [k a o q] at e; cases e
def IsWp (h : Heap) (a : Addr) (x : Wt) : Prop := ∃ t1 t2 t3 t4 n, t2 ≠ 0 ∧ t3 ≠ 0 ∧ t4 ≠ 0 ∧ h.get? a = some (lst [.int x.w t1, .float x.y t2, .float x.i t3, .float x.q t4] n)
theorem IsWp.wt {h : Heap} {a : Addr} {x : Wt} : IsWp h a x → IsWt h a x := fun ⟨t1, t2, t3, t4, n, _, _, _, e⟩ => ⟨t1, t2, t3, t4, n, e⟩
theorem IsWp.mono {g h : Heap} {a : Addr} {x : Wt} (k : KeepsL g h) : IsWp g a x → IsWp h a x := fun ⟨t1, t2, t3, t4, n, z2, z3, z4, e⟩ => ⟨t1, t2, t3, t4, n, z2, z3, z4, k a _ ⟨_, _, rfl⟩ e⟩
theorem IsWp.keeps {g h : Heap} {a : Addr} {x : Wt} (k : Keeps g h) : IsWp g a x → IsWp h a x := fun ⟨t1, t2, t3, t4, n, z2, z3, z4, e⟩ => ⟨t1, t2, t3, t4, n, z2, z3, z4, k a _ e⟩
end Mine
end
theorem Mine.off13 : True := by (w_top off); trivial
section
open PySem PySem.W PySem.Spec PySem.Calls PyProof.Rows PySem.SeqAt
set_option maxRecDepth 100000
set_option maxHeartbeats 1000000
namespace Mine
theorem told {M : Model} {A : Around} {E : Value → Shared → Prop} {s : Shared} {t : Tok} {Q : Bool → Shared → Prop} {mc : Str → Option Value} (hn : s.heap.Ns cStatics mc) (hk : mc sharingNotToldKey = none) (h : Q false s) : wpAny M A (sharingNotTold t) Q E s := by
  unfold sharingNotTold
  refine wpAny_bind (wpAny_nsGet hn ?_)
  rw [hk]
  exact wpAny_pure h
theorem created_any {M : Model} {A : Around} {E : Value → Shared → Prop} {s : Shared} {t u : Tok} {Q : Bool → Shared → Prop} {mc : Str → Option Value} (hn : s.heap.Ns cStatics mc) (hk : mc sharingNotToldKey = none) (ht : t ≠ 0) (hu : u ≠ 0) (h : ∀ b, Q b s) : wpAny M A (isSame.created true t u) Q E s := by
  unfold isSame.created
  rw [if_neg (by simp [ht, hu])]
  by_cases e : (t == u) = true
  · simp only [e, if_true]
    exact wpAny_pure (h _)
  · simp only [e, Bool.not_true, Bool.false_eq_true, if_false]
    refine wpAny_bind (told hn hk ?_)
    simp only [Bool.false_eq_true, if_false]
    refine wpAny_bind (told hn hk ?_)
    simp only [Bool.false_eq_true, if_false]
    refine wpAny_bind (wpAny_rule (wpAny_bind (wpAny_askSetting ?_)))
    exact wpAny_pure (h _)
theorem eqAt_float {A : Around} {s : Shared} {mc : Str → Option Value} (hn : s.heap.Ns cStatics mc) (hk : mc sharingNotToldKey = none) {x : UInt64} {t u : Tok} (ht : t ≠ 0) (hu : u ≠ 0) (hx : Float64.cmp x x = some .eq) (hnan : Float64.isNaN x = false) : EqAt A s (.float x t) (.float x u) true := fun prog w E Q h => by
  unfold eqBool
  refine wpAny_holding ?_
  refine wpAny_ite_split (fun _ => ?_) (fun _ => ?_)
  · exact wpAny_bind (wpAny_rule (wpAny_pure h))
  · refine wpAny_bind ?_
    show wpAny _ _ (isSame.created (x == x && !Float64.isNaN x) t u) _ _ _
    rw [beq_self_eq_true, hnan]
    refine created_any hn hk ht hu fun b => ?_
    cases b with
    | true => exact wpAny_pure h
    | false =>
      simp only [Bool.false_eq_true, if_false]
      refine wpAny_bind (AutoFloatOps.eq_0 (a := x) (b := x) (t := t) (u := u) ?_)
      rw [hx]
      exact wpAny_truthy_bool h
theorem cmp_self {x : UInt64} (h : Float64.isFinite x = true) : Float64.cmp x x = some .eq ∧ Float64.isNaN x = false := by
  unfold Float64.isFinite at h
  split at h
  · rename_i hd
    refine ⟨?_, ?_⟩
    · rw [Float64.cmp_right hd hd]
      simp
    · unfold Float64.isNaN
      rw [hd]
  · cases h
theorem wp_ne {prog : Program} {w : World} {A : Around} {E : Value → Shared → Prop} {s : Shared} {Q : Value → Shared → Prop} {mc : Str → Option Value} {a b : Addr} {x : Wt} (hn : s.heap.Ns cStatics mc) (hk : mc sharingNotToldKey = none) (ha : IsWp s.heap a x) (hb : IsWp s.heap b x)
    (fy : Float64.isFinite x.y = true) (fi : Float64.isFinite x.i = true) (fq : Float64.isFinite x.q = true) (hu : A.units < cLine) (h : Q (.bool false) s) : wpAny (model prog w) A (compareOp .NotEq (.ref a) (.ref b)) Q E s := by
  obtain ⟨t1, t2, t3, t4, n, n2, n3, n4, ea⟩ := ha
  obtain ⟨u1, u2, u3, u4, k, m2, m3, m4, eb⟩ := hb
  have r := RcNeAt.lists (A := A) (s := s) (e := fun _ => true) ⟨_, ea, rfl, n, rfl⟩ ⟨_, eb, rfl, k, rfl⟩ rfl hu (fun j h1 h2 => ?_)
  · exact cmp_ofNotEq (r prog w E Q (by exact h))
  · match j, h1, h2 with
    | 0, _, _ => exact (by have := EqAt.int_int (A := A.in1) (s := s) x.w t1 x.w u1; rw [beq_self_eq_true] at this; exact this)
    | 1, _, _ => exact eqAt_float hn hk n2 m2 (cmp_self fy).1 (cmp_self fy).2
    | 2, _, _ => exact eqAt_float hn hk n3 m3 (cmp_self fi).1 (cmp_self fi).2
    | 3, _, _ => exact eqAt_float hn hk n4 m4 (cmp_self fq).1 (cmp_self fq).2
end Mine
end
theorem Mine.off14 : True := by (w_top off); trivial
section
open PySem PySem.W PySem.Spec PySem.Calls PyProof.Rows
set_option maxRecDepth 100000
set_option maxHeartbeats 1000000
set_option pp.deepTerms false
namespace Mine
def AddF (x z : Wt) (v y : Value) : Prop := ∃ (i : Nat) (t t' : Tok), v = .int i t ∧ t' ≠ 0 ∧ (i = 0 → y = .int (x.w + z.w) t') ∧ (i = 1 → y = .float (Float64.add x.y z.y) t') ∧ (i = 2 → y = .float (Float64.add x.i z.i) t') ∧ (i = 3 → y = .float (Float64.add x.q z.q) t')
local macro_rules | `(tactic| walk_at "eval ListComp") => `(tactic| (k_here; k_dflt (refine halt_tree ?_)))
local macro_rules | `(tactic| walk_at "pyIter ref") => `(tactic| (k_here; k_dflt (refine halt_tree ?_)))
local macro_rules | `(tactic| walk_at "eval Name") => `(tactic| (k_here; (with_reducible show wpAny _ _ (eval (Expr.Name _ _) (compEnvC _ _ _ _)) _ _ _); k_dflt (refine' ld_free ?N ?c ?m ?d ?_ ?a ?b; (case a => rfl); (case b => rfl); (case N => k_asm); (case c => rfl); (case m => k_mem); (case d => k_asm); k_whole)))
local macro_rules | `(tactic| walk_at "subscriptTail Name Name ref int") => `(tactic| (k_here; k_dflt (refine' item_at ?k1 ?k2 ?k3 ?k4 ?_ ?k6; (case k1 => is_list); (case k2 => decide); (case k3 => decide); (case k4 => rfl); (case k6 => with_unfolding_all rfl); k_whole)))
local macro_rules | `(tactic| walk_at "call type:range") => `(tactic| (k_here; (fail_if_success (with_reducible show wpAny _ _ _ _ (ToksE _) _)); k_dflt (refine with_toks ?_)))
theorem c_addedP (w : World) (l1 l2 : Addr) (x z : Wt) :
  FTell w 61 [.ref l1, .ref l2] 1 16 (fun g => IsWt g l1 x ∧ IsWt g l2 z)
   fun g0 h v => ∃ a, v = .ref a ∧ g0.get? a = none ∧ IsWp h a (x.add z) := by
  unfold FTell; k_fill
  intro p loose mean mg mb dp un fr gd s Q E hd hu X T ⟨⟨ta1, ta2, ta3, ta4, n1, e1⟩, tb1, tb2, tb3, tb4, n2, e2⟩ hret
  have hl1 : s.heap.IsList l1 [.int x.w ta1, .float x.y ta2, .float x.i ta3, .float x.q ta4].toArray := ⟨_, e1, rfl, _, rfl⟩
  have hl2 : s.heap.IsList l2 [.int z.w tb1, .float z.y tb2, .float z.i tb3, .float z.q tb4].toArray := ⟨_, e2, rfl, _, rfl⟩
  refine wpAny_call ?_
  k_dflt (refine' call_cellsN_ret ?k1 ?k2 ?k3 ?k4 ?k5 ?k6 ?k7 ?k8 ?_ ?c1 ?c2 ?c3; (case k2 => exact X _ _ (by k_is)); (case k3 => exact rfl); (case k1 => exact Nat.lt_of_le_of_lt (Nat.le_add_right _ _) hd); (case k4 => exact Top.nolimit T); (case k5 => exact codeRec_of X (by k_is)); (case k6 => exact rfl); (case k7 => exact kindsX rfl _); (case k8 => decide +kernel); (case c1 => exact rfl); (case c2 => exact rfl); (case c3 => exact rfl))
  intro h₁ tk' cells' F' N' Y'
  k_cells Y'
  rename_i o1 o2 d1 d2
  replace d1 : o1.data = .cell (some (.ref l2)) := d1
  replace d2 : o2.data = .cell (some (.ref l1)) := d2
  k_steps
  unfold Halt
  k_dflt (refine wpAny_ListComp_free (fun _ => true) (AddF x z) (by rfl) (by decide) (by rfl) (by decide) (by rfl) ?_)
  k_steps
  unfold Halt
  rename_i h2 tk2 t1 u1 v1 hr F2 N2 hk2 htk
  replace htk : tk' + 1 ≤ tk2 := htk
  k_dflt (refine wpAny_pyIter_range hr (by decide) ?_)
  refine ⟨_, _, _, 4, _, _, rfl, (Walks.range rfl _ 0 1 4).bound, by decide, ?_, ?_, ?_, ?_⟩
  · exact Heap.get?_push_size _ rfl
  · intro b hb
    rw [List.mem_singleton.mp hb]
    show h2.objs.size < (h2.push _).objs.size
    rw [Heap.size_push]
    exact Nat.lt_succ_self _
  · refine ⟨fun C i v s₃ m₃ E' _ _ _ _ _ _ => wpAny_pure ⟨rfl, _, _, rfl, fun _ _ e => e⟩, fun C i v s₃ m₃ E' hC hP _ hns hx hk htk3 => ?_⟩
    obtain ⟨hi, t, rfl⟩ := hP
    obtain ⟨oC, hoC, hC'⟩ := LCg.ns_obj hns
    have k13 : Keeps h2 s₃.heap := fun b o e => hk b o (by simpa using Nat.ne_of_lt (Heap.lt_size e)) (Heap.get?_push_of_some _ e)
    have F3 := F2.keeps k13
    have N3 := N2.grown k13
    have hCL : C ≠ s.heap.objs.size := Nat.ne_of_gt (Nat.lt_of_lt_of_le F2.ns.lt (Nat.le_trans (by show h2.objs.size ≤ (h2.push _).objs.size; rw [Heap.size_push]; exact Nat.le_succ _) hC))
    have hCn : s.heap.get? C = none := by
      cases q : s.heap.get? C with
      | none => rfl
      | some o => exact absurd (Heap.lt_size (F2.keep _ _ q)) (Nat.not_lt.mpr (Nat.le_trans (by show h2.objs.size ≤ (h2.push _).objs.size; rw [Heap.size_push]; exact Nat.le_succ _) hC))
    have N4 : News s.heap s.heap.objs.size s₃.heap ((C, oC) :: [(s.heap.objs.size + 1 + 1, o1), (s.heap.objs.size + 1, o2)]) := fun p hp => by
      rcases List.mem_cons.mp hp with rfl | hp
      · exact ⟨hoC, hCL, hCn⟩
      · exact N3 p hp
    have htk4 : s₃.toks ≠ 0 := by
      have : tk2 ≤ s₃.toks := htk3
      omega
    clear N3 F2 N2 hr hk k13
    match i, hi with
    | 0, _ =>
      k_steps
      · exact ⟨0, t, s₃.toks, rfl, htk4, fun _ => rfl, fun h => by omega, fun h => by omega, fun h => by omega⟩
      · exact ⟨_, _, rfl, fun _ _ e => e⟩
    | 1, _ =>
      k_steps
      · exact ⟨1, t, s₃.toks, rfl, htk4, fun h => by omega, fun _ => rfl, fun h => by omega, fun h => by omega⟩
      · exact ⟨_, _, rfl, fun _ _ e => e⟩
    | 2, _ =>
      k_steps
      · exact ⟨2, t, s₃.toks, rfl, htk4, fun h => by omega, fun h => by omega, fun _ => rfl, fun h => by omega⟩
      · exact ⟨_, _, rfl, fun _ _ e => e⟩
    | 3, _ =>
      k_steps
      · exact ⟨3, t, s₃.toks, rfl, htk4, fun h => by omega, fun h => by omega, fun h => by omega, fun _ => rfl⟩
      · exact ⟨_, _, rfl, fun _ _ e => e⟩
  · intro D h3 tk3 ys vs hD hl hpl hlen hP hF hk
    obtain ⟨n, hpl⟩ := hpl
    have k13 : Keeps s.heap h3 := fun b o e => hk b o (by simpa using Nat.ne_of_lt (Heap.lt_size (F2.keep _ _ e))) (Heap.get?_push_of_some _ (F2.keep _ _ e))
    have hDn : s.heap.get? D = none := by
      cases q : s.heap.get? D with
      | none => rfl
      | some o =>
        have := Heap.get?_push_of_some { cls := .type "range_iterator", data := .fields #[rawInt 0, rawInt (Builtin.Range.rangeSize 0 4 1), rawInt 1] } (F2.keep _ _ q)
        rw [hD] at this
        cases this
    match vs, hlen with
    | [v0, v1, v2, v3], _ =>
      obtain ⟨_, s0, rfl⟩ := hP 0 v0 rfl
      obtain ⟨_, s1, rfl⟩ := hP 1 v1 rfl
      obtain ⟨_, s2, rfl⟩ := hP 2 v2 rfl
      obtain ⟨_, s3, rfl⟩ := hP 3 v3 rfl
      replace hF : Paired (AddF x z) [.int (0 + ((0 : Nat) : Int) * 1) s0, .int (0 + ((1 : Nat) : Int) * 1) s1, .int (0 + ((2 : Nat) : Int) * 1) s2, .int (0 + ((3 : Nat) : Int) * 1) s3] ys.toList := hF
      generalize hyl : ys.toList = yl at hF
      obtain _ | ⟨f0, hF⟩ := hF
      obtain _ | ⟨f1, hF⟩ := hF
      obtain _ | ⟨f2, hF⟩ := hF
      obtain _ | ⟨f3, hF⟩ := hF
      obtain _ | _ := hF
      obtain ⟨i0, _, r0, q0, _, g0, _⟩ := f0
      obtain ⟨i1, _, r1, q1, z1, _, g1, _⟩ := f1
      obtain ⟨i2, _, r2, q2, z2, _, _, g2, _⟩ := f2
      obtain ⟨i3, _, r3, q3, z3, _, _, _, g3⟩ := f3
      injection q0 with q0 _
      injection q1 with q1 _
      injection q2 with q2 _
      injection q3 with q3 _
      rw [g0 (by omega), g1 (by omega), g2 (by omega), g3 (by omega)] at hyl
      have hys : ys = [Value.int (x.w + z.w) r0, Value.float (Float64.add x.y z.y) r1, Value.float (Float64.add x.i z.i) r2, Value.float (Float64.add x.q z.q) r3].toArray := by
        rw [← hyl]
      subst hys
      exact hret _ _ _ k13 ⟨D, rfl, hDn, r0, r1, r2, r3, n, z1, z2, z3, hpl⟩
end Mine
end
theorem Mine.off15 : True := by (w_top off); trivial
section
open PySem PySem.W PySem.Spec PySem.Calls PyProof.Rows
set_option maxRecDepth 100000
set_option maxHeartbeats 1000000
set_option pp.deepTerms false
namespace Mine
theorem enterL {prog : Program} {w : World} {A : Around} {R : Result → Shared → Prop} {s : Shared} {name qual : Str} {params : Arguments} {body : Expr} {scope : Scope} {pm ctv : Value} {c' f : Addr} {args : Args} {binds : List (Str × Value)}
    (ho : s.heap.get? f = some (kla_obj name qual params body scope [] pm c' ctv)) (hcd : s.heap.CodeRec (.ref c') qual) (hlim : s.heap.NoLimit) (hroom : A.depth < recursionLimit)
    (hbind : bindArgs (kla_fn name qual params body scope [] pm (.ref c') ctv) args = pure binds) (hloc : ∀ y ∈ binds, scope.names.lookup y.1 = some .local)
    (h : ∀ h₁, Fr s.heap s.heap.objs.size h₁ (fun y => binds.reverse.lookup y) →
      wpAny (model prog w) (A.deeper (envX qual scope s.heap.objs.size f (.ref c') [])) (eval body (envX qual scope s.heap.objs.size f (.ref c') []))
        (fun v s' => R (.ok (.ret v)) s') NoE { s with heap := h₁, toks := s.toks + binds.length })
    (hco : scope.isCoroutine = false) (hgen : scope.isGenerator = false) (hk : scope.kind = .function)
    (hcell : ∀ x ∈ scope.names, x.2 ≠ .cell) : codeAny (model prog w) A (.call (.ref f) args) R s := by
  refine kla_callFunE hroom ho rfl hco hgen rfl hcd ?_
  rw [hbind]
  refine wpAny_pure (wpAny_newFunctionEnv hcell hloc (fun h₁ hns hsb => ⟨hlim.fresh _ hsb, ?_⟩) hk)
  show codeAny _ _ (.expr body (envX qual scope s.heap.objs.size f (.ref c') [])) _ _
  have hk₁ : ∀ b o, s.heap.get? b = some o → h₁.get? b = some o := fun b o e => hsb.extBut b o (Nat.ne_of_lt (Heap.lt_size e)) (Heap.get?_push_of_some _ e)
  exact kla_codeExpr (wpAny_mono (h h₁ ⟨hns, hk₁, Nat.le_refl _⟩) (fun _ _ x => x) fun _ _ x => x.elim)
theorem item_last {prog : Program} {w : World} {A : Around} {E : Value → Shared → Prop} {s : Shared} {value slice : PySem.Expr} {l : Addr} {ys : List Value} {u : Tok} {v : Value} {Q : Value → Shared → Prop}
    (hl : s.heap.IsList l (ys ++ [v]).toArray) (hlen : ys.length ≤ 8) (h : Q v s)
    (hs : subscripted slice false (.ref l) (.int (-1) u) = operate [.ref l, .int (-1) u] (getItem (.ref l) (.int (-1) u)) := by with_unfolding_all rfl) :
    wpAny (model prog w) A (subscriptTail value slice (.ref l) (.int (-1) u)) Q E s :=
  tail_any hl.typeIs slot_list_getitem.lookup (wpAny_getItem_list_neg hl (by decide) (by simp; omega) (by decide) (by
    have e : ((-1 : Int) + ((ys ++ [v]).toArray.size : Int)).toNat = ys.length := by simp; omega
    rw [e]; simp) h) hs
theorem use_added {w : World} {p : Program} {loose : List Str} {mean : ExcName → Option Value} {mg mb : Str → Option Value} {dp un : Nat} {fr : Option (List Env)} {gd : Option (List Code)} {s : Shared} {Q E : Value → Shared → Prop} {h₀ : Heap} {L : Addr} {m : Str → Option Value} {news : List (Addr × Obj)} {a b : Addr} {x z : Wt}
    (F : Fr h₀ L s.heap m) (N : News h₀ L s.heap news) (X : (hd.heap_39 w.params).In h₀) (T : Top p loose mean mg mb h₀) (hdp : dp + 1 < recursionLimit) (hun : un + 16 < cLine) (ha : IsWt h₀ a x) (hb : IsWt h₀ b z)
    (h : ∀ c t1 t2 t3 t4 n h' tk', (t2 ≠ 0 ∧ t3 ≠ 0 ∧ t4 ≠ 0) → Fr h₀ L h' m → News h₀ L h' ((c, lst [.int (x.add z).w t1, .float (x.add z).y t2, .float (x.add z).i t3, .float (x.add z).q t4] n) :: news) → Q (.ref c) { s with heap := h', toks := tk' }) :
    wpAny (model PySem.Challenge.rw_mq0087_01.row.prog w) { handled := none, depth := dp, frames := fr, guards := gd, units := un } (call (.ref 61) [.ref a, .ref b]) Q E s := by
  refine c_addedP w a b x z p loose mean mg mb dp un fr gd s Q E hdp hun (X.keeps F.keep) (T.keeps F.keep) ⟨ha.keeps F.keep, hb.keeps F.keep⟩ fun v h' tk' k hp => ?_
  obtain ⟨c, rfl, hf, t1, t2, t3, t4, n, z2, z3, z4, ho⟩ := hp
  obtain ⟨F', N', o1⟩ := back F N k hf ho
  exact h c t1 t2 t3 t4 n h' tk' ⟨z2, z3, z4⟩ F' N'
abbrev lamScope (mr : List (Str × Const)) : Scope := { kind := .function, names := [(Str.ofString "had", .local), (Str.ofString "row", .local), (Str.ofString "_law_added", .globalImplicit)], isGenerator := false, isCoroutine := false, more := mr }
abbrev lamParams (p1 p2 : Pos) : Arguments := { posonlyargs := [], args := [{ arg := Str.ofString "had", annotation := none, pos := p1 }, { arg := Str.ofString "row", annotation := none, pos := p2 }], vararg := none, kwonlyargs := [], kw_defaults := [], kwarg := none, defaults := [] }
abbrev lamBody (p1 p2 p3 p4 p5 p6 p7 p8 p9 pa : Pos) : Expr :=
  .BinOp (.Name (Str.ofString "had") p1) .Add (.List [.Call (.Name (Str.ofString "_law_added") p2) [.Subscript (.Name (Str.ofString "had") p3) (.UnaryOp .USub (.Constant (.int 1) 0 p4) p5) p6, .Name (Str.ofString "row") p7] [] p8] p9) pa
local macro_rules | `(tactic| walk_at "subscriptTail Name UnaryOp ref int") => `(tactic| (k_here; k_dflt (refine' item_last ?k1 ?k2 ?_ ?k6; (case k1 => is_list); (case k2 => assumption); (case k6 => with_unfolding_all rfl); k_whole)))
local macro_rules | `(tactic| walk_at "call ref") => `(tactic| (k_here; (with_reducible show wpAny _ _ (call (Value.ref 61) _) _ _ _); k_dflt (refine' use_added ?k1 ?k2 ?k3 ?k4 ?k5 ?k6 ?k7 ?k8 ?_; (case k1 => k_asm); (case k2 => k_asm); (case k3 => k_asm); (case k4 => k_asm); (case k5 => ktr_room); (case k6 => ktr_units); (case k7 => assumption); (case k8 => assumption); k_whole; intro c' t1' t2' t3' t4' n' h' tk' hz' F' N')))
local macro_rules | `(tactic| walk_at "binaryOp Add ref ref") => `(tactic| (k_here; k_dflt (refine' kmk_add_lit ?F ?N ?a ?b ?e ?_ ?z; (case F => k_asm); (case N => k_asm); (case a => is_list); (case b => is_list); (case e => exact rfl); (case z => (simp; omega))); intro D' h' F' N' l1; (try k_sweep)))
theorem c_lam (w : World) (nm qual : Str) (q1 q2 p1 p2 p3 p4 p5 p6 p7 p8 p9 pa : Pos) (mr : List (Str × Const)) (pm ctv : Value) (c' f ha ra wa : Addr) (xs : List Addr) (x z : Wt) (hlen : xs.length ≤ 8) :
    FTell w f [.ref ha, .ref ra] 3 64 (fun g => g.get? f = some (kla_obj nm qual (lamParams q1 q2) (lamBody p1 p2 p3 p4 p5 p6 p7 p8 p9 pa) (lamScope mr) [] pm c' ctv) ∧ g.CodeRec (.ref c') qual ∧
      (∃ n, g.get? ha = some (lst ((xs ++ [wa]).map Value.ref) n)) ∧ IsWt g wa x ∧ IsWt g ra z)
     fun g0 h v => ∃ hb c n, v = .ref hb ∧ g0.get? hb = none ∧ g0.get? c = none ∧ h.get? hb = some (lst ((xs ++ [wa] ++ [c]).map Value.ref) n) ∧ IsWp h c (x.add z) := by
  unfold FTell; k_fill
  intro p loose mean mg mb dp un fr gd s Q E hd hu X T ⟨hof, hcd, ⟨n, hha⟩, hwa, hra⟩ hret
  refine wpAny_call ?_
  k_dflt (refine' enterL hof hcd (Top.nolimit T) ?k1 ?k6 ?k7 ?_ ?c1 ?c2 ?c3 ?c4; (case k1 => exact Nat.lt_of_le_of_lt (Nat.le_add_right _ _) hd); (case k6 => exact rfl); (case k7 => exact locs rfl); (case c1 => exact rfl); (case c2 => exact rfl); (case c3 => exact rfl); (case c4 => show ∀ x ∈ [(Str.ofString "had", NameKind.local), (Str.ofString "row", NameKind.local), (Str.ofString "_law_added", NameKind.globalImplicit)], x.2 ≠ .cell; decide))
  intro h₁ F'
  have N' : News s.heap s.heap.objs.size h₁ [] := News.nil
  have hl : s.heap.IsList ha (xs.map Value.ref ++ [Value.ref wa]).toArray := ⟨_, hha, rfl, n, by rw [List.map_append]; rfl⟩
  have hlen' : (xs.map Value.ref).length ≤ 8 := by rw [List.length_map]; exact hlen
  k_steps
  (rename Fr _ _ _ _ => F9); (rename News _ _ _ _ => N9); (rename (_ ≠ 0 ∧ _ ≠ 0 ∧ _ ≠ 0) => hz9)
  refine hret _ _ _ (Fr.keep F9) ⟨_, _, 0, rfl, (N9 _ (.head _)).2.2, (N9 _ (.tail _ (.tail _ (.head _)))).2.2, ?_, _, _, _, _, _, hz9.1, hz9.2.1, hz9.2.2, (N9 _ (.tail _ (.tail _ (.head _)))).1⟩
  rw [List.map_append, List.map_append]
  exact (N9 _ (.head _)).1
end Mine
end
theorem Mine.off16 : True := by (w_top off); trivial
section
open PySem PySem.W PySem.Spec PySem.Calls PyProof.Rows
set_option maxRecDepth 100000
set_option maxHeartbeats 1000000
set_option pp.deepTerms false
namespace Mine
def accN (x0 : Wt) (xs : List Wt) (i : Nat) : Wt := (xs.take i).foldl Wt.add x0
theorem accN_succ {x0 : Wt} {xs : List Wt} {i : Nat} {x : Wt} (h : xs[i]? = some x) : accN x0 xs (i + 1) = (accN x0 xs i).add x := by
  unfold accN
  rw [List.take_add_one, h]
  simp
theorem c_total (w : World) (l a0 : Addr) (x0 : Wt) (as : List Addr) (xs : List Wt) (hl : as.length = xs.length) (hpos : 1 ≤ as.length) :
    FTell w 37 [.ref 61, .ref l] 2 64 (fun g => g.IsList l ((a0 :: as).map Value.ref).toArray ∧ IsWt g a0 x0 ∧ ∀ (j : Nat) (a : Addr) (x : Wt), as[j]? = some a → xs[j]? = some x → IsWt g a x)
     fun g0 h v => ∃ c, v = .ref c ∧ g0.get? c = none ∧ IsWp h c (accN x0 xs xs.length) := by
  unfold FTell; k_fill
  intro p loose mean mg mb dp un fr gd s Q E hd hu X T ⟨hls, h0, hw⟩ hret
  have h61 : ∃ c d fd sl, s.heap.get? 61 = some ⟨c, d, .func fd, sl⟩ := ⟨_, _, _, _, X _ _ (by k_dflt k_is)⟩
  obtain ⟨c, d, fd, sl, hfa⟩ := h61
  refine c_reduce2 w 61 l c d fd sl ((a0 :: as).map Value.ref) (.ref a0) rfl 1 16 (fun i v h => 1 ≤ i ∧ ∃ c, v = .ref c ∧ IsWt h c (accN x0 xs (i - 1)) ∧ (2 ≤ i → s.heap.get? c = none ∧ IsWp h c (accN x0 xs (i - 1)))) ?_ p loose mean mg mb dp un fr gd s Q E (by omega) (by omega) X T ⟨hls, hfa, ⟨Nat.le_refl _, a0, rfl, h0, fun h => by omega⟩, ?_⟩ ?_
  · rintro i v h h' ⟨hi, c, rfl, hc, hf⟩ hk
    exact ⟨hi, c, rfl, hc.mono hk, fun h => ⟨(hf h).1, (hf h).2.mono hk⟩⟩
  · intro i e v hv p loose mean mg mb dp un fr gd s' Q E hd hu X' T' ⟨hk, hi, c, hvc, hc, hf⟩ hret'
    subst hvc
    obtain ⟨j, rfl⟩ : ∃ j, i = j + 1 := ⟨i - 1, by omega⟩
    rw [List.map_cons, List.getElem?_cons_succ, List.getElem?_map] at hv
    obtain ⟨a, ha, rfl⟩ := Option.map_eq_some_iff.mp hv
    have hj : j < xs.length := by
      have := (List.getElem?_eq_some_iff.mp ha).1
      omega
    have hx : xs[j]? = some xs[j] := List.getElem?_eq_getElem hj
    refine c_addedP w c a (accN x0 xs j) xs[j] p loose mean mg mb dp un fr gd s' Q E hd hu X' T' ⟨hc, (hw j a xs[j] ha hx).keeps hk⟩ fun v h' tk' hk' hp => ?_
    obtain ⟨c', rfl, hf', hc'⟩ := hp
    rw [← accN_succ hx] at hc'
    exact hret' _ _ _ hk' ⟨by omega, c', rfl, hc'.wt, fun _ => ⟨fresh_of hk hf', hc'⟩⟩
  · rintro v h' tk' hk ⟨hi, c, rfl, hc, hf⟩
    obtain ⟨hf1, hf2⟩ := hf (by simp; omega)
    have e : ((a0 :: as).map Value.ref).length - 1 = xs.length := by simp [hl]
    rw [e] at hf2
    exact hret _ _ _ hk ⟨c, rfl, hf1, hf2⟩
theorem c_stages (w : World) (l ia a0 f c' : Addr) (n0 : Nat) (nm qual : Str) (q1 q2 p1 p2 p3 p4 p5 p6 p7 p8 p9 pa : Pos) (mr : List (Str × Const)) (pm ctv : Value) (x0 : Wt) (as : List Addr) (xs : List Wt) (hl : as.length = xs.length) (hpos : 1 ≤ as.length) (hmax : as.length ≤ 8) :
    FTell w 37 [.ref f, .ref l, .ref ia] 4 96 (fun g => g.IsList l (as.map Value.ref).toArray ∧ g.get? f = some (kla_obj nm qual (lamParams q1 q2) (lamBody p1 p2 p3 p4 p5 p6 p7 p8 p9 pa) (lamScope mr) [] pm c' ctv) ∧ g.CodeRec (.ref c') qual ∧
        g.get? ia = some (lst [.ref a0] n0) ∧ IsWt g a0 x0 ∧ ∀ (j : Nat) (a : Addr) (x : Wt), as[j]? = some a → xs[j]? = some x → IsWt g a x)
     fun g0 h v => ∃ a n ys, v = .ref a ∧ g0.get? a = none ∧ h.get? a = some (lst ((a0 :: ys).map Value.ref) n) ∧ ys.length = xs.length ∧ (∀ y ∈ ys, g0.get? y = none) ∧ ∀ (j : Nat) (y : Addr), (a0 :: ys)[j]? = some y → 1 ≤ j → IsWp h y (accN x0 xs j) := by
  unfold FTell; k_fill
  intro p loose mean mg mb dp un fr gd s Q E hd hu X T ⟨hls, hf, hcr, hia, h0, hw⟩ hret
  have hne : ia ≠ 29 := by
    intro e
    have h29 : ∃ o, s.heap.get? 29 = some o ∧ o.cls = .type "object" := ⟨_, X _ _ (by k_dflt k_is), rfl⟩
    obtain ⟨o, ho, hc⟩ := h29
    rw [e, ho] at hia
    cases hia
    exact absurd (show Value.type "list" = Value.type "object" from hc) (by decide)
  refine c_reduce3 w f l ia _ _ _ _ (as.map Value.ref) 3 64 (fun i v h => ∃ (ys : List Addr) (wa a : Addr) (n : Nat), ys.length = i ∧ (ys ++ [wa])[0]? = some a0 ∧ v = .ref a ∧ h.get? a = some (lst ((ys ++ [wa]).map Value.ref) n) ∧ (1 ≤ i → s.heap.get? a = none) ∧
      ∀ (j : Nat) (y : Addr), (ys ++ [wa])[j]? = some y → IsWt h y (accN x0 xs j) ∧ (1 ≤ j → s.heap.get? y = none ∧ IsWp h y (accN x0 xs j))) ?_ hne _ rfl p loose mean mg mb dp un fr gd s Q E (by omega) (by omega) X T ⟨hls, hf, hia, ⟨[], a0, ia, n0, rfl, rfl, rfl, hia, fun h => by omega, ?_⟩, ?_⟩ ?_
  · rintro i v h h' ⟨ys, wa, a, n, e1, e2, rfl, ea, fa, hj⟩ hk
    exact ⟨ys, wa, a, n, e1, e2, rfl, hk _ _ ⟨_, _, rfl⟩ ea, fa, fun j y hy => ⟨(hj j y hy).1.mono hk, fun h => ⟨((hj j y hy).2 h).1, ((hj j y hy).2 h).2.mono hk⟩⟩⟩
  · intro j y hy
    cases j with
    | zero => cases hy; exact ⟨h0, fun h => by omega⟩
    | succ j => cases hy
  · intro i e v hv p loose mean mg mb dp un fr gd s' Q E hd hu X' T' ⟨hk, ys, wa, a, n, e1, e2, e3, ea, fa, hj⟩ hret'
    subst e3
    rw [List.getElem?_map] at hv
    obtain ⟨b, hb, rfl⟩ := Option.map_eq_some_iff.mp hv
    have hi : i < xs.length := by
      have := (List.getElem?_eq_some_iff.mp hb).1
      omega
    have hx : xs[i]? = some xs[i] := List.getElem?_eq_getElem hi
    have hwa : IsWt s'.heap wa (accN x0 xs i) := (hj i wa (by rw [← e1]; simp)).1
    obtain ⟨cc, oc, vs, t, ec, hoc, hdc, hvc⟩ := hcr
    refine c_lam w nm qual q1 q2 p1 p2 p3 p4 p5 p6 p7 p8 p9 pa mr pm ctv c' f a b wa ys (accN x0 xs i) xs[i] (by omega) p loose mean mg mb dp un fr gd s' Q E hd hu X' T' ⟨hk _ _ hf, ⟨cc, oc, vs, t, ec, hk _ _ hoc, hdc, hvc⟩, ⟨n, ea⟩, hwa, (hw i b xs[i] hb hx).keeps hk⟩ fun v h' tk' hk' hp => ?_
    obtain ⟨hb', c, n', rfl, f1, f2, eb, hc⟩ := hp
    refine hret' _ _ _ hk' ⟨ys ++ [wa], c, hb', n', by simp [e1], ?_, rfl, eb, fun _ => fresh_of hk f1, ?_⟩
    · rw [List.getElem?_append_left (by simp)]
      exact e2
    · intro j y hy
      by_cases hjj : j < (ys ++ [wa]).length
      · rw [List.getElem?_append_left hjj] at hy
        exact ⟨(hj j y hy).1.keeps hk', fun h => ⟨((hj j y hy).2 h).1, ((hj j y hy).2 h).2.keeps hk'⟩⟩
      · have hjl : j = i + 1 := by
          have := (List.getElem?_eq_some_iff.mp hy).1
          simp at this hjj
          omega
        subst hjl
        rw [List.getElem?_append_right (by simp [e1])] at hy
        simp [e1] at hy
        subst hy
        rw [accN_succ hx]
        exact ⟨hc.wt, fun _ => ⟨fresh_of hk f2, hc⟩⟩
  · rintro v h' tk' hk ⟨ys, wa, a, n, e1, e2, rfl, ea, fa, hj⟩
    rw [List.length_map] at e1 fa
    cases ys with
    | nil => simp at e1; omega
    | cons y0 yt =>
      have : y0 = a0 := by simpa using e2
      subst this
      refine hret _ _ _ hk ⟨a, n, yt ++ [wa], rfl, fa hpos, ea, ?_, ?_, ?_⟩
      · simp at e1 ⊢; omega
      · intro y hy
        obtain ⟨j, hjy⟩ := List.getElem?_of_mem hy
        exact ((hj (j + 1) y (by simpa using hjy)).2 (by omega)).1
      · intro j y hy h1
        exact ((hj j y (by simpa using hy)).2 h1).2
end Mine
end
theorem Mine.off17 : True := by (w_top off); trivial
section
open PySem PySem.W PySem.Spec PySem.Calls PyProof.Rows
set_option maxRecDepth 100000
set_option maxHeartbeats 2000000
set_option pp.deepTerms false
namespace Mine
abbrev wOf (d : RowD) : Wt := ⟨d.w, Float64.mul (Float64.ofInt d.w) (yOf (divI d.r 16) (divI d.g 16) (divI d.b 16)), Float64.mul (Float64.ofInt d.w) (iOf (divI d.r 16) (divI d.g 16) (divI d.b 16)), Float64.mul (Float64.ofInt d.w) (qOf (divI d.r 16) (divI d.g 16) (divI d.b 16))⟩
theorem use_weighed {w : World} {p : Program} {loose : List Str} {mean : ExcName → Option Value} {mg mb : Str → Option Value} {dp un : Nat} {fr : Option (List Env)} {gd : Option (List Code)} {s : Shared} {Q E : Value → Shared → Prop} {h₀ : Heap} {L : Addr} {m : Str → Option Value} {news : List (Addr × Obj)} {d : RowD}
    (F : Fr h₀ L s.heap m) (N : News h₀ L s.heap news) (X : (hd.heap_39 w.params).In h₀) (T : Top p loose mean mg mb h₀) (hdp : dp + 2 < recursionLimit) (hun : un + 32 < cLine) (hd : h₀.IsList d.a d.items.toArray) (ok : d.Ok)
    (h : ∀ c t1 t2 t3 t4 n h' tk', Fr h₀ L h' m → News h₀ L h' ((c, lst [.int (wOf d).w t1, .float (wOf d).y t2, .float (wOf d).i t3, .float (wOf d).q t4] n) :: news) → LCg.Off1 c news → Q (.ref c) { s with heap := h', toks := tk' }) :
    wpAny (model PySem.Challenge.rw_mq0087_01.row.prog w) { handled := none, depth := dp, frames := fr, guards := gd, units := un } (call (.ref 56) [.ref d.a]) Q E s := by
  refine c_weighed w d.a d.w d.r d.g d.b d.tw d.tr d.tg d.tb ok.w1 ok.w2 ok.r1 ok.r2 ok.g1 ok.g2 ok.b1 ok.b2 p loose mean mg mb dp un fr gd s Q E hdp hun (X.keeps F.keep) (T.keeps F.keep) (hd.at fun o e => F.keep _ o e) fun v h' tk' k hp => ?_
  obtain ⟨c, t1, t2, t3, t4, n, rfl, hf, ho⟩ := hp
  obtain ⟨F', N', o1⟩ := back F N k hf ho
  exact h c t1 t2 t3 t4 n h' tk' F' N' o1
theorem off3_cons {I C D q : Addr} {oI oC oD o : Obj} {news : List (Addr × Obj)} (h1 : LCg.Off1 q ((I, oI) :: (C, oC) :: (D, oD) :: news)) (h2 : LCg.Off3 I C D news) : LCg.Off3 I C D ((q, o) :: news) :=
  ⟨⟨h1.1.symm, h1.2.1.symm, h1.2.2.1.symm⟩, h2⟩
theorem compEnd_new {h₀ : Heap} {L I C D q : Addr} {m : Str → Option Value} {s₁ : Shared} {oI oC oD o : Obj} {S : List (Addr × Obj) → Prop} {rest : Value → List (Addr × Obj) → Prop} {y : Value} {h' : Heap} {tk : Nat} {news : List (Addr × Obj)}
    (F : Fr h₀ L h' m) (N : News h₀ L h' ((q, o) :: (I, oI) :: (C, oC) :: (D, oD) :: news)) (o1 : LCg.Off1 q ((I, oI) :: (C, oC) :: (D, oD) :: news)) (off : LCg.Off3 I C D news) (hS : S ((q, o) :: news)) (r : rest y ((q, o) :: news)) :
    LCg.CompEnd h₀ L m s₁ I oI C oC D oD S rest y { s₁ with heap := h', toks := tk } := by
  refine LCg.CompEnd.intro F N ((q, o) :: news) (fun p hp => ?_) (off3_cons o1 off) hS r
  rcases List.mem_cons.mp hp with rfl | hp
  · exact .tail _ (.head _)
  · rcases List.mem_cons.mp hp with rfl | hp
    · exact .tail _ (.tail _ (.head _))
    · rcases List.mem_cons.mp hp with rfl | hp
      · exact .tail _ (.tail _ (.tail _ (.head _)))
      · rcases List.mem_cons.mp hp with rfl | hp
        · exact .head _
        · exact .tail _ (.tail _ (.tail _ (.tail _ hp)))
theorem back_list {h₀ g h' : Heap} {L : Addr} {m : Str → Option Value} {news : List (Addr × Obj)} (F : Fr h₀ L g m) (N : News h₀ L g news) (k : Keeps g h') (more : List (Addr × Obj)) (hm : ∀ p ∈ more, g.get? p.1 = none ∧ h'.get? p.1 = some p.2) : News h₀ L h' (more ++ news) := by
  obtain ⟨oL, _, _, hL, _⟩ := F.ns
  intro p hp
  rcases List.mem_append.mp hp with hp | hp
  · obtain ⟨fresh, ho⟩ := hm p hp
    refine ⟨ho, fun e => ?_, ?_⟩
    · rw [e, hL] at fresh; cases fresh
    · cases e : h₀.get? p.1 with
      | none => rfl
      | some o' => rw [F.keep _ _ e] at fresh; cases fresh
  · exact N.grown k p hp
theorem wt_all {g : Heap} {as : List Addr} {xs : List Wt} (h : ∀ p ∈ as.zip xs, IsWt g p.1 p.2) : ∀ (j : Nat) (a : Addr) (x : Wt), as[j]? = some a → xs[j]? = some x → IsWt g a x := fun j a x ha hx => by
  refine h (a, x) ?_
  refine List.mem_of_getElem? (i := j) ?_
  rw [List.getElem?_zip_eq_some]
  exact ⟨ha, hx⟩
theorem len6 {ys : List Addr} (h : ys.length = 6) : ∃ a b c d e f, ys = [a, b, c, d, e, f] := by
  match ys, h with
  | [a, b, c, d, e, f], _ => exact ⟨a, b, c, d, e, f, rfl⟩
theorem enterT {prog : Program} {w : World} {A : Around} {R : Result → Shared → Prop} {s : Shared} {K : Frag} {h₀ : Heap} {L P : Addr} {m mg mb : Str → Option Value} {p : Program} {loose : List Str} {mean : ExcName → Option Value} {tb : Obj} {name qual : Str} {params : Arguments} {body : List Stmt} {scope : Scope} {dV kV doc pm cdv ct oc : Value} {an od : Option Addr} {osl : Array (Option Value)} {f : Addr} {args : Args} {binds : List (Str × Value)}
    (F : Fr h₀ L s.heap m) (N : News h₀ L s.heap [(P, tb)]) (X : K.In h₀) (T : Top p loose mean mg mb h₀) (ho : K.lookup f = some ⟨oc, od, .func (fnOf name qual params body scope dV kV doc pm an cdv ct), osl⟩) (hcd : codeIn K cdv qual = true) (hroom : A.depth < recursionLimit)
    (hbind : BindsTo s (fnOf name qual params body scope dV kV doc pm an cdv ct) args binds) (hloc : ∀ y ∈ binds, scope.names.lookup y.1 = some .local)
    (h : ∀ g L' h₁, (∀ b o, b ≠ P → s.heap.get? b = some o → g.get? b = some o) → h₀.StaysIn g → P < L' → Fr g L' h₁ (fun y => binds.reverse.lookup y) → News g L' h₁ [(P, tb)] →
      wpAny (model prog w) (A.deeper (envOf qual scope L' f cdv)) (execs body (envOf qual scope L' f cdv))
        (fun fl s' => R (.ok (.ret (match fl with | .ret v => v | _ => .none))) s') NoE { s with heap := h₁, toks := s.toks + binds.length })
    (hco : scope.isCoroutine = false) (hgen : scope.isGenerator = false) (hk : scope.kind = .function)
    (hcell : ∀ x ∈ scope.names, x.2 ≠ .cell) : codeAny (model prog w) A (.call (.ref f) args) R s := by
  have hP := N _ List.mem_cons_self
  have hg : ∀ b o, b ≠ P → s.heap.get? b = some o → (hideAll s.heap [P]).get? b = some o := fun b o hb e => hideAll_get _ e (by simpa using hb)
  have st : h₀.StaysIn (hideAll s.heap [P]) := fun b o e => hg b o (fun q => by rw [q] at e; rw [hP.2.2] at e; cases e) (F.keep b o e)
  have X' := X.keeps F.keep
  refine codeAny_call_def (fd := fnOf name qual params body scope dV kV doc pm an cdv ct) hroom (X' _ _ ho) rfl (T.nolimit.keeps F.keep) (codeRec_of X' hcd) rfl hbind hcell hloc (fun h₁ hns hk₁ => ?_) hco hgen hk
  refine wpAny_mono (h (hideAll s.heap [P]) s.heap.objs.size h₁ hg st (Heap.lt_size hP.1) ⟨hns, fun b o e => hk₁ b o (of_hideAll _ e), Nat.le_of_eq (hideAll_size _ _)⟩ (fun q hq => ?_)) (fun _ _ x => x) fun _ _ x => x.elim
  rw [List.mem_singleton.mp hq]
  exact ⟨hk₁ _ _ hP.1, Nat.ne_of_lt (Heap.lt_size hP.1), hideAll_none _ (by simp)⟩
theorem statics {h : Heap} {o : Obj} {ep : Nat} (ho : h.get? 2 = some o) (hd : o.data = .dict #[] ep) : h.Ns cStatics (fun _ => none) := ⟨o, #[], ep, ho, hd, by intro e he; simp at he, fun _ => rfl⟩
abbrev agLed (X : Nat → Wt) (a : Addr) (n : Nat) (y0 y1 y2 y3 y4 y5 y6 : Addr) (ta0 tb0 tc0 td0 ta1 tb1 tc1 td1 ta2 tb2 tc2 td2 ta3 tb3 tc3 td3 ta4 tb4 tc4 td4 ta5 tb5 tc5 td5 ta6 tb6 tc6 td6 : Tok) (m0 m1 m2 m3 m4 m5 m6 : Nat) (ps : Array Value) : List (Addr × Obj) := [(a, lst ([y0, y1, y2, y3, y4, y5, y6].map Value.ref) n), (y0, lst [.int (X 0).w ta0, .float (X 0).y tb0, .float (X 0).i tc0, .float (X 0).q td0] m0), (y1, lst [.int (X 1).w ta1, .float (X 1).y tb1, .float (X 1).i tc1, .float (X 1).q td1] m1), (y2, lst [.int (X 2).w ta2, .float (X 2).y tb2, .float (X 2).i tc2, .float (X 2).q td2] m2), (y3, lst [.int (X 3).w ta3, .float (X 3).y tb3, .float (X 3).i tc3, .float (X 3).q td3] m3), (y4, lst [.int (X 4).w ta4, .float (X 4).y tb4, .float (X 4).i tc4, .float (X 4).q td4] m4), (y5, lst [.int (X 5).w ta5, .float (X 5).y tb5, .float (X 5).i tc5, .float (X 5).q td5] m5), (y6, lst [.int (X 6).w ta6, .float (X 6).y tb6, .float (X 6).i tc6, .float (X 6).q td6] m6), (75, tabObj ps)]
abbrev agM (la wa a : Addr) : Str → Option Value := fun z => if z = Str.ofString "stages" then some (.ref a) else if z = Str.ofString "weighed" then some (.ref wa) else if z = Str.ofString "rows" then some (.ref la) else none
def AgG (g : Heap) (L la : Addr) (d0 d1 d2 d3 d4 d5 d6 : RowD) (s s' : Shared) : Prop :=
  ∃ (X : Nat → Wt) (h : Heap) (tk : Nat) (wa a : Addr) (n : Nat) (y0 y1 y2 y3 y4 y5 y6 : Addr) (ta0 tb0 tc0 td0 ta1 tb1 tc1 td1 ta2 tb2 tc2 td2 ta3 tb3 tc3 td3 ta4 tb4 tc4 td4 ta5 tb5 tc5 td5 ta6 tb6 tc6 td6 : Tok) (m0 m1 m2 m3 m4 m5 m6 : Nat) (ps : Array Value), X = accN (wOf d0) [wOf d1, wOf d2, wOf d3, wOf d4, wOf d5, wOf d6] ∧ s' = { s with heap := h, toks := tk } ∧ Fr g L h (agM la wa a) ∧
    News g L h (agLed X a n y0 y1 y2 y3 y4 y5 y6 ta0 tb0 tc0 td0 ta1 tb1 tc1 td1 ta2 tb2 tc2 td2 ta3 tb3 tc3 td3 ta4 tb4 tc4 td4 ta5 tb5 tc5 td5 ta6 tb6 tc6 td6 m0 m1 m2 m3 m4 m5 m6 ps)
theorem AgG.elim {g : Heap} {L la : Addr} {d0 d1 d2 d3 d4 d5 d6 : RowD} {s s' : Shared} {P : Prop} (x : AgG g L la d0 d1 d2 d3 d4 d5 d6 s s')
    (k : ∀ (X : Nat → Wt) (h : Heap) (tk : Nat) (wa a : Addr) (n : Nat) (y0 y1 y2 y3 y4 y5 y6 : Addr) (ta0 tb0 tc0 td0 ta1 tb1 tc1 td1 ta2 tb2 tc2 td2 ta3 tb3 tc3 td3 ta4 tb4 tc4 td4 ta5 tb5 tc5 td5 ta6 tb6 tc6 td6 : Tok) (m0 m1 m2 m3 m4 m5 m6 : Nat) (ps : Array Value), X = accN (wOf d0) [wOf d1, wOf d2, wOf d3, wOf d4, wOf d5, wOf d6] → s' = { s with heap := h, toks := tk } → Fr g L h (agM la wa a) → News g L h (agLed X a n y0 y1 y2 y3 y4 y5 y6 ta0 tb0 tc0 td0 ta1 tb1 tc1 td1 ta2 tb2 tc2 td2 ta3 tb3 tc3 td3 ta4 tb4 tc4 td4 ta5 tb5 tc5 td5 ta6 tb6 tc6 td6 m0 m1 m2 m3 m4 m5 m6 ps) → P) : P := by
  obtain ⟨X, h, tk, wa, a, n, y0, y1, y2, y3, y4, y5, y6, ta0, tb0, tc0, td0, ta1, tb1, tc1, td1, ta2, tb2, tc2, td2, ta3, tb3, tc3, td3, ta4, tb4, tc4, td4, ta5, tb5, tc5, td5, ta6, tb6, tc6, td6, m0, m1, m2, m3, m4, m5, m6, ps, e1, e2, e3, e4⟩ := x
  exact k _ _ _ _ _ _ _ _ _ _ _ _ _ _ _ _ _ _ _ _ _ _ _ _ _ _ _ _ _ _ _ _ _ _ _ _ _ _ _ _ _ _ _ _ _ _ _ _ _ e1 e2 e3 e4
theorem split3 {M : Model} {A : Around} {env : Env} {E : Value → Shared → Prop} {s : Shared} {Q : Flow → Shared → Prop} {s1 s2 s3 : Stmt} {rest : List Stmt} (G : Shared → Prop) (tail : ∀ s', G s' → wpAny M A (execs rest env) Q E s')
    (head : wpAny M A (execs [s1, s2, s3] env) (fun f s' => match f with | .next => G s' | f => Q f s') E s) : wpAny M A (execs (s1 :: s2 :: s3 :: rest) env) Q E s := by
  intro Γ p hΓ
  have key : ∀ (l : List Stmt) (p : Pos) (s : Shared), Sem.wp M Γ (execs l env) (fun f _ s' => match f with | .next => G s' | f => Q f s') (fun e _ s' => E e s') p s → Sem.wp M Γ (execs (l ++ rest) env) (fun f _ s' => Q f s') (fun e _ s' => E e s') p s := by
    intro l
    induction l with
    | nil => exact fun p s h => tail s h Γ p hΓ
    | cons st l ih =>
      intro p s h
      rw [execs_cons, Sem.wp_bind'] at h
      show Sem.wp M Γ (execs (st :: (l ++ rest)) env) _ _ p s
      rw [execs_cons, Sem.wp_bind']
      refine Sem.wp_mono M Γ _ (fun f p' s' hf => ?_) (fun _ _ _ x => x) p s h
      cases f with
      | next => exact ih p' s' hf
      | brk => exact hf
      | cont => exact hf
      | ret v => exact hf
  exact key [s1, s2, s3] p s (head Γ p hΓ)
end Mine
namespace Mine
structure TurnK (h₀ : Heap) (L I : Addr) (oI : Obj) (m : Str → Option Value) (x : Str) (news : List (Addr × Obj)) (s : Shared) (f : Flow) (s' : Shared) : Prop where
  next : f = .next
  here : ∃ h' tk' m', s' = { s with heap := h', toks := tk' } ∧ Fr h₀ L h' m' ∧ (∀ z, z ≠ x → m' z = m z) ∧ News h₀ L h' ((I, oI) :: news)
theorem map_but {m m' : Str → Option Value} {x : Str} (h : ∀ z, z ≠ x → m' z = m z) : m' = fun z => if z = x then m' x else m z := by
  funext z
  by_cases e : z = x
  · rw [if_pos e, e]
  · rw [if_neg e, h z e]
theorem range_for {prog : Program} {w : World} {A : Around} {env : Env} {s : Shared} {x : Str} {px : Pos} {body : List Stmt} {Q : Flow → Shared → Prop} {h₀ : Heap} {m : Str → Option Value} {news : List (Addr × Obj)} {r : Addr} {t u v : Tok} (n : Nat) (hh : A.handled = none)
    (F : Fr h₀ env.locals s.heap m) (N : News h₀ env.locals s.heap news) (hr : IsRange s.heap r 0 n 1 t u v) (hsm : Builtin.Range.small 0 n 1 = true) (hn : Builtin.Range.rangeSize 0 n 1 = (n : Int))
    (turn : ∀ i I t u h₁ tk oI, i < n → Fr h₀ env.locals h₁ (fun z => if z = x then u else m z) → News h₀ env.locals h₁ ((I, oI) :: news) →
      wpAny (model prog w) A (assign (.Name x px) env (.int ((i : Nat) : Int) t)) (fun _ s₃ => wpAny (model prog w) A (execs body env) (TurnK h₀ env.locals I oI m x news { s with heap := h₁, toks := tk }) NoE s₃) NoE { s with heap := h₁, toks := tk })
    (done : ∀ u h₁ tk, Fr h₀ env.locals h₁ (fun z => if z = x then u else m z) → News h₀ env.locals h₁ news → Q .next { s with heap := h₁, toks := tk }) :
    wpAny (model prog w) A (pyIter (.ref r)) (ForAt prog w A env x px body Q) NoE s := by
  refine wpAny_pyIter_range hr hsm ?_
  have hI0 : h₀.get? s.heap.objs.size = none := next_is_new F
  have hIL : s.heap.objs.size ≠ env.locals := Ne.symm (Nat.ne_of_lt F.ns.lt)
  have hoff : ∀ p ∈ news, p.1 ≠ s.heap.objs.size := fun p hp => Nat.ne_of_lt (Heap.lt_size (N p hp).1)
  refine ⟨s.heap.objs.size, _, _, n, _, _, fun i s' => ∃ h tk u, s' = { s with heap := h, toks := tk } ∧ IsRangeIter h s.heap.objs.size (0 + (i : Nat) * 1) ((n : Int) - (i : Nat)) 1 ∧ Fr h₀ env.locals h (fun z => if z = x then u else m z) ∧ News h₀ env.locals h news, rfl,
    (Walks.range hh _ 0 1 n).bound, ?_, ?_, ?_, ?_⟩
  · rintro i s' ⟨h, tk, u, rfl, hit, _, _⟩
    exact hit
  · refine ⟨_, s.toks, m x, rfl, ?_, ?_, fun p hp => ⟨Heap.get?_push_of_some _ (N p hp).1, (N p hp).2⟩⟩
    · show IsRangeIter _ _ _ _ _
      rw [hn]
      simpa using Heap.get?_push_size _ rfl
    · have e : (fun z => if z = x then m x else m z) = m := (map_but fun _ _ => rfl).symm
      rw [e]
      exact F.push _
  · rintro i s' v h' tk' hi ⟨h, tk, u, rfl, hit, F₁, N₁⟩ ⟨_, t, rfl⟩ hSt hk
    have F₂ := LCg.fr_but F₁ hk (Ne.symm hIL) hI0
    have hSt' : h'.get? s.heap.objs.size = some _ := hSt
    have N₂ : News h₀ env.locals h' ((s.heap.objs.size, _) :: news) := fun p hp => by
      rcases List.mem_cons.mp hp with rfl | hp
      · exact ⟨hSt', hIL, hI0⟩
      · exact LCg.news_but N₁ hk hoff p hp
    have e : (0 : Int) + (i : Int) * 1 = (i : Int) := by omega
    rw [e]
    refine wpAny_mono (turn i _ t u h' tk' _ hi F₂ N₂) (fun _ s₃ h₃ => wpAny_mono h₃ (fun f s₄ h₄ => ?_) fun _ _ e => e) fun _ _ e => e
    obtain ⟨rfl, h₅, tk₅, m₅, rfl, F₅, hm, N₅⟩ := h₄
    rw [map_but hm] at F₅
    exact ⟨h₅, tk₅, _, rfl, (N₅ _ List.mem_cons_self).1, F₅, fun p hp => N₅ p (List.mem_cons_of_mem _ hp)⟩
  · rintro s' h' tk' ⟨h, tk, u, rfl, hit, F₁, N₁⟩ hk
    exact done u h' tk' (LCg.fr_but F₁ hk (Ne.symm hIL) hI0) (LCg.news_but N₁ hk hoff)
end Mine
end
theorem Mine.off18 : True := by (w_top off); trivial
section
open PySem PySem.W PySem.Spec PySem.Calls PyProof.Rows
set_option maxRecDepth 100000
set_option maxHeartbeats 2000000
set_option pp.deepTerms false
namespace Mine
theorem look1 (a : Str) (x : Value) : (fun s => List.lookup s [(a, x)]) = fun s => if s = a then some x else none := by
  funext s
  simp only [List.lookup]
  by_cases h1 : s = a
  · simp [h1]
  · simp only [if_neg h1, beq_eq_false_iff_ne.mpr h1]
local macro_rules | `(tactic| walk_at "exec Assign cons ListComp") => `(tactic| (k_here; k_dflt (refine LCg.Assign_ListComp_U (F₀ := by k_asm) (by rfl) (by with_unfolding_all rfl) (by rfl) (by decide) (by rfl) (by decide) (by rfl) (by rfl) (by rfl) ?_)))
local macro_rules | `(tactic| walk_at "CompSrc") => `(tactic| (k_here; k_dflt (refine LCg.CompSrc.base (by rfl) (by k_asm) (by k_asm) (by assumption) (by first | size_fits | exact Nat.le_of_ble_eq_true rfl) ?_; intro g'; lcg_lit)))
local macro_rules | `(tactic| walk_at "CompRest") => `(tactic| (with_unfolding_all first
  | (refine LCg.CompRest.succ ?_; intro v' I' oI' C' oC' D' m' h' tk' E' hv' hC' hx' F' N' off' ne'; clear ne'; (first | lcg_open hv' | (obtain ⟨t9', hv9'⟩ := hv'; subst hv9')))
  | refine LCg.CompRest.zero ?_))
local macro_rules | `(tactic| walk_at "CompEnd") => `(tactic| (k_dflt (refine' compEnd_new ?F ?N ?o1 ?off ?S ?_; (case F => assumption); (case N => assumption); (case o1 => assumption); (case off => assumption); (case S => lcg_src))))
local macro_rules | `(tactic| walk_at "FinA") => `(tactic| ((unfold LCg.FinA); intro D' h' tk' F' N' o1'; (try simp only [List.nil_append, List.cons_append] at N'); (try dsimp only)))
local macro_rules | `(tactic| walk_at "call ref") => `(tactic| (k_here; (with_reducible show wpAny _ _ (call (Value.ref 56) _) _ _ _); k_dflt (refine' use_weighed ?k1 ?k2 ?k3 ?k4 ?k5 ?k6 ?k7 ?k8 ?_; (case k1 => k_asm); (case k2 => k_asm); (case k3 => k_asm); (case k4 => k_asm); (case k5 => ktr_room); (case k6 => ktr_units); (case k7 => assumption); (case k8 => assumption); k_whole; intro c' t1' t2' t3' t4' n' h' tk' F' N' o1')))
local macro_rules | `(tactic| walk_at "call ref") => `(tactic| (k_here; (with_reducible show wpAny _ _ (call (Value.ref 37) _) _ _ _); k_dflt (refine halt_tree ?_)))
local macro_rules | `(tactic| k_ne) => `(tactic| (refine neN ?_; (try dsimp only); first
  | (refine' Ne.symm (off1_mem ?h (_, _) ?hm); (case h => with_reducible assumption); (case hm => k_mem))
  | (refine' off1_mem ?h (_, _) ?hm; (case h => with_reducible assumption); (case hm => k_mem))
  | omega))
local macro_rules | `(tactic| walk_at "compareOp NotEq ref ref") => `(tactic| (k_here; k_dflt (refine halt_tree ?_)))
local macro_rules | `(tactic| walk_at "call ref") => `(tactic| (k_here; (with_reducible show wpAny _ _ (call (Value.ref 73) _) _ _ _); k_dflt (refine halt_tree ?_)))
local macro_rules | `(tactic| walk_at "exec For Name Call cons nil") => `(tactic| (k_here; k_dflt (refine for_inv ?_)))
local macro_rules | `(tactic| walk_at "execs nil") => `(tactic| (k_here; (with_reducible show wpAny _ _ _ (TurnK _ _ _ _ _ _ _ _) _ _); k_dflt (refine halt_nil ?_)))
local macro_rules | `(tactic| walk_at "subscriptTail Name Name ref int") => `(tactic| (k_here; k_dflt (refine' item_at ?k1 ?k2 ?k3 ?k4 ?_ ?k6; (case k1 => is_list); (case k2 => decide); (case k3 => decide); (case k4 => rfl); (case k6 => with_unfolding_all rfl); k_whole)))
local macro_rules | `(tactic| walk_at "pyIter ref") => `(tactic| (k_here; k_dflt (refine halt_tree ?_)))
theorem c_agrees (w : World) (la : Addr) (d0 d1 d2 d3 d4 d5 d6 : RowD) (ok : ∀ d ∈ [d0, d1, d2, d3, d4, d5, d6], d.Ok)
    (fy : Float64.isFinite (accN (wOf d0) [wOf d1, wOf d2, wOf d3, wOf d4, wOf d5, wOf d6] 6).y = true) (fi : Float64.isFinite (accN (wOf d0) [wOf d1, wOf d2, wOf d3, wOf d4, wOf d5, wOf d6] 6).i = true) (fq : Float64.isFinite (accN (wOf d0) [wOf d1, wOf d2, wOf d3, wOf d4, wOf d5, wOf d6] 6).q = true)
    {p : Program} {loose : List Str} {mean : ExcName → Option Value} {mg mb : Str → Option Value} {dp un : Nat} {fr : Option (List Env)} {gd : Option (List Code)} {s : Shared} {Q E : Value → Shared → Prop} {h₀ : Heap} {L : Addr} {m : Str → Option Value}
    (F : Fr h₀ L s.heap m) (N : News h₀ L s.heap [(75, tabObj #[])]) (X : (hd.heap_39 w.params).In h₀) (T : Top p loose mean mg mb h₀) (C : CodeHd h₀ 77 75) (hacc : ∀ k, k < 7 → sW ([d0, d1, d2, d3, d4, d5, d6].take (k + 1)) = (accN (wOf d0) [wOf d1, wOf d2, wOf d3, wOf d4, wOf d5, wOf d6] k).w)
    (hst : ∀ k, k < 7 → StageOk (sW ([d0, d1, d2, d3, d4, d5, d6].take (k + 1))) (sR ([d0, d1, d2, d3, d4, d5, d6].take (k + 1))) (sG ([d0, d1, d2, d3, d4, d5, d6].take (k + 1))) (sB ([d0, d1, d2, d3, d4, d5, d6].take (k + 1))) (accN (wOf d0) [wOf d1, wOf d2, wOf d3, wOf d4, wOf d5, wOf d6] k).y (accN (wOf d0) [wOf d1, wOf d2, wOf d3, wOf d4, wOf d5, wOf d6] k).i (accN (wOf d0) [wOf d1, wOf d2, wOf d3, wOf d4, wOf d5, wOf d6] k).q)
    (hdp : dp + 8 < recursionLimit) (hun : un + 256 < cLine)
    (hla : s.heap.IsList la [Value.ref d0.a, Value.ref d1.a, Value.ref d2.a, Value.ref d3.a, Value.ref d4.a, Value.ref d5.a, Value.ref d6.a].toArray) (hrs : ∀ d ∈ [d0, d1, d2, d3, d4, d5, d6], s.heap.IsList d.a d.items.toArray)
    (hret : ∀ h' tk' ps, (∀ b o, b ≠ 75 → s.heap.get? b = some o → h'.get? b = some o) → h'.get? 75 = some (tabObj ps) → Q (.bool true) { s with heap := h', toks := tk' }) :
    wpAny (model PySem.Challenge.rw_mq0087_01.row.prog w) { handled := none, depth := dp, frames := fr, guards := gd, units := un } (call (.ref 78) [.ref la]) Q E s := by
  revert X; k_fill; intro X
  refine wpAny_call ?_
  k_dflt (refine' enterT F N X T ?k2 ?k3 ?k1 ?k6 ?k7 ?_ ?c1 ?c2 ?c3 ?c4; (case k2 => k_is); (case k3 => k_is); (case k1 => exact Nat.lt_of_le_of_lt (Nat.le_add_right _ _) hdp); (case k6 => exact BindsTo.of_eq rfl); (case k7 => exact locs rfl); (case c1 => exact rfl); (case c2 => exact rfl); (case c3 => exact rfl); (case c4 => decide))
  intro g L' h₁ hg st hPL F' N'
  replace F' : Fr g L' h₁ (fun z => List.lookup z [(Str.ofString "rows", .ref la)]) := F'
  rw [look1] at F'
  have X' := X.keeps st
  have T' := T.keeps st
  have C' := C.keeps st
  have n75 : ∀ {a : Addr} {its : Array Value}, s.heap.IsList a its → a ≠ 75 := fun {a its} x e => by
    obtain ⟨o, ho, hc, _⟩ := x
    rw [e, (N _ List.mem_cons_self).1] at ho
    cases ho
    cases hc
  have hla' := hla.at fun o e => hg la o (n75 hla) e
  have hr : ∀ d ∈ [d0, d1, d2, d3, d4, d5, d6], g.IsList d.a d.items.toArray := fun d hd => (hrs d hd).at fun o e => hg d.a o (n75 (hrs d hd)) e
  have r0 := hr d0 (by simp)
  have r1 := hr d1 (by simp)
  have r2 := hr d2 (by simp)
  have r3 := hr d3 (by simp)
  have r4 := hr d4 (by simp)
  have r5 := hr d5 (by simp)
  have r6 := hr d6 (by simp)
  have k0 := ok d0 (by simp)
  have k1 := ok d1 (by simp)
  have k2 := ok d2 (by simp)
  have k3 := ok d3 (by simp)
  have k4 := ok d4 (by simp)
  have k5 := ok d5 (by simp)
  have k6 := ok d6 (by simp)
  clear F N X T C hla hrs
  have h2 : ∃ o ep, g.get? 2 = some o ∧ o.data = .dict #[] ep := ⟨_, _, X' _ _ (by k_dflt k_is), rfl⟩
  obtain ⟨o2, ep2, ho2, hd2⟩ := h2
  k_dflt (refine split3 (fun s' => Halt (AgG g L' la d0 d1 d2 d3 d4 d5 d6 s s')) ?_ ?_)
  rotate_left
  · skip
    k_steps
    (rename Fr _ _ _ _ => F9); (rename News _ _ _ _ => N9)
    unfold Halt
    refine c_stages w _ _ _ _ _ 0 _ _ _ _ _ _ _ _ _ _ _ _ _ _ _ _ _ (wOf d0) [_, _, _, _, _, _] [wOf d1, wOf d2, wOf d3, wOf d4, wOf d5, wOf d6] rfl (by simp) (by simp) p loose mean mg mb _ _ _ _ _ _ _ (by show dp + 1 + 4 < recursionLimit; omega) (by show un + 3 + 96 < cLine; omega) (X'.keeps F9.keep) (T'.keeps F9.keep)
      ⟨⟨_, (N9 _ (.tail _ (.head _))).1, rfl, _, rfl⟩, (N9 _ (.tail _ (.tail _ (.head _)))).1, codeRec_news N9 (.tail _ (.tail _ (.tail _ (.head _)))) (by assumption) (by assumption), (N9 _ (.head _)).1, ⟨_, _, _, _, _, (N9 (_, _) (by k_mem)).1⟩, wt_all ?_⟩ ?_
    · refine List.forall_mem_cons.mpr ⟨⟨_, _, _, _, _, (N9 (_, _) (by k_mem)).1⟩, List.forall_mem_cons.mpr ⟨⟨_, _, _, _, _, (N9 (_, _) (by k_mem)).1⟩, List.forall_mem_cons.mpr ⟨⟨_, _, _, _, _, (N9 (_, _) (by k_mem)).1⟩, List.forall_mem_cons.mpr ⟨⟨_, _, _, _, _, (N9 (_, _) (by k_mem)).1⟩, List.forall_mem_cons.mpr ⟨⟨_, _, _, _, _, (N9 (_, _) (by k_mem)).1⟩, List.forall_mem_cons.mpr ⟨⟨_, _, _, _, _, (N9 (_, _) (by k_mem)).1⟩, List.forall_mem_nil _⟩⟩⟩⟩⟩⟩
    intro v h' tk' hk ⟨a, n, ys, ev, fa, ea, hys, fys, hj⟩
    subst ev
    obtain ⟨y1, y2, y3, y4, y5, y6, rfl⟩ := len6 hys
    obtain ⟨ta1, tb1, tc1, td1, m1, zb1, zc1, zd1, e1⟩ := hj 1 y1 rfl (by decide)
    obtain ⟨ta2, tb2, tc2, td2, m2, zb2, zc2, zd2, e2⟩ := hj 2 y2 rfl (by decide)
    obtain ⟨ta3, tb3, tc3, td3, m3, zb3, zc3, zd3, e3⟩ := hj 3 y3 rfl (by decide)
    obtain ⟨ta4, tb4, tc4, td4, m4, zb4, zc4, zd4, e4⟩ := hj 4 y4 rfl (by decide)
    obtain ⟨ta5, tb5, tc5, td5, m5, zb5, zc5, zd5, e5⟩ := hj 5 y5 rfl (by decide)
    obtain ⟨ta6, tb6, tc6, td6, m6, zb6, zc6, zd6, e6⟩ := hj 6 y6 rfl (by decide)
    have N10 := back_list F9 N9 hk [(a, _), (y6, _), (y5, _), (y4, _), (y3, _), (y2, _), (y1, _)] (List.forall_mem_cons.mpr ⟨⟨fa, ea⟩, List.forall_mem_cons.mpr ⟨⟨fys _ (by simp), e6⟩, List.forall_mem_cons.mpr ⟨⟨fys _ (by simp), e5⟩, List.forall_mem_cons.mpr ⟨⟨fys _ (by simp), e4⟩, List.forall_mem_cons.mpr ⟨⟨fys _ (by simp), e3⟩, List.forall_mem_cons.mpr ⟨⟨fys _ (by simp), e2⟩, List.forall_mem_cons.mpr ⟨⟨fys _ (by simp), e1⟩, List.forall_mem_nil _⟩⟩⟩⟩⟩⟩⟩)
    have F10 := F9.keeps hk
    simp only [List.cons_append, List.nil_append] at N10
    clear N9 F9 hk hj e1 e2 e3 e4 e5 e6
    k_steps
    (rename Fr _ _ _ _ => F11); (rename News _ _ _ _ => N11)
    unfold Halt
    refine c_total w _ _ (wOf d0) [_, _, _, _, _, _] [wOf d1, wOf d2, wOf d3, wOf d4, wOf d5, wOf d6] rfl (by simp) p loose mean mg mb _ _ _ _ _ _ _ (by show dp + 1 + 2 < recursionLimit; omega) (by show un + 3 + 64 < cLine; omega) (X'.keeps F11.keep) (T'.keeps F11.keep)
      ⟨⟨_, (N11 (_, _) (by k_mem)).1, rfl, _, rfl⟩, ⟨_, _, _, _, _, (N11 (_, _) (by k_mem)).1⟩, wt_all ?_⟩ ?_
    · refine List.forall_mem_cons.mpr ⟨⟨_, _, _, _, _, (N11 (_, _) (by k_mem)).1⟩, List.forall_mem_cons.mpr ⟨⟨_, _, _, _, _, (N11 (_, _) (by k_mem)).1⟩, List.forall_mem_cons.mpr ⟨⟨_, _, _, _, _, (N11 (_, _) (by k_mem)).1⟩, List.forall_mem_cons.mpr ⟨⟨_, _, _, _, _, (N11 (_, _) (by k_mem)).1⟩, List.forall_mem_cons.mpr ⟨⟨_, _, _, _, _, (N11 (_, _) (by k_mem)).1⟩, List.forall_mem_cons.mpr ⟨⟨_, _, _, _, _, (N11 (_, _) (by k_mem)).1⟩, List.forall_mem_nil _⟩⟩⟩⟩⟩⟩
    intro v h' tk' hk ⟨c, ev, fc, tac, tbc, tcc, tdc, mc, zbc, zcc, zdc, ec⟩
    subst ev
    have N12 := back_list F11 N11 hk [(c, _)] (List.forall_mem_cons.mpr ⟨⟨fc, ec⟩, List.forall_mem_nil _⟩)
    have F12 := F11.keeps hk
    simp only [List.cons_append, List.nil_append] at N12
    clear N11 F11 hk ec
    k_steps
    (rename Fr _ _ _ _ => F13); (rename News _ _ _ _ => N13)
    unfold Halt
    refine wp_ne (statics (F13.keep _ _ ho2) hd2) rfl (x := accN (wOf d0) [wOf d1, wOf d2, wOf d3, wOf d4, wOf d5, wOf d6] 6) ⟨tac, tbc, tcc, tdc, mc, zbc, zcc, zdc, (N13 (_, _) (by k_mem)).1⟩ ⟨ta6, tb6, tc6, td6, m6, zb6, zc6, zd6, (N13 (_, _) (by k_mem)).1⟩ fy fi fq (by show un + 3 < cLine; omega) ?_
    k_steps
    show AgG g L' la d0 d1 d2 d3 d4 d5 d6 s _
    (rename Fr _ _ _ _ => F14); (rename News _ _ _ _ => N14)
    refine' ⟨accN (wOf d0) [wOf d1, wOf d2, wOf d3, wOf d4, wOf d5, wOf d6], _, _, _, a, n, _, y1, y2, y3, y4, y5, y6, _, _, _, _, _, _, _, _, _, _, _, _, _, _, _, _, _, _, _, _, _, _, _, _, _, _, _, _, _, _, _, _, _, _, _, _, rfl, rfl, F14, ?sub⟩
    case sub => exact cb_drop N14 (by lcg_sub)
  · intro s' hG
    refine hG.elim ?_
    clear hG
    intro X9 h2 tk2 wa a n y0 y1 y2 y3 y4 y5 y6 ta0 tb0 tc0 td0 ta1 tb1 tc1 td1 ta2 tb2 tc2 td2 ta3 tb3 tc3 td3 ta4 tb4 tc4 td4 ta5 tb5 tc5 td5 ta6 tb6 tc6 td6 m0 m1 m2 m3 m4 m5 m6 ps eX es F2 N2
    subst es
    rw [← eX] at hacc hst
    clear eX fy fi fq r0 r1 r2 r3 r4 r5 r6 k0 k1 k2 k3 k4 k5 k6 C'
    clear F' N'
    k_steps
    (rename Fr _ _ _ _ => F3); (rename News _ _ _ _ => N3); (rename IsRange _ _ _ _ _ _ _ _ => hr3)
    unfold Halt
    refine range_for 7 rfl F3 N3 hr3 (by decide) (by decide) ?_ ?_
    · clear F3 N3 hr3
      intro i I t u h4 tk4 oI hi F4 N4
      match i, hi with
      | 0, _ =>
        k_steps
        (rename Fr _ _ _ _ => F5); (rename News _ _ _ _ => N5)
        unfold Halt
        refine c_stage w [d0] _ _ _ _ _ _ _ _ _ _ (fun d hd => ok d (List.mem_of_mem_take (i := 1) hd)) (hacc 0 (by decide)) (by have q := hst 0 (by decide); rw [hacc 0 (by decide)] at q; exact q) p loose mean mg mb _ _ _ _ _ _ _ (by show dp + 1 + 2 < recursionLimit; omega) (by show un + 3 + 128 < cLine; omega) (X'.keeps F5.keep) (T'.keeps F5.keep)
          ⟨⟨_, (N5 (_, _) (by k_mem)).1, rfl, _, rfl⟩, fun d hd => (hr d (List.mem_of_mem_take (i := 1) hd)).at fun o e => F5.keep _ o e, ⟨_, (N5 (_, _) (by k_mem)).1, rfl, _, rfl⟩⟩ ?_
        intro v5 h5 tk5 hk5 ev
        have ev' : v5 = .bool true := ev
        subst ev'
        have F6 := F5.keeps hk5
        have N6 := N5.grown hk5
        clear F5 N5 hk5
        k_steps
        (rename Fr _ _ _ _ => F7); (rename News _ _ _ _ => N7)
        unfold Halt
        exact ⟨rfl, _, _, _, rfl, F7, fun z hz => by simp only [if_neg hz], cb_drop N7 (by lcg_sub)⟩
      | 1, _ =>
        k_steps
        (rename Fr _ _ _ _ => F5); (rename News _ _ _ _ => N5)
        unfold Halt
        refine c_stage w [d0, d1] _ _ _ _ _ _ _ _ _ _ (fun d hd => ok d (List.mem_of_mem_take (i := 2) hd)) (hacc 1 (by decide)) (by have q := hst 1 (by decide); rw [hacc 1 (by decide)] at q; exact q) p loose mean mg mb _ _ _ _ _ _ _ (by show dp + 1 + 2 < recursionLimit; omega) (by show un + 3 + 128 < cLine; omega) (X'.keeps F5.keep) (T'.keeps F5.keep)
          ⟨⟨_, (N5 (_, _) (by k_mem)).1, rfl, _, rfl⟩, fun d hd => (hr d (List.mem_of_mem_take (i := 2) hd)).at fun o e => F5.keep _ o e, ⟨_, (N5 (_, _) (by k_mem)).1, rfl, _, rfl⟩⟩ ?_
        intro v5 h5 tk5 hk5 ev
        have ev' : v5 = .bool true := ev
        subst ev'
        have F6 := F5.keeps hk5
        have N6 := N5.grown hk5
        clear F5 N5 hk5
        k_steps
        (rename Fr _ _ _ _ => F7); (rename News _ _ _ _ => N7)
        unfold Halt
        exact ⟨rfl, _, _, _, rfl, F7, fun z hz => by simp only [if_neg hz], cb_drop N7 (by lcg_sub)⟩
      | 2, _ =>
        k_steps
        (rename Fr _ _ _ _ => F5); (rename News _ _ _ _ => N5)
        unfold Halt
        refine c_stage w [d0, d1, d2] _ _ _ _ _ _ _ _ _ _ (fun d hd => ok d (List.mem_of_mem_take (i := 3) hd)) (hacc 2 (by decide)) (by have q := hst 2 (by decide); rw [hacc 2 (by decide)] at q; exact q) p loose mean mg mb _ _ _ _ _ _ _ (by show dp + 1 + 2 < recursionLimit; omega) (by show un + 3 + 128 < cLine; omega) (X'.keeps F5.keep) (T'.keeps F5.keep)
          ⟨⟨_, (N5 (_, _) (by k_mem)).1, rfl, _, rfl⟩, fun d hd => (hr d (List.mem_of_mem_take (i := 3) hd)).at fun o e => F5.keep _ o e, ⟨_, (N5 (_, _) (by k_mem)).1, rfl, _, rfl⟩⟩ ?_
        intro v5 h5 tk5 hk5 ev
        have ev' : v5 = .bool true := ev
        subst ev'
        have F6 := F5.keeps hk5
        have N6 := N5.grown hk5
        clear F5 N5 hk5
        k_steps
        (rename Fr _ _ _ _ => F7); (rename News _ _ _ _ => N7)
        unfold Halt
        exact ⟨rfl, _, _, _, rfl, F7, fun z hz => by simp only [if_neg hz], cb_drop N7 (by lcg_sub)⟩
      | 3, _ =>
        k_steps
        (rename Fr _ _ _ _ => F5); (rename News _ _ _ _ => N5)
        unfold Halt
        refine c_stage w [d0, d1, d2, d3] _ _ _ _ _ _ _ _ _ _ (fun d hd => ok d (List.mem_of_mem_take (i := 4) hd)) (hacc 3 (by decide)) (by have q := hst 3 (by decide); rw [hacc 3 (by decide)] at q; exact q) p loose mean mg mb _ _ _ _ _ _ _ (by show dp + 1 + 2 < recursionLimit; omega) (by show un + 3 + 128 < cLine; omega) (X'.keeps F5.keep) (T'.keeps F5.keep)
          ⟨⟨_, (N5 (_, _) (by k_mem)).1, rfl, _, rfl⟩, fun d hd => (hr d (List.mem_of_mem_take (i := 4) hd)).at fun o e => F5.keep _ o e, ⟨_, (N5 (_, _) (by k_mem)).1, rfl, _, rfl⟩⟩ ?_
        intro v5 h5 tk5 hk5 ev
        have ev' : v5 = .bool true := ev
        subst ev'
        have F6 := F5.keeps hk5
        have N6 := N5.grown hk5
        clear F5 N5 hk5
        k_steps
        (rename Fr _ _ _ _ => F7); (rename News _ _ _ _ => N7)
        unfold Halt
        exact ⟨rfl, _, _, _, rfl, F7, fun z hz => by simp only [if_neg hz], cb_drop N7 (by lcg_sub)⟩
      | 4, _ =>
        k_steps
        (rename Fr _ _ _ _ => F5); (rename News _ _ _ _ => N5)
        unfold Halt
        refine c_stage w [d0, d1, d2, d3, d4] _ _ _ _ _ _ _ _ _ _ (fun d hd => ok d (List.mem_of_mem_take (i := 5) hd)) (hacc 4 (by decide)) (by have q := hst 4 (by decide); rw [hacc 4 (by decide)] at q; exact q) p loose mean mg mb _ _ _ _ _ _ _ (by show dp + 1 + 2 < recursionLimit; omega) (by show un + 3 + 128 < cLine; omega) (X'.keeps F5.keep) (T'.keeps F5.keep)
          ⟨⟨_, (N5 (_, _) (by k_mem)).1, rfl, _, rfl⟩, fun d hd => (hr d (List.mem_of_mem_take (i := 5) hd)).at fun o e => F5.keep _ o e, ⟨_, (N5 (_, _) (by k_mem)).1, rfl, _, rfl⟩⟩ ?_
        intro v5 h5 tk5 hk5 ev
        have ev' : v5 = .bool true := ev
        subst ev'
        have F6 := F5.keeps hk5
        have N6 := N5.grown hk5
        clear F5 N5 hk5
        k_steps
        (rename Fr _ _ _ _ => F7); (rename News _ _ _ _ => N7)
        unfold Halt
        exact ⟨rfl, _, _, _, rfl, F7, fun z hz => by simp only [if_neg hz], cb_drop N7 (by lcg_sub)⟩
      | 5, _ =>
        k_steps
        (rename Fr _ _ _ _ => F5); (rename News _ _ _ _ => N5)
        unfold Halt
        refine c_stage w [d0, d1, d2, d3, d4, d5] _ _ _ _ _ _ _ _ _ _ (fun d hd => ok d (List.mem_of_mem_take (i := 6) hd)) (hacc 5 (by decide)) (by have q := hst 5 (by decide); rw [hacc 5 (by decide)] at q; exact q) p loose mean mg mb _ _ _ _ _ _ _ (by show dp + 1 + 2 < recursionLimit; omega) (by show un + 3 + 128 < cLine; omega) (X'.keeps F5.keep) (T'.keeps F5.keep)
          ⟨⟨_, (N5 (_, _) (by k_mem)).1, rfl, _, rfl⟩, fun d hd => (hr d (List.mem_of_mem_take (i := 6) hd)).at fun o e => F5.keep _ o e, ⟨_, (N5 (_, _) (by k_mem)).1, rfl, _, rfl⟩⟩ ?_
        intro v5 h5 tk5 hk5 ev
        have ev' : v5 = .bool true := ev
        subst ev'
        have F6 := F5.keeps hk5
        have N6 := N5.grown hk5
        clear F5 N5 hk5
        k_steps
        (rename Fr _ _ _ _ => F7); (rename News _ _ _ _ => N7)
        unfold Halt
        exact ⟨rfl, _, _, _, rfl, F7, fun z hz => by simp only [if_neg hz], cb_drop N7 (by lcg_sub)⟩
      | 6, _ =>
        k_steps
        (rename Fr _ _ _ _ => F5); (rename News _ _ _ _ => N5)
        unfold Halt
        refine c_stage w [d0, d1, d2, d3, d4, d5, d6] _ _ _ _ _ _ _ _ _ _ (fun d hd => ok d (List.mem_of_mem_take (i := 7) hd)) (hacc 6 (by decide)) (by have q := hst 6 (by decide); rw [hacc 6 (by decide)] at q; exact q) p loose mean mg mb _ _ _ _ _ _ _ (by show dp + 1 + 2 < recursionLimit; omega) (by show un + 3 + 128 < cLine; omega) (X'.keeps F5.keep) (T'.keeps F5.keep)
          ⟨⟨_, (N5 (_, _) (by k_mem)).1, rfl, _, rfl⟩, fun d hd => (hr d (List.mem_of_mem_take (i := 7) hd)).at fun o e => F5.keep _ o e, ⟨_, (N5 (_, _) (by k_mem)).1, rfl, _, rfl⟩⟩ ?_
        intro v5 h5 tk5 hk5 ev
        have ev' : v5 = .bool true := ev
        subst ev'
        have F6 := F5.keeps hk5
        have N6 := N5.grown hk5
        clear F5 N5 hk5
        k_steps
        (rename Fr _ _ _ _ => F7); (rename News _ _ _ _ => N7)
        unfold Halt
        exact ⟨rfl, _, _, _, rfl, F7, fun z hz => by simp only [if_neg hz], cb_drop N7 (by lcg_sub)⟩
    · intro u4 h4 tk4 F4 N4
      k_steps
      (rename Fr _ _ _ _ => F9); (rename News _ _ _ _ => N9)
      exact hret _ _ _ (fun b o hb e => F9.keep b o (hg b o hb e)) (N9 (75, _) (by k_mem)).1
end Mine
end
theorem Mine.off19 : True := by (w_top off); trivial
section
open PySem PySem.W PySem.Spec PySem.Calls PyProof.Rows
set_option maxRecDepth 100000
set_option maxHeartbeats 2000000
set_option pp.deepTerms false
namespace Mine
theorem c_draws (w : World) (l : Addr) (vs : List Value) (ns : List Int) (hi : IntsAre vs ns) (hlen : ¬ ((63 : Nat) : Int) < (ns.length : Int)) :
  FTell w 44 [.ref l] 1 64 (fun g => g.IsList l vs.toArray)
   fun g0 h v => ∃ a ds n, v = .ref a ∧ g0.get? a = none ∧ h.get? a = some (lst ds n) ∧ ∃ ms, IntsAre ds ms ∧ ms.length = 7 := by
  unfold FTell; k_fill
  intro p loose mean mg mb dp un fr gd s Q E hd hu X T hl hret
  (k_with "pyIter ref" => k_state (fun pre draws => draws.length = 7) "draws")
  refine wpAny_call ?_
  k_dflt (refine' call_plain_ret ?k1 ?k2 ?k3 ?k4 ?k5 ?k6 ?k7 ?_ ?c1 ?c2 ?c3 ?c4; (case k2 => exact X _ _ (by k_is)); (case k3 => exact rfl); (case k1 => exact Nat.lt_of_le_of_lt (Nat.le_add_right _ _) hd); (case k4 => exact Top.nolimit T); (case k5 => exact codeRec_of X (by k_is)); (case k6 => exact rfl); (case k7 => exact locs rfl); (case c1 => exact rfl); (case c2 => exact rfl); (case c3 => exact rfl); (case c4 => decide))
  intro h₁ F'
  have N' : News s.heap s.heap.objs.size h₁ [] := News.nil
  k_steps
  exact hret _ _ _ (Fr.keep kFr) ⟨_, _, _, rfl, (kNews _ (.head _)).2.2, (kNews _ (.head _)).1, _, kFacts, kInv⟩
end Mine
end
theorem Mine.off20 : True := by (w_top off); trivial
section
open PySem
set_option maxRecDepth 10000
namespace Mine
open Float64
theorem rep (k : Nat) : ∀ q : Nat, q ≤ 2 ^ 53 → ∃ t, V t = q * 2 ^ k := by
  induction k with
  | zero => exact fun q hq => ⟨0 * 2 ^ 52 + q, V_at hq (.inr rfl)⟩
  | succ k ih =>
    intro q hq
    by_cases h : 2 ^ 52 ≤ q
    · exact ⟨(k + 1) * 2 ^ 52 + q, V_at hq (.inl h)⟩
    · obtain ⟨t, ht⟩ := ih (2 * q) (by omega)
      refine ⟨t, ?_⟩
      rw [ht, Nat.pow_succ, Nat.mul_comm 2 q, Nat.mul_assoc, Nat.mul_comm 2 (2 ^ k)]
theorem dist_le {a b c : Nat} (h : dist a b ≤ c) : a ≤ b + c ∧ b ≤ a + c := by
  unfold dist at h; omega
theorem right_small {r : UInt64} {neg : Bool} {W D j : Nat} (h : Right r neg W D) (hD : 0 < D) (hj : j ≤ 100) (hW : W ≤ D * 2 ^ (1074 + j)) :
    isFinite r = true ∧ ∃ v : Nat, val r = sgn neg v ∧ W ≤ D * v + D * 2 ^ (1021 + j) ∧ D * v ≤ W + D * 2 ^ (1021 + j) ∧ (∀ k q, q ≤ 2 ^ 53 → W = D * (q * 2 ^ k) → v = q * 2 ^ k) := by
  obtain ⟨t, rfl, ht, hi, hn⟩ := h
  have hlt : t < infMag := by
    rcases Nat.lt_or_ge t infMag with h1 | h1
    · exact h1
    · exfalso
      have h2 := hi.mp (by omega)
      have h3 : 2 * W ≤ D * (2 * 2 ^ (1074 + j)) := by
        calc 2 * W ≤ 2 * (D * 2 ^ (1074 + j)) := Nat.mul_le_mul_left 2 hW
          _ = D * (2 * 2 ^ (1074 + j)) := Nat.mul_left_comm _ _ _
      have h4 := Nat.le_of_mul_le_mul_left (Nat.le_trans h2 h3) hD
      have h5 : 2 * 2 ^ (1074 + j) ≤ 2 ^ 2045 := by
        calc 2 * 2 ^ (1074 + j) = 2 ^ (1074 + j + 1) := by rw [Nat.pow_succ, Nat.mul_comm]
          _ ≤ 2 ^ 2045 := Nat.pow_le_pow_right (by decide) (by omega)
      have h6 : 1 * 2 ^ 2045 < (2 ^ 54 - 1) * 2 ^ 2045 := Nat.mul_lt_mul_of_pos_right (by decide) (Nat.two_pow_pos _)
      rw [Nat.one_mul] at h6
      exact absurd (Nat.lt_of_le_of_lt (Nat.le_trans h4 h5) h6) (Nat.lt_irrefl _)
  obtain ⟨m, e, hd, -⟩ := decode_pack neg hlt
  refine ⟨by unfold isFinite; rw [hd], V t, val_pack neg hlt, ?_⟩
  have hs : 0 < D * 2 ^ (1021 + j) := Nat.mul_pos hD (Nat.two_pow_pos _)
  have hq : W / (D * 2 ^ (1021 + j)) ≤ 2 ^ 53 := by
    refine Nat.div_le_of_le_mul ?_
    calc W ≤ D * 2 ^ (1074 + j) := hW
      _ = D * 2 ^ (1021 + j) * 2 ^ 53 := by rw [Nat.mul_assoc, ← Nat.pow_add]; congr 2; omega
  obtain ⟨t', ht'⟩ := rep (1021 + j) _ hq
  have h1 := (hn hlt t').1
  have h2 : dist W (D * V t') ≤ D * 2 ^ (1021 + j) := by
    have e1 : D * V t' = (D * 2 ^ (1021 + j)) * (W / (D * 2 ^ (1021 + j))) := by rw [ht', Nat.mul_comm (W / _) _, ← Nat.mul_assoc]
    have e2 := Nat.div_add_mod W (D * 2 ^ (1021 + j))
    have e3 := Nat.mod_lt W hs
    rw [← e1] at e2
    clear hW hq ht' h1 hi hn e1
    generalize D * 2 ^ (1021 + j) = S at *
    generalize W % S = M at *
    generalize D * V t' = Z at *
    unfold dist
    omega
  have h3 := dist_le (Nat.le_trans h1 h2)
  refine ⟨h3.1, h3.2, fun k q hq hE => ?_⟩
  obtain ⟨t2, ht2⟩ := rep k q hq
  have h4 := (hn hlt t2).1
  have h5 : dist W (D * V t2) = 0 := by rw [ht2, ← hE]; unfold dist; omega
  rw [h5] at h4
  have h6 := dist_le h4
  have h7 : D * V t = D * (q * 2 ^ k) := by rw [← hE]; exact Nat.le_antisymm h6.2 h6.1
  exact Nat.eq_of_mul_eq_mul_left hD h7
end Mine
end
theorem Mine.off21 : True := by (w_top off); trivial
section
open PySem
set_option maxRecDepth 10000
namespace Mine
open Float64
def sc : Nat := 2 ^ 1074
theorem sc_pos : 0 < sc := Nat.two_pow_pos _
theorem sc_eq : 2 ^ 1074 = sc := rfl
theorem sc_rat : (0 : Rat) < (sc : Rat) := Rat.natCast_pos.mpr sc_pos
def rv (x : UInt64) : Rat := (val x : Rat) / (sc : Rat)
theorem rv_mul (x : UInt64) : rv x * (sc : Rat) = (val x : Rat) := Rat.div_mul_cancel (Ne.symm (Rat.ne_of_lt sc_rat))
structure Near (x : UInt64) (q e : Rat) : Prop where
  fin : isFinite x = true
  lo : q - e ≤ rv x
  hi : rv x ≤ q + e
theorem fin_dec {x : UInt64} (h : isFinite x = true) : ∃ a m e, decode x = .fin a m e := by
  unfold isFinite at h
  split at h
  · rename_i a m e hd
    exact ⟨a, m, e, hd⟩
  · cases h
theorem sgnF (n : Nat) : ((sgn false n : Int) : Rat) = (n : Rat) := Rat.intCast_natCast n
theorem sgnT (n : Nat) : ((sgn true n : Int) : Rat) = -(n : Rat) := by
  show ((-(n : Int) : Int) : Rat) = -(n : Rat)
  rw [Rat.intCast_neg, Rat.intCast_natCast]
theorem core_lo (d s w v c E u r : Rat) (hE : E * (d * s) = w) (hr : r * s = v) (hc : c = u * s) (n1 : w ≤ d * v + d * c) : d * s * (E - u) ≤ d * s * r := by
  have a1 : d * s * (E - u) = w - d * c := by grind
  have a2 : d * s * r = d * v := by grind
  rw [a1, a2]; grind
theorem core_hi (d s w v c E u r : Rat) (hE : E * (d * s) = w) (hr : r * s = v) (hc : c = u * s) (n1 : d * v ≤ w + d * c) : d * s * r ≤ d * s * (E + u) := by
  have a1 : d * s * (E + u) = w + d * c := by grind
  have a2 : d * s * r = d * v := by grind
  rw [a1, a2]; grind
theorem near_right {r : UInt64} {neg : Bool} {W D j P : Nat} (h : Right r neg W D) (hD : 0 < D) (hj : j ≤ 100) (hP : 2 ^ j = P) {E u : Rat} (hE : E * ((D : Rat) * sc) = ((sgn neg W : Int) : Rat)) (h1 : E ≤ P) (h2 : -(P : Rat) ≤ E) (hu : u * 2 ^ 53 = P) : Near r E u := by
  have hd : (0 : Rat) < (D : Rat) := Rat.natCast_pos.mpr hD
  have hs := sc_rat
  have hds : (0 : Rat) < (D : Rat) * sc := Rat.mul_pos hd hs
  have hW : W ≤ D * 2 ^ (1074 + j) := by
    rw [Nat.pow_add, hP, sc_eq]
    have k : (W : Rat) ≤ D * (sc * P) := by
      have k1 := Rat.mul_le_mul_of_nonneg_left h1 (Rat.le_of_lt hds)
      have k2 := Rat.mul_le_mul_of_nonneg_left h2 (Rat.le_of_lt hds)
      cases neg with
      | false =>
        have k3 := sgnF W
        grind
      | true =>
        have k3 := sgnT W
        grind
    exact_mod_cast k
  obtain ⟨hf, v, hv, n1, n2, -⟩ := right_small h hD hj hW
  have hc : 2 ^ (1021 + j) * 2 ^ 53 = sc * P := by
    rw [← sc_eq, ← hP, ← Nat.pow_add, ← Nat.pow_add]
    congr 1
    omega
  generalize 2 ^ (1021 + j) = c at *
  have hc' : (c : Rat) * 2 ^ 53 = sc * P := by exact_mod_cast hc
  have n1' : (W : Rat) ≤ D * v + D * c := by exact_mod_cast n1
  have n2' : (D : Rat) * v ≤ W + D * c := by exact_mod_cast n2
  have hcu : (c : Rat) = u * sc := by grind
  have hr := rv_mul r
  rw [hv] at hr
  refine ⟨hf, ?_, ?_⟩
  · refine Rat.le_of_mul_le_mul_left (c := (D : Rat) * sc) ?_ hds
    cases neg with
    | false =>
      rw [sgnF] at hE hr
      exact core_lo _ _ _ _ _ _ _ _ hE hr hcu n1'
    | true =>
      rw [sgnT] at hE hr
      exact core_lo _ _ _ _ _ _ _ _ hE hr hcu (by clear hE hr; grind)
  · refine Rat.le_of_mul_le_mul_left (c := (D : Rat) * sc) ?_ hds
    cases neg with
    | false =>
      rw [sgnF] at hE hr
      exact core_hi _ _ _ _ _ _ _ _ hE hr hcu n2'
    | true =>
      rw [sgnT] at hE hr
      exact core_hi _ _ _ _ _ _ _ _ hE hr hcu (by clear hE hr; grind)
theorem sgn_abs (z : Int) : sgn (decide (z < 0)) z.natAbs = z := by
  unfold sgn; by_cases h : z < 0 <;> simp only [h, decide_true, decide_false, if_true, Bool.false_eq_true, if_false] <;> omega
theorem zero_near (b : Bool) : Near (zero b) 0 0 := by
  have h : isFinite (zero b) = true ∧ val (zero b) = 0 := by cases b <;> decide +kernel
  refine ⟨h.1, ?_, ?_⟩ <;> (unfold rv; rw [h.2]; grind)
theorem add_ex {x y : UInt64} {j P : Nat} {u : Rat} (hj : j ≤ 100) (hP : 2 ^ j = P) (hu : u * 2 ^ 53 = P) (hx : isFinite x = true) (hy : isFinite y = true) (h1 : rv x + rv y ≤ P) (h2 : -(P : Rat) ≤ rv x + rv y) : Near (add x y) (rv x + rv y) u := by
  obtain ⟨a, m, e, dx⟩ := fin_dec hx
  obtain ⟨b, k, f, dy⟩ := fin_dec hy
  have ex := rv_mul x
  have ey := rv_mul y
  have hs : (rv x + rv y) * sc = ((val x + val y : Int) : Rat) := by push_cast; grind
  have hu0 : 0 ≤ u := by
    have : (0 : Rat) ≤ P := by exact_mod_cast Nat.zero_le P
    grind
  by_cases hz : val x + val y = 0
  · rw [(add_right dx dy).1 hz]
    have hz2 : rv x + rv y = 0 := by
      rw [hz] at hs
      have := sc_rat
      have h3 : (rv x + rv y) * sc = 0 := hs
      grind
    have hz3 := zero_near (a && b)
    rw [hz2]
    exact ⟨hz3.fin, by have := hz3.lo; grind, by have := hz3.hi; grind⟩
  · refine near_right ((add_right dx dy).2 hz) (by decide) hj hP ?_ h1 h2 hu
    rw [sgn_abs, ← hs]
    grind
theorem sub_ex {x y : UInt64} {j P : Nat} {u : Rat} (hj : j ≤ 100) (hP : 2 ^ j = P) (hu : u * 2 ^ 53 = P) (hx : isFinite x = true) (hy : isFinite y = true) (h1 : rv x - rv y ≤ P) (h2 : -(P : Rat) ≤ rv x - rv y) : Near (sub x y) (rv x - rv y) u := by
  obtain ⟨a, m, e, dx⟩ := fin_dec hx
  obtain ⟨b, k, f, dy⟩ := fin_dec hy
  have ex := rv_mul x
  have ey := rv_mul y
  have hs : (rv x - rv y) * sc = ((val x - val y : Int) : Rat) := by push_cast; grind
  have hu0 : 0 ≤ u := by
    have : (0 : Rat) ≤ P := by exact_mod_cast Nat.zero_le P
    grind
  by_cases hz : val x - val y = 0
  · rw [(sub_right dx dy).1 hz]
    have hz2 : rv x - rv y = 0 := by
      rw [hz] at hs
      have := sc_rat
      have h3 : (rv x - rv y) * sc = 0 := hs
      grind
    have hz3 := zero_near (a && !b)
    rw [hz2]
    exact ⟨hz3.fin, by have := hz3.lo; grind, by have := hz3.hi; grind⟩
  · refine near_right ((sub_right dx dy).2 hz) (by decide) hj hP ?_ h1 h2 hu
    rw [sgn_abs, ← hs]
    grind
end Mine
end
theorem Mine.off22 : True := by (w_top off); trivial
section
open PySem
set_option maxRecDepth 10000
namespace Mine
open Float64
theorem sgn_prod (a b : Bool) (m k : Nat) : sgn (a != b) (m * k) = sgn a m * sgn b k := by
  cases a <;> cases b <;> simp [sgn, Int.neg_mul, Int.mul_neg]
theorem sgn_val {x : UInt64} {a : Bool} {m : Nat} {e : Int} (h : decode x = .fin a m e) : sgn a (val x).natAbs = val x := by
  rw [val_natAbs h, val_eq h]
theorem mul_ex {x y : UInt64} {j P : Nat} {u : Rat} (hj : j ≤ 100) (hP : 2 ^ j = P) (hu : u * 2 ^ 53 = P) (hx : isFinite x = true) (hy : isFinite y = true) (h1 : rv x * rv y ≤ P) (h2 : -(P : Rat) ≤ rv x * rv y) : Near (mul x y) (rv x * rv y) u := by
  obtain ⟨a, m, e, dx⟩ := fin_dec hx
  obtain ⟨b, k, f, dy⟩ := fin_dec hy
  have ex := rv_mul x
  have ey := rv_mul y
  refine near_right (D := sc) (mul_right dx dy) sc_pos hj hP ?_ h1 h2 hu
  rw [sgn_prod, sgn_val dx, sgn_val dy, Rat.intCast_mul, ← ex, ← ey]
  clear h1 h2
  grind
theorem div_ex {x y : UInt64} {j P : Nat} {u : Rat} (hj : j ≤ 100) (hP : 2 ^ j = P) (hu : u * 2 ^ 53 = P) (hx : isFinite x = true) (hy : isFinite y = true) (hz : rv y ≠ 0) (h1 : rv x / rv y ≤ P) (h2 : -(P : Rat) ≤ rv x / rv y) : Near (div x y) (rv x / rv y) u := by
  obtain ⟨a, m, e, dx⟩ := fin_dec hx
  obtain ⟨b, k, f, dy⟩ := fin_dec hy
  have ex := rv_mul x
  have ey := rv_mul y
  have hvy : val y ≠ 0 := by
    intro h
    apply hz
    unfold rv
    rw [h]
    grind
  have hk : k ≠ 0 := by
    intro h
    apply hvy
    rw [val_eq dy, h, Nat.zero_mul]
    cases b <;> rfl
  have hpos : 0 < (val y).natAbs := Int.natAbs_pos.mpr hvy
  refine near_right (div_right dx dy hk) hpos hj hP ?_ h1 h2 hu
  rw [sc_eq]
  have k1 : sgn (a != b) ((val x).natAbs * sc) * (1 : Int) = sgn a (val x).natAbs * sgn b 1 * (sc : Int) := by
    cases a <;> cases b <;> simp [sgn, Int.neg_mul, Int.mul_neg]
  have k2 : sgn b 1 * val y = ((val y).natAbs : Int) := by
    conv => lhs; rw [← sgn_val dy]
    cases b <;> simp [sgn]
  have k3 : sgn b 1 * sgn b 1 = 1 := by cases b <;> rfl
  rw [Int.mul_one, sgn_val dx] at k1
  rw [k1]
  have k4 : ((val y).natAbs : Rat) = ((sgn b 1 : Int) : Rat) * (val y : Rat) := by
    rw [← Rat.intCast_mul, k2, Rat.intCast_natCast]
  rw [k4, Rat.intCast_mul, Rat.intCast_mul, Rat.intCast_natCast, ← ex, ← ey]
  have k5 : rv x / rv y * rv y = rv x := Rat.div_mul_cancel hz
  generalize rv x / rv y = z at *
  generalize ((sgn b 1 : Int) : Rat) = o at *
  clear h1 h2 k1 k2 k4 hz ex ey
  rw [← k5]
  grind
theorem ofInt_ex {n : Int} (h1 : -1000000 ≤ n) (h2 : n ≤ 1000000) : isFinite (ofInt n) = true ∧ rv (ofInt n) = (n : Rat) := by
  have hW : n.natAbs * 2 ^ 1074 ≤ 1 * 2 ^ (1074 + 20) := by
    rw [Nat.one_mul, Nat.add_comm, Nat.pow_add]
    have k : n.natAbs ≤ 1048576 := by omega
    exact Nat.mul_le_mul_right _ k
  obtain ⟨hf, v, hv, -, -, he⟩ := right_small (j := 20) (ofInt_right n) (by decide) (by decide) hW
  refine ⟨hf, ?_⟩
  have hv2 := he 1074 n.natAbs (show n.natAbs ≤ 9007199254740992 by omega) (by rw [Nat.one_mul])
  rw [hv2, sc_eq] at hv
  unfold rv
  rw [hv, sgn_mul, sgn_abs, Rat.intCast_mul, Rat.intCast_natCast]
  have := sc_rat
  grind
theorem cancelR {a b c : Rat} (hc : 0 < c) (h : a * c = b * c) : a = b := by
  have h1 : c ≠ 0 := Ne.symm (Rat.ne_of_lt hc)
  have h2 : a * c * c⁻¹ = b * c * c⁻¹ := by rw [h]
  rw [Rat.mul_assoc, Rat.mul_assoc, Rat.mul_inv_cancel _ h1, Rat.mul_one, Rat.mul_one] at h2
  exact h2
theorem div_eq {a b d : Rat} (hd : 0 < d) (h : a * d = b) : a = b / d := by grind
theorem near_zero {x : UInt64} {q : Rat} (h : Near x q 0) : rv x = q := by
  have := h.lo
  have := h.hi
  grind
theorem div16 {a : Int} (h1 : 0 ≤ a) (h2 : a ≤ 16) (hall : ∀ k : Nat, k ≤ 16 → isFinite (ofFrac false k 16) = true ∧ val (ofFrac false k 16) * 16 = k * 2 ^ 1074) : isFinite (ofFrac (decide (a < 0) != decide ((16 : Int) < 0)) a.natAbs (16 : Int).natAbs) = true ∧ rv (ofFrac (decide (a < 0) != decide ((16 : Int) < 0)) a.natAbs (16 : Int).natAbs) = (a : Rat) / 16 := by
  have e : (decide (a < 0) != decide ((16 : Int) < 0)) = false := by
    have : ¬ a < 0 := by omega
    simp [this]
  rw [e]
  obtain ⟨f1, f2⟩ := hall a.natAbs (by omega)
  refine ⟨f1, ?_⟩
  have e2 : ((a.natAbs : Int)) = a := by omega
  rw [e2] at f2
  show rv (ofFrac false a.natAbs 16) = _
  generalize ofFrac false a.natAbs 16 = x at *
  have f3 : (val x : Rat) * 16 = a * (sc : Rat) := by
    have : ((val x * 16 : Int) : Rat) = ((a * ((sc : Nat) : Int) : Int) : Rat) := by
      rw [f2]
      congr 2
    rw [Rat.intCast_mul, Rat.intCast_mul, Rat.intCast_natCast] at this
    exact this
  have := rv_mul x
  have := sc_rat
  have h5 : rv x * 16 * sc = a * sc := by grind
  have h6 : rv x * 16 = a := by grind
  grind
theorem all16 : ∀ k : Nat, k ≤ 16 → isFinite (ofFrac false k 16) = true ∧ val (ofFrac false k 16) * 16 = k * 2 ^ 1074 := by
  intro k hk
  have : k = 0 ∨ k = 1 ∨ k = 2 ∨ k = 3 ∨ k = 4 ∨ k = 5 ∨ k = 6 ∨ k = 7 ∨ k = 8 ∨ k = 9 ∨ k = 10 ∨ k = 11 ∨ k = 12 ∨ k = 13 ∨ k = 14 ∨ k = 15 ∨ k = 16 := by omega
  rcases this with rfl | rfl | rfl | rfl | rfl | rfl | rfl | rfl | rfl | rfl | rfl | rfl | rfl | rfl | rfl | rfl | rfl <;> decide +kernel
theorem lit {x : UInt64} {n : Int} {d : Nat} (hd : 0 < d) (hf : isFinite x = true) (h : val x * (d : Int) = n * (sc : Int)) : isFinite x = true ∧ rv x = (n : Rat) / (d : Rat) := by
  refine ⟨hf, ?_⟩
  have f3 : (val x : Rat) * d = n * (sc : Rat) := by exact_mod_cast h
  have hx := rv_mul x
  have := sc_rat
  have hd' : (0 : Rat) < (d : Rat) := Rat.natCast_pos.mpr hd
  have h5 : rv x * d * sc = n * sc := by grind
  exact div_eq hd' (cancelR this h5)
theorem trunc_ex {x : UInt64} {n : Int} {e : Rat} (hn : 0 ≤ n) (h : Near x ((n : Rat) + 1 / 2) e) (he : e < 1 / 2) : PySem.Flt.toInt truncOf x = n := by
  obtain ⟨a, m, f, dx⟩ := fin_dec h.fin
  rw [PySem.Flt.toInt_fin dx]
  have l := h.lo
  have u := h.hi
  have l2 : (n : Rat) < rv x := by grind
  have u2 : rv x < (n : Rat) + 1 := by grind
  have hs := sc_rat
  have hv := rv_mul x
  have l3 : (n : Rat) * sc < (val x : Rat) := by
    rw [← hv]
    exact Rat.mul_lt_mul_of_pos_right l2 hs
  have u3 : (val x : Rat) < ((n : Rat) + 1) * sc := by
    rw [← hv]
    exact Rat.mul_lt_mul_of_pos_right u2 hs
  have l4 : n * (sc : Int) < val x := by exact_mod_cast l3
  have u4 : val x < (n + 1) * (sc : Int) := by exact_mod_cast u3
  have hsc : (0 : Int) < (sc : Int) := Int.ofNat_lt.mpr sc_pos
  have hpos : 0 < val x := Int.lt_of_le_of_lt (Int.mul_nonneg hn (Int.le_of_lt hsc)) l4
  have hge := decode_ge dx
  rw [val_eq dx] at hpos l4 u4
  cases a with
  | true =>
    exfalso
    unfold sgn at hpos
    simp only [if_true] at hpos
    omega
  | false =>
    unfold truncOf floorOf
    simp only [Bool.false_eq_true, if_false]
    have e0 : ∀ z : Nat, sgn false z = (z : Int) := fun z => rfl
    rw [e0] at l4 u4
    rw [e0]
    by_cases hf : f ≥ 0
    · rw [if_pos hf]
      have e1 : (f + 1074).toNat = f.toNat + 1074 := by omega
      rw [e1, Nat.pow_add, sc_eq, ← Nat.mul_assoc] at l4 u4
      have e2 : ((m * 2 ^ f.toNat * sc : Nat) : Int) = (m : Int) * 2 ^ f.toNat * (sc : Int) := by push_cast; rfl
      rw [e2] at l4 u4
      have g1 := Int.lt_of_mul_lt_mul_right l4 (Int.le_of_lt hsc)
      have g2 := Int.lt_of_mul_lt_mul_right u4 (Int.le_of_lt hsc)
      omega
    · rw [if_neg hf]
      have e1 : 1074 = (f + 1074).toNat + (-f).toNat := by omega
      have e3 : (sc : Int) = ((2 ^ (f + 1074).toNat : Nat) : Int) * ((2 : Int) ^ (-f).toNat) := by
        rw [← sc_eq]
        conv => lhs; rw [e1]
        rw [Nat.pow_add]
        push_cast
        rfl
      have e2 : ((m * 2 ^ (f + 1074).toNat : Nat) : Int) = ((2 ^ (f + 1074).toNat : Nat) : Int) * (m : Int) := by
        rw [Int.natCast_mul]; exact Int.mul_comm _ _
      have hp : (0 : Int) < ((2 ^ (f + 1074).toNat : Nat) : Int) := Int.ofNat_lt.mpr (Nat.two_pow_pos _)
      have hq : (0 : Int) < (2 : Int) ^ (-f).toNat := Int.pow_pos (by decide)
      rw [e2, e3, Int.mul_left_comm] at l4 u4
      have g1 := Int.lt_of_mul_lt_mul_left l4 (Int.le_of_lt hp)
      have g2 := Int.lt_of_mul_lt_mul_left u4 (Int.le_of_lt hp)
      rw [Int.fdiv_eq_ediv_of_nonneg _ (Int.le_of_lt hq)]
      generalize (2 : Int) ^ (-f).toNat = Z at *
      have h1 : n ≤ (m : Int) / Z := Int.le_ediv_of_mul_le hq (Int.le_of_lt g1)
      have h2 : (m : Int) / Z < n + 1 := Int.ediv_lt_of_lt_mul hq g2
      omega
end Mine
end
theorem Mine.off23 : True := by (w_top off); trivial
section
open PySem
set_option maxRecDepth 10000
namespace Mine
open Float64
theorem lit_c30 : isFinite 4599075939470750515 = true ∧ rv 4599075939470750515 = (5404319552844595 : Rat) / 18014398509481984 := lit (n := 5404319552844595) (d := 18014398509481984) (by decide) (by decide +kernel) (by decide +kernel)
theorem lit_c59 : isFinite 4603489467105573601 = true ∧ rv 4603489467105573601 = (5314247560297185 : Rat) / 9007199254740992 := lit (n := 5314247560297185) (d := 9007199254740992) (by decide) (by decide +kernel) (by decide +kernel)
theorem lit_c11 : isFinite 4592590756007337001 = true ∧ rv 4592590756007337001 = (7926335344172073 : Rat) / 72057594037927936 := lit (n := 7926335344172073) (d := 72057594037927936) (by decide) (by decide +kernel) (by decide +kernel)
theorem lit_c74 : isFinite 4604840546993784750 = true ∧ rv 4604840546993784750 = (3332663724254167 : Rat) / 4503599627370496 := lit (n := 3332663724254167) (d := 4503599627370496) (by decide) (by decide +kernel) (by decide +kernel)
theorem lit_c27 : isFinite 4598535507515466056 = true ∧ rv 4598535507515466056 = (607985949695017 : Rat) / 2251799813685248 := lit (n := 607985949695017) (d := 2251799813685248) (by decide) (by decide +kernel) (by decide +kernel)
theorem lit_c48 : isFinite 4602318531202457272 = true ∧ rv 4602318531202457272 = (1080863910568919 : Rat) / 2251799813685248 := lit (n := 1080863910568919) (d := 2251799813685248) (by decide) (by decide +kernel) (by decide +kernel)
theorem lit_c41 : isFinite 4601057523306793533 = true ∧ rv 4601057523306793533 = (7385903388887613 : Rat) / 18014398509481984 := lit (n := 7385903388887613) (d := 18014398509481984) (by decide) (by decide +kernel) (by decide +kernel)
theorem lit_ri : isFinite 4606703976345377586 = true ∧ rv 4606703976345377586 = (4264378400050585 : Rat) / 4503599627370496 := lit (n := 4264378400050585) (d := 4503599627370496) (by decide) (by decide +kernel) (by decide +kernel)
theorem lit_rq : isFinite 4603791717925830846 = true ∧ rv 4603791717925830846 = (2808249190277215 : Rat) / 4503599627370496 := lit (n := 2808249190277215) (d := 4503599627370496) (by decide) (by decide +kernel) (by decide +kernel)
theorem lit_gi : isFinite 4598621754083818298 = true ∧ rv 4598621754083818298 = (2475067082956189 : Rat) / 9007199254740992 := lit (n := 2475067082956189) (d := 9007199254740992) (by decide) (by decide +kernel) (by decide +kernel)
theorem lit_gq : isFinite 4603901015759978483 = true ∧ rv 4603901015759978483 = (5725796214702067 : Rat) / 9007199254740992 := lit (n := 5725796214702067) (d := 9007199254740992) (by decide) (by decide +kernel) (by decide +kernel)
theorem lit_bi : isFinite 4607671262177584182 = true ∧ rv 4607671262177584182 = (2496221502468635 : Rat) / 2251799813685248 := lit (n := 2496221502468635) (d := 2251799813685248) (by decide) (by decide +kernel) (by decide +kernel)
theorem lit_bq : isFinite 4610375502138591871 = true ∧ rv 4610375502138591871 = (7696682965944959 : Rat) / 4503599627370496 := lit (n := 7696682965944959) (d := 4503599627370496) (by decide) (by decide +kernel) (by decide +kernel)
theorem lit_one : isFinite 4607182418800017408 = true ∧ rv 4607182418800017408 = (1 : Rat) / 1 := lit (n := 1) (d := 1) (by decide) (by decide +kernel) (by decide +kernel)
theorem lit_half : isFinite 4602678819172646912 = true ∧ rv 4602678819172646912 = (1 : Rat) / 2 := lit (n := 1) (d := 2) (by decide) (by decide +kernel) (by decide +kernel)
theorem lit_big : isFinite 4726483295917834240 = true ∧ rv 4726483295917834240 = (200000001 : Rat) / 2 := lit (n := 200000001) (d := 2) (by decide) (by decide +kernel) (by decide +kernel)
theorem add6 {x y : UInt64} (hx : isFinite x = true) (hy : isFinite y = true) (h1 : rv x + rv y ≤ 64) (h2 : -64 ≤ rv x + rv y) : Near (add x y) (rv x + rv y) (1 / 140737488355328) :=
  add_ex (j := 6) (P := 64) (by decide) (by decide) (by decide +kernel) hx hy h1 h2
theorem sub6 {x y : UInt64} (hx : isFinite x = true) (hy : isFinite y = true) (h1 : rv x - rv y ≤ 64) (h2 : -64 ≤ rv x - rv y) : Near (sub x y) (rv x - rv y) (1 / 140737488355328) :=
  sub_ex (j := 6) (P := 64) (by decide) (by decide) (by decide +kernel) hx hy h1 h2
theorem mul6 {x y : UInt64} (hx : isFinite x = true) (hy : isFinite y = true) (h1 : rv x * rv y ≤ 64) (h2 : -64 ≤ rv x * rv y) : Near (mul x y) (rv x * rv y) (1 / 140737488355328) :=
  mul_ex (j := 6) (P := 64) (by decide) (by decide) (by decide +kernel) hx hy h1 h2
theorem div6 {x y : UInt64} (hx : isFinite x = true) (hy : isFinite y = true) (hz : rv y ≠ 0) (h1 : rv x / rv y ≤ 64) (h2 : -64 ≤ rv x / rv y) : Near (div x y) (rv x / rv y) (1 / 140737488355328) :=
  div_ex (j := 6) (P := 64) (by decide) (by decide) (by decide +kernel) hx hy hz h1 h2
theorem add27 {x y : UInt64} (hx : isFinite x = true) (hy : isFinite y = true) (h1 : rv x + rv y ≤ 134217728) (h2 : -134217728 ≤ rv x + rv y) : Near (add x y) (rv x + rv y) (1 / 67108864) :=
  add_ex (j := 27) (P := 134217728) (by decide) (by decide) (by decide +kernel) hx hy h1 h2
theorem mul27 {x y : UInt64} (hx : isFinite x = true) (hy : isFinite y = true) (h1 : rv x * rv y ≤ 134217728) (h2 : -134217728 ≤ rv x * rv y) : Near (mul x y) (rv x * rv y) (1 / 67108864) :=
  mul_ex (j := 27) (P := 134217728) (by decide) (by decide) (by decide +kernel) hx hy h1 h2
theorem scale6 {c x : UInt64} {C q e : Rat} (hc : isFinite c = true ∧ rv c = C) (hx : Near x q e) (h1 : C * rv x ≤ 64) (h2 : -64 ≤ C * rv x) : Near (mul c x) (C * rv x) (1 / 140737488355328) := by
  rw [← hc.2] at h1 h2 ⊢
  exact mul6 hc.1 hx.fin h1 h2
theorem exact0 {x : UInt64} {q : Rat} (h : isFinite x = true ∧ rv x = q) : Near x q 0 := ⟨h.1, by rw [h.2]; grind, by rw [h.2]; grind⟩
structure In01 (x : UInt64) (q : Rat) : Prop where
  fin : isFinite x = true
  eq : rv x = q
  lo : 0 ≤ q
  hi : q ≤ 1
theorem y_near {r g b : UInt64} {p s t : Rat} (hr : In01 r p) (hg : In01 g s) (hb : In01 b t) : Near (yOf r g b) (3 / 10 * p + 59 / 100 * s + 11 / 100 * t) (6 / 140737488355328) := by
  obtain ⟨fr, er, r0, r1⟩ := hr
  obtain ⟨fg, eg, g0, g1⟩ := hg
  obtain ⟨fb, eb, b0, b1⟩ := hb
  have m1 := scale6 lit_c30 (exact0 ⟨fr, er⟩) (by rw [er]; grind) (by rw [er]; grind)
  have m2 := scale6 lit_c59 (exact0 ⟨fg, eg⟩) (by rw [eg]; grind) (by rw [eg]; grind)
  have m3 := scale6 lit_c11 (exact0 ⟨fb, eb⟩) (by rw [eb]; grind) (by rw [eb]; grind)
  rw [er] at m1
  rw [eg] at m2
  rw [eb] at m3
  unfold yOf
  generalize mul 4599075939470750515 r = x1 at *
  generalize mul 4603489467105573601 g = x2 at *
  generalize mul 4592590756007337001 b = x3 at *
  obtain ⟨f1, l1, u1⟩ := m1
  obtain ⟨f2, l2, u2⟩ := m2
  obtain ⟨f3, l3, u3⟩ := m3
  have a1 := add6 f1 f2 (by grind) (by grind)
  generalize add x1 x2 = x4 at *
  obtain ⟨f4, l4, u4⟩ := a1
  have a2 := add6 f4 f3 (by grind) (by grind)
  generalize add x4 x3 = x5 at *
  obtain ⟨f5, l5, u5⟩ := a2
  exact ⟨f5, by grind, by grind⟩
end Mine
end
theorem Mine.off24 : True := by (w_top off); trivial
section
open PySem
set_option maxRecDepth 10000
namespace Mine
open Float64
theorem i_near {r g b : UInt64} {p s t : Rat} (hr : In01 r p) (hg : In01 g s) (hb : In01 b t) : Near (iOf r g b) (74 / 100 * (p - (3 / 10 * p + 59 / 100 * s + 11 / 100 * t)) - 27 / 100 * (t - (3 / 10 * p + 59 / 100 * s + 11 / 100 * t))) (12 / 140737488355328) := by
  have hy := y_near hr hg hb
  unfold iOf
  generalize yOf r g b = y at *
  obtain ⟨fr, er, r0, r1⟩ := hr
  obtain ⟨fg, eg, g0, g1⟩ := hg
  obtain ⟨fb, eb, b0, b1⟩ := hb
  obtain ⟨fy, yl, yu⟩ := hy
  have s1 := sub6 fr fy (by rw [er]; grind) (by rw [er]; grind)
  have s2 := sub6 fb fy (by rw [eb]; grind) (by rw [eb]; grind)
  rw [er] at s1
  rw [eb] at s2
  generalize sub r y = x1 at *
  generalize sub b y = x2 at *
  have ⟨f1, l1, u1⟩ := s1
  have ⟨f2, l2, u2⟩ := s2
  have m1 := scale6 lit_c74 s1 (by grind) (by grind)
  have m2 := scale6 lit_c27 s2 (by grind) (by grind)
  generalize mul 4604840546993784750 x1 = x3 at *
  generalize mul 4598535507515466056 x2 = x4 at *
  obtain ⟨f3, l3, u3⟩ := m1
  obtain ⟨f4, l4, u4⟩ := m2
  have a1 := sub6 f3 f4 (by grind) (by grind)
  generalize sub x3 x4 = x5 at *
  obtain ⟨f5, l5, u5⟩ := a1
  exact ⟨f5, by grind, by grind⟩
theorem q_near {r g b : UInt64} {p s t : Rat} (hr : In01 r p) (hg : In01 g s) (hb : In01 b t) : Near (qOf r g b) (48 / 100 * (p - (3 / 10 * p + 59 / 100 * s + 11 / 100 * t)) + 41 / 100 * (t - (3 / 10 * p + 59 / 100 * s + 11 / 100 * t))) (12 / 140737488355328) := by
  have hy := y_near hr hg hb
  unfold qOf
  generalize yOf r g b = y at *
  obtain ⟨fr, er, r0, r1⟩ := hr
  obtain ⟨fg, eg, g0, g1⟩ := hg
  obtain ⟨fb, eb, b0, b1⟩ := hb
  obtain ⟨fy, yl, yu⟩ := hy
  have s1 := sub6 fr fy (by rw [er]; grind) (by rw [er]; grind)
  have s2 := sub6 fb fy (by rw [eb]; grind) (by rw [eb]; grind)
  rw [er] at s1
  rw [eb] at s2
  generalize sub r y = x1 at *
  generalize sub b y = x2 at *
  have ⟨f1, l1, u1⟩ := s1
  have ⟨f2, l2, u2⟩ := s2
  have m1 := scale6 lit_c48 s1 (by grind) (by grind)
  have m2 := scale6 lit_c41 s2 (by grind) (by grind)
  generalize mul 4602318531202457272 x1 = x3 at *
  generalize mul 4601057523306793533 x2 = x4 at *
  obtain ⟨f3, l3, u3⟩ := m1
  obtain ⟨f4, l4, u4⟩ := m2
  have a1 := add6 f3 f4 (by grind) (by grind)
  generalize add x3 x4 = x5 at *
  obtain ⟨f5, l5, u5⟩ := a1
  exact ⟨f5, by grind, by grind⟩
def lY (R G B : Rat) : Rat := (30 * R + 59 * G + 11 * B) / 1600
def lI (R G B : Rat) : Rat := (74 * (100 * R - (30 * R + 59 * G + 11 * B)) - 27 * (100 * B - (30 * R + 59 * G + 11 * B))) / 160000
def lQ (R G B : Rat) : Rat := (48 * (100 * R - (30 * R + 59 * G + 11 * B)) + 41 * (100 * B - (30 * R + 59 * G + 11 * B))) / 160000
theorem weight_near {w : Int} {x : UInt64} {q z : Rat} (h1 : -3 ≤ w) (h2 : w ≤ 3) (h : Near x q (12 / 140737488355328)) (b1 : -2 ≤ q) (b2 : q ≤ 2) (hz : z = (w : Rat) * q) : Near (mul (ofInt w) x) z (40 / 140737488355328) := by
  have hw := ofInt_ex (n := w) (by omega) (by omega)
  have hc : w = -3 ∨ w = -2 ∨ w = -1 ∨ w = 0 ∨ w = 1 ∨ w = 2 ∨ w = 3 := by omega
  have ⟨f1, l1, u1⟩ := h
  have k : -64 ≤ (w : Rat) * rv x ∧ (w : Rat) * rv x ≤ 64 ∧ z - 36 / 140737488355328 ≤ (w : Rat) * rv x ∧ (w : Rat) * rv x ≤ z + 36 / 140737488355328 := by
    subst hz
    clear hw h
    rcases hc with rfl | rfl | rfl | rfl | rfl | rfl | rfl
    all_goals (refine ⟨?_, ?_, ?_, ?_⟩ <;> grind)
  obtain ⟨f2, l2, u2⟩ := scale6 hw h k.2.1 k.1
  exact ⟨f2, by grind, by grind⟩
theorem in01 {a : Int} (h1 : 0 ≤ a) (h2 : a ≤ 16) : In01 (divI a 16) ((a : Rat) / 16) := by
  have h := div16 h1 h2 all16
  have k1 : (0 : Rat) ≤ (a : Rat) := by exact_mod_cast h1
  have k2 : (a : Rat) ≤ 16 := by exact_mod_cast h2
  exact ⟨h.1, h.2, by grind, by grind⟩
structure Acc (k : Nat) (a : Wt) (W R G B : Int) : Prop where
  w : a.w = W
  w1 : -(3 * (k : Int)) ≤ W
  w2 : W ≤ 3 * k
  r1 : -(48 * (k : Int)) ≤ R
  r2 : R ≤ 48 * k
  g1 : -(48 * (k : Int)) ≤ G
  g2 : G ≤ 48 * k
  b1 : -(48 * (k : Int)) ≤ B
  b2 : B ≤ 48 * k
  y : Near a.y (lY R G B) ((41 * (k : Rat) - 1) / 140737488355328)
  i : Near a.i (lI R G B) ((41 * (k : Rat) - 1) / 140737488355328)
  q : Near a.q (lQ R G B) ((41 * (k : Rat) - 1) / 140737488355328)
theorem Near.wide {x : UInt64} {q e f : Rat} (h : Near x q e) (hf : e ≤ f) : Near x q f := ⟨h.fin, by have := h.lo; grind, by have := h.hi; grind⟩
theorem prod_b {w r : Int} (h1 : -3 ≤ w) (h2 : w ≤ 3) (h3 : 0 ≤ r) (h4 : r ≤ 16) : -48 ≤ w * r ∧ w * r ≤ 48 := by
  have hc : w = -3 ∨ w = -2 ∨ w = -1 ∨ w = 0 ∨ w = 1 ∨ w = 2 ∨ w = 3 := by omega
  rcases hc with rfl | rfl | rfl | rfl | rfl | rfl | rfl <;> omega
theorem acc_row {d : RowD} (ok : d.Ok) : Acc 1 (wOf d) d.w (d.w * d.r) (d.w * d.g) (d.w * d.b) := by
  obtain ⟨w1, w2, r1, r2, g1, g2, b1, b2⟩ := ok
  have hr := in01 r1 r2
  have hg := in01 g1 g2
  have hb := in01 b1 b2
  have pr := prod_b w1 w2 r1 r2
  have pg := prod_b w1 w2 g1 g2
  have pb := prod_b w1 w2 b1 b2
  have yn := (y_near hr hg hb).wide (f := 12 / 140737488355328) (by grind)
  have iN := i_near hr hg hb
  have qn := q_near hr hg hb
  have l1 := hr.lo
  have u1 := hr.hi
  have l2 := hg.lo
  have u2 := hg.hi
  have l3 := hb.lo
  have u3 := hb.hi
  refine ⟨rfl, by omega, by omega, by omega, by omega, by omega, by omega, by omega, by omega, ?_, ?_, ?_⟩
  · refine (weight_near w1 w2 yn (by grind) (by grind) ?_).wide (by grind)
    unfold lY
    rw [Rat.intCast_mul, Rat.intCast_mul, Rat.intCast_mul]
    clear yn iN qn l1 u1 l2 u2 l3 u3 hr hg hb
    grind
  · refine (weight_near w1 w2 iN (by grind) (by grind) ?_).wide (by grind)
    unfold lI
    rw [Rat.intCast_mul, Rat.intCast_mul, Rat.intCast_mul]
    clear yn iN qn l1 u1 l2 u2 l3 u3 hr hg hb
    grind
  · refine (weight_near w1 w2 qn (by grind) (by grind) ?_).wide (by grind)
    unfold lQ
    rw [Rat.intCast_mul, Rat.intCast_mul, Rat.intCast_mul]
    clear yn iN qn l1 u1 l2 u2 l3 u3 hr hg hb
    grind
theorem near_sum {x y : UInt64} {p q e f z v : Rat} (hx : Near x p e) (hy : Near y q f) (h1 : p + q + e + f ≤ 64) (h2 : -64 ≤ p + q - e - f) (hz : z = p + q) (hv : e + f + 1 / 140737488355328 ≤ v) : Near (add x y) z v := by
  obtain ⟨f1, l1, u1⟩ := hx
  obtain ⟨f2, l2, u2⟩ := hy
  obtain ⟨f3, l3, u3⟩ := add6 f1 f2 (by grind) (by grind)
  exact ⟨f3, by grind, by grind⟩
end Mine
namespace Mine
open Float64
theorem b_rat {R : Int} {k : Nat} (hk : k ≤ 7) (h1 : -(48 * (k : Int)) ≤ R) (h2 : R ≤ 48 * k) : -336 ≤ (R : Rat) ∧ (R : Rat) ≤ 336 := by
  have k1 : -336 ≤ R := by omega
  have k2 : R ≤ 336 := by omega
  constructor
  · have e : ((-336 : Int) : Rat) = -336 := rfl
    rw [← e]
    exact Rat.intCast_le_intCast.mpr k1
  · exact_mod_cast k2
theorem acc_step {k : Nat} {a : Wt} {W R G B : Int} {d : RowD} (h : Acc k a W R G B) (ok : d.Ok) (hk : k ≤ 6) : Acc (k + 1) (a.add (wOf d)) (W + d.w) (R + d.w * d.r) (G + d.w * d.g) (B + d.w * d.b) := by
  have hd := acc_row ok
  have kk : ((k + 1 : Nat) : Int) = (k : Int) + 1 := by omega
  have kr : ((k + 1 : Nat) : Rat) = (k : Rat) + 1 := by push_cast; rfl
  have k6 : (k : Rat) ≤ 6 := by exact_mod_cast hk
  have k0 : (0 : Rat) ≤ (k : Rat) := by exact_mod_cast Nat.zero_le k
  have R1 := b_rat (k := k + 1) (R := R + d.w * d.r) (by omega) (by have := h.r1; have := hd.r1; omega) (by have := h.r2; have := hd.r2; omega)
  have G1 := b_rat (k := k + 1) (R := G + d.w * d.g) (by omega) (by have := h.g1; have := hd.g1; omega) (by have := h.g2; have := hd.g2; omega)
  have B1 := b_rat (k := k + 1) (R := B + d.w * d.b) (by omega) (by have := h.b1; have := hd.b1; omega) (by have := h.b2; have := hd.b2; omega)
  rw [Rat.intCast_add] at R1 G1 B1
  have e1 : (((1 : Nat) : Rat)) = 1 := rfl
  have hy := hd.y
  have hi := hd.i
  have hq := hd.q
  rw [e1] at hy hi hq
  have gy := h.y
  have gi := h.i
  have gq := h.q
  refine ⟨by rw [← h.w], by have := h.w1; have := hd.w1; omega, by have := h.w2; have := hd.w2; omega, by have := h.r1; have := hd.r1; omega, by have := h.r2; have := hd.r2; omega, by have := h.g1; have := hd.g1; omega, by have := h.g2; have := hd.g2; omega, by have := h.b1; have := hd.b1; omega, by have := h.b2; have := hd.b2; omega, ?_, ?_, ?_⟩
  · rw [kr, Rat.intCast_add, Rat.intCast_add, Rat.intCast_add]
    unfold lY at *
    clear gi gq hi hq h hd
    generalize ((d.w * d.r : Int) : Rat) = R2 at *
    generalize ((d.w * d.g : Int) : Rat) = G2 at *
    generalize ((d.w * d.b : Int) : Rat) = B2 at *
    generalize (R : Rat) = R3 at *
    generalize (G : Rat) = G3 at *
    generalize (B : Rat) = B3 at *
    generalize (k : Rat) = k3 at *
    exact near_sum gy hy (by grind) (by grind) (by grind) (by grind)
  · rw [kr, Rat.intCast_add, Rat.intCast_add, Rat.intCast_add]
    unfold lI at *
    clear gy gq hy hq h hd
    generalize ((d.w * d.r : Int) : Rat) = R2 at *
    generalize ((d.w * d.g : Int) : Rat) = G2 at *
    generalize ((d.w * d.b : Int) : Rat) = B2 at *
    generalize (R : Rat) = R3 at *
    generalize (G : Rat) = G3 at *
    generalize (B : Rat) = B3 at *
    generalize (k : Rat) = k3 at *
    exact near_sum gi hi (by grind) (by grind) (by grind) (by grind)
  · rw [kr, Rat.intCast_add, Rat.intCast_add, Rat.intCast_add]
    unfold lQ at *
    clear gy gi hy hi h hd
    generalize ((d.w * d.r : Int) : Rat) = R2 at *
    generalize ((d.w * d.g : Int) : Rat) = G2 at *
    generalize ((d.w * d.b : Int) : Rat) = B2 at *
    generalize (R : Rat) = R3 at *
    generalize (G : Rat) = G3 at *
    generalize (B : Rat) = B3 at *
    generalize (k : Rat) = k3 at *
    exact near_sum gq hq (by grind) (by grind) (by grind) (by grind)
end Mine
end
theorem Mine.off25 : True := by (w_top off); trivial
section
open PySem
set_option maxRecDepth 10000
namespace Mine
open Float64
theorem whole_ex {x : UInt64} {q : Rat} {N K : Int} (h : Near x q (286 / 140737488355328)) (k1 : 1 ≤ K) (k2 : K ≤ 160000) (hN : q * (K : Rat) = (N : Rat)) (n1 : -10000000 ≤ N) (n2 : N ≤ 10000000) :
    isFinite (add (mul x (ofInt K)) 4726483295917834240) = true ∧ wholeOf (mul x (ofInt K)) = N := by
  have hK := ofInt_ex (n := K) (by omega) (by omega)
  have ⟨f1, l1, u1⟩ := h
  have K1 : (1 : Rat) ≤ (K : Rat) := by exact_mod_cast k1
  have K2 : (K : Rat) ≤ 160000 := by
    have e : ((160000 : Int) : Rat) = 160000 := rfl
    rw [← e]
    exact Rat.intCast_le_intCast.mpr k2
  have N1 : (-10000000 : Rat) ≤ (N : Rat) := by
    have e : ((-10000000 : Int) : Rat) = -10000000 := rfl
    rw [← e]
    exact Rat.intCast_le_intCast.mpr n1
  have N2 : (N : Rat) ≤ 10000000 := by
    have e : ((10000000 : Int) : Rat) = 10000000 := rfl
    rw [← e]
    exact Rat.intCast_le_intCast.mpr n2
  have p1 := Rat.mul_le_mul_of_nonneg_left l1 (show (0 : Rat) ≤ (K : Rat) by grind)
  have p2 := Rat.mul_le_mul_of_nonneg_left u1 (show (0 : Rat) ≤ (K : Rat) by grind)
  have l2 : (N : Rat) - 1 / 1000000 ≤ rv x * (K : Rat) := by grind
  have u2 : rv x * (K : Rat) ≤ (N : Rat) + 1 / 1000000 := by grind
  clear p1 p2
  have m := mul27 (y := ofInt K) f1 hK.1 (by rw [hK.2]; grind) (by rw [hK.2]; grind)
  rw [hK.2] at m
  unfold wholeOf
  generalize mul x (ofInt K) = z at *
  obtain ⟨f3, l3, u3⟩ := m
  have hb := lit_big
  have a := add27 (y := 4726483295917834240) f3 hb.1 (by rw [hb.2]; grind) (by rw [hb.2]; grind)
  rw [hb.2] at a
  refine ⟨a.fin, ?_⟩
  have e : PySem.Flt.toInt truncOf (add z 4726483295917834240) = N + 100000000 := by
    refine trunc_ex (e := 1 / 4) (by omega) ?_ (by grind)
    rw [Rat.intCast_add]
    have e2 : ((100000000 : Int) : Rat) = 100000000 := rfl
    rw [e2]
    obtain ⟨f4, l4, u4⟩ := a
    exact ⟨f4, by grind, by grind⟩
  rw [e]
  omega
theorem div_near {x : UInt64} {q z : Rat} {W : Int} (h : Near x q (286 / 140737488355328)) (w0 : W ≠ 0) (w1 : -21 ≤ W) (w2 : W ≤ 21) (hz : z * (W : Rat) = q) (z1 : -60 ≤ z) (z2 : z ≤ 60) : Near (div x (ofInt W)) z (287 / 140737488355328) := by
  have hW := ofInt_ex (n := W) (by omega) (by omega)
  have ⟨f1, l1, u1⟩ := h
  have hne : (W : Rat) ≠ 0 := by exact_mod_cast w0
  have e1 : rv x / (W : Rat) * (W : Rat) = rv x := Rat.div_mul_cancel hne
  have k : z - 286 / 140737488355328 ≤ rv x / (W : Rat) ∧ rv x / (W : Rat) ≤ z + 286 / 140737488355328 := by
    generalize rv x / (W : Rat) = v at *
    rcases Int.lt_or_gt_of_ne w0 with hn | hp
    · have g : (1 : Rat) ≤ -(W : Rat) := by
        have : (1 : Int) ≤ -W := by omega
        have : ((1 : Int) : Rat) ≤ ((-W : Int) : Rat) := Rat.intCast_le_intCast.mpr this
        rw [Rat.intCast_neg] at this
        exact this
      constructor
      · refine Rat.le_of_mul_le_mul_left (c := -(W : Rat)) ?_ (by grind)
        grind
      · refine Rat.le_of_mul_le_mul_left (c := -(W : Rat)) ?_ (by grind)
        grind
    · have g : (1 : Rat) ≤ (W : Rat) := by
        have : (1 : Int) ≤ W := by omega
        exact_mod_cast this
      constructor
      · refine Rat.le_of_mul_le_mul_left (c := (W : Rat)) ?_ (by grind)
        grind
      · refine Rat.le_of_mul_le_mul_left (c := (W : Rat)) ?_ (by grind)
        grind
  have d := div6 (x := x) (y := ofInt W) f1 hW.1 (by rw [hW.2]; exact hne) (by rw [hW.2]; grind) (by rw [hW.2]; grind)
  rw [hW.2] at d
  obtain ⟨f2, l2, u2⟩ := d
  exact ⟨f2, by grind, by grind⟩
structure In21 (p : Rat) : Prop where
  lo : -21 ≤ p
  hi : p ≤ 21
def nY (p s t : Rat) : Rat := 3 / 10 * p + 59 / 100 * s + 11 / 100 * t
def nI (p s t : Rat) : Rat := 74 / 100 * (p - (3 / 10 * p + 59 / 100 * s + 11 / 100 * t)) - 27 / 100 * (t - (3 / 10 * p + 59 / 100 * s + 11 / 100 * t))
def nQ (p s t : Rat) : Rat := 48 / 100 * (p - (3 / 10 * p + 59 / 100 * s + 11 / 100 * t)) + 41 / 100 * (t - (3 / 10 * p + 59 / 100 * s + 11 / 100 * t))
theorem r_near {y i q : UInt64} {p s t : Rat} (hp : In21 p) (hs : In21 s) (ht : In21 t) (hy : Near y (nY p s t) (287 / 140737488355328)) (hi : Near i (nI p s t) (287 / 140737488355328)) (hq : Near q (nQ p s t) (287 / 140737488355328)) : Near (rOf y i q) p (1300 / 140737488355328) := by
  obtain ⟨p1, p2⟩ := hp
  obtain ⟨s1, s2⟩ := hs
  obtain ⟨t1, t2⟩ := ht
  unfold nY at hy
  unfold nI at hi
  unfold nQ at hq
  have ⟨fy, ly, uy⟩ := hy
  have ⟨fi, li, ui⟩ := hi
  have ⟨fq, lq, uq⟩ := hq
  have m1 := scale6 lit_ri hi (by grind) (by grind)
  have m2 := scale6 lit_rq hq (by grind) (by grind)
  unfold rOf
  generalize mul 4606703976345377586 i = x1 at *
  generalize mul 4603791717925830846 q = x2 at *
  obtain ⟨f1, l1, u1⟩ := m1
  obtain ⟨f2, l2, u2⟩ := m2
  have a1 := add6 fy f1 (by grind) (by grind)
  generalize add y x1 = x3 at *
  obtain ⟨f3, l3, u3⟩ := a1
  have a2 := add6 f3 f2 (by grind) (by grind)
  obtain ⟨f4, l4, u4⟩ := a2
  exact ⟨f4, by grind, by grind⟩
theorem g_near {y i q : UInt64} {p s t : Rat} (hp : In21 p) (hs : In21 s) (ht : In21 t) (hy : Near y (nY p s t) (287 / 140737488355328)) (hi : Near i (nI p s t) (287 / 140737488355328)) (hq : Near q (nQ p s t) (287 / 140737488355328)) : Near (gOf y i q) s (1300 / 140737488355328) := by
  obtain ⟨p1, p2⟩ := hp
  obtain ⟨s1, s2⟩ := hs
  obtain ⟨t1, t2⟩ := ht
  unfold nY at hy
  unfold nI at hi
  unfold nQ at hq
  have ⟨fy, ly, uy⟩ := hy
  have ⟨fi, li, ui⟩ := hi
  have ⟨fq, lq, uq⟩ := hq
  have m1 := scale6 lit_gi hi (by grind) (by grind)
  have m2 := scale6 lit_gq hq (by grind) (by grind)
  unfold gOf
  generalize mul 4598621754083818298 i = x1 at *
  generalize mul 4603901015759978483 q = x2 at *
  obtain ⟨f1, l1, u1⟩ := m1
  obtain ⟨f2, l2, u2⟩ := m2
  have a1 := sub6 fy f1 (by grind) (by grind)
  generalize sub y x1 = x3 at *
  obtain ⟨f3, l3, u3⟩ := a1
  have a2 := sub6 f3 f2 (by grind) (by grind)
  obtain ⟨f4, l4, u4⟩ := a2
  exact ⟨f4, by grind, by grind⟩
theorem b_near {y i q : UInt64} {p s t : Rat} (hp : In21 p) (hs : In21 s) (ht : In21 t) (hy : Near y (nY p s t) (287 / 140737488355328)) (hi : Near i (nI p s t) (287 / 140737488355328)) (hq : Near q (nQ p s t) (287 / 140737488355328)) : Near (bOf y i q) t (1300 / 140737488355328) := by
  obtain ⟨p1, p2⟩ := hp
  obtain ⟨s1, s2⟩ := hs
  obtain ⟨t1, t2⟩ := ht
  unfold nY at hy
  unfold nI at hi
  unfold nQ at hq
  have ⟨fy, ly, uy⟩ := hy
  have ⟨fi, li, ui⟩ := hi
  have ⟨fq, lq, uq⟩ := hq
  have m1 := scale6 lit_bi hi (by grind) (by grind)
  have m2 := scale6 lit_bq hq (by grind) (by grind)
  unfold bOf
  generalize mul 4607671262177584182 i = x1 at *
  generalize mul 4610375502138591871 q = x2 at *
  obtain ⟨f1, l1, u1⟩ := m1
  obtain ⟨f2, l2, u2⟩ := m2
  have a1 := sub6 fy f1 (by grind) (by grind)
  generalize sub y x1 = x3 at *
  obtain ⟨f3, l3, u3⟩ := a1
  have a2 := add6 f3 f2 (by grind) (by grind)
  obtain ⟨f4, l4, u4⟩ := a2
  exact ⟨f4, by grind, by grind⟩
theorem rv_lt {x y : UInt64} : rv x < rv y ↔ val x < val y := by
  have hs := sc_rat
  have ex := rv_mul x
  have ey := rv_mul y
  constructor
  · intro h
    have := Rat.mul_lt_mul_of_pos_right h hs
    rw [ex, ey] at this
    exact_mod_cast this
  · intro h
    have h2 : (val x : Rat) < (val y : Rat) := by exact_mod_cast h
    rw [← ex, ← ey] at h2
    exact Rat.lt_of_mul_lt_mul_right h2 (Rat.le_of_lt hs)
theorem cmp_lt {x y : UInt64} (hx : isFinite x = true) (hy : isFinite y = true) : ((cmp x y == some .lt) = true) ↔ rv x < rv y := by
  obtain ⟨a, m, e, dx⟩ := fin_dec hx
  obtain ⟨b, k, f, dy⟩ := fin_dec hy
  rw [cmp_right dx dy, rv_lt, ← Int.compare_eq_lt]
  cases compare (val x) (val y) <;> decide
theorem cmp_gt {x y : UInt64} (hx : isFinite x = true) (hy : isFinite y = true) : ((cmp x y == some .gt) = true) ↔ rv y < rv x := by
  obtain ⟨a, m, e, dx⟩ := fin_dec hx
  obtain ⟨b, k, f, dy⟩ := fin_dec hy
  rw [cmp_right dx dy, rv_lt]
  have : compare (val x) (val y) = .gt ↔ val y < val x := Int.compare_eq_gt
  rw [← this]
  cases compare (val x) (val y) <;> decide
def clampR (p : Rat) : Rat := if p < 0 then 0 else if 1 < p then 1 else p
theorem lit_zero : isFinite 0 = true ∧ rv 0 = 0 := by
  refine ⟨by decide +kernel, ?_⟩
  have h : val 0 = 0 := by decide +kernel
  unfold rv
  rw [h]
  grind
theorem cl_near {x : UInt64} {p : Rat} (h : Near x p (1300 / 140737488355328)) : Near (clF x) (clampR p) (1300 / 140737488355328) := by
  have ⟨f, l, u⟩ := h
  have hz := lit_zero
  have ho := lit_one
  have h1 := cmp_lt f hz.1
  rw [hz.2] at h1
  have hl : Near (loF x) (if p < 0 then 0 else p) (1300 / 140737488355328) := by
    unfold loF
    by_cases c : (cmp x 0 == some .lt) = true
    · rw [if_pos c]
      have := h1.mp c
      exact ⟨hz.1, by rw [hz.2]; grind, by rw [hz.2]; grind⟩
    · rw [if_neg c]
      have : ¬ rv x < 0 := fun k => c (h1.mpr k)
      exact ⟨f, by grind, by grind⟩
  unfold clF hiF clampR
  generalize loF x = y at *
  have ⟨f2, l2, u2⟩ := hl
  have h2 := cmp_gt f2 ho.1
  rw [ho.2] at h2
  by_cases c : (cmp y 4607182418800017408 == some .gt) = true
  · rw [if_pos c]
    have := h2.mp c
    exact ⟨ho.1, by rw [ho.2]; grind, by rw [ho.2]; grind⟩
  · rw [if_neg c]
    have : ¬ (1 : Rat) / 1 < rv y := fun k => c (h2.mpr k)
    exact ⟨f2, by grind, by grind⟩
end Mine
end
theorem Mine.off26 : True := by (w_top off); trivial
section
open PySem
set_option maxRecDepth 10000
namespace Mine
open Float64
theorem clamp_mul {p : Rat} {z S : Int} (hS : 0 < S) (h : p * (S : Rat) = (z : Rat)) : clampR p * (S : Rat) = ((upI z S : Int) : Rat) := by
  have s : (0 : Rat) < (S : Rat) := by exact_mod_cast hS
  have c1 : p < 0 ↔ z < 0 := by
    constructor
    · intro k
      have := Rat.mul_lt_mul_of_pos_right k s
      rw [h, Rat.zero_mul] at this
      exact_mod_cast this
    · intro k
      have k2 : (z : Rat) < 0 := by exact_mod_cast k
      rw [← h, ← Rat.zero_mul (S : Rat)] at k2
      exact Rat.lt_of_mul_lt_mul_right k2 (Rat.le_of_lt s)
  have c2 : 1 < p ↔ S < z := by
    constructor
    · intro k
      have := Rat.mul_lt_mul_of_pos_right k s
      rw [h, Rat.one_mul] at this
      exact_mod_cast this
    · intro k
      have k2 : (S : Rat) < (z : Rat) := by exact_mod_cast k
      rw [← h] at k2
      have k3 : (1 : Rat) * (S : Rat) < p * (S : Rat) := by rw [Rat.one_mul]; exact k2
      exact Rat.lt_of_mul_lt_mul_right k3 (Rat.le_of_lt s)
  unfold clampR
  by_cases a : p < 0
  · rw [if_pos a, Rat.zero_mul]
    have := c1.mp a
    have e : upI z S = 0 := by
      unfold upI
      repeat' split
      all_goals omega
    rw [e]
    rfl
  · rw [if_neg a]
    have hz : ¬ z < 0 := fun k => a (c1.mpr k)
    by_cases b : 1 < p
    · rw [if_pos b, Rat.one_mul]
      have := c2.mp b
      have e : upI z S = S := by
        unfold upI
        repeat' split
        all_goals omega
      rw [e]
    · rw [if_neg b, h]
      have hz2 : ¬ S < z := fun k => b (c2.mpr k)
      have e : upI z S = z := by unfold upI; repeat' split
                                 all_goals omega
      rw [e]
theorem mix_ex {W X : Int} {x : UInt64} {p : Rat} (w0 : W ≠ 0) (w1 : -21 ≤ W) (w2 : W ≤ 21) (hp : p * (16 * (W : Rat)) = (X : Rat)) (h : Near x p (1300 / 140737488355328)) : MixOk W X (clF x) := by
  have hc := cl_near h
  generalize clF x = c at *
  have hS1 : 1 ≤ sizeI W := by unfold sizeI; split <;> omega
  have hS2 : sizeI W ≤ 336 := by unfold sizeI; split <;> omega
  have hps : p * ((sizeI W : Int) : Rat) = ((if W > 0 then X else -X : Int) : Rat) := by
    unfold sizeI
    rcases Int.lt_or_gt_of_ne w0 with hn | hp'
    · rw [if_pos hn, if_neg (by omega), Rat.intCast_mul, Rat.intCast_neg, Rat.intCast_neg, ← hp]
      have e : ((16 : Int) : Rat) = 16 := rfl
      rw [e]
      grind
    · rw [if_neg (by omega), if_pos hp', Rat.intCast_mul, ← hp]
      rfl
  have hm := clamp_mul (by omega) hps
  have hmix : mixI W X = upI (if W > 0 then X else -X) (sizeI W) := rfl
  rw [← hmix] at hm
  have hm0 : 0 ≤ mixI W X ∧ mixI W X ≤ sizeI W := by
    unfold mixI upI
    repeat' split
    all_goals omega
  have hs := ofInt_ex (n := sizeI W) (by omega) (by omega)
  have hg : MixOk W X c ↔ (Float64.isFinite (Float64.add (Float64.mul c (Float64.ofInt (sizeI W))) 4602678819172646912) = true ∧ PySem.Flt.toInt Float64.truncOf (Float64.add (Float64.mul c (Float64.ofInt (sizeI W))) 4602678819172646912) = mixI W X) := ⟨fun h => ⟨h.fin, h.eq⟩, fun h => ⟨h.1, h.2⟩⟩
  rw [hg]
  clear hg
  generalize sizeI W = S at *
  have S1 : (1 : Rat) ≤ (S : Rat) := by exact_mod_cast hS1
  have S2 : (S : Rat) ≤ 336 := by exact_mod_cast hS2
  have M0 : (0 : Rat) ≤ ((mixI W X : Int) : Rat) := by exact_mod_cast hm0.1
  have M1 : ((mixI W X : Int) : Rat) ≤ (S : Rat) := Rat.intCast_le_intCast.mpr hm0.2
  have ⟨f1, l1, u1⟩ := hc
  have p1 := Rat.mul_le_mul_of_nonneg_left l1 (show (0 : Rat) ≤ (S : Rat) by grind)
  have p2 := Rat.mul_le_mul_of_nonneg_left u1 (show (0 : Rat) ≤ (S : Rat) by grind)
  have l2 : ((mixI W X : Int) : Rat) - 1 / 1000000 ≤ rv c * (S : Rat) := by grind
  have u2 : rv c * (S : Rat) ≤ ((mixI W X : Int) : Rat) + 1 / 1000000 := by grind
  clear p1 p2 hps hp
  have m := mul27 (y := ofInt S) f1 hs.1 (by rw [hs.2]; grind) (by rw [hs.2]; grind)
  rw [hs.2] at m
  have hh := lit_half
  have key : Near (add (mul c (ofInt S)) 4602678819172646912) (((mixI W X : Int) : Rat) + 1 / 2) (1 / 4) := by
    generalize mul c (ofInt S) = z at *
    obtain ⟨f3, l3, u3⟩ := m
    have a := add27 (y := 4602678819172646912) f3 hh.1 (by rw [hh.2]; grind) (by rw [hh.2]; grind)
    rw [hh.2] at a
    obtain ⟨f4, l4, u4⟩ := a
    exact ⟨f4, by grind, by grind⟩
  exact ⟨key.fin, trunc_ex hm0.1 key (by grind)⟩
end Mine
namespace Mine
open Float64
theorem b21 {X W : Int} {p : Rat} (w0 : W ≠ 0) (hX : -336 ≤ X ∧ X ≤ 336) (hp : p * (16 * (W : Rat)) = (X : Rat)) : In21 p := by
  have x1 : (-336 : Rat) ≤ (X : Rat) := by
    have e : ((-336 : Int) : Rat) = -336 := rfl
    rw [← e]
    exact Rat.intCast_le_intCast.mpr hX.1
  have x2 : (X : Rat) ≤ 336 := by exact_mod_cast hX.2
  rcases Int.lt_or_gt_of_ne w0 with hn | hq
  · have g : (1 : Rat) ≤ -(W : Rat) := by
      have : (1 : Int) ≤ -W := by omega
      have : ((1 : Int) : Rat) ≤ ((-W : Int) : Rat) := Rat.intCast_le_intCast.mpr this
      rw [Rat.intCast_neg] at this
      exact this
    constructor
    · refine Rat.le_of_mul_le_mul_left (c := -(W : Rat)) ?_ (by grind)
      grind
    · refine Rat.le_of_mul_le_mul_left (c := -(W : Rat)) ?_ (by grind)
      grind
  · have g : (1 : Rat) ≤ (W : Rat) := by
      have : (1 : Int) ≤ W := by omega
      exact_mod_cast this
    constructor
    · refine Rat.le_of_mul_le_mul_left (c := (W : Rat)) ?_ (by grind)
      grind
    · refine Rat.le_of_mul_le_mul_left (c := (W : Rat)) ?_ (by grind)
      grind
theorem stage_ok {k : Nat} {a : Wt} {W R G B : Int} (h : Acc k a W R G B) (hk : k ≤ 7) : StageOk W R G B a.y a.i a.q := by
  have kr : (k : Rat) ≤ 7 := by exact_mod_cast hk
  have we : (41 * (k : Rat) - 1) / 140737488355328 ≤ 286 / 140737488355328 := by grind
  have ny := h.y.wide we
  have ni := h.i.wide we
  have nq := h.q.wide we
  have bR : -336 ≤ R ∧ R ≤ 336 := by have := h.r1; have := h.r2; omega
  have bG : -336 ≤ G ∧ G ≤ 336 := by have := h.g1; have := h.g2; omega
  have bB : -336 ≤ B ∧ B ≤ 336 := by have := h.b1; have := h.b2; omega
  have bW : -21 ≤ W ∧ W ≤ 21 := by have := h.w1; have := h.w2; omega
  have e16 : ((160000 : Int) : Rat) = 160000 := rfl
  have e1 : ((1600 : Int) : Rat) = 1600 := rfl
  have hy := whole_ex (K := 1600) (N := 30 * R + 59 * G + 11 * B) ny (by decide) (by decide) (by unfold lY; rw [e1]; push_cast; grind) (by omega) (by omega)
  have hi := whole_ex (K := 160000) (N := 74 * (100 * R - (30 * R + 59 * G + 11 * B)) - 27 * (100 * B - (30 * R + 59 * G + 11 * B))) ni (by decide) (by decide) (by unfold lI; rw [e16]; push_cast; grind) (by omega) (by omega)
  have hq := whole_ex (K := 160000) (N := 48 * (100 * R - (30 * R + 59 * G + 11 * B)) + 41 * (100 * B - (30 * R + 59 * G + 11 * B))) nq (by decide) (by decide) (by unfold lQ; rw [e16]; push_cast; grind) (by omega) (by omega)
  have key : W ≠ 0 → ∃ p s t : Rat, In21 p ∧ In21 s ∧ In21 t ∧ p * (16 * (W : Rat)) = (R : Rat) ∧ s * (16 * (W : Rat)) = (G : Rat) ∧ t * (16 * (W : Rat)) = (B : Rat) ∧ Near (div a.y (ofInt W)) (nY p s t) (287 / 140737488355328) ∧ Near (div a.i (ofInt W)) (nI p s t) (287 / 140737488355328) ∧ Near (div a.q (ofInt W)) (nQ p s t) (287 / 140737488355328) := by
    intro w0
    have hne : (16 * (W : Rat)) ≠ 0 := by
      have : (W : Rat) ≠ 0 := by exact_mod_cast w0
      grind
    have hp : (R : Rat) / (16 * (W : Rat)) * (16 * (W : Rat)) = (R : Rat) := Rat.div_mul_cancel hne
    have hs : (G : Rat) / (16 * (W : Rat)) * (16 * (W : Rat)) = (G : Rat) := Rat.div_mul_cancel hne
    have ht : (B : Rat) / (16 * (W : Rat)) * (16 * (W : Rat)) = (B : Rat) := Rat.div_mul_cancel hne
    have ip := b21 w0 bR hp
    have is := b21 w0 bG hs
    have it := b21 w0 bB ht
    refine ⟨(R : Rat) / (16 * (W : Rat)), (G : Rat) / (16 * (W : Rat)), (B : Rat) / (16 * (W : Rat)), ip, is, it, hp, hs, ht, ?_⟩
    generalize (R : Rat) / (16 * (W : Rat)) = p at *
    generalize (G : Rat) / (16 * (W : Rat)) = s at *
    generalize (B : Rat) / (16 * (W : Rat)) = t at *
    obtain ⟨p1, p2⟩ := ip
    obtain ⟨s1, s2⟩ := is
    obtain ⟨t1, t2⟩ := it
    rw [← hp, ← hs, ← ht] at ny ni nq
    clear hp hs ht hy hi hq hne kr we
    refine ⟨?_, ?_, ?_⟩
    · exact div_near ny w0 bW.1 bW.2 (by unfold nY lY; grind) (by unfold nY; grind) (by unfold nY; grind)
    · exact div_near ni w0 bW.1 bW.2 (by unfold nI lI; grind) (by unfold nI; grind) (by unfold nI; grind)
    · exact div_near nq w0 bW.1 bW.2 (by unfold nQ lQ; grind) (by unfold nQ; grind) (by unfold nQ; grind)
  refine ⟨bW.1, bW.2, hy.1, hy.2, hi.1, hi.2, hq.1, hq.2, ?_, ?_, ?_⟩
  · intro w0
    obtain ⟨p, s, t, ip, is, it, hp, hs, ht, dy, di, dq⟩ := key w0
    exact mix_ex w0 bW.1 bW.2 hp (r_near ip is it dy di dq)
  · intro w0
    obtain ⟨p, s, t, ip, is, it, hp, hs, ht, dy, di, dq⟩ := key w0
    exact mix_ex w0 bW.1 bW.2 hs (g_near ip is it dy di dq)
  · intro w0
    obtain ⟨p, s, t, ip, is, it, hp, hs, ht, dy, di, dq⟩ := key w0
    exact mix_ex w0 bW.1 bW.2 ht (b_near ip is it dy di dq)
end Mine
end
theorem Mine.off27 : True := by (w_top off); trivial
section
open PySem
set_option maxRecDepth 10000
namespace Mine
open Float64
structure Plain (d0 d1 d2 d3 d4 d5 d6 : RowD) : Prop where
  acc : ∀ k, k < 7 → sW ([d0, d1, d2, d3, d4, d5, d6].take (k + 1)) = (accN (wOf d0) [wOf d1, wOf d2, wOf d3, wOf d4, wOf d5, wOf d6] k).w
  st : ∀ k, k < 7 → StageOk (sW ([d0, d1, d2, d3, d4, d5, d6].take (k + 1))) (sR ([d0, d1, d2, d3, d4, d5, d6].take (k + 1))) (sG ([d0, d1, d2, d3, d4, d5, d6].take (k + 1))) (sB ([d0, d1, d2, d3, d4, d5, d6].take (k + 1))) (accN (wOf d0) [wOf d1, wOf d2, wOf d3, wOf d4, wOf d5, wOf d6] k).y (accN (wOf d0) [wOf d1, wOf d2, wOf d3, wOf d4, wOf d5, wOf d6] k).i (accN (wOf d0) [wOf d1, wOf d2, wOf d3, wOf d4, wOf d5, wOf d6] k).q
  fy : Float64.isFinite (accN (wOf d0) [wOf d1, wOf d2, wOf d3, wOf d4, wOf d5, wOf d6] 6).y = true
  fi : Float64.isFinite (accN (wOf d0) [wOf d1, wOf d2, wOf d3, wOf d4, wOf d5, wOf d6] 6).i = true
  fq : Float64.isFinite (accN (wOf d0) [wOf d1, wOf d2, wOf d3, wOf d4, wOf d5, wOf d6] 6).q = true
theorem accs {d0 d1 d2 d3 d4 d5 d6 : RowD} (ok : ∀ d ∈ [d0, d1, d2, d3, d4, d5, d6], d.Ok) : ∀ k, k < 7 → Acc (k + 1) (accN (wOf d0) [wOf d1, wOf d2, wOf d3, wOf d4, wOf d5, wOf d6] k) (sW ([d0, d1, d2, d3, d4, d5, d6].take (k + 1))) (sR ([d0, d1, d2, d3, d4, d5, d6].take (k + 1))) (sG ([d0, d1, d2, d3, d4, d5, d6].take (k + 1))) (sB ([d0, d1, d2, d3, d4, d5, d6].take (k + 1))) := by
  have a0 := acc_row (ok d0 (.head _))
  have a1 := acc_step a0 (ok d1 (.tail _ (.head _))) (by decide)
  have a2 := acc_step a1 (ok d2 (.tail _ (.tail _ (.head _)))) (by decide)
  have a3 := acc_step a2 (ok d3 (.tail _ (.tail _ (.tail _ (.head _))))) (by decide)
  have a4 := acc_step a3 (ok d4 (.tail _ (.tail _ (.tail _ (.tail _ (.head _)))))) (by decide)
  have a5 := acc_step a4 (ok d5 (.tail _ (.tail _ (.tail _ (.tail _ (.tail _ (.head _))))))) (by decide)
  have a6 := acc_step a5 (ok d6 (.tail _ (.tail _ (.tail _ (.tail _ (.tail _ (.tail _ (.head _)))))))) (by decide)
  intro k hk
  have hc : k = 0 ∨ k = 1 ∨ k = 2 ∨ k = 3 ∨ k = 4 ∨ k = 5 ∨ k = 6 := by omega
  rcases hc with rfl | rfl | rfl | rfl | rfl | rfl | rfl
  · clear hk ok
    have esW : sW ([d0, d1, d2, d3, d4, d5, d6].take (0 + 1)) = d0.w := by simp only [sW, List.take, List.map, List.sum_cons, List.sum_nil]; omega
    have esR : sR ([d0, d1, d2, d3, d4, d5, d6].take (0 + 1)) = d0.w * d0.r := by simp only [sR, List.take, List.map, List.sum_cons, List.sum_nil]; omega
    have esG : sG ([d0, d1, d2, d3, d4, d5, d6].take (0 + 1)) = d0.w * d0.g := by simp only [sG, List.take, List.map, List.sum_cons, List.sum_nil]; omega
    have esB : sB ([d0, d1, d2, d3, d4, d5, d6].take (0 + 1)) = d0.w * d0.b := by simp only [sB, List.take, List.map, List.sum_cons, List.sum_nil]; omega
    rw [esW, esR, esG, esB]
    exact a0
  · clear hk ok
    have esW : sW ([d0, d1, d2, d3, d4, d5, d6].take (1 + 1)) = d0.w + d1.w := by simp only [sW, List.take, List.map, List.sum_cons, List.sum_nil]; omega
    have esR : sR ([d0, d1, d2, d3, d4, d5, d6].take (1 + 1)) = d0.w * d0.r + d1.w * d1.r := by simp only [sR, List.take, List.map, List.sum_cons, List.sum_nil]; omega
    have esG : sG ([d0, d1, d2, d3, d4, d5, d6].take (1 + 1)) = d0.w * d0.g + d1.w * d1.g := by simp only [sG, List.take, List.map, List.sum_cons, List.sum_nil]; omega
    have esB : sB ([d0, d1, d2, d3, d4, d5, d6].take (1 + 1)) = d0.w * d0.b + d1.w * d1.b := by simp only [sB, List.take, List.map, List.sum_cons, List.sum_nil]; omega
    rw [esW, esR, esG, esB]
    exact a1
  · clear hk ok
    have esW : sW ([d0, d1, d2, d3, d4, d5, d6].take (2 + 1)) = d0.w + d1.w + d2.w := by simp only [sW, List.take, List.map, List.sum_cons, List.sum_nil]; omega
    have esR : sR ([d0, d1, d2, d3, d4, d5, d6].take (2 + 1)) = d0.w * d0.r + d1.w * d1.r + d2.w * d2.r := by simp only [sR, List.take, List.map, List.sum_cons, List.sum_nil]; omega
    have esG : sG ([d0, d1, d2, d3, d4, d5, d6].take (2 + 1)) = d0.w * d0.g + d1.w * d1.g + d2.w * d2.g := by simp only [sG, List.take, List.map, List.sum_cons, List.sum_nil]; omega
    have esB : sB ([d0, d1, d2, d3, d4, d5, d6].take (2 + 1)) = d0.w * d0.b + d1.w * d1.b + d2.w * d2.b := by simp only [sB, List.take, List.map, List.sum_cons, List.sum_nil]; omega
    rw [esW, esR, esG, esB]
    exact a2
  · clear hk ok
    have esW : sW ([d0, d1, d2, d3, d4, d5, d6].take (3 + 1)) = d0.w + d1.w + d2.w + d3.w := by simp only [sW, List.take, List.map, List.sum_cons, List.sum_nil]; omega
    have esR : sR ([d0, d1, d2, d3, d4, d5, d6].take (3 + 1)) = d0.w * d0.r + d1.w * d1.r + d2.w * d2.r + d3.w * d3.r := by simp only [sR, List.take, List.map, List.sum_cons, List.sum_nil]; omega
    have esG : sG ([d0, d1, d2, d3, d4, d5, d6].take (3 + 1)) = d0.w * d0.g + d1.w * d1.g + d2.w * d2.g + d3.w * d3.g := by simp only [sG, List.take, List.map, List.sum_cons, List.sum_nil]; omega
    have esB : sB ([d0, d1, d2, d3, d4, d5, d6].take (3 + 1)) = d0.w * d0.b + d1.w * d1.b + d2.w * d2.b + d3.w * d3.b := by simp only [sB, List.take, List.map, List.sum_cons, List.sum_nil]; omega
    rw [esW, esR, esG, esB]
    exact a3
  · clear hk ok
    have esW : sW ([d0, d1, d2, d3, d4, d5, d6].take (4 + 1)) = d0.w + d1.w + d2.w + d3.w + d4.w := by simp only [sW, List.take, List.map, List.sum_cons, List.sum_nil]; omega
    have esR : sR ([d0, d1, d2, d3, d4, d5, d6].take (4 + 1)) = d0.w * d0.r + d1.w * d1.r + d2.w * d2.r + d3.w * d3.r + d4.w * d4.r := by simp only [sR, List.take, List.map, List.sum_cons, List.sum_nil]; omega
    have esG : sG ([d0, d1, d2, d3, d4, d5, d6].take (4 + 1)) = d0.w * d0.g + d1.w * d1.g + d2.w * d2.g + d3.w * d3.g + d4.w * d4.g := by simp only [sG, List.take, List.map, List.sum_cons, List.sum_nil]; omega
    have esB : sB ([d0, d1, d2, d3, d4, d5, d6].take (4 + 1)) = d0.w * d0.b + d1.w * d1.b + d2.w * d2.b + d3.w * d3.b + d4.w * d4.b := by simp only [sB, List.take, List.map, List.sum_cons, List.sum_nil]; omega
    rw [esW, esR, esG, esB]
    exact a4
  · clear hk ok
    have esW : sW ([d0, d1, d2, d3, d4, d5, d6].take (5 + 1)) = d0.w + d1.w + d2.w + d3.w + d4.w + d5.w := by simp only [sW, List.take, List.map, List.sum_cons, List.sum_nil]; omega
    have esR : sR ([d0, d1, d2, d3, d4, d5, d6].take (5 + 1)) = d0.w * d0.r + d1.w * d1.r + d2.w * d2.r + d3.w * d3.r + d4.w * d4.r + d5.w * d5.r := by simp only [sR, List.take, List.map, List.sum_cons, List.sum_nil]; omega
    have esG : sG ([d0, d1, d2, d3, d4, d5, d6].take (5 + 1)) = d0.w * d0.g + d1.w * d1.g + d2.w * d2.g + d3.w * d3.g + d4.w * d4.g + d5.w * d5.g := by simp only [sG, List.take, List.map, List.sum_cons, List.sum_nil]; omega
    have esB : sB ([d0, d1, d2, d3, d4, d5, d6].take (5 + 1)) = d0.w * d0.b + d1.w * d1.b + d2.w * d2.b + d3.w * d3.b + d4.w * d4.b + d5.w * d5.b := by simp only [sB, List.take, List.map, List.sum_cons, List.sum_nil]; omega
    rw [esW, esR, esG, esB]
    exact a5
  · clear hk ok
    have esW : sW ([d0, d1, d2, d3, d4, d5, d6].take (6 + 1)) = d0.w + d1.w + d2.w + d3.w + d4.w + d5.w + d6.w := by simp only [sW, List.take, List.map, List.sum_cons, List.sum_nil]; omega
    have esR : sR ([d0, d1, d2, d3, d4, d5, d6].take (6 + 1)) = d0.w * d0.r + d1.w * d1.r + d2.w * d2.r + d3.w * d3.r + d4.w * d4.r + d5.w * d5.r + d6.w * d6.r := by simp only [sR, List.take, List.map, List.sum_cons, List.sum_nil]; omega
    have esG : sG ([d0, d1, d2, d3, d4, d5, d6].take (6 + 1)) = d0.w * d0.g + d1.w * d1.g + d2.w * d2.g + d3.w * d3.g + d4.w * d4.g + d5.w * d5.g + d6.w * d6.g := by simp only [sG, List.take, List.map, List.sum_cons, List.sum_nil]; omega
    have esB : sB ([d0, d1, d2, d3, d4, d5, d6].take (6 + 1)) = d0.w * d0.b + d1.w * d1.b + d2.w * d2.b + d3.w * d3.b + d4.w * d4.b + d5.w * d5.b + d6.w * d6.b := by simp only [sB, List.take, List.map, List.sum_cons, List.sum_nil]; omega
    rw [esW, esR, esG, esB]
    exact a6
theorem plain {d0 d1 d2 d3 d4 d5 d6 : RowD} (ok : ∀ d ∈ [d0, d1, d2, d3, d4, d5, d6], d.Ok) : Plain d0 d1 d2 d3 d4 d5 d6 := by
  have h := accs ok
  exact ⟨fun k hk => (h k hk).w.symm, fun k hk => stage_ok (h k hk) hk, (h 6 (by decide)).y.fin, (h 6 (by decide)).i.fin, (h 6 (by decide)).q.fin⟩
end Mine
end
theorem Mine.off28 : True := by (w_top off); trivial
section
open PySem PySem.W PySem.Spec PySem.Calls PyProof.Rows
set_option maxRecDepth 100000
set_option maxHeartbeats 2000000
set_option pp.deepTerms false
namespace Mine
theorem ints_cons {ds : List Value} {ms : List Int} {k : Nat} (h : IntsAre ds ms) (hl : ms.length = k + 1) : ∃ m t ds' ms', ds = .int m t :: ds' ∧ IntsAre ds' ms' ∧ ms'.length = k := by
  cases h with
  | nil => simp at hl
  | cons n t r => exact ⟨n, t, _, _, rfl, r, by simpa using hl⟩
theorem ints_nil {ds : List Value} {ms : List Int} (h : IntsAre ds ms) (hl : ms.length = 0) : ds = [] := by
  cases h with
  | nil => rfl
  | cons n t r => simp at hl
theorem ints7 {ds : List Value} {ms : List Int} (h : IntsAre ds ms) (hl : ms.length = 7) : ∃ m0 m1 m2 m3 m4 m5 m6 t0 t1 t2 t3 t4 t5 t6, ds = [.int m0 t0, .int m1 t1, .int m2 t2, .int m3 t3, .int m4 t4, .int m5 t5, .int m6 t6] := by
  obtain ⟨m0, t0, d0, l0, rfl, h0, e0⟩ := ints_cons h hl
  obtain ⟨m1, t1, d1, l1, rfl, h1, e1⟩ := ints_cons h0 e0
  obtain ⟨m2, t2, d2, l2, rfl, h2, e2⟩ := ints_cons h1 e1
  obtain ⟨m3, t3, d3, l3, rfl, h3, e3⟩ := ints_cons h2 e2
  obtain ⟨m4, t4, d4, l4, rfl, h4, e4⟩ := ints_cons h3 e3
  obtain ⟨m5, t5, d5, l5, rfl, h5, e5⟩ := ints_cons h4 e4
  obtain ⟨m6, t6, d6, l6, rfl, h6, e6⟩ := ints_cons h5 e5
  have hn := ints_nil h6 e6
  subst hn
  exact ⟨m0, m1, m2, m3, m4, m5, m6, t0, t1, t2, t3, t4, t5, t6, rfl⟩
section
variable {w : World} {p : Program} {loose : List Str} {mean : ExcName → Option Value} {mg mb : Str → Option Value} {dp un : Nat} {fr : Option (List Env)} {gd : Option (List Code)} {s : Shared} {Q E : Value → Shared → Prop} {h₀ : Heap} {L : Addr} {m : Str → Option Value} {news : List (Addr × Obj)}
theorem use_draws {l : Addr} {vs : List Value} {ns : List Int} (F : Fr h₀ L s.heap m) (N : News h₀ L s.heap news) (X : (hd.heap_39 w.params).In h₀) (T : Top p loose mean mg mb h₀) (hdp : dp + 1 < recursionLimit) (hun : un + 64 < cLine) (hl : h₀.IsList l vs.toArray) (hi : IntsAre vs ns) (hlen : ¬ ((63 : Nat) : Int) < (ns.length : Int))
    (h : ∀ a n m0 m1 m2 m3 m4 m5 m6 t0 t1 t2 t3 t4 t5 t6 h' tk', Fr h₀ L h' m → News h₀ L h' ((a, lst [.int m0 t0, .int m1 t1, .int m2 t2, .int m3 t3, .int m4 t4, .int m5 t5, .int m6 t6] n) :: news) → LCg.Off1 a news → Q (.ref a) { s with heap := h', toks := tk' }) :
    wpAny (model PySem.Challenge.rw_mq0087_01.row.prog w) { handled := none, depth := dp, frames := fr, guards := gd, units := un } (call (.ref 44) [.ref l]) Q E s := by
  refine c_draws w l vs ns hi hlen p loose mean mg mb dp un fr gd s Q E hdp hun (X.keeps F.keep) (T.keeps F.keep) (hl.at fun o e => F.keep _ o e) fun v h' tk' k hp => ?_
  obtain ⟨a, ds, n, rfl, hf, ho, ms, hms, h7⟩ := hp
  obtain ⟨m0, m1, m2, m3, m4, m5, m6, t0, t1, t2, t3, t4, t5, t6, rfl⟩ := ints7 hms h7
  obtain ⟨F', N', o1⟩ := back F N k hf ho
  exact h a n m0 m1 m2 m3 m4 m5 m6 t0 t1 t2 t3 t4 t5 t6 h' tk' F' N' o1
theorem use_row {d : Int} {t : Tok} (F : Fr h₀ L s.heap m) (N : News h₀ L s.heap news) (X : (hd.heap_39 w.params).In h₀) (T : Top p loose mean mg mb h₀) (hdp : dp + 1 < recursionLimit) (hun : un + 16 < cLine)
    (h : ∀ a t1 t2 t3 t4 n h' tk', Fr h₀ L h' m → News h₀ L h' ((a, lst [.int (Int.fmod (Int.fdiv d 4913) 7 - 3) t1, .int (Int.fmod d 17) t2, .int (Int.fmod (Int.fdiv d 17) 17) t3, .int (Int.fmod (Int.fdiv d 289) 17) t4] n) :: news) → LCg.Off1 a news → Q (.ref a) { s with heap := h', toks := tk' }) :
    wpAny (model PySem.Challenge.rw_mq0087_01.row.prog w) { handled := none, depth := dp, frames := fr, guards := gd, units := un } (call (.ref 51) [.int d t]) Q E s := by
  refine c_row w d t p loose mean mg mb dp un fr gd s Q E hdp hun (X.keeps F.keep) (T.keeps F.keep) trivial fun v h' tk' k hp => ?_
  obtain ⟨a, t1, t2, t3, t4, n, rfl, hf, ho⟩ := hp
  obtain ⟨F', N', o1⟩ := back F N k hf ho
  exact h a t1 t2 t3 t4 n h' tk' F' N' o1
end
theorem row_ok (a : Addr) (m : Int) (t1 t2 t3 t4 : Tok) : (RowD.mk a (Int.fmod (Int.fdiv m 4913) 7 - 3) (Int.fmod m 17) (Int.fmod (Int.fdiv m 17) 17) (Int.fmod (Int.fdiv m 289) 17) t1 t2 t3 t4).Ok := by
  have f : ∀ x k : Int, 0 < k → 0 ≤ Int.fmod x k ∧ Int.fmod x k < k := fun x k hk => ⟨Int.fmod_nonneg_of_pos x hk, Int.fmod_lt_of_pos x hk⟩
  have h1 := f (Int.fdiv m 4913) 7 (by decide)
  have h2 := f m 17 (by decide)
  have h3 := f (Int.fdiv m 17) 17 (by decide)
  have h4 := f (Int.fdiv m 289) 17 (by decide)
  constructor <;> dsimp only <;> omega
theorem ok7 (a0 : Addr) (m0 : Int) (p0 q0 r0 s0 : Tok) (a1 : Addr) (m1 : Int) (p1 q1 r1 s1 : Tok) (a2 : Addr) (m2 : Int) (p2 q2 r2 s2 : Tok) (a3 : Addr) (m3 : Int) (p3 q3 r3 s3 : Tok) (a4 : Addr) (m4 : Int) (p4 q4 r4 s4 : Tok) (a5 : Addr) (m5 : Int) (p5 q5 r5 s5 : Tok) (a6 : Addr) (m6 : Int) (p6 q6 r6 s6 : Tok) : ∀ d ∈ [RowD.mk a0 (Int.fmod (Int.fdiv m0 4913) 7 - 3) (Int.fmod m0 17) (Int.fmod (Int.fdiv m0 17) 17) (Int.fmod (Int.fdiv m0 289) 17) p0 q0 r0 s0, RowD.mk a1 (Int.fmod (Int.fdiv m1 4913) 7 - 3) (Int.fmod m1 17) (Int.fmod (Int.fdiv m1 17) 17) (Int.fmod (Int.fdiv m1 289) 17) p1 q1 r1 s1, RowD.mk a2 (Int.fmod (Int.fdiv m2 4913) 7 - 3) (Int.fmod m2 17) (Int.fmod (Int.fdiv m2 17) 17) (Int.fmod (Int.fdiv m2 289) 17) p2 q2 r2 s2, RowD.mk a3 (Int.fmod (Int.fdiv m3 4913) 7 - 3) (Int.fmod m3 17) (Int.fmod (Int.fdiv m3 17) 17) (Int.fmod (Int.fdiv m3 289) 17) p3 q3 r3 s3, RowD.mk a4 (Int.fmod (Int.fdiv m4 4913) 7 - 3) (Int.fmod m4 17) (Int.fmod (Int.fdiv m4 17) 17) (Int.fmod (Int.fdiv m4 289) 17) p4 q4 r4 s4, RowD.mk a5 (Int.fmod (Int.fdiv m5 4913) 7 - 3) (Int.fmod m5 17) (Int.fmod (Int.fdiv m5 17) 17) (Int.fmod (Int.fdiv m5 289) 17) p5 q5 r5 s5, RowD.mk a6 (Int.fmod (Int.fdiv m6 4913) 7 - 3) (Int.fmod m6 17) (Int.fmod (Int.fdiv m6 17) 17) (Int.fmod (Int.fdiv m6 289) 17) p6 q6 r6 s6], d.Ok :=
  List.forall_mem_cons.mpr ⟨row_ok _ _ _ _ _ _, List.forall_mem_cons.mpr ⟨row_ok _ _ _ _ _ _, List.forall_mem_cons.mpr ⟨row_ok _ _ _ _ _ _, List.forall_mem_cons.mpr ⟨row_ok _ _ _ _ _ _, List.forall_mem_cons.mpr ⟨row_ok _ _ _ _ _ _, List.forall_mem_cons.mpr ⟨row_ok _ _ _ _ _ _, List.forall_mem_cons.mpr ⟨row_ok _ _ _ _ _ _, List.forall_mem_nil _⟩⟩⟩⟩⟩⟩⟩
section
variable {w : World} {p : Program} {loose : List Str} {mean : ExcName → Option Value} {mg mb : Str → Option Value} {dp un : Nat} {fr : Option (List Env)} {gd : Option (List Code)} {s : Shared} {Q E : Value → Shared → Prop} {h₀ : Heap} {L : Addr} {m : Str → Option Value}
theorem use_agrees {D aD : Addr} {oL oD : Obj} {a0 : Addr} {m0 : Int} {p0 q0 r0 s0 : Tok} {n0 : Nat} {a1 : Addr} {m1 : Int} {p1 q1 r1 s1 : Tok} {n1 : Nat} {a2 : Addr} {m2 : Int} {p2 q2 r2 s2 : Tok} {n2 : Nat} {a3 : Addr} {m3 : Int} {p3 q3 r3 s3 : Tok} {n3 : Nat} {a4 : Addr} {m4 : Int} {p4 q4 r4 s4 : Tok} {n4 : Nat} {a5 : Addr} {m5 : Int} {p5 q5 r5 s5 : Tok} {n5 : Nat} {a6 : Addr} {m6 : Int} {p6 q6 r6 s6 : Tok} {n6 : Nat} (F : Fr h₀ L s.heap m) (N : News h₀ L s.heap ((D, oL) :: (a6, lst [.int (Int.fmod (Int.fdiv m6 4913) 7 - 3) p6, .int (Int.fmod m6 17) q6, .int (Int.fmod (Int.fdiv m6 17) 17) r6, .int (Int.fmod (Int.fdiv m6 289) 17) s6] n6) :: (a5, lst [.int (Int.fmod (Int.fdiv m5 4913) 7 - 3) p5, .int (Int.fmod m5 17) q5, .int (Int.fmod (Int.fdiv m5 17) 17) r5, .int (Int.fmod (Int.fdiv m5 289) 17) s5] n5) :: (a4, lst [.int (Int.fmod (Int.fdiv m4 4913) 7 - 3) p4, .int (Int.fmod m4 17) q4, .int (Int.fmod (Int.fdiv m4 17) 17) r4, .int (Int.fmod (Int.fdiv m4 289) 17) s4] n4) :: (a3, lst [.int (Int.fmod (Int.fdiv m3 4913) 7 - 3) p3, .int (Int.fmod m3 17) q3, .int (Int.fmod (Int.fdiv m3 17) 17) r3, .int (Int.fmod (Int.fdiv m3 289) 17) s3] n3) :: (a2, lst [.int (Int.fmod (Int.fdiv m2 4913) 7 - 3) p2, .int (Int.fmod m2 17) q2, .int (Int.fmod (Int.fdiv m2 17) 17) r2, .int (Int.fmod (Int.fdiv m2 289) 17) s2] n2) :: (a1, lst [.int (Int.fmod (Int.fdiv m1 4913) 7 - 3) p1, .int (Int.fmod m1 17) q1, .int (Int.fmod (Int.fdiv m1 17) 17) r1, .int (Int.fmod (Int.fdiv m1 289) 17) s1] n1) :: (a0, lst [.int (Int.fmod (Int.fdiv m0 4913) 7 - 3) p0, .int (Int.fmod m0 17) q0, .int (Int.fmod (Int.fdiv m0 17) 17) r0, .int (Int.fmod (Int.fdiv m0 289) 17) s0] n0) :: (aD, oD) :: [(75, tabObj #[])])) (X : (hd.heap_39 w.params).In h₀) (T : Top p loose mean mg mb h₀) (C : CodeHd h₀ 77 75)
    (hdp : dp + 8 < recursionLimit) (hun : un + 256 < cLine) (hl : ∀ h : Heap, h.get? D = some oL → h.IsList D [Value.ref a0, Value.ref a1, Value.ref a2, Value.ref a3, Value.ref a4, Value.ref a5, Value.ref a6].toArray)
    (h : ∀ h' tk' ps, Fr h₀ L h' m → News h₀ L h' [(75, tabObj ps)] → Q (.bool true) { s with heap := h', toks := tk' }) :
    wpAny (model PySem.Challenge.rw_mq0087_01.row.prog w) { handled := none, depth := dp, frames := fr, guards := gd, units := un } (call (.ref 78) [.ref D]) Q E s := by
  have ok := ok7 a0 m0 p0 q0 r0 s0 a1 m1 p1 q1 r1 s1 a2 m2 p2 q2 r2 s2 a3 m3 p3 q3 r3 s3 a4 m4 p4 q4 r4 s4 a5 m5 p5 q5 r5 s5 a6 m6 p6 q6 r6 s6
  have pl := plain ok
  have hP := N _ (.tail _ (.tail _ (.tail _ (.tail _ (.tail _ (.tail _ (.tail _ (.tail _ (.tail _ (.head _))))))))))
  refine c_agrees w D (RowD.mk a0 (Int.fmod (Int.fdiv m0 4913) 7 - 3) (Int.fmod m0 17) (Int.fmod (Int.fdiv m0 17) 17) (Int.fmod (Int.fdiv m0 289) 17) p0 q0 r0 s0) (RowD.mk a1 (Int.fmod (Int.fdiv m1 4913) 7 - 3) (Int.fmod m1 17) (Int.fmod (Int.fdiv m1 17) 17) (Int.fmod (Int.fdiv m1 289) 17) p1 q1 r1 s1) (RowD.mk a2 (Int.fmod (Int.fdiv m2 4913) 7 - 3) (Int.fmod m2 17) (Int.fmod (Int.fdiv m2 17) 17) (Int.fmod (Int.fdiv m2 289) 17) p2 q2 r2 s2) (RowD.mk a3 (Int.fmod (Int.fdiv m3 4913) 7 - 3) (Int.fmod m3 17) (Int.fmod (Int.fdiv m3 17) 17) (Int.fmod (Int.fdiv m3 289) 17) p3 q3 r3 s3) (RowD.mk a4 (Int.fmod (Int.fdiv m4 4913) 7 - 3) (Int.fmod m4 17) (Int.fmod (Int.fdiv m4 17) 17) (Int.fmod (Int.fdiv m4 289) 17) p4 q4 r4 s4) (RowD.mk a5 (Int.fmod (Int.fdiv m5 4913) 7 - 3) (Int.fmod m5 17) (Int.fmod (Int.fdiv m5 17) 17) (Int.fmod (Int.fdiv m5 289) 17) p5 q5 r5 s5) (RowD.mk a6 (Int.fmod (Int.fdiv m6 4913) 7 - 3) (Int.fmod m6 17) (Int.fmod (Int.fdiv m6 17) 17) (Int.fmod (Int.fdiv m6 289) 17) p6 q6 r6 s6) ok pl.fy pl.fi pl.fq F ?N X T C pl.acc pl.st hdp hun (hl _ (N _ (.head _)).1) ?rs ?ret
  case N =>
    intro q hq
    rw [List.mem_singleton.mp hq]
    exact hP
  case rs => exact List.forall_mem_cons.mpr ⟨⟨_, (N _ (.tail _ (.tail _ (.tail _ (.tail _ (.tail _ (.tail _ (.tail _ (.head _))))))))).1, rfl, _, rfl⟩, List.forall_mem_cons.mpr ⟨⟨_, (N _ (.tail _ (.tail _ (.tail _ (.tail _ (.tail _ (.tail _ (.head _)))))))).1, rfl, _, rfl⟩, List.forall_mem_cons.mpr ⟨⟨_, (N _ (.tail _ (.tail _ (.tail _ (.tail _ (.tail _ (.head _))))))).1, rfl, _, rfl⟩, List.forall_mem_cons.mpr ⟨⟨_, (N _ (.tail _ (.tail _ (.tail _ (.tail _ (.head _)))))).1, rfl, _, rfl⟩, List.forall_mem_cons.mpr ⟨⟨_, (N _ (.tail _ (.tail _ (.tail _ (.head _))))).1, rfl, _, rfl⟩, List.forall_mem_cons.mpr ⟨⟨_, (N _ (.tail _ (.tail _ (.head _)))).1, rfl, _, rfl⟩, List.forall_mem_cons.mpr ⟨⟨_, (N _ (.tail _ (.head _))).1, rfl, _, rfl⟩, List.forall_mem_nil _⟩⟩⟩⟩⟩⟩⟩
  case ret =>
    intro h8 tk8 ps8 hk8 h75
    refine h h8 tk8 ps8 (LCg.fr_but F (fun b o hb e => hk8 b o (by simpa using hb) e) (Ne.symm hP.2.1) hP.2.2) ?_
    intro q hq
    rw [List.mem_singleton.mp hq]
    exact ⟨h75, hP.2⟩
end
local macro_rules | `(tactic| walk_at "eval ListComp") => `(tactic| (k_here; k_dflt (refine LCg.ListComp_U (F₀ := by k_asm) (by rfl) (by decide) (by rfl) (by decide) (by rfl) ?_)))
local macro_rules | `(tactic| walk_at "CompSrc") => `(tactic| (k_here; k_dflt (refine LCg.CompSrc.ledger (by rfl) (by k_asm) (by k_asm) (by k_mem) (by first | size_fits | exact Nat.le_of_ble_eq_true rfl) ?_; intro g'; lcg_lit)))
local macro_rules | `(tactic| walk_at "CompRest") => `(tactic| (with_unfolding_all first
  | (refine LCg.CompRest.succ ?_; intro v' I' oI' C' oC' D' m' h' tk' E' hv' hC' hx' F' N' off' ne'; clear ne'; (first | lcg_open hv' | (obtain ⟨t9', hv9'⟩ := hv'; subst hv9')))
  | refine LCg.CompRest.zero ?_))
local macro_rules | `(tactic| walk_at "CompEnd") => `(tactic| (k_dflt (refine' compEnd_new ?F ?N ?o1 ?off ?S ?_; (case F => assumption); (case N => assumption); (case o1 => assumption); (case off => assumption); (case S => lcg_src))))
local macro_rules | `(tactic| walk_at "FinE") => `(tactic| ((unfold LCg.FinE); intro D' h' tk' F' N' o1'; (try simp only [List.nil_append, List.cons_append] at N'); (try dsimp only)))
local macro_rules | `(tactic| walk_at "call ref") => `(tactic| (k_here; (with_reducible show wpAny _ _ (call (Value.ref 44) _) _ _ _); k_dflt (refine' use_draws ?k1 ?k2 ?k3 ?k4 ?k5 ?k6 ?k7 ?k8 ?k9 ?_; (case k1 => k_asm); (case k2 => k_asm); (case k3 => k_asm); (case k4 => k_asm); (case k5 => ktr_room); (case k6 => ktr_units); (case k7 => assumption); (case k8 => assumption); (case k9 => assumption); k_whole; intro a' n' m0' m1' m2' m3' m4' m5' m6' t0' t1' t2' t3' t4' t5' t6' h' tk' F' N' o1')))
local macro_rules | `(tactic| walk_at "call ref") => `(tactic| (k_here; (with_reducible show wpAny _ _ (call (Value.ref 51) _) _ _ _); k_dflt (refine' use_row ?k1 ?k2 ?k3 ?k4 ?k5 ?k6 ?_; (case k1 => k_asm); (case k2 => k_asm); (case k3 => k_asm); (case k4 => k_asm); (case k5 => ktr_room); (case k6 => ktr_units); k_whole; intro a' t1' t2' t3' t4' n' h' tk' F' N' o1')))
local macro_rules | `(tactic| walk_at "call ref") => `(tactic| (k_here; (with_reducible show wpAny _ _ (call (Value.ref 78) _) _ _ _); k_dflt (refine' use_agrees ?k1 ?k2 ?k3 ?k4 ?k7 ?k5 ?k6 ?k8 ?_; (case k1 => k_asm); (case k2 => k_asm); (case k3 => k_asm); (case k4 => k_asm); (case k7 => assumption); (case k5 => ktr_room); (case k6 => ktr_units); (case k8 => exact fun _ e => ⟨_, e, rfl, _, rfl⟩); k_whole; intro h' tk' ps' F' N')))
theorem holds : PySem.Challenge.rw_mq0087_01.Holds := hd (by
  k_go0
  all_goals try k_fold
  k_steps)
end Mine
end
theorem PySem.Challenge.cw_mq0087_01_holds : PySem.Challenge.rw_mq0087_01.Holds := by
  exact Mine.holds
