import PyProof.Rows.All
import Wide.All
import OpenK.AllK
import Wide.FinOn
import Lean
import PySem.Challenge.RW_pg0031_01
open PySem PySem.W PyProof.Rows
set_option Elab.async false
set_option linter.all false
namespace Mine
set_option maxRecDepth 100000
set_option maxHeartbeats 8000000
open_top hd for PySem.Challenge.rw_pg0031_01
section Loop31
open PySem PySem.W PyProof.Rows PyProof.V PySem.Spec
set_option maxRecDepth 100000
set_option maxHeartbeats 8000000

section
variable {prog : Program} {w : World} {A : Around} {E : Value → Shared → Prop} {s : Shared} {env : Env} {h₀ : Heap} {target : Expr} {body : List Stmt} {Q : Flow → Shared → Prop}

/-- an object that is no tuple, dict or list -/
def Iter (o : Obj) : Prop := o.cls ≠ .type "tuple" ∧ o.cls ≠ .type "dict" ∧ o.cls ≠ .type "list"
/-- a for loop by an invariant over its turn, its names and the ledger -/
theorem mi_turns {I : Addr} {fp : List Addr} {n : Nat} {P Md : Nat → Value → Heap → Prop} {St : Nat → Heap → Prop} {m : PySem.Str → Option Value} {news keep : List (Addr × Obj)}
    (W : KTurns prog w A target I fp [I] n P Md St) (hIo : ∀ i h, St i h → ∃ o, h.get? I = some o ∧ Iter o) (hL : env.locals ∉ fp) (hI0 : h₀.get? I = none)
    (hfp : ∀ b ∈ fp, b = I ∨ (∃ o, (b, o) ∈ keep) ∨ (h₀.get? b).isSome = true) (hst : St 0 s.heap) (F : Fr h₀ env.locals s.heap m) (N : News h₀ env.locals s.heap news) (hnI : ∀ p ∈ news, p.1 ≠ I)
    (J : Nat → (PySem.Str → Option Value) → List (Addr × Obj) → Prop) (hJk : ∀ i m' news', J i m' news' → ∀ p ∈ keep, p ∈ news') (h0 : J 0 m news)
    (step : ∀ i v m₁ news₁ h₁ tk₁ oI, i < n → P i v h₁ → J i m₁ news₁ → (∀ p ∈ news₁, p.1 ≠ I) → Fr h₀ env.locals h₁ m₁ → News h₀ env.locals h₁ ((I, oI) :: news₁) → Iter oI →
      wpAny (model prog w) A (assign target env v) (fun _ s₃ => wpAny (model prog w) A (execs body env)
        (LoopStepV h₀ env.locals [I] [(I, oI)] (J (i + 1)) { s with heap := h₁, toks := tk₁ } (fun v s' => Q (.ret v) s') fun s' => Q .next s') E s₃) E { s with heap := h₁, toks := tk₁ })
    (fin : ∀ h' tk m' news', Fr h₀ env.locals h' m' → News h₀ env.locals h' news' → J n m' news' → Q .next { s with heap := h', toks := tk }) :
    TurnsAt prog w A h₀ env target body Q E (.ref I) s := by
  refine ⟨I, fp, [I], n, P, Md, St, m, news, J, rfl, W, hL, ?_, ?_, hst, F, N, h0, ?_, ?_⟩
  · intro b hb; rw [List.mem_singleton.mp hb]; exact hI0
  · intro p hp hb; exact hnI p hp (List.mem_singleton.mp hb)
  · intro i v m₁ news₁ h₁ tk₁ own hi hP hJ hoff hown hget hall hst₁ F₁ N₁
    obtain ⟨oI, heI, hit⟩ := hIo _ _ hst₁
    have hIf : I ∈ fp := W.sub I (List.mem_singleton.mpr rfl)
    have hIown : (I, oI) ∈ own := hall I hIf hI0 oI heI
    have hne : ∀ p ∈ news₁, p.1 ≠ I := fun p hp e => hoff p hp (by rw [e]; exact List.mem_singleton.mpr rfl)
    have N₂ : News h₀ env.locals h₁ ((I, oI) :: news₁) := fun p hp => by
      rcases List.mem_cons.mp hp with rfl | hp
      · exact N₁ _ (List.mem_append_left _ hIown)
      · exact N₁ _ (List.mem_append_right _ hp)
    have back : ∀ h' news₂, (∀ p ∈ keep, p ∈ news₂) → News h₀ env.locals h' ((I, oI) :: news₂) → News h₀ env.locals h' (own ++ news₂) := by
      intro h' news₂ hk N' p hp
      rcases List.mem_append.mp hp with hp | hp
      · have hz := N₁ p (List.mem_append_left _ hp)
        rcases hfp p.1 (hown p hp) with e | ⟨o, ho⟩ | hs
        · have e2 : p.2 = oI := by
            have q := hget p hp
            rw [e, heI] at q
            exact (Option.some.inj q).symm
          have : p = (I, oI) := Prod.ext e e2
          rw [this]
          exact N' _ (List.mem_cons_self ..)
        · have hin : (p.1, o) ∈ news₁ := hJk _ _ _ hJ _ ho
          have q1 := (N₁ _ (List.mem_append_right _ hin)).1
          have q2 := hget p hp
          have e2 : p.2 = o := by
            have q3 : h₁.get? p.1 = some o := q1
            rw [q2] at q3
            exact Option.some.inj q3
          have : p = (p.1, o) := Prod.ext rfl e2
          rw [this]
          exact N' _ (List.mem_cons_of_mem _ (hk _ ho))
        · rw [hz.2.2] at hs
          exact nomatch hs
      · exact N' _ (List.mem_cons_of_mem _ hp)
    refine wpAny_mono (step i v m₁ news₁ h₁ tk₁ oI hi hP hJ hne F₁ N₂ hit) (fun _ s₃ h₃ => wpAny_mono h₃ (fun f s₄ h₄ => ?_) fun _ _ e => e) fun _ _ e => e
    cases f with
    | ret v => exact h₄
    | brk => exact h₄
    | cont =>
      obtain ⟨e, h', tk, m₂, news₂, rfl, F₃, N₃, ha, hJ₃⟩ := h₄
      exact ⟨e, h', tk, m₂, news₂, rfl, F₃, back _ _ (hJk _ _ _ hJ₃) N₃, ha, hJ₃⟩
    | next =>
      obtain ⟨e, h', tk, m₂, news₂, rfl, F₃, N₃, ha, hJ₃⟩ := h₄
      exact ⟨e, h', tk, m₂, news₂, rfl, F₃, back _ _ (hJk _ _ _ hJ₃) N₃, ha, hJ₃⟩
  · intro h' tk m' news' F' N' _ hJ
    exact fin h' tk m' news' F' N' hJ

/-- the object is a dict of texts to ints -/
def IsC (prog : Program) (w : World) (o : Obj) (c : List (PySem.Str × Int)) : Prop := ∃ kvs, o.IsDictOf (PySem.strKind prog w) kvs ∧ FlatPairs PyData.str kvs (kdpD c)

theorem kdpD_at {c : List (PySem.Str × Int)} {kvs : List (PySem.Str × Value)} (hf : FlatPairs PyData.str kvs (kdpD c)) {i : Nat} {k : PySem.Str} {x : Value} (hx : kvs[i]? = some (k, x)) :
    ∃ n t, c[i]? = some (k, n) ∧ x = .int n t := by
  obtain ⟨dv, hD, hfl⟩ := hf.at hx
  unfold kdpD at hD
  rw [List.getElem?_map] at hD
  cases hc : c[i]? with
  | none => rw [hc] at hD; exact nomatch hD
  | some p =>
    rw [hc] at hD
    have e := Option.some.inj hD
    have e1 := (Prod.mk.inj e).1
    have e2 := (Prod.mk.inj e).2
    obtain ⟨p1, p2⟩ := p
    dsimp only at e1 e2
    have e1' : p1 = k := PyData.str.inj e1
    subst e1'
    subst e2
    obtain ⟨t, ht⟩ := hfl.int_inv
    exact ⟨p2, t, rfl, ht⟩

theorem mi_items {elts : List Expr} {kk : Nat} {pos : Pos} {d vw : Addr} {od : Obj} {c : List (PySem.Str × Int)} {m₀ : PySem.Str → Option Value} {news : List (Addr × Obj)}
    (hh : A.handled = none) (F : Fr h₀ env.locals s.heap m₀) (N : News h₀ env.locals s.heap news) (hvw : s.heap.IsItemsView vw d) (hC : IsC prog w od c) (hm : (d, od) ∈ news)
    (J : (PySem.Str → Option Value) → Nat → (PySem.Str → Option Value) → List (Addr × Obj) → Prop) (hJk : ∀ i m' news', J m₀ i m' news' → (d, od) ∈ news') (h0 : J m₀ 0 m₀ news)
    (step : ∀ (I : Addr), (∀ p ∈ news, p.1 < I) → ∀ i k n, c[i]? = some (k, n) → ∀ m₁ news₁ h₁ tk₁ oI T t1 t2, J m₀ i m₁ news₁ → (∀ p ∈ news₁, p.1 ≠ I) → IsTup h₁ T #[.str k t1, .int n t2] → Fr h₀ env.locals h₁ m₁ → News h₀ env.locals h₁ ((I, oI) :: news₁) → Iter oI →
      wpAny (model prog w) A (assign (.Tuple elts kk pos) env (.ref T)) (fun _ s₃ => wpAny (model prog w) A (execs body env)
        (LoopStepV h₀ env.locals [I] [(I, oI)] (J m₀ (i + 1)) { s with heap := h₁, toks := tk₁ } (fun v s' => Q (.ret v) s') fun s' => Q .next s') E s₃) E { s with heap := h₁, toks := tk₁ })
    (fin : ∀ h' tk m' news', Fr h₀ env.locals h' m' → News h₀ env.locals h' news' → J m₀ c.length m' news' → Q .next { s with heap := h', toks := tk }) :
    wpAny (model prog w) A (pyIter (.ref vw)) (fun it s₂ => TurnsAt prog w A h₀ env (.Tuple elts kk pos) body Q E it s₂) E s := by
  obtain ⟨kvs, hdo, hf⟩ := hC
  have hax := N _ hm
  obtain ⟨ep, hat⟩ := (Heap.dictOf_iff.mpr ⟨od, hax.1, hdo⟩ : s.heap.DictOf (PySem.strKind prog w) d kvs).dictAt
  have hne : d ≠ s.heap.objs.size := Nat.ne_of_lt hat.lt_size
  have hlen : kvs.length = c.length := by rw [← hf.length, kdpD_length]
  refine wpAny_pyIter_items hvw hat ?_
  refine mi_turns (keep := [(d, od)]) (kti_itemsTurns (knd := PySem.strKind prog w) hh s.heap.objs.size d hne kvs ep) ?_ ?_ (next_is_new F) ?_ ⟨⟨.none, .none, Heap.get?_push_size _ rfl⟩, hat.push _⟩ (F.push _) (fun p hp => ⟨Heap.get?_push_of_some _ (N p hp).1, (N p hp).2⟩) (fun p hp => Nat.ne_of_lt (Heap.lt_size (N p hp).1)) (J m₀) ?_ h0 ?_ ?_
  · rintro i h ⟨⟨ok, ov, he⟩, _⟩
    exact ⟨_, he, by unfold Iter; dsimp only; decide⟩
  · intro hI
    have hb' : env.locals = s.heap.objs.size ∨ env.locals = d := by simpa using hI
    rcases hb' with e | e
    · exact absurd F.ns.lt (e ▸ Nat.lt_irrefl _)
    · exact hax.2.1 e.symm
  · intro b hb
    have hb' : b = s.heap.objs.size ∨ b = d := by simpa using hb
    rcases hb' with e | e
    · exact .inl e
    · exact .inr (.inl ⟨od, by simp [e]⟩)
  · intro i m' news' hJ p hp
    rw [List.mem_singleton.mp hp]
    exact hJk i m' news' hJ
  · rintro i v m₁ news₁ h₁ tk₁ oI hi ⟨T, key, k, x, rfl, hx, hk, hT⟩ hJ hne' F₁ N₁ hit
    obtain ⟨n, t2, hc, rfl⟩ := kdpD_at hf hx
    obtain ⟨t1, rfl⟩ := Value.isStrOf_shape hk
    exact step _ (fun p hp => Heap.lt_size (N p hp).1) i k n hc m₁ news₁ h₁ tk₁ oI T t1 t2 hJ hne' hT F₁ N₁ hit
  · intro h' tk m' news' F' N' hJ
    rw [hlen] at hJ
    exact fin h' tk m' news' F' N' hJ
theorem mi_vals {d vw : Addr} {od : Obj} {c : List (PySem.Str × Int)} {m₀ : PySem.Str → Option Value} {news : List (Addr × Obj)}
    (hh : A.handled = none) (F : Fr h₀ env.locals s.heap m₀) (N : News h₀ env.locals s.heap news) (hvw : s.heap.IsValuesView vw d) (hC : IsC prog w od c) (hm : (d, od) ∈ news)
    (J : (PySem.Str → Option Value) → Nat → (PySem.Str → Option Value) → List (Addr × Obj) → Prop) (hJk : ∀ i m' news', J m₀ i m' news' → (d, od) ∈ news') (h0 : J m₀ 0 m₀ news)
    (step : ∀ (I : Addr), (∀ p ∈ news, p.1 < I) → ∀ i k n, c[i]? = some (k, n) → ∀ m₁ news₁ h₁ tk₁ oI t2, J m₀ i m₁ news₁ → (∀ p ∈ news₁, p.1 ≠ I) → Fr h₀ env.locals h₁ m₁ → News h₀ env.locals h₁ ((I, oI) :: news₁) → Iter oI →
      wpAny (model prog w) A (assign target env (.int n t2)) (fun _ s₃ => wpAny (model prog w) A (execs body env)
        (LoopStepV h₀ env.locals [I] [(I, oI)] (J m₀ (i + 1)) { s with heap := h₁, toks := tk₁ } (fun v s' => Q (.ret v) s') fun s' => Q .next s') E s₃) E { s with heap := h₁, toks := tk₁ })
    (fin : ∀ h' tk m' news', Fr h₀ env.locals h' m' → News h₀ env.locals h' news' → J m₀ c.length m' news' → Q .next { s with heap := h', toks := tk }) :
    wpAny (model prog w) A (pyIter (.ref vw)) (fun it s₂ => TurnsAt prog w A h₀ env target body Q E it s₂) E s := by
  obtain ⟨kvs, hdo, hf⟩ := hC
  have hax := N _ hm
  obtain ⟨ep, hat⟩ := (Heap.dictOf_iff.mpr ⟨od, hax.1, hdo⟩ : s.heap.DictOf (PySem.strKind prog w) d kvs).dictAt
  have hne : d ≠ s.heap.objs.size := Nat.ne_of_lt hat.lt_size
  have hlen : kvs.length = c.length := by rw [← hf.length, kdpD_length]
  refine wpAny_pyIter_values hvw hat ?_
  refine mi_turns (keep := [(d, od)]) (KTurns.ofWalks (Walks.dictValues (knd := PySem.strKind prog w) hh s.heap.objs.size d hne kvs ep) fun i v s Q E st q => letGo_valiter st.1 q) ?_ ?_ (next_is_new F) ?_ ⟨⟨_, Heap.get?_push_size _ rfl, rfl, rfl⟩, hat.push _⟩ (F.push _) (fun p hp => ⟨Heap.get?_push_of_some _ (N p hp).1, (N p hp).2⟩) (fun p hp => Nat.ne_of_lt (Heap.lt_size (N p hp).1)) (J m₀) ?_ h0 ?_ ?_
  · rintro i h ⟨⟨o, he, hcl, _⟩, _⟩
    exact ⟨_, he, by unfold Iter; rw [hcl]; decide⟩
  · intro hI
    have hb' : env.locals = s.heap.objs.size ∨ env.locals = d := by simpa using hI
    rcases hb' with e | e
    · exact absurd F.ns.lt (e ▸ Nat.lt_irrefl _)
    · exact hax.2.1 e.symm
  · intro b hb
    have hb' : b = s.heap.objs.size ∨ b = d := by simpa using hb
    rcases hb' with e | e
    · exact .inl e
    · exact .inr (.inl ⟨od, by simp [e]⟩)
  · intro i m' news' hJ p hp
    rw [List.mem_singleton.mp hp]
    exact hJk i m' news' hJ
  · rintro i v m₁ news₁ h₁ tk₁ oI hi ⟨k, hx⟩ hJ hne' F₁ N₁ hit
    obtain ⟨n, t2, hc, rfl⟩ := kdpD_at hf hx
    exact step _ (fun p hp => Heap.lt_size (N p hp).1) i k n hc m₁ news₁ h₁ tk₁ oI t2 hJ hne' F₁ N₁ hit
  · intro h' tk m' news' F' N' hJ
    rw [hlen] at hJ
    exact fin h' tk m' news' F' N' hJ

theorem mi_list {l : Addr} {ol : Obj} {its : Array Value} {m₀ : PySem.Str → Option Value} {news : List (Addr × Obj)}
    (hh : A.handled = none) (F : Fr h₀ env.locals s.heap m₀) (N : News h₀ env.locals s.heap news) (hm : (l, ol) ∈ news) (hl : ol.cls = .type "list" ∧ ∃ n, ol.data = .seq its n)
    (J : (PySem.Str → Option Value) → Nat → (PySem.Str → Option Value) → List (Addr × Obj) → Prop) (hJk : ∀ i m' news', J m₀ i m' news' → (l, ol) ∈ news') (h0 : J m₀ 0 m₀ news)
    (step : ∀ (I : Addr), (∀ p ∈ news, p.1 < I) → ∀ i v, its[i]? = some v → ∀ m₁ news₁ h₁ tk₁ oI, J m₀ i m₁ news₁ → (∀ p ∈ news₁, p.1 ≠ I) → Fr h₀ env.locals h₁ m₁ → News h₀ env.locals h₁ ((I, oI) :: news₁) → Iter oI →
      wpAny (model prog w) A (assign target env v) (fun _ s₃ => wpAny (model prog w) A (execs body env)
        (LoopStepV h₀ env.locals [I] [(I, oI)] (J m₀ (i + 1)) { s with heap := h₁, toks := tk₁ } (fun v s' => Q (.ret v) s') fun s' => Q .next s') E s₃) E { s with heap := h₁, toks := tk₁ })
    (fin : ∀ h' tk m' news', Fr h₀ env.locals h' m' → News h₀ env.locals h' news' → J m₀ its.size m' news' → Q .next { s with heap := h', toks := tk }) :
    wpAny (model prog w) A (pyIter (.ref l)) (fun it s₂ => TurnsAt prog w A h₀ env target body Q E it s₂) E s := by
  have hax := N _ hm
  have hil : s.heap.IsList l its := ⟨ol, hax.1, hl.1, hl.2⟩
  have hlt : l < s.heap.objs.size := Heap.lt_size hax.1
  have hne : l ≠ s.heap.objs.size := Nat.ne_of_lt hlt
  refine wpAny_pyIter_list hil ?_
  refine mi_turns (keep := [(l, ol)]) (KTurns.ofWalks (Walks.list hh s.heap.objs.size l hne its) fun i v s Q E st q => letGo_listiter st.1 q) ?_ ?_ (next_is_new F) ?_ ⟨⟨_, Heap.get?_push_size _ rfl, rfl, rfl⟩, hil.push _⟩ (F.push _) (fun p hp => ⟨Heap.get?_push_of_some _ (N p hp).1, (N p hp).2⟩) (fun p hp => Nat.ne_of_lt (Heap.lt_size (N p hp).1)) (J m₀) ?_ h0 ?_ ?_
  · rintro i h ⟨⟨o, he, hcl, _⟩, _⟩
    exact ⟨_, he, by unfold Iter; rw [hcl]; decide⟩
  · intro hI
    have hb' : env.locals = s.heap.objs.size ∨ env.locals = l := by simpa using hI
    rcases hb' with e | e
    · exact absurd F.ns.lt (e ▸ Nat.lt_irrefl _)
    · exact hax.2.1 e.symm
  · intro b hb
    have hb' : b = s.heap.objs.size ∨ b = l := by simpa using hb
    rcases hb' with e | e
    · exact .inl e
    · exact .inr (.inl ⟨ol, by simp [e]⟩)
  · intro i m' news' hJ p hp
    rw [List.mem_singleton.mp hp]
    exact hJk i m' news' hJ
  · intro i v m₁ news₁ h₁ tk₁ oI hi hx hJ hne' F₁ N₁ hit
    exact step _ (fun p hp => Heap.lt_size (N p hp).1) i v hx m₁ news₁ h₁ tk₁ oI hJ hne' F₁ N₁ hit
  · intro h' tk m' news' F' N' hJ
    exact fin h' tk m' news' F' N' hJ

theorem mi_range {r : Addr} {b : Int} {t u v : Tok} {n : Nat} {m₀ : PySem.Str → Option Value} {news : List (Addr × Obj)}
    (hh : A.handled = none) (F : Fr h₀ env.locals s.heap m₀) (N : News h₀ env.locals s.heap news) (hr : IsRange s.heap r 0 b 1 t u v) (hb : b = (n : Int)) (hn : n ≤ 1000)
    (J : (PySem.Str → Option Value) → Nat → (PySem.Str → Option Value) → List (Addr × Obj) → Prop) (h0 : J m₀ 0 m₀ news)
    (step : ∀ (I : Addr), (∀ p ∈ news, p.1 < I) → ∀ i, i < n → ∀ m₁ news₁ h₁ tk₁ oI tv, J m₀ i m₁ news₁ → (∀ p ∈ news₁, p.1 ≠ I) → Fr h₀ env.locals h₁ m₁ → News h₀ env.locals h₁ ((I, oI) :: news₁) → Iter oI →
      wpAny (model prog w) A (assign target env (.int (i : Int) tv)) (fun _ s₃ => wpAny (model prog w) A (execs body env)
        (LoopStepV h₀ env.locals [I] [(I, oI)] (J m₀ (i + 1)) { s with heap := h₁, toks := tk₁ } (fun v s' => Q (.ret v) s') fun s' => Q .next s') E s₃) E { s with heap := h₁, toks := tk₁ })
    (fin : ∀ h' tk m' news', Fr h₀ env.locals h' m' → News h₀ env.locals h' news' → J m₀ n m' news' → Q .next { s with heap := h', toks := tk }) :
    wpAny (model prog w) A (pyIter (.ref r)) (fun it s₂ => TurnsAt prog w A h₀ env target body Q E it s₂) E s := by
  subst hb
  have hsz : Builtin.Range.rangeSize 0 (n : Int) 1 = (n : Int) := by
    unfold Builtin.Range.rangeSize
    simp only [Int.sub_zero, show ((1 : Int) > 0) = True from by simp, if_true]
    split <;> omega
  have hsm : Builtin.Range.small 0 (n : Int) 1 = true := by
    unfold Builtin.Range.small
    rw [hsz]
    have f : ∀ z : Int, 0 ≤ z → z ≤ 1001 → Builtin.Range.rangeFitsLong z = true := by
      intro z h1 h2
      unfold Builtin.Range.rangeFitsLong
      simp
      omega
    rw [f 0 (by omega) (by omega), f (n : Int) (by omega) (by omega), f 1 (by omega) (by omega)]
    simp only [Bool.and_self, Bool.true_and, show ((1 : Int) > 0) = True from by simp, if_true]
    rw [f ((n : Int) + (1 - 1)) (by omega) (by omega)]
    simp
  refine wpAny_pyIter_range hr hsm ?_
  refine mi_turns (keep := []) (KTurns.ofWalks (LCg.range_walks hh 0 n) fun i v s Q E st q => ?_) ?_ ?_ (next_is_new F) ?_ ?_ (F.push _) (fun p hp => ⟨Heap.get?_push_of_some _ (N p hp).1, (N p hp).2⟩) (fun p hp => Nat.ne_of_lt (Heap.lt_size (N p hp).1)) (J m₀) ?_ h0 ?_ ?_
  · have st' : s.heap.get? _ = some _ := st
    unfold letOwnedTupleGo
    cases target <;> first
      | exact wpAny_pure q
      | (cases v <;> first
          | exact wpAny_pure q
          | (refine wpAny_bind (wpAny_load st' ?_)
             exact wpAny_pure q))
  · intro i h st
    exact ⟨_, st, by unfold Iter; dsimp only; decide⟩
  · intro hI
    have hb' : env.locals = s.heap.objs.size := by simpa using hI
    exact absurd F.ns.lt (hb' ▸ Nat.lt_irrefl _)
  · intro b hb
    exact .inl (List.mem_singleton.mp hb)
  · show IsRangeIter _ _ _ _ _
    rw [hsz]
    simpa using Heap.get?_push_size _ rfl
  · intro i m' news' hJ p hp
    exact nomatch hp
  · rintro i v m₁ news₁ h₁ tk₁ oI hi ⟨tv, rfl⟩ hJ hne' F₁ N₁ hit
    rw [Int.zero_add]
    exact step _ (fun p hp => Heap.lt_size (N p hp).1) i hi m₁ news₁ h₁ tk₁ oI tv hJ hne' F₁ N₁ hit
  · intro h' tk m' news' F' N' hJ
    exact fin h' tk m' news' F' N' hJ
end

end Loop31
-- Pre31
set_option maxRecDepth 100000
set_option maxHeartbeats 8000000
abbrev TL {D : Type} (w : World) (mean : ExcName → Option Value) (mg mb : PySem.Str → Option Value) (f : Addr) (c : ToldN D) (d : D) : Prop :=
  TellsN PySem.Challenge.rw_pg0031_01.row.prog w (hd.heap_39 w.params) hd.view_39 (looseW hd.view_39 []) mean mg mb f c d
abbrev PG : Program := PySem.Challenge.rw_pg0031_01.row.prog
local macro_rules | `(tactic| walk_at "mine_enterC") => `(tactic| k_dflt (refine' code_defC ?k1 ?k2 ?k3 ?k4 ?k5 ?kA ?kF ?kK ?k6 ?k7 ?k8 ?k9 ?kB ?kD ?_ ?c2 ?c3 ?c4; (case kA => exact rfl); (case kF => exact rfl); (case kK => assumption); (case k1 => k_asm); (case k2 => k_asm); (case k3 => k_asm); (case k4 => k_asm); (case k5 => k_asm); (case k6 => k_is); (case k7 => k_is); (case k8 => ktr_room); (case k9 => exact BindsTo.of_eq rfl); (case kB => exact rfl); (case kD => decide +kernel); (case c2 => exact rfl); (case c3 => exact rfl); (case c4 => exact rfl); k_whole; intro g' L' h' tk' cells' FG' F' N' Y' B' X' T' l1; (try k_lt l1); k_cells Y'; (try simp only [List.cons_append, List.nil_append] at N'); (try dsimp only); (try k_lift B'); (try k_fold)))
abbrev tupO (vs : List Value) : Obj := { cls := .type "tuple", data := .seq vs.toArray 0 }
abbrev lstO (vs : List Value) : Obj := { cls := .type "list", data := .seq vs.toArray 0 }
/-- a dict of texts to ints on the ledger -/
structure DcAt (w : World) (news : List (Addr × Obj)) (a : Addr) (c : List (PySem.Str × Int)) : Prop where
  ex : ∃ o, (a, o) ∈ news ∧ IsC PG w o c
  lo : (a == sysModules) = false
theorem DcAt.mono {w : World} {news news' : List (Addr × Obj)} {a : Addr} {c : List (PySem.Str × Int)} (h : DcAt w news a c) (hs : ∀ p ∈ news, p ∈ news') : DcAt w news' a c :=
  ⟨let ⟨o, h1, h2⟩ := h.ex; ⟨o, hs _ h1, h2⟩, h.lo⟩

section AC31
open PySem PySem.W PyProof.Rows PyProof.V
set_option maxRecDepth 100000
set_option maxHeartbeats 8000000
abbrev Ctr := List (PySem.Str × Int)
inductive TwoC (w : World) (news : List (Addr × Obj)) : List Value → (Ctr × Ctr) → Prop
  | mk (a b : Addr) (c d : Ctr) (ha : DcAt w news a c) (hb : DcAt w news b d) : TwoC w news [.ref a, .ref b] (c, d)
def cpC (c : Ctr) : Ctr := c.foldl (fun acc p => kdpPut acc p.1 p.2) []
def addC (acc : Ctr) (p : PySem.Str × Int) : Ctr := kdpPut acc p.1 (if kdpHas acc p.1 then kdpLook acc p.1 0 + p.2 else p.2)
def mergeC (c d : Ctr) : Ctr := d.foldl addC (cpC c)
abbrev acC (w : World) : ToldN (Ctr × Ctr) where
  Rel := TwoC w
  Ok := fun d => d.1.length + d.2.length ≤ 1000
  size := fun _ => 1
  Tl := fun _ => True
  Out := fun news r d => ∃ a, r = .ref a ∧ DcAt w news a (mergeC d.1 d.2)

def two (a b : PySem.Str) (x y : Option Value) (m : PySem.Str → Option Value) : PySem.Str → Option Value := fun z => if z = a then x else if z = b then y else m z
theorem two_self (a b : PySem.Str) (m : PySem.Str → Option Value) : m = two a b (m a) (m b) m := by
  funext z; unfold two; split
  · next h => rw [h]
  · split
    · next h => rw [h]
    · rfl
theorem two_upd (a b : PySem.Str) (x y u v : Option Value) (m : PySem.Str → Option Value) : (fun z => if z = a then u else if z = b then v else two a b x y m z) = two a b u v m := by
  funext z; unfold two; split
  · rfl
  · split
    · rfl
    · rfl
theorem updF_app {d : Addr} {o : Obj} {r : List (Addr × Obj)} {g : Obj → List (Addr × Obj)} (U : UpdF d o r g) : ∀ (own : List (Addr × Obj)), (∀ p ∈ own, p.1 ≠ d) → UpdF d o (own ++ r) (fun o' => own ++ g o')
  | [], _ => U
  | p :: l, h => UpdF.tail (h p (List.mem_cons_self ..)) (updF_app U l fun q hq => h q (List.mem_cons_of_mem _ hq))

theorem cp_len (c : Ctr) : ∀ acc : Ctr, (c.foldl (fun acc p => kdpPut acc p.1 p.2) acc).length ≤ acc.length + c.length := by
  induction c with
  | nil => intro acc; simp
  | cons p r ih => intro acc; rw [List.foldl_cons, List.length_cons]; have h1 := ih (kdpPut acc p.1 p.2); have h2 := kdpPut_len acc p.1 p.2; omega
theorem cpC_len (c : Ctr) : (cpC c).length ≤ c.length := by have := cp_len c []; simpa [cpC] using this
theorem add_len (c : Ctr) : ∀ acc : Ctr, (c.foldl addC acc).length ≤ acc.length + c.length := by
  induction c with
  | nil => intro acc; simp
  | cons p r ih => intro acc; rw [List.foldl_cons, List.length_cons]; have h1 := ih (addC acc p); have h2 : (addC acc p).length ≤ acc.length + 1 := kdpPut_len ..; omega
theorem mergeC_len (c d : Ctr) : (mergeC c d).length ≤ c.length + d.length := by have := add_len d (cpC c); have := cpC_len c; unfold mergeC; omega
theorem take_snoc {α : Type} {l : List α} {i : Nat} {x : α} (h : l[i]? = some x) : l.take (i + 1) = l.take i ++ [x] := by
  rw [List.take_succ, h]; rfl
theorem ac_tells (w : World) (mean : ExcName → Option Value) (mg mb : PySem.Str → Option Value) (d : _) : TL w mean mg mb 28 (acC w) d := by
  (unfold TL TellsN; w_on; k_fill)
  intro dp un gd cn cs a ccd cl outer A₀ base h₀ L m news s vs Q E B F X N T hk hR hok hdp hu hret
  obtain ⟨a1, a2, c1, c2, ⟨⟨o1, hm1, hC1⟩, lo1⟩, ⟨⟨o2, hm2, hC2⟩, lo2⟩⟩ := hR
  have hok' : c1.length + c2.length ≤ 1000 := hok
  refine wpAny_call ?_
  k_dflt ktr_enter
  k_steps
  rename Fr _ _ _ _ => lF
  rename News _ _ _ _ => lN
  rename ∀ (p : Addr × Obj), p ∈ news → _ => l1
  rename Obj.IsDictOf (PySem.strKind _ _) _ _ => hs0
  rename_i nd _ o0 _ _ _ _ _
  have T1 : StrTab PG w _ a1 (kdpD c1) := let ⟨kvs, hd, hf⟩ := hC1; TabAt.ofObj lo1 (lN _ (List.mem_cons_of_mem _ hm1)).1 hd hf
  with_unfolding_all refine' For_turns lF ?_
  with_unfolding_all refine MethodCall_ ?_
  with_unfolding_all refine ld lF (by rfl) ?_
  with_unfolding_all refine getMethod_tab (knd := PySem.strKind _ _) (enc := PyData.str) PySem.F.slot_dict_items PySem.F.type_dict_items T1 ?_
  with_unfolding_all refine callWith_method0 ?_
  with_unfolding_all refine call_items_tab (knd := PySem.strKind _ _) (enc := PyData.str) T1 lF lN ?_
  intro h' o' hv' F' N'
  replace N' := kti_tail N'
  (with_unfolding_all refine' mi_items (c := c1) (d := a1) (od := o1) ?hh ?F ?N ?hv hC1 (List.mem_cons_of_mem _ hm1) (fun m0 i m' news' => ∃ x z o, m' = two (Str.ofString "caller") (Str.ofString "func") x z m0 ∧ news' = (nd, o) :: news ∧ IsC PG w o (cpC (c1.take i))) ?_ ?_ ?_ ?_)
  case hh => rfl
  case F => exact F'
  case N => exact N'
  case hv => exact hv'
  · rintro i m' news' ⟨x, z, o, rfl, rfl, _⟩
    exact List.mem_cons_of_mem _ hm1
  · refine ⟨_, _, o0, two_self _ _ _, rfl, ?_⟩
    exact ⟨[], hs0, .nil⟩
  · rintro I hI i k n hc m₁ news₁ h₁ tk₁ oI T t1 t2 ⟨x, z, o, rfl, rfl, hCo⟩ hne hT F₁ N₁ hit
    clear lF lN F' N'
    obtain ⟨kvs, hdk, hfk⟩ := hCo
    have hlen : (cpC (c1.take i)).length ≤ 16777216 := by
      have := cpC_len (c1.take i); have := List.length_take_le' i c1
      omega
    have hIn : I ≠ nd := fun e => hne _ (List.mem_cons_self ..) e.symm
    k_steps
    rename Fr _ _ _ _ => F2
    rename News _ _ _ _ => N2
    rename Obj.IsDictOf (PySem.strKind _ _) _ _ => hd2
    rename FlatPairs PyData.str _ _ => hf2
    refine LoopStepU.intro F2 N2 ?_ ?_
    · intro p hp
      rcases List.mem_cons.mp hp with rfl | hp
      · exact fun e => hIn (List.mem_singleton.mp e).symm
      · exact fun e => hne _ (List.mem_cons_of_mem _ hp) (List.mem_singleton.mp e)
    · refine ⟨_, _, _, two_upd _ _ _ _ _ _ _, rfl, _, hd2, ?_⟩
      rw [take_snoc hc, cpC, List.foldl_append]
      exact hf2
  · intro h2 tk2 m2 news2 F2 N2 hJ
    obtain ⟨x, z, o, rfl, rfl, hCo⟩ := hJ
    clear lF lN F' N'
    rw [List.take_length] at hCo
    k_steps
    clear hv' h' o' hs0
    rename Fr _ _ _ _ => lF
    rename News _ _ _ _ => lN
    have T2 : StrTab PG w _ a2 (kdpD c2) := let ⟨kvs, hd, hf⟩ := hC2; TabAt.ofObj lo2 (lN _ (List.mem_cons_of_mem _ hm2)).1 hd hf
    with_unfolding_all refine' For_turns lF ?_
    with_unfolding_all refine MethodCall_ ?_
    with_unfolding_all refine ld lF (by rfl) ?_
    with_unfolding_all refine getMethod_tab (knd := PySem.strKind _ _) (enc := PyData.str) PySem.F.slot_dict_items PySem.F.type_dict_items T2 ?_
    with_unfolding_all refine callWith_method0 ?_
    with_unfolding_all refine call_items_tab (knd := PySem.strKind _ _) (enc := PyData.str) T2 lF lN ?_
    intro h' o' hv' F' N'
    replace N' := kti_tail N'
    (with_unfolding_all refine' mi_items (c := c2) (d := a2) (od := o2) ?hh ?F ?N ?hv hC2 (List.mem_cons_of_mem _ hm2) (fun m0 i m' news' => ∃ x z o, m' = two (Str.ofString "caller") (Str.ofString "func") x z m0 ∧ news' = (nd, o) :: news ∧ IsC PG w o ((c2.take i).foldl addC (cpC c1))) ?_ ?_ ?_ ?_)
    case hh => rfl
    case F => exact F'
    case N => exact N'
    case hv => exact hv'
    · rintro i m' news' ⟨x, z, o, rfl, rfl, _⟩
      exact List.mem_cons_of_mem _ hm2
    · exact ⟨_, _, o, two_self _ _ _, rfl, hCo⟩
    · rintro I hI i k n hc m₁ news₁ h₁ tk₁ oI T t1 t2 ⟨x, z, o, rfl, rfl, hCo⟩ hne hT F₁ N₁ hit
      clear lF lN F' N'
      obtain ⟨kvs, hdk, hfk⟩ := hCo
      have hIn : I ≠ nd := fun e => hne _ (List.mem_cons_self ..) e.symm
      have hlen : ((c2.take i).foldl addC (cpC c1)).length ≤ 16777216 := by
        have := add_len (c2.take i) (cpC c1); have := cpC_len c1; have := List.length_take_le' i c2
        omega
      k_steps
      all_goals (
        rename kdpHas _ _ = _ => hhas
        rename Fr _ _ _ _ => F2
        rename News _ _ _ _ => N2
        rename Obj.IsDictOf (PySem.strKind _ _) _ _ => hd2
        rename FlatPairs PyData.str _ _ => hf2
        refine LoopStepU.intro F2 N2 ?_ ?_
        · intro p hp
          rcases List.mem_cons.mp hp with rfl | hp
          · exact fun e => hIn (List.mem_singleton.mp e).symm
          · exact fun e => hne _ (List.mem_cons_of_mem _ hp) (List.mem_singleton.mp e)
        · refine ⟨_, _, _, two_upd _ _ _ _ _ _ _, rfl, _, hd2, ?_⟩
          rw [take_snoc hc, List.foldl_append, List.foldl_cons, List.foldl_nil, addC, hhas]
          first | exact hf2 | simpa using hf2)
    · intro h2 tk2 m2 news2 F2 N2 hJ
      obtain ⟨x, z, o, rfl, rfl, hCo⟩ := hJ
      clear lF lN F' N'
      rw [List.take_length] at hCo
      k_steps
      rename Fr _ _ _ _ => F3
      rename News _ _ _ _ => N3
      refine hret _ [(nd, o)] _ _ F3 (ktn_tl1 N3) ?_ trivial ?_
      · intro q hq p hp
        rw [List.mem_singleton.mp hp]
        exact l1 q hq
      · exact ⟨nd, rfl, ⟨o, List.mem_append_right _ (List.mem_singleton.mpr rfl), hCo⟩, by assumption⟩

end AC31
section AF31
open PySem PySem.W PyProof.Rows PyProof.V
set_option maxRecDepth 100000
set_option maxHeartbeats 8000000

theorem ac_use {w : World} {mean : ExcName → Option Value} {mg mb : PySem.Str → Option Value} {c d : Ctr} {x y : Addr} {dp un : Nat} {gd : Option (List Code)} {cn : PySem.Str} {cs : Scope} {a : Addr} {ccd : Value} {cl : List (PySem.Str × Addr)} {outer : List Env} {A₀ : Around} {base h₀ : Heap} {L : Addr} {m : PySem.Str → Option Value} {news : List (Addr × Obj)} {s : Shared} {Q E : Value → Shared → Prop}
    (B : Below A₀ base outer h₀) (F : Fr h₀ L s.heap m) (X : (hd.heap_39 w.params).In h₀) (N : News h₀ L s.heap news) (T : Top hd.view_39 (looseW hd.view_39 []) mean mg mb h₀) (hk : cs.kind = .function)
    (ha : DcAt w news x c) (hb : DcAt w news y d) (hl : c.length + d.length ≤ 1000) (hdp : dp + 1 < recursionLimit) (hu : un + 8 < cLine)
    (ret : ∀ r tl h' tk', Fr h₀ L h' m → News h₀ L h' (news ++ tl) → (∀ q ∈ news, ∀ p ∈ tl, q.1 < p.1) → DcAt w (news ++ tl) r (mergeC c d) → Q (.ref r) { s with heap := h', toks := tk' }) :
    wpAny (model PG w) (ktrTop dp un gd cn cs L a ccd cl outer) (call (.ref 28) [.ref x, .ref y]) Q E s :=
  tellsN_use B F X N T hk (TwoC.mk x y c d ha hb) (ac_tells w mean mg mb (c, d)) hl hdp hu fun r tl h' tk' F' N' ho _ hO => by
    obtain ⟨z, rfl, hz⟩ := hO
    exact ret z tl h' tk' F' N' ho hz


structure EntD where
  cc : Int
  nc : Int
  tt : Int
  ct : Int
  c : Ctr
def EntAt (w : World) (news : List (Addr × Obj)) (a : Addr) (e : EntD) : Prop :=
  ∃ t1 t2 t3 t4 d n, (a, ({ cls := .type "tuple", data := .seq #[.int e.cc t1, .int e.nc t2, .int e.tt t3, .int e.ct t4, .ref d] n } : Obj)) ∈ news ∧ DcAt w news d e.c
theorem EntAt.mono {w : World} {news news' : List (Addr × Obj)} {a : Addr} {e : EntD} (h : EntAt w news a e) (hs : ∀ p ∈ news, p ∈ news') : EntAt w news' a e :=
  let ⟨t1, t2, t3, t4, d, n, h1, h2⟩ := h; ⟨t1, t2, t3, t4, d, n, hs _ h1, h2.mono hs⟩
theorem mem_strip {I a : Addr} {oI o : Obj} {news : List (Addr × Obj)} (h : (a, o) ∈ (I, oI) :: news) (hne : oI.cls ≠ o.cls) : (a, o) ∈ news := by
  rcases List.mem_cons.mp h with e | h
  · exact absurd (congrArg (fun p : Addr × Obj => p.2.cls) e).symm hne
  · exact h
theorem DcAt.strip {w : World} {I : Addr} {oI : Obj} {news : List (Addr × Obj)} {a : Addr} {c : Ctr} (h : DcAt w ((I, oI) :: news) a c) (hi : Iter oI) : DcAt w news a c := by
  obtain ⟨⟨o, hm, hC⟩, lo⟩ := h
  refine ⟨⟨o, mem_strip hm ?_, hC⟩, lo⟩
  obtain ⟨kvs, ⟨es, ep, hx, _⟩, _⟩ := hC
  rw [hx.1]
  exact hi.2.1
theorem EntAt.strip {w : World} {I : Addr} {oI : Obj} {news : List (Addr × Obj)} {a : Addr} {e : EntD} (h : EntAt w ((I, oI) :: news) a e) (hi : Iter oI) : EntAt w news a e :=
  let ⟨t1, t2, t3, t4, d, n, h1, h2⟩ := h; ⟨t1, t2, t3, t4, d, n, mem_strip h1 hi.1, h2.strip hi⟩
inductive TwoE (w : World) (news : List (Addr × Obj)) : List Value → (EntD × EntD) → Prop
  | mk (a b : Addr) (c d : EntD) (ha : EntAt w news a c) (hb : EntAt w news b d) : TwoE w news [.ref a, .ref b] (c, d)
/-- target e, source f -/
def addE (e f : EntD) : EntD := ⟨f.cc + e.cc, f.nc + e.nc, f.tt + e.tt, f.ct + e.ct, mergeC e.c f.c⟩
abbrev afC (w : World) : ToldN (EntD × EntD) where
  Rel := TwoE w
  Ok := fun d => d.1.c.length + d.2.c.length ≤ 1000
  size := fun _ => 2
  Tl := fun _ => True
  Out := fun news r d => ∃ a, r = .ref a ∧ EntAt w news a (addE d.1 d.2)

theorem af_tells (w : World) (mean : ExcName → Option Value) (mg mb : PySem.Str → Option Value) (d : _) : TL w mean mg mb 21 (afC w) d := by
  (unfold TL TellsN; w_on; k_fill)
  intro dp un gd cn cs a ccd cl outer A₀ base h₀ L m news s vs Q E B F X N T hk hR hok hdp hu hret
  obtain ⟨a1, a2, ⟨cc1, nc1, tt1, ct1, c1⟩, ⟨cc2, nc2, tt2, ct2, c2⟩, ⟨t1, t2, t3, t4, d1, n1, hm1, hC1⟩, ⟨u1, u2, u3, u4, d2, n2, hm2, hC2⟩⟩ := hR
  have hok' : c1.length + c2.length ≤ 1000 := hok
  have hdp' : dp + 2 < recursionLimit := hdp
  have hu' : un + 16 < cLine := hu
  clear hok hdp hu
  dsimp only at hm1 hm2 hC1 hC2
  refine wpAny_call ?_
  k_dflt ktr_enter
  repeat' (first | (k_unfold; (try dsimp only)) | ((fail_if_success (with_reducible show wpAny _ _ (call (Value.ref 28) _) _ _ _)); (fail_if_success (with_reducible show wpAny _ _ (PySem.exec (PySem.Stmt.For _ _ _ _ _) _) _ _ _)); first | walk1 | (dsimp only; walk1) | (leave1; try dsimp only)))
  (k_here; (with_reducible show wpAny _ _ (call (Value.ref 28) _) _ _ _); k_dflt (refine' ac_use ?k1 ?k2 ?k3 ?k4 ?k5 ?kK ?ka ?kb ?kl ?kd ?ku ?_; (case k1 => k_asm); (case k2 => k_asm); (case k3 => k_asm); (case k4 => k_asm); (case k5 => k_asm); (case kK => first | exact rfl | assumption); (case ka => (first | assumption | exact DcAt.mono (by assumption) (by ktd_sub))); (case kb => (first | assumption | exact DcAt.mono (by assumption) (by ktd_sub))); (case kl => first | assumption | omega); (case kd => ktr_room); (case ku => ktr_units)); intro r9 tl9 h9 tk9 F9 N9 hl9 ho9; (try simp only [List.cons_append, List.nil_append] at N9); (try simp only [List.cons_append, List.nil_append] at ho9); (try k_sweep))
  k_steps
  rename Fr _ _ _ _ => F3
  rename News _ _ _ _ => N3
  rename DcAt _ _ _ _ => hD
  rename ∀ (p : Addr × Obj), p ∈ _ → p.1 < _ => l1
  rename ∀ (q : Addr × Obj), q ∈ news → ∀ (p : Addr × Obj), p ∈ _ → _ => hl9
  exact hret _ _ _ _ F3 (ktn_tl2 N3) (ktn_ord2 (allLt_of l1) hl9) trivial ⟨_, rfl, _, _, _, _, _, _, ktn_new, hD.mono ktn_subB⟩

end AF31
section CC31
open PySem PySem.W PyProof.Rows PyProof.V
set_option maxRecDepth 100000
set_option maxHeartbeats 8000000
inductive OneC (w : World) (news : List (Addr × Obj)) : List Value → Ctr → Prop
  | mk (a : Addr) (c : Ctr) (ha : DcAt w news a c) : OneC w news [.ref a] c
def totC (c : Ctr) : Int := (c.map (·.2)).sum
abbrev ccC (w : World) : ToldN Ctr where
  Rel := OneC w
  Ok := fun _ => True
  size := fun _ => 1
  Tl := fun _ => True
  Out := fun _ r d => ∃ t, r = .int (totC d) t
theorem tot_snoc {c : Ctr} {i : Nat} {k : PySem.Str} {n : Int} (h : c[i]? = some (k, n)) : totC (c.take (i + 1)) = totC (c.take i) + n := by
  rw [take_snoc h]; simp [totC]

theorem cc_tells (w : World) (mean : ExcName → Option Value) (mg mb : PySem.Str → Option Value) (d : _) : TL w mean mg mb 35 (ccC w) d := by
  (unfold TL TellsN; w_on; k_fill)
  intro dp un gd cn cs a ccd cl outer A₀ base h₀ L m news s vs Q E B F X N T hk hR hok hdp hu hret
  obtain ⟨a1, _, ⟨⟨o1, hm1, hC1⟩, lo1⟩⟩ := hR
  have hdp' : dp + 1 < recursionLimit := hdp
  clear hok hdp hu
  refine wpAny_call ?_
  k_dflt ktr_enter
  (repeat' (first | (k_unfold; (try dsimp only)) | ((fail_if_success (with_reducible show wpAny _ _ (PySem.exec (PySem.Stmt.For _ _ _ _ _) _) _ _ _)); first | walk1 | (dsimp only; walk1) | (leave1; try dsimp only))))
  rename Fr _ _ _ _ => lF
  rename News _ _ _ _ => lN
  have T1 : StrTab PG w _ a1 (kdpD d) := let ⟨kvs, hd, hf⟩ := hC1; TabAt.ofObj lo1 (lN _ hm1).1 hd hf
  with_unfolding_all refine' For_turns lF ?_
  with_unfolding_all refine MethodCall_ ?_
  with_unfolding_all refine ld lF (by rfl) ?_
  with_unfolding_all refine getMethod_tab (knd := PySem.strKind _ _) (enc := PyData.str) PySem.F.slot_dict_values PySem.F.type_dict_values T1 ?_
  with_unfolding_all refine callWith_method0 ?_
  with_unfolding_all refine call_values_tab (knd := PySem.strKind _ _) (enc := PyData.str) T1 lF lN ?_
  intro h' o' hv' F' N'
  replace N' := kti_tail N'
  (with_unfolding_all refine' mi_vals (c := d) (d := a1) (od := o1) ?hh ?F ?N ?hv hC1 hm1 (fun m0 i m' news' => ∃ t z, m' = two (Str.ofString "nc") (Str.ofString "calls") (some (.int (totC (d.take i)) t)) z m0 ∧ news' = news) ?_ ?_ ?_ ?_)
  case hh => rfl
  case F => exact F'
  case N => exact N'
  case hv => exact hv'
  · rintro i m' news' ⟨t, z, rfl, rfl⟩
    exact hm1
  · exact ⟨_, _, two_self _ _ _, rfl⟩
  · rintro I hI i k n hc m₁ news₁ h₁ tk₁ oI t2 ⟨t, z, rfl, rfl⟩ hne F₁ N₁ hit
    clear lF lN F' N'
    (repeat' (first | (k_unfold; (try dsimp only)) | ((fail_if_success (with_reducible show wpAny _ _ (PySem.exec (PySem.Stmt.For _ _ _ _ _) _) _ _ _)); first | walk1 | (dsimp only; walk1) | (leave1; try dsimp only))))
    rename Fr _ _ _ _ => F2
    rename News _ _ _ _ => N2
    refine LoopStepU.intro F2 N2 ?_ ?_
    · intro p hp e
      exact hne p hp (List.mem_singleton.mp e)
    · rw [tot_snoc hc]
      exact ⟨_, _, two_upd _ _ _ _ _ _ _, rfl⟩
  · intro h2 tk2 m2 news2 F2 N2 hJ
    obtain ⟨t, z, rfl, rfl⟩ := hJ
    clear lF lN F' N'
    rw [List.take_length] at F2
    (repeat' (first | (k_unfold; (try dsimp only)) | ((fail_if_success (with_reducible show wpAny _ _ (PySem.exec (PySem.Stmt.For _ _ _ _ _) _) _ _ _)); first | walk1 | (dsimp only; walk1) | (leave1; try dsimp only))))
    rename Fr _ _ _ _ => F3
    rename News _ _ _ _ => N3
    exact hret _ [] _ _ F3 (ktn_tl0 N3) ktn_ord0 trivial ⟨_, rfl⟩

end CC31
section BH31
open PySem PySem.W PyProof.Rows PyProof.V
set_option maxRecDepth 100000
set_option maxHeartbeats 8000000

theorem af_use {w : World} {mean : ExcName → Option Value} {mg mb : PySem.Str → Option Value} {c d : EntD} {x y : Addr} {dp un : Nat} {gd : Option (List Code)} {cn : PySem.Str} {cs : Scope} {a : Addr} {ccd : Value} {cl : List (PySem.Str × Addr)} {outer : List Env} {A₀ : Around} {base h₀ : Heap} {L : Addr} {m : PySem.Str → Option Value} {news : List (Addr × Obj)} {s : Shared} {Q E : Value → Shared → Prop}
    (B : Below A₀ base outer h₀) (F : Fr h₀ L s.heap m) (X : (hd.heap_39 w.params).In h₀) (N : News h₀ L s.heap news) (T : Top hd.view_39 (looseW hd.view_39 []) mean mg mb h₀) (hk : cs.kind = .function)
    (ha : EntAt w news x c) (hb : EntAt w news y d) (hl : c.c.length + d.c.length ≤ 1000) (hdp : dp + 2 < recursionLimit) (hu : un + 16 < cLine)
    (ret : ∀ r tl h' tk', Fr h₀ L h' m → News h₀ L h' (news ++ tl) → (∀ q ∈ news, ∀ p ∈ tl, q.1 < p.1) → EntAt w (news ++ tl) r (addE c d) → Q (.ref r) { s with heap := h', toks := tk' }) :
    wpAny (model PG w) (ktrTop dp un gd cn cs L a ccd cl outer) (call (.ref 21) [.ref x, .ref y]) Q E s :=
  tellsN_use B F X N T hk (TwoE.mk x y c d ha hb) (af_tells w mean mg mb (c, d)) hl hdp hu fun r tl h' tk' F' N' ho _ hO => by
    obtain ⟨z, rfl, hz⟩ := hO
    exact ret z tl h' tk' F' N' ho hz


def EntsAt (w : World) (news : List (Addr × Obj)) (a : Addr) (es : List EntD) : Prop :=
  ∃ (vs : List Value) (n : Nat), (a, ({ cls := .type "list", data := .seq vs.toArray n } : Obj)) ∈ news ∧ vs.length = es.length ∧ ∀ (i : Nat) (e : EntD), es[i]? = some e → ∃ r, vs[i]? = some (Value.ref r) ∧ EntAt w news r e
inductive OneEs (w : World) (news : List (Addr × Obj)) : List Value → List EntD → Prop
  | mk (a : Addr) (es : List EntD) (ha : EntsAt w news a es) : OneEs w news [.ref a] es
def lenE (es : List EntD) : Nat := (es.map fun e => e.c.length).sum
def e0 : EntD := ⟨0, 0, 0, 0, []⟩
theorem addE_len (e f : EntD) : (addE e f).c.length ≤ e.c.length + f.c.length := mergeC_len _ _
theorem fold_len (es : List EntD) : ∀ e : EntD, (es.foldl addE e).c.length ≤ e.c.length + lenE es := by
  induction es with
  | nil => intro e; simp [lenE]
  | cons x r ih => intro e; rw [List.foldl_cons]; have h1 := ih (addE e x); have h2 := addE_len e x; simp only [lenE, List.map_cons, List.sum_cons] at *; omega
theorem lenE_take (es : List EntD) : ∀ (i : Nat), lenE (es.take i) ≤ lenE es := by
  induction es with
  | nil => intro i; simp [lenE]
  | cons x r ih => intro i; cases i with
    | zero => simp [lenE]
    | succ i => have := ih i; simp only [lenE, List.take_succ_cons, List.map_cons, List.sum_cons] at *; omega
theorem lenE_mem {es : List EntD} {e : EntD} : ∀ {i : Nat}, es[i]? = some e → e.c.length ≤ lenE es := by
  induction es with
  | nil => intro i h; simp at h
  | cons x r ih => intro i h; cases i with
    | zero => simp at h; subst h; simp [lenE]
    | succ i => have := ih (i := i) (by simpa using h); simp only [lenE, List.map_cons, List.sum_cons] at *; omega
theorem lenE_snoc {es : List EntD} {e : EntD} : ∀ {i : Nat}, es[i]? = some e → lenE (es.take i) + e.c.length ≤ lenE es := by
  intro i h
  have h1 := lenE_take es (i + 1)
  rw [take_snoc h] at h1
  simp only [lenE, List.map_append, List.sum_append, List.map_cons, List.map_nil, List.sum_cons, List.sum_nil] at *
  omega
abbrev bhC (w : World) : ToldN (List EntD) where
  Rel := OneEs w
  Ok := fun d => lenE d ≤ 900
  size := fun _ => 3
  Tl := fun _ => True
  Out := fun news r d => ∃ a, r = .ref a ∧ EntAt w news a (d.foldl addE e0)

theorem bh_tells (w : World) (mean : ExcName → Option Value) (mg mb : PySem.Str → Option Value) (d : _) : TL w mean mg mb 61 (bhC w) d := by
  (unfold TL TellsN; w_on; k_fill)
  intro dp un gd cn cs a ccd cl outer A₀ base h₀ L m news s vs Q E B F X N T hk hR hok hdp hu hret
  obtain ⟨a1, _, ⟨vs, n1, hm1, hvl, hes⟩⟩ := hR
  have hok' : lenE d ≤ 900 := hok
  have hdp' : dp + 3 < recursionLimit := hdp
  have hu' : un + 24 < cLine := hu
  clear hok hdp hu
  refine wpAny_call ?_
  k_dflt ktr_enter
  (repeat' (first | (k_unfold; (try dsimp only)) | ((fail_if_success (with_reducible show wpAny _ _ (PySem.exec (PySem.Stmt.For _ _ _ _ _) _) _ _ _)); first | walk1 | (dsimp only; walk1) | (leave1; try dsimp only))))
  rename Fr _ _ _ _ => lF
  rename News _ _ _ _ => lN
  rename _ ∧ AllLt _ news => l2
  rename ∀ (p : Addr × Obj), p ∈ news → _ => l1
  rename Obj.IsDictOf (PySem.strKind _ _) _ _ => hs0
  rename (_ == sysModules) = false => lo0
  rename_i nd _ o0 _ _ _ D0 _ _
  have lN2 : News _ _ _ (news ++ [(D0, _), (nd, o0)]) := News.perm lN (fun p hp => by
    rcases List.mem_append.mp hp with h | h
    · exact List.mem_cons_of_mem _ (List.mem_cons_of_mem _ h)
    · rcases List.mem_cons.mp h with rfl | h
      · exact List.mem_cons_self ..
      · rw [List.mem_singleton.mp h]
        exact List.mem_cons_of_mem _ (List.mem_cons_self ..))
  with_unfolding_all refine' For_turns lF ?_
  with_unfolding_all refine ld lF (by rfl) ?_
  (with_unfolding_all refine' mi_list (l := a1) (its := vs.toArray) ?hh lF lN2 (List.mem_append_left _ hm1) ⟨rfl, _, rfl⟩ (fun m0 i m' news' => ∃ tl z r, m' = two (Str.ofString "whole") (Str.ofString "entry") (some (.ref r)) z m0 ∧ news' = news ++ tl ∧ (∀ q ∈ news, ∀ p ∈ tl, q.1 < p.1) ∧ EntAt w (news ++ tl) r ((d.take i).foldl addE e0)) ?_ ?_ ?_ ?_)
  case hh => rfl
  · rintro i m' news' ⟨tl, z, r, rfl, rfl, _⟩
    exact List.mem_append_left _ hm1
  · refine ⟨_, _, _, two_self _ _ _, rfl, ?_, ?_⟩
    · intro q hq p hp
      rcases List.mem_cons.mp hp with rfl | hp
      · exact ktn_ltOf l2.2 q hq
      · rw [List.mem_singleton.mp hp]
        exact l1 q hq
    · exact ⟨_, _, _, _, nd, _, List.mem_append_right _ (List.mem_cons_self ..), ⟨o0, List.mem_append_right _ (List.mem_cons_of_mem _ (List.mem_cons_self ..)), [], hs0, .nil⟩, lo0⟩
  · rintro I hI i v hv m₁ news₁ h₁ tk₁ oI ⟨tl, z, r, rfl, rfl, hord, hent⟩ hne F₁ N₁ hit
    clear lF lN lN2
    have hiv : vs[i]? = some v := by simpa using hv
    have hlt : i < d.length := by rw [← hvl]; exact (List.getElem?_eq_some_iff.mp hiv).1
    obtain ⟨e, he⟩ : ∃ e, d[i]? = some e := ⟨d[i], List.getElem?_eq_getElem hlt⟩
    obtain ⟨r2, hr2, hent2⟩ := hes i e he
    obtain rfl : v = .ref r2 := by rw [hiv] at hr2; exact Option.some.inj hr2
    have hl : ((d.take i).foldl addE e0).c.length + e.c.length ≤ 1000 := by
      have h1 := fold_len (d.take i) e0
      have h2 := lenE_snoc he
      have h3 : e0.c.length = 0 := rfl
      omega
    repeat' (first | (k_unfold; (try dsimp only)) | ((fail_if_success (with_reducible show wpAny _ _ (call (Value.ref 21) _) _ _ _)); (fail_if_success (with_reducible show wpAny _ _ (PySem.exec (PySem.Stmt.For _ _ _ _ _) _) _ _ _)); first | walk1 | (dsimp only; walk1) | (leave1; try dsimp only)))
    (k_here; (with_reducible show wpAny _ _ (call (Value.ref 21) _) _ _ _); k_dflt (refine' af_use ?k1 ?k2 ?k3 ?k4 ?k5 ?kK ?ka ?kb ?kl ?kd ?ku ?_; (case k1 => k_asm); (case k2 => k_asm); (case k3 => k_asm); (case k4 => k_asm); (case k5 => k_asm); (case kK => first | exact rfl | assumption); (case ka => (first | assumption | exact EntAt.mono (by assumption) (by ktd_sub))); (case kb => (first | assumption | exact EntAt.mono (by assumption) (by ktd_sub))); (case kl => first | assumption | omega); (case kd => ktr_room); (case ku => ktr_units)); intro r9 tl9 h9 tk9 F9 N9 hl9 ho9; (try simp only [List.cons_append, List.nil_append] at N9); (try simp only [List.cons_append, List.nil_append] at ho9); (try k_sweep))
    (repeat' (first | (k_unfold; (try dsimp only)) | ((fail_if_success (with_reducible show wpAny _ _ (PySem.exec (PySem.Stmt.For _ _ _ _ _) _) _ _ _)); first | walk1 | (dsimp only; walk1) | (leave1; try dsimp only))))
    rename Fr _ _ _ _ => F2
    rename News _ _ _ _ => N2
    rename EntAt w ((I, oI) :: _) _ _ => ho9
    rename ∀ (q : Addr × Obj), q ∈ (I, oI) :: _ → ∀ (p : Addr × Obj), p ∈ _ → _ => hl9
    refine LoopStepU.intro F2 N2 ?_ ?_
    · intro p hp e
      have e := List.mem_singleton.mp e
      rcases List.mem_append.mp hp with hp | hp
      · exact hne p hp e
      · exact absurd (hl9 (I, oI) (List.mem_cons_self ..) p hp) (by rw [e]; exact Nat.lt_irrefl _)
    · rw [take_snoc he, List.foldl_append]
      refine ⟨_, _, _, two_upd _ _ _ _ _ _ _, List.append_assoc _ _ _, ?_, ?_⟩
      · exact ktn_ordA hord (fun q hq p hp => hl9 q (List.mem_cons_of_mem _ hq) p hp)
      · rw [← List.append_assoc]
        exact ho9.strip hit
  · intro h2 tk2 m2 news2 F2 N2 hJ
    obtain ⟨tl, z, r, rfl, rfl, hord, hent⟩ := hJ
    clear lF lN lN2
    have hsz : vs.toArray.size = d.length := by simpa using hvl
    rw [hsz, List.take_length] at hent
    (repeat' (first | (k_unfold; (try dsimp only)) | ((fail_if_success (with_reducible show wpAny _ _ (PySem.exec (PySem.Stmt.For _ _ _ _ _) _) _ _ _)); first | walk1 | (dsimp only; walk1) | (leave1; try dsimp only))))
    rename Fr _ _ _ _ => F3
    rename News _ _ _ _ => N3
    exact hret _ _ _ _ F3 N3 hord trivial ⟨_, rfl, hent⟩

end BH31
local macro_rules | `(tactic| k_mem) => `(tactic| ((with_reducible show _ ∈ _ :: _); first | exact List.mem_cons_self .. | (refine List.mem_cons_of_mem _ ?_; k_mem)))
section HV31
open PySem PySem.W PyProof.Rows PyProof.V
set_option maxRecDepth 100000
set_option maxHeartbeats 8000000

inductive Halved : List EntD → EntD → Prop
  | one (e : EntD) : Halved [e] e
  | two {l1 l2 : List EntD} {e1 e2 : EntD} : Halved l1 e1 → Halved l2 e2 → Halved (l1 ++ l2) (addE e1 e2)
abbrev hvC (w : World) : ToldN (List EntD) where
  Rel := OneEs w
  Ok := fun d => lenE d ≤ 900 ∧ d ≠ [] ∧ d.length ≤ 300
  size := fun d => d.length + 3
  Tl := fun _ => True
  Out := fun news r d => ∃ a e, r = .ref a ∧ EntAt w news a e ∧ Halved d e
theorem my_upto (vs : List Value) {y : Int} (h : 0 ≤ y) : (slicePick vs.toArray none (some y) none).toList = vs.take y.toNat := by
  have e : sliceBounds none (some y) none vs.toArray.size = (((0 : Nat) : Int), ((min y.toNat vs.toArray.size : Nat) : Int), 1) := by
    simp only [sliceBounds, Option.getD_none, show (1 : Int) > 0 by decide, if_true, if_neg (show ¬ (y < 0) by omega)]
    congr 1
    congr 1
    omega
  rw [kmk_pick_nat _ e]
  show ((vs.drop 0).take (min y.toNat vs.toArray.size - 0)) = _
  rw [List.drop_zero, Nat.sub_zero, List.size_toArray, kmk_take_min]
theorem my_from (vs : List Value) {x : Int} (h : 0 ≤ x) : (slicePick vs.toArray (some x) none none).toList = vs.drop x.toNat := by
  have e : sliceBounds (some x) none none vs.toArray.size = (((min x.toNat vs.toArray.size : Nat) : Int), ((vs.toArray.size : Nat) : Int), 1) := by
    simp only [sliceBounds, Option.getD_none, show (1 : Int) > 0 by decide, if_true, if_neg (show ¬ (x < 0) by omega)]
    congr 1
    omega
  rw [kmk_pick_nat _ e]
  show ((vs.drop (min x.toNat vs.toArray.size)).take (vs.toArray.size - min x.toNat vs.toArray.size)) = _
  rw [List.size_toArray, kmk_drop_min, List.take_of_length_le (by rw [List.length_drop]; omega)]
theorem my_len {prog : Program} {w : World} {A : Around} {E : Value → Shared → Prop} {s : Shared} {h₀ : Heap} {L l : Addr} {news : List (Addr × Obj)} {vs : List Value} {n : Nat} {Q : Value → Shared → Prop} (N : News h₀ L s.heap news) (hm : (l, ({ cls := .type "list", data := .seq vs.toArray n } : Obj)) ∈ news) (hb : vs.length ≤ 1000)
    (h : Q (.int (vs.length : Int) (s.toks + 1)) { s with toks := s.toks + 1 + 1 }) : wpAny (model prog w) A (call (.builtin "len") [.ref l]) Q E s := by
  have hl : s.heap.IsList l vs.toArray := News.isList N hm
  refine PyProof.Rows.len_list hl (by simp only [List.size_toArray]; omega) ?_
  simpa using h
theorem ents_take {w : World} {news news' : List (Addr × Obj)} {D : Addr} {vs : List Value} {d : List EntD} {k n : Nat} (hm : (D, ({ cls := .type "list", data := .seq (vs.take k).toArray n } : Obj)) ∈ news') (hvl : vs.length = d.length)
    (hes : ∀ (i : Nat) (e : EntD), d[i]? = some e → ∃ r, vs[i]? = some (Value.ref r) ∧ EntAt w news r e) (hs : ∀ p ∈ news, p ∈ news') : EntsAt w news' D (d.take k) := by
  refine ⟨_, n, hm, by simp [hvl], fun i e he => ?_⟩
  have hi : i < k := by
    have := (List.getElem?_eq_some_iff.mp he).1
    rw [List.length_take] at this; omega
  rw [List.getElem?_take_of_lt hi] at he
  obtain ⟨r, hr, hent⟩ := hes i e he
  exact ⟨r, by rw [List.getElem?_take_of_lt hi]; exact hr, hent.mono hs⟩
theorem ents_drop {w : World} {news news' : List (Addr × Obj)} {D : Addr} {vs : List Value} {d : List EntD} {k n : Nat} (hm : (D, ({ cls := .type "list", data := .seq (vs.drop k).toArray n } : Obj)) ∈ news') (hvl : vs.length = d.length)
    (hes : ∀ (i : Nat) (e : EntD), d[i]? = some e → ∃ r, vs[i]? = some (Value.ref r) ∧ EntAt w news r e) (hs : ∀ p ∈ news, p ∈ news') : EntsAt w news' D (d.drop k) := by
  refine ⟨_, n, hm, by simp [hvl], fun i e he => ?_⟩
  rw [List.getElem?_drop] at he
  obtain ⟨r, hr, hent⟩ := hes _ e he
  exact ⟨r, by rw [List.getElem?_drop]; exact hr, hent.mono hs⟩
theorem lenE_append (l1 l2 : List EntD) : lenE (l1 ++ l2) = lenE l1 + lenE l2 := by simp [lenE]
theorem halved_len {d : List EntD} {e : EntD} (h : Halved d e) : e.c.length ≤ lenE d := by
  induction h with
  | one e => simp [lenE]
  | two _ _ i1 i2 => rw [lenE_append]; exact Nat.le_trans (addE_len _ _) (by omega)
theorem hvI_use {w : World} {mean : ExcName → Option Value} {mg mb : PySem.Str → Option Value} {d : List EntD} {x : Addr} {dp un : Nat} {gd : Option (List Code)} {cn : PySem.Str} {cs : Scope} {a : Addr} {ccd : Value} {cl : List (PySem.Str × Addr)} {outer : List Env} {A₀ : Around} {base h₀ : Heap} {L : Addr} {m : PySem.Str → Option Value} {news : List (Addr × Obj)} {s : Shared} {Q E : Value → Shared → Prop}
    (B : Below A₀ base outer h₀) (F : Fr h₀ L s.heap m) (X : (hd.heap_39 w.params).In h₀) (N : News h₀ L s.heap news) (T : Top hd.view_39 (looseW hd.view_39 []) mean mg mb h₀) (hk : cs.kind = .function)
    (ha : EntsAt w news x d) (C : TL w mean mg mb 68 (hvC w) d) (hl : lenE d ≤ 900) (hn : 0 < d.length ∧ d.length ≤ 300) (hdp : dp + (d.length + 3) < recursionLimit) (hu : un + 8 * (d.length + 3) < cLine)
    (ret : ∀ r e tl h' tk', Fr h₀ L h' m → News h₀ L h' (news ++ tl) → (∀ q ∈ news, ∀ p ∈ tl, q.1 < p.1) → EntAt w (news ++ tl) r e → Halved d e → e.c.length ≤ lenE d → Q (.ref r) { s with heap := h', toks := tk' }) :
    wpAny (model PG w) (ktrTop dp un gd cn cs L a ccd cl outer) (call (.ref 68) [.ref x]) Q E s :=
  tellsN_use B F X N T hk (OneEs.mk x d ha) C ⟨hl, fun e => by rw [e] at hn; exact absurd hn.1 (Nat.lt_irrefl _), hn.2⟩ hdp hu fun r tl h' tk' F' N' ho _ hO => by
    obtain ⟨z, e, rfl, hz, hH⟩ := hO
    exact ret z e tl h' tk' F' N' ho hz hH (halved_len hH)

theorem lenE_drop (es : List EntD) : ∀ (i : Nat), lenE (es.drop i) ≤ lenE es := by
  induction es with
  | nil => intro i; simp [lenE]
  | cons x r ih => intro i; cases i with
    | zero => simp [lenE]
    | succ i => have := ih i; simp only [lenE, List.drop_succ_cons, List.map_cons, List.sum_cons] at *; omega
set_option hygiene false
local macro_rules | `(tactic| walk_at "mine_sl") => `(tactic| first | exact my_upto _ (by rw [hfd]; omega) | exact my_from _ (by rw [hfd]; omega))
set_option hygiene true
local macro_rules | `(tactic| walk_at "subscriptTail Name") => `(tactic| (k_here; (with_reducible show wpAny _ _ (subscriptTail _ _ (Value.ref _) (Value.int _ _)) _ _ _); k_dflt (refine' item_listL ?k1 ?k2 ?k3 ?k4 ?_; (case k1 => exact News.isList (by k_asm) (by k_mem)); (case k2 => decide); (case k3 => decide); (case k4 => rfl); k_whole)))
local macro_rules | `(tactic| walk_at "call builtin:len") => `(tactic| (k_here; k_dflt (refine' my_len ?k1 ?k2 ?k3 ?_; (case k1 => k_asm); (case k2 => k_mem); (case k3 => omega); k_whole)))
local macro_rules | `(tactic| walk_at "subscriptTail Name Slice ref ref") => `(tactic| (k_here; (with_reducible show wpAny _ _ (subscriptTail _ (PySem.Expr.Slice _ _ none _) (Value.ref _) (Value.ref _)) _ _ _); k_dflt (refine' kmk_slice_lit ?F ?N ?l ?p ?q ?e ?_ ?s ?t ?z; (case F => k_asm); (case N => k_asm); (case l => exact News.isList (by k_asm) (by k_mem)); (case p => kmk_part); (case q => kmk_part); (case e => walk_at "mine_sl"); (case s => with_unfolding_all rfl); (case t => kmk_pure); (case z => (simp only [List.size_toArray, sizeLine_eq]; omega))); intro D' h' F' N' l1; (try k_sweep)))
open Classical in
theorem end_perm {h₀ h : Heap} {L : Addr} {all news : List (Addr × Obj)} (N : News h₀ L h all) (hsub : ∀ p ∈ news, p ∈ all) (hord : ∀ p ∈ all, p ∈ news ∨ ∀ q ∈ news, q.1 < p.1) :
    ∃ tl, News h₀ L h (news ++ tl) ∧ (∀ q ∈ news, ∀ p ∈ tl, q.1 < p.1) ∧ ∀ p ∈ all, p ∈ news ++ tl := by
  refine ⟨all.filter fun p => decide (∀ q ∈ news, q.1 < p.1), fun p hp => ?_, fun q hq p hp => ?_, fun p hp => ?_⟩
  · rcases List.mem_append.mp hp with h | h
    · exact N p (hsub p h)
    · exact N p (List.mem_filter.mp h).1
  · have := (List.mem_filter.mp hp).2
    exact (of_decide_eq_true this) q hq
  · rcases hord p hp with h | h
    · exact List.mem_append_left _ h
    · exact List.mem_append_right _ (List.mem_filter.mpr ⟨hp, decide_eq_true h⟩)
theorem hv_tells (w : World) (mean : ExcName → Option Value) (mg mb : PySem.Str → Option Value) : ∀ d, TL w mean mg mb 68 (hvC w) d := by
  refine tellsN_of fun d IH => ?_
  unfold TellsN
  w_on
  k_fill
  intro dp un gd cn cs a ccd cl outer A₀ base h₀ L m news s vs Q E B F X N T hk hR hok hdp hu hret
  obtain ⟨a1, _, ⟨vs, n1, hm1, hvl, hes⟩⟩ := hR
  obtain ⟨hok', hnn, hd300⟩ := hok
  have hdp' : dp + (d.length + 3) < recursionLimit := hdp
  have hu' : un + 8 * (d.length + 3) < cLine := hu
  clear hdp hu
  by_cases h1 : d.length = 1
  · obtain ⟨e, rfl⟩ := List.length_eq_one_iff.mp h1
    obtain ⟨v, rfl⟩ := List.length_eq_one_iff.mp (hvl.trans h1)
    obtain ⟨r, hr, hent⟩ := hes 0 e rfl
    obtain rfl : v = .ref r := by simpa using hr
    clear hes hvl
    refine wpAny_call ?_
    k_dflt ktr_enter
    (repeat' (first | (k_unfold; (try dsimp only)) | ((fail_if_success (with_reducible show wpAny _ _ (PySem.exec (PySem.Stmt.For _ _ _ _ _) _) _ _ _)); first | walk1 | (dsimp only; walk1) | (leave1; try dsimp only))))
    rename Fr _ _ _ _ => F3
    rename News _ _ _ _ => N3
    exact hret _ [] _ _ F3 (ktn_tl0 N3) ktn_ord0 trivial ⟨_, e, rfl, by rw [List.append_nil]; exact hent, .one e⟩
  · have hv1 : ¬ (vs.length = 1) := by rw [hvl]; exact h1
    have hv2 : 2 ≤ vs.length := by
      rw [hvl]; cases d with
      | nil => exact absurd rfl hnn
      | cons x r => cases r with
        | nil => exact absurd rfl h1
        | cons y r => simp
    have hd2 : 2 ≤ d.length := by omega
    have hfd : Int.fdiv (vs.length : Int) 2 = ((d.length / 2 : Nat) : Int) := by rw [Int.fdiv_eq_ediv_of_nonneg _ (by omega), hvl]; omega
    have hsum : lenE (d.take ((vs.length : Int).fdiv 2).toNat) + lenE (d.drop ((vs.length : Int).fdiv 2).toNat) = lenE d := by rw [← lenE_append, List.take_append_drop]
    refine wpAny_call ?_
    k_dflt ktr_enter
    repeat' (first | (k_unfold; (try dsimp only)) | ((fail_if_success (with_reducible show wpAny _ _ (call (Value.ref 68) _) _ _ _)); (fail_if_success (with_reducible show wpAny _ _ (call (Value.ref 21) _) _ _ _)); (fail_if_success (with_reducible show wpAny _ _ (PySem.exec (PySem.Stmt.For _ _ _ _ _) _) _ _ _)); first | walk1 | (dsimp only; walk1) | (leave1; try dsimp only)))
    all_goals try (exfalso; omega)
    (k_here; (with_reducible show wpAny _ _ (call (Value.ref 68) _) _ _ _); k_dflt ((show wpAny (model PG _) (ktrTop _ _ _ _ _ _ _ _ _ _) (call (Value.ref 68) [Value.ref _]) _ _ _); refine' hvI_use ?k1 ?k2 ?k3 ?k4 ?k5 ?kK ?ka ?kC ?kl ?kn ?kd ?ku ?_; (case k1 => k_asm); (case k2 => k_asm); (case k3 => k_asm); (case k4 => k_asm); (case k5 => k_asm); (case kK => first | exact rfl | assumption); (case ka => first | exact ents_take (by k_mem) (by assumption) (by assumption) (by ktd_sub) | exact ents_drop (by k_mem) (by assumption) (by assumption) (by ktd_sub)); (case kC => (refine IH _ ?_; show _ + 3 < _ + 3; simp only [hfd, Int.toNat_natCast, List.length_take, List.length_drop]; omega)); (case kl => (first | exact Nat.le_trans (lenE_take _ _) hok' | exact Nat.le_trans (lenE_drop _ _) hok' | ((try simp only [hfd, Int.toNat_natCast, List.length_take, List.length_drop, depth_deeper, units_deeper]); (try dsimp only [ktrTop]); omega))); (case kn => (first | exact Nat.le_trans (lenE_take _ _) hok' | exact Nat.le_trans (lenE_drop _ _) hok' | ((try simp only [hfd, Int.toNat_natCast, List.length_take, List.length_drop, depth_deeper, units_deeper]); (try dsimp only [ktrTop]); omega))); (case kd => (first | exact Nat.le_trans (lenE_take _ _) hok' | exact Nat.le_trans (lenE_drop _ _) hok' | ((try simp only [hfd, Int.toNat_natCast, List.length_take, List.length_drop, depth_deeper, units_deeper]); (try dsimp only [ktrTop]); omega))); (case ku => (first | exact Nat.le_trans (lenE_take _ _) hok' | exact Nat.le_trans (lenE_drop _ _) hok' | ((try simp only [hfd, Int.toNat_natCast, List.length_take, List.length_drop, depth_deeper, units_deeper]); (try dsimp only [ktrTop]); omega)))); intro r9a e9a tla h9a tk9a F9a N9a hla hoa hHa hca; (try simp only [List.cons_append, List.nil_append] at N9a); (try simp only [List.cons_append, List.nil_append] at hoa); (try k_sweep))
    repeat' (first | (k_unfold; (try dsimp only)) | ((fail_if_success (with_reducible show wpAny _ _ (call (Value.ref 68) _) _ _ _)); (fail_if_success (with_reducible show wpAny _ _ (call (Value.ref 21) _) _ _ _)); (fail_if_success (with_reducible show wpAny _ _ (PySem.exec (PySem.Stmt.For _ _ _ _ _) _) _ _ _)); first | walk1 | (dsimp only; walk1) | (leave1; try dsimp only)))
    (k_here; (with_reducible show wpAny _ _ (call (Value.ref 68) _) _ _ _); k_dflt ((show wpAny (model PG _) (ktrTop _ _ _ _ _ _ _ _ _ _) (call (Value.ref 68) [Value.ref _]) _ _ _); refine' hvI_use ?k1 ?k2 ?k3 ?k4 ?k5 ?kK ?ka ?kC ?kl ?kn ?kd ?ku ?_; (case k1 => k_asm); (case k2 => k_asm); (case k3 => k_asm); (case k4 => k_asm); (case k5 => k_asm); (case kK => first | exact rfl | assumption); (case ka => first | exact ents_take (by k_mem) (by assumption) (by assumption) (by ktd_sub) | exact ents_drop (by k_mem) (by assumption) (by assumption) (by ktd_sub)); (case kC => (refine IH _ ?_; show _ + 3 < _ + 3; simp only [hfd, Int.toNat_natCast, List.length_take, List.length_drop]; omega)); (case kl => (first | exact Nat.le_trans (lenE_take _ _) hok' | exact Nat.le_trans (lenE_drop _ _) hok' | ((try simp only [hfd, Int.toNat_natCast, List.length_take, List.length_drop, depth_deeper, units_deeper]); (try dsimp only [ktrTop]); omega))); (case kn => (first | exact Nat.le_trans (lenE_take _ _) hok' | exact Nat.le_trans (lenE_drop _ _) hok' | ((try simp only [hfd, Int.toNat_natCast, List.length_take, List.length_drop, depth_deeper, units_deeper]); (try dsimp only [ktrTop]); omega))); (case kd => (first | exact Nat.le_trans (lenE_take _ _) hok' | exact Nat.le_trans (lenE_drop _ _) hok' | ((try simp only [hfd, Int.toNat_natCast, List.length_take, List.length_drop, depth_deeper, units_deeper]); (try dsimp only [ktrTop]); omega))); (case ku => (first | exact Nat.le_trans (lenE_take _ _) hok' | exact Nat.le_trans (lenE_drop _ _) hok' | ((try simp only [hfd, Int.toNat_natCast, List.length_take, List.length_drop, depth_deeper, units_deeper]); (try dsimp only [ktrTop]); omega)))); intro r9b e9b tlb h9b tk9b F9b N9b hlb hob hHb hcb; (try simp only [List.cons_append, List.nil_append] at N9b); (try simp only [List.cons_append, List.nil_append] at hob); (try k_sweep))
    repeat' (first | (k_unfold; (try dsimp only)) | ((fail_if_success (with_reducible show wpAny _ _ (call (Value.ref 68) _) _ _ _)); (fail_if_success (with_reducible show wpAny _ _ (call (Value.ref 21) _) _ _ _)); (fail_if_success (with_reducible show wpAny _ _ (PySem.exec (PySem.Stmt.For _ _ _ _ _) _) _ _ _)); first | walk1 | (dsimp only; walk1) | (leave1; try dsimp only)))
    (k_here; (with_reducible show wpAny _ _ (call (Value.ref 21) _) _ _ _); k_dflt (refine' af_use ?k1 ?k2 ?k3 ?k4 ?k5 ?kK ?ka ?kb ?kl ?kd ?ku ?_; (case k1 => k_asm); (case k2 => k_asm); (case k3 => k_asm); (case k4 => k_asm); (case k5 => k_asm); (case kK => first | exact rfl | assumption); (case ka => (first | assumption | exact EntAt.mono (by assumption) (by first | ktd_sub | (intro p9 h9; simp only [List.mem_append, List.mem_cons] at h9 ⊢; grind)))); (case kb => (first | assumption | exact EntAt.mono (by assumption) (by first | ktd_sub | (intro p9 h9; simp only [List.mem_append, List.mem_cons] at h9 ⊢; grind)))); (case kl => first | assumption | omega); (case kd => ktr_room); (case ku => ktr_units)); intro r9c tlc h9c tk9c F9c N9c hlc hoc; (try simp only [List.cons_append, List.nil_append] at N9c); (try simp only [List.cons_append, List.nil_append] at hoc); (try k_sweep))
    (repeat' (first | (k_unfold; (try dsimp only)) | ((fail_if_success (with_reducible show wpAny _ _ (PySem.exec (PySem.Stmt.For _ _ _ _ _) _) _ _ _)); first | walk1 | (dsimp only; walk1) | (leave1; try dsimp only))))
    rename_i D1 h1' l1a D2 h2' l1b kF kN Tc kX
    obtain ⟨tl, Nt, ot, st⟩ := end_perm (news := news) kN (fun p hp => by simp only [List.mem_cons, List.mem_append]; grind) (fun p hp => by
      simp only [List.mem_cons, List.mem_append] at hp
      rcases hp with rfl | rfl | (((h | h) | h) | h)
      · exact .inr fun q hq => l1b q (by simp [hq])
      · exact .inr fun q hq => l1a q hq
      · exact .inl h
      · exact .inr fun q hq => hla q (by simp [hq]) p h
      · exact .inr fun q hq => hlb q (by simp [hq]) p h
      · exact .inr fun q hq => hlc q (by simp [hq]) p h)
    refine hret _ tl _ _ kF Nt ot trivial ⟨_, _, rfl, hoc.mono st, ?_⟩
    have hh := Halved.two hHa hHb
    rwa [List.take_append_drop] at hh

end HV31
section Comp31
open PySem PySem.W PyProof.Rows PyProof.V PySem.Spec PyProof.Rows.LCg
set_option maxRecDepth 100000
set_option maxHeartbeats 8000000
section
variable {prog : Program} {w : World} {A : Around} {s : Shared} {h₀ : Heap} {L : Addr} {m : PySem.Str → Option Value} {R : Result → Shared → Prop}

/-- the loop of a comprehension's last clause, by an invariant -/
theorem cl_last {e elt : Expr} {depth : Nat} {x : PySem.Str} {px ipos : Pos} {cenv : Env} {I C D : Addr} {fp : List Addr} {n : Nat} {P : Nat → Value → Prop} {St : Nat → Heap → Prop} {keep news0 : List (Addr × Obj)} {ys0 : List Value} {mC0 : PySem.Str → Option Value}
    (W : Walks prog w A I fp [I] n P St) (hIo : ∀ i h, St i h → ∃ o, h.get? I = some o)
    (hSt : ∀ i h h' o, St i h → h.get? I = some o → h'.get? I = some o → (∀ p ∈ keep, h'.get? p.1 = some p.2) → (∀ b o, h₀.get? b = some o → h'.get? b = some o) → St i h')
    (hCf : C ∉ fp) (hDf : D ∉ fp) (hIL : L ≠ I) (hI0 : h₀.get? I = none) (hCI : C ≠ I) (hDI : D ≠ I) (hCD : C ≠ D) (hCL : C ≠ L) (hDL : D ≠ L) (hC0 : h₀.get? C = none) (hD0 : h₀.get? D = none)
    (hq : (Code.compLoop e depth (.ref I) (.ref D) cenv).quiet = true)
    (hden : (model prog w).den (.compLoop e depth (.ref I) (.ref D) cenv) = (standAt ipos >>= fun _ => pyNext (.ref I) >>= fun r => match r with
      | none => pure (.done .next)
      | some v => letOwnedTupleGo (.Name x px) (.ref I) v >>= fun _ => assign (.Name x px) cenv v >>= fun _ =>
        (eval elt cenv >>= fun y => call (.builtin "list.append") [.ref D, y] >>= fun _ => pure ()) >>= fun _ =>
          again (.compLoop e depth (.ref I) (.ref D) cenv)).onRaise (fun x => do noteFrame x cenv; theTreesLotGoes x))
    (hA : A.under (.compLoop e depth (.ref I) (.ref D) cenv) = A)
    (hloc : cenv.locals = C) (hx : cenv.kindOf x = some .local) (hp : (cenv.scope.kind == .class || (cenv.scope.kind == .module && cenv.locals != cenv.globals)) = false)
    (PC : (PySem.Str → Option Value) → Prop) (hPC : ∀ m v, PC m → PC (fun y => if y = x then some v else m y))
    (J : Nat → List Value → List (Addr × Obj) → Prop) (hJk : ∀ i ys nw, J i ys nw → ∀ p ∈ keep, p ∈ nw) (hJl : ∀ i ys nw, J i ys nw → ys.length ≤ 1000)
    (step : ∀ i v ys news oI oC m₂ h tk (E' : Value → Shared → Prop), i < n → P i v → J i ys news → NsObj oC m₂ → m₂ x = some v → PC m₂ → Fr h₀ L h m → News h₀ L h ((I, oI) :: (C, oC) :: (D, lst ys) :: news) → Off3 I C D news →
      wpAny (model prog w) A (eval elt cenv) (CompEnd h₀ L m { s with heap := h, toks := tk } I oI C oC D (lst ys) (fun _ => True) (fun y news' => J (i + 1) (ys ++ [y]) news')) E' { s with heap := h, toks := tk })
    (hst : St 0 s.heap) (F : Fr h₀ L s.heap m) (N : News h₀ L s.heap ((D, lst ys0) :: news0)) (off : Off3 I C D news0) (hC : s.heap.Ns C mC0) (hP0 : PC mC0) (hJ0 : J 0 ys0 news0)
    (fin : ∀ h tk ys news' m', Fr h₀ L h m → News h₀ L h ((D, lst ys) :: news') → Off3 I C D news' → h.Ns C m' → PC m' → J n ys news' → R (.ok .next) { s with heap := h, toks := tk }) :
    codeAny (model prog w) A (.compLoop e depth (.ref I) (.ref D) cenv) R s := by
  subst hloc
  refine codeAny_loop hq (fun k s' => ∃ h' tk i ys m' news', s' = { s with heap := h', toks := tk } ∧ i ≤ n ∧ k = n + 1 - i ∧ St i h' ∧ Fr h₀ L h' m ∧ h'.Ns cenv.locals m' ∧ PC m' ∧ News h₀ L h' ((D, lst ys) :: news') ∧ Off3 I cenv.locals D news' ∧ J i ys news') ?_ (n + 1)
    ⟨s.heap, s.toks, 0, ys0, mC0, news0, rfl, Nat.zero_le _, rfl, hst, F, hC, hP0, N, off, hJ0⟩
  rintro k s' ⟨h', tk, i, ys, m', news', rfl, hi, rfl, hst', F', hn', hP', N', off', hJ⟩
  rw [hden, hA]
  refine wpAny_noted ?_
  refine wpAny_bind (wpAny_standAt (wpAny_bind ?_))
  by_cases hlt : i < n
  · refine W.item i _ _ _ hlt hst' fun v h₂ tk₂ hPv hst₂ hk₂ => ?_
    refine wpAny_bind (wpAny_pure ?_)
    refine wpAny_bind (wpAny_assign_Name (wpAny_storeName_local hx (hn'.at' fun o e => hk₂ _ o (by simpa using hCI) e) (fun h₃ hn₃ hs₃ => ?_) hp))
    have hst₃ : St (i + 1) h₃ := W.frame _ _ _ hst₂ fun b hb o e => hs₃.extBut b o (fun q => hCf (by have q' : b = cenv.locals := q; rw [← q']; exact hb)) e
    obtain ⟨oI, heI⟩ := hIo _ _ hst₃
    obtain ⟨oC, heC, hoC⟩ := ns_obj hn₃
    have F₃ : Fr h₀ L h₃ m := (fr_but F' hk₂ hIL hI0).change hs₃ hCL hC0
    have off3 := off'.mem
    have N₂ : News h₀ L h₂ ((D, lst ys) :: news') := news_but N' hk₂ fun p hp => by
      rcases List.mem_cons.mp hp with rfl | hp
      · exact hDI
      · exact (off3 p hp).1
    have N₃ : News h₀ L h₃ ((I, oI) :: (cenv.locals, oC) :: (D, lst ys) :: news') := fun p hp => by
      rcases List.mem_cons.mp hp with rfl | hp
      · exact ⟨heI, Ne.symm hIL, hI0⟩
      · rcases List.mem_cons.mp hp with rfl | hp
        · exact ⟨heC, hCL, hC0⟩
        · have z := N₂ p hp
          refine ⟨hs₃.extBut _ _ ?_ z.1, z.2⟩
          rcases List.mem_cons.mp hp with rfl | hp
          · exact Ne.symm hCD
          · exact (off3 p hp).2.1
    refine wpAny_bind (wpAny_bind (wpAny_mono (step i v ys news' oI oC _ h₃ _ _ hlt hPv hJ hoC (by simp) (hPC _ _ hP') F₃ N₃ off') (fun y s₄ h₄ => ?_) fun _ _ e => e))
    obtain ⟨h₄, tk₄, news₄, rfl, F₄, N₄, off₄, _, hJ₄⟩ := h₄
    have zI := (N₄ (I, oI) List.mem_cons_self).1
    have zC := (N₄ (cenv.locals, oC) (List.mem_cons_of_mem _ List.mem_cons_self)).1
    have zD := (N₄ (D, lst ys) (List.mem_cons_of_mem _ (List.mem_cons_of_mem _ List.mem_cons_self))).1
    have N₄' : News h₀ L h₄ news₄ := fun p hp => N₄ p (List.mem_cons_of_mem _ (List.mem_cons_of_mem _ (List.mem_cons_of_mem _ hp)))
    have hst₄ : St (i + 1) h₄ := hSt _ _ _ _ hst₃ heI zI (fun p hp => (N₄' p (hJk _ _ _ hJ₄ p hp)).1) F₄.keep
    have hyl := hJl _ _ _ hJ
    refine wpAny_bind (append_at (hsz := by show ys.toArray.size ≤ sizeLine; rw [List.size_toArray, sizeLine_eq]; omega) zD fun h₅ hs₅ hD₅ => ?_)
    refine wpAny_pure (wpAny_pure ⟨rfl, ?_⟩)
    have off4 := off₄.mem
    refine ⟨n + 1 - (i + 1), by omega, h₅, tk₄, i + 1, ys ++ [y], _, news₄, rfl, hlt, rfl, W.frame _ _ _ hst₄ fun b hb o e => hs₅.extBut b o (fun q => hDf (q ▸ hb)) e, F₄.change hs₅ hDL hD0,
      (hoC.ns zC).sameBut hs₅ hCD, hPC _ _ hP', fun p hp => ?_, off₄, hJ₄⟩
    rcases List.mem_cons.mp hp with rfl | hp
    · exact ⟨hD₅.trans (congrArg some (lst_snoc ys y)), hDL, hD0⟩
    · exact ⟨hs₅.extBut _ _ (off4 p hp).2.2 (N₄' p hp).1, (N₄' p hp).2⟩
  · obtain rfl : i = n := Nat.le_antisymm hi (Nat.not_lt.mp hlt)
    refine W.done _ _ _ hst' fun h₂ tk₂ hk₂ => wpAny_pure ?_
    have off3 := off'.mem
    exact fin h₂ tk₂ ys news' _ (fr_but F' hk₂ hIL hI0) (news_but N' hk₂ fun p hp => by
      rcases List.mem_cons.mp hp with rfl | hp
      · exact hDI
      · exact (off3 p hp).1) off' (hn'.at' fun o e => hk₂ _ o (by simpa using hCI) e) hP' hJ
end
theorem den_two (prog : Program) (w : World) (elt iter0 iter1 : Expr) (x0 x1 : PySem.Str) (p0 p1 : Pos) (scope : Scope) (pos : Pos) (it acc : Value) (cenv : Env) :
    (model prog w).den (.compLoop (.ListComp elt [⟨.Name x0 p0, iter0, [], 0⟩, ⟨.Name x1 p1, iter1, [], 0⟩] scope pos) 0 it acc cenv) = (standAt iter0.pos >>= fun _ => pyNext it >>= fun r => match r with
      | none => pure (.done .next)
      | some v => letOwnedTupleGo (.Name x0 p0) it v >>= fun _ => assign (.Name x0 p0) cenv v >>= fun _ =>
        eval iter1 cenv >>= fun xv => standAt iter1.pos >>= fun _ => foldedSetIterable iter1 cenv xv >>= fun x => holding [x] (pyIter x) >>= fun it1 =>
        runOwn (.compStart (.ListComp elt [⟨.Name x0 p0, iter0, [], 0⟩, ⟨.Name x1 p1, iter1, [], 0⟩] scope pos) 1 it1 acc cenv) cenv >>= fun _ =>
          again (.compLoop (.ListComp elt [⟨.Name x0 p0, iter0, [], 0⟩, ⟨.Name x1 p1, iter1, [], 0⟩] scope pos) 0 it acc cenv)).onRaise (fun x => do noteFrame x cenv; theTreesLotGoes x) := by rfl
theorem den_two1 (prog : Program) (w : World) (elt iter0 iter1 : Expr) (x0 x1 : PySem.Str) (p0 p1 : Pos) (scope : Scope) (pos : Pos) (it acc : Value) (cenv : Env) :
    (model prog w).den (.compLoop (.ListComp elt [⟨.Name x0 p0, iter0, [], 0⟩, ⟨.Name x1 p1, iter1, [], 0⟩] scope pos) 1 it acc cenv) = (standAt iter1.pos >>= fun _ => pyNext it >>= fun r => match r with
      | none => pure (.done .next)
      | some v => letOwnedTupleGo (.Name x1 p1) it v >>= fun _ => assign (.Name x1 p1) cenv v >>= fun _ =>
        (eval elt cenv >>= fun y => call (.builtin "list.append") [acc, y] >>= fun _ => pure ()) >>= fun _ =>
          again (.compLoop (.ListComp elt [⟨.Name x0 p0, iter0, [], 0⟩, ⟨.Name x1 p1, iter1, [], 0⟩] scope pos) 1 it acc cenv)).onRaise (fun x => do noteFrame x cenv; theTreesLotGoes x) := by rfl
theorem den_one (prog : Program) (w : World) (elt iter0 : Expr) (x0 : PySem.Str) (p0 : Pos) (scope : Scope) (pos : Pos) (it acc : Value) (cenv : Env) :
    (model prog w).den (.compLoop (.ListComp elt [⟨.Name x0 p0, iter0, [], 0⟩] scope pos) 0 it acc cenv) = (standAt iter0.pos >>= fun _ => pyNext it >>= fun r => match r with
      | none => pure (.done .next)
      | some v => letOwnedTupleGo (.Name x0 p0) it v >>= fun _ => assign (.Name x0 p0) cenv v >>= fun _ =>
        (eval elt cenv >>= fun y => call (.builtin "list.append") [acc, y] >>= fun _ => pure ()) >>= fun _ =>
          again (.compLoop (.ListComp elt [⟨.Name x0 p0, iter0, [], 0⟩] scope pos) 0 it acc cenv)).onRaise (fun x => do noteFrame x cenv; theTreesLotGoes x) := by rfl

section
variable {prog : Program} {w : World} {A : Around} {E : Value → Shared → Prop} {s : Shared} {h₀ : Heap} {L : Addr} {m : PySem.Str → Option Value} {R : Result → Shared → Prop}

/-- what an iterator walks, over a ledger that stays -/
def Src (prog : Program) (w : World) (A : Around) (h₀ : Heap) (L I : Addr) (n : Nat) (P : Nat → Value → Prop) (news : List (Addr × Obj)) (h : Heap) : Prop :=
  ∃ (fp : List Addr) (St : Nat → Heap → Prop) (keep : List (Addr × Obj)), Walks prog w A I fp [I] n P St ∧ (∀ i h, St i h → ∃ o, h.get? I = some o) ∧
    (∀ i h h' o, St i h → h.get? I = some o → h'.get? I = some o → (∀ p ∈ keep, h'.get? p.1 = some p.2) → (∀ b o, h₀.get? b = some o → h'.get? b = some o) → St i h') ∧ St 0 h ∧
    (∀ b ∈ fp, b = I ∨ (∃ o, (b, o) ∈ keep) ∨ (h₀.get? b).isSome = true) ∧ (∀ p ∈ keep, p ∈ news) ∧ L ≠ I ∧ h₀.get? I = none ∧ ∀ p ∈ news, p.1 ≠ I

def EltEnd (h₀ : Heap) (L : Addr) (m : PySem.Str → Option Value) (s : Shared) (all : List (Addr × Obj)) (K : Value → Prop) (y : Value) (s' : Shared) : Prop :=
  ∃ h' tk', s' = { s with heap := h', toks := tk' } ∧ Fr h₀ L h' m ∧ News h₀ L h' all ∧ K y
theorem EltEnd.intro {h' : Heap} {tk' : Nat} {all all' : List (Addr × Obj)} {K : Value → Prop} {y : Value} (F : Fr h₀ L h' m) (N : News h₀ L h' all') (hs : ∀ p ∈ all, p ∈ all') (k : K y) : EltEnd h₀ L m s all K y { s with heap := h', toks := tk' } :=
  ⟨h', tk', rfl, F, fun p hp => N p (hs p hp), k⟩

/-- where a comprehension's parts lie -/
structure Plc (h₀ : Heap) (L C D : Addr) (news : List (Addr × Obj)) : Prop where
  cd : C ≠ D
  cl : C ≠ L
  dl : D ≠ L
  c0 : h₀.get? C = none
  d0 : h₀.get? D = none
  off : ∀ p ∈ news, p.1 ≠ C ∧ p.1 ≠ D
  lt : ∀ p ∈ news, p.1 < D

theorem Src.offFp {I C D : Addr} {n : Nat} {P : Nat → Value → Prop} {news keep : List (Addr × Obj)} {fp : List Addr} {b : Addr} (hfp : ∀ b ∈ fp, b = I ∨ (∃ o, (b, o) ∈ keep) ∨ (h₀.get? b).isSome = true) (hk : ∀ p ∈ keep, p ∈ news) (hb0 : h₀.get? b = none) (hbI : b ≠ I) (hoff : ∀ p ∈ news, p.1 ≠ b) : b ∉ fp := fun hb => by
  rcases hfp b hb with e | ⟨o, ho⟩ | e
  · exact hbI e
  · exact hoff _ (hk _ ho) rfl
  · rw [hb0] at e; exact nomatch e

theorem cl_lastS {e elt : Expr} {depth : Nat} {x : PySem.Str} {px ipos : Pos} {cenv : Env} {I C D : Addr} {n : Nat} {P : Nat → Value → Prop} {news : List (Addr × Obj)} {ys0 : List Value} {mC0 : PySem.Str → Option Value}
    (S : Src prog w A h₀ L I n P news s.heap) (pl : Plc h₀ L C D news) (hCI : C ≠ I) (hDI : D ≠ I)
    (hq : (Code.compLoop e depth (.ref I) (.ref D) cenv).quiet = true)
    (hden : (model prog w).den (.compLoop e depth (.ref I) (.ref D) cenv) = (standAt ipos >>= fun _ => pyNext (.ref I) >>= fun r => match r with
      | none => pure (.done .next)
      | some v => letOwnedTupleGo (.Name x px) (.ref I) v >>= fun _ => assign (.Name x px) cenv v >>= fun _ =>
        (eval elt cenv >>= fun y => call (.builtin "list.append") [.ref D, y] >>= fun _ => pure ()) >>= fun _ =>
          again (.compLoop e depth (.ref I) (.ref D) cenv)).onRaise (fun x => do noteFrame x cenv; theTreesLotGoes x))
    (hA : A.under (.compLoop e depth (.ref I) (.ref D) cenv) = A)
    (hloc : cenv.locals = C) (hx : cenv.kindOf x = some .local) (hp : (cenv.scope.kind == .class || (cenv.scope.kind == .module && cenv.locals != cenv.globals)) = false)
    (PC : (PySem.Str → Option Value) → Prop) (hPC : ∀ m v, PC m → PC (fun y => if y = x then some v else m y))
    (K : Nat → List Value → Prop) (hKl : ∀ i ys, K i ys → ys.length ≤ 1000)
    (step : ∀ i v ys oI oC m₂ h tk (E' : Value → Shared → Prop), i < n → P i v → K i ys → NsObj oC m₂ → m₂ x = some v → PC m₂ → Fr h₀ L h m → News h₀ L h ((I, oI) :: (C, oC) :: (D, lst ys) :: news) →
      wpAny (model prog w) A (eval elt cenv) (EltEnd h₀ L m { s with heap := h, toks := tk } ((I, oI) :: (C, oC) :: (D, lst ys) :: news) (fun y => K (i + 1) (ys ++ [y]))) E' { s with heap := h, toks := tk })
    (F : Fr h₀ L s.heap m) (N : News h₀ L s.heap ((D, lst ys0) :: news)) (hC : s.heap.Ns C mC0) (hP0 : PC mC0) (hK0 : K 0 ys0)
    (fin : ∀ h tk ys m', Fr h₀ L h m → News h₀ L h ((D, lst ys) :: news) → h.Ns C m' → PC m' → K n ys → R (.ok .next) { s with heap := h, toks := tk }) :
    codeAny (model prog w) A (.compLoop e depth (.ref I) (.ref D) cenv) R s := by
  obtain ⟨fp, St, keep, W, hIo, hSt, hst, hfp, hk, hIL, hI0, hoff⟩ := S
  have off : Off3 I C D news := Off3.of fun p hp => ⟨hoff p hp, (pl.off p hp).1, (pl.off p hp).2⟩
  refine cl_last (keep := keep) W hIo hSt (Src.offFp (P := P) (n := n) (C := C) (D := D) hfp hk pl.c0 hCI fun p hp => (pl.off p hp).1) (Src.offFp (P := P) (n := n) (C := C) (D := D) hfp hk pl.d0 hDI fun p hp => (pl.off p hp).2) hIL hI0 hCI hDI pl.cd pl.cl pl.dl pl.c0 pl.d0 hq hden hA hloc hx hp PC hPC
    (fun i ys nw => nw = news ∧ K i ys) (fun i ys nw hJ p hp => by rw [hJ.1]; exact hk p hp) (fun i ys nw hJ => hKl i ys hJ.2) ?_ hst F N off hC hP0 ⟨rfl, hK0⟩ ?_
  · rintro i v ys nw oI oC m₂ h tk E' hi hP ⟨rfl, hK⟩ hN hm hpc F' N' off'
    refine wpAny_mono (step i v ys oI oC m₂ h tk E' hi hP hK hN hm hpc F' N') (fun y s' hy => ?_) fun _ _ e => e
    obtain ⟨h', tk', rfl, F'', N'', hK'⟩ := hy
    exact ⟨h', tk', nw, rfl, F'', N'', off', trivial, rfl, hK'⟩
  · rintro h tk ys nw m' F' N' off' hC' hP' ⟨rfl, hK⟩
    exact fin h tk ys m' F' N' hC' hP' hK

/-- the outer loop of a comprehension of two clauses -/
theorem cl_outerS {elt iter0 iter1 : Expr} {x0 x1 : PySem.Str} {p0 p1 : Pos} {scope : Scope} {pos : Pos} {cenv : Env} {I C D : Addr} {n : Nat} {P : Nat → Value → Prop} {news : List (Addr × Obj)} {ys0 : List Value} {mC0 : PySem.Str → Option Value}
    (S : Src prog w A h₀ L I n P news s.heap) (pl : Plc h₀ L C D news) (hCI : C ≠ I) (hDI : D ≠ I) (hAm : A.mark none = A)
    (hloc : cenv.locals = C) (hx : cenv.kindOf x0 = some .local) (hp : (cenv.scope.kind == .class || (cenv.scope.kind == .module && cenv.locals != cenv.globals)) = false)
    (hs1 : ∀ xv, foldedSetIterable iter1 cenv xv = pure xv)
    (K : Nat → List Value → Prop)
    (step : ∀ i v ys oI oC m₂ h tk (E' : Value → Shared → Prop), i < n → P i v → K i ys → NsObj oC m₂ → m₂ x0 = some v → Fr h₀ L h m → News h₀ L h ((I, oI) :: (C, oC) :: (D, lst ys) :: news) →
      wpAny (model prog w) A (eval iter1 cenv) (fun xv s₁ => wpAny (model prog w) A (pyIter xv) (fun it1 s₂ =>
        codeAny (model prog w) A (.compStart (.ListComp elt [⟨.Name x0 p0, iter0, [], 0⟩, ⟨.Name x1 p1, iter1, [], 0⟩] scope pos) 1 it1 (.ref D) cenv)
          (fun r s₃ => r = .ok .next ∧ ∃ h' tk' ys' m', s₃ = { s with heap := h', toks := tk' } ∧ Fr h₀ L h' m ∧ News h₀ L h' ((D, lst ys') :: (I, oI) :: news) ∧ h'.Ns C m' ∧ K (i + 1) ys') s₂) E' s₁) E' { s with heap := h, toks := tk })
    (F : Fr h₀ L s.heap m) (N : News h₀ L s.heap ((D, lst ys0) :: news)) (hC : s.heap.Ns C mC0) (hK0 : K 0 ys0)
    (fin : ∀ h tk ys m', Fr h₀ L h m → News h₀ L h ((D, lst ys) :: news) → h.Ns C m' → K n ys → R (.ok .next) { s with heap := h, toks := tk }) :
    codeAny (model prog w) A (.compLoop (.ListComp elt [⟨.Name x0 p0, iter0, [], 0⟩, ⟨.Name x1 p1, iter1, [], 0⟩] scope pos) 0 (.ref I) (.ref D) cenv) R s := by
  obtain ⟨fp, St, keep, W, hIo, hSt, hst, hfp, hk, hIL, hI0, hoff⟩ := S
  have hCf : C ∉ fp := Src.offFp (P := P) (n := n) (C := C) (D := D) hfp hk pl.c0 hCI fun p hp => (pl.off p hp).1
  have hDf : D ∉ fp := Src.offFp (P := P) (n := n) (C := C) (D := D) hfp hk pl.d0 hDI fun p hp => (pl.off p hp).2
  subst hloc
  refine codeAny_loop rfl (fun k s' => ∃ h' tk i ys m', s' = { s with heap := h', toks := tk } ∧ i ≤ n ∧ k = n + 1 - i ∧ St i h' ∧ Fr h₀ L h' m ∧ h'.Ns cenv.locals m' ∧ News h₀ L h' ((D, lst ys) :: news) ∧ K i ys) ?_ (n + 1)
    ⟨s.heap, s.toks, 0, ys0, mC0, rfl, Nat.zero_le _, rfl, hst, F, hC, N, hK0⟩
  rintro k s' ⟨h', tk, i, ys, m', rfl, hi, rfl, hst', F', hn', N', hK⟩
  rw [den_two]
  show wpAny _ A _ _ _ _
  refine wpAny_noted ?_
  refine wpAny_bind (wpAny_standAt (wpAny_bind ?_))
  by_cases hlt : i < n
  · refine W.item i _ _ _ hlt hst' fun v h₂ tk₂ hPv hst₂ hk₂ => ?_
    refine wpAny_bind (wpAny_pure ?_)
    refine wpAny_bind (wpAny_assign_Name (wpAny_storeName_local hx (hn'.at' fun o e => hk₂ _ o (by simpa using hCI) e) (fun h₃ hn₃ hs₃ => ?_) hp))
    have hst₃ : St (i + 1) h₃ := W.frame _ _ _ hst₂ fun b hb o e => hs₃.extBut b o (fun q => hCf (by have q' : b = cenv.locals := q; rw [← q']; exact hb)) e
    obtain ⟨oI, heI⟩ := hIo _ _ hst₃
    obtain ⟨oC, heC, hoC⟩ := ns_obj hn₃
    have F₃ : Fr h₀ L h₃ m := (fr_but F' hk₂ hIL hI0).change hs₃ pl.cl pl.c0
    have N₂ : News h₀ L h₂ ((D, lst ys) :: news) := news_but N' hk₂ fun p hp => by
      rcases List.mem_cons.mp hp with rfl | hp
      · exact hDI
      · exact hoff p hp
    have N₃ : News h₀ L h₃ ((I, oI) :: (cenv.locals, oC) :: (D, lst ys) :: news) := fun p hp => by
      rcases List.mem_cons.mp hp with rfl | hp
      · exact ⟨heI, Ne.symm hIL, hI0⟩
      · rcases List.mem_cons.mp hp with rfl | hp
        · exact ⟨heC, pl.cl, pl.c0⟩
        · have z := N₂ p hp
          refine ⟨hs₃.extBut _ _ ?_ z.1, z.2⟩
          rcases List.mem_cons.mp hp with rfl | hp
          · exact Ne.symm pl.cd
          · exact (pl.off p hp).1
    refine wpAny_bind (wpAny_mono (step i v ys oI oC _ h₃ _ _ hlt hPv hK hoC (by simp) F₃ N₃) (fun xv s₄ h₄ => ?_) fun _ _ e => e)
    refine wpAny_bind (wpAny_standAt (wpAny_bind (wpAny_of_eq (hs1 xv) ?_)))
    refine wpAny_bind (wpAny_holding (wpAny_mono h₄ (fun it1 s₅ h₅ => ?_) fun _ _ e => e))
    refine wpAny_bind (wpAny_runOwn ?_)
    rw [hAm]
    refine codeAny_mono h₅ (fun r s₆ h₆ => ?_)
    obtain ⟨rfl, h₇, tk₇, ys₇, m₇, rfl, F₇, N₇, hC₇, hK₇⟩ := h₆
    refine wpAny_pure ⟨rfl, ?_⟩
    have zI := (N₇ (I, oI) (List.mem_cons_of_mem _ List.mem_cons_self)).1
    refine ⟨n + 1 - (i + 1), by omega, h₇, tk₇, i + 1, ys₇, m₇, rfl, hlt, rfl, hSt _ _ _ _ hst₃ heI zI (fun p hp => (N₇ p (List.mem_cons_of_mem _ (List.mem_cons_of_mem _ (hk p hp)))).1) F₇.keep, F₇, hC₇, fun p hp => ?_, hK₇⟩
    rcases List.mem_cons.mp hp with rfl | hp
    · exact N₇ _ List.mem_cons_self
    · exact N₇ _ (List.mem_cons_of_mem _ (List.mem_cons_of_mem _ hp))
  · obtain rfl : i = n := Nat.le_antisymm hi (Nat.not_lt.mp hlt)
    refine W.done _ _ _ hst' fun h₂ tk₂ hk₂ => wpAny_pure ?_
    exact fin h₂ tk₂ ys _ (fr_but F' hk₂ hIL hI0) (news_but N' hk₂ fun p hp => by
      rcases List.mem_cons.mp hp with rfl | hp
      · exact hDI
      · exact hoff p hp) (hn'.at' fun o e => hk₂ _ o (by simpa using hCI) e) hK
end

end Comp31
section Src31
open PySem PySem.W PyProof.Rows PyProof.V PySem.Spec PyProof.Rows.LCg
set_option maxRecDepth 100000
set_option maxHeartbeats 8000000
section
variable {prog : Program} {w : World} {A : Around} {E : Value → Shared → Prop} {s : Shared} {h₀ : Heap} {L : Addr} {m : PySem.Str → Option Value} {R : Result → Shared → Prop} {news : List (Addr × Obj)} {Q : Value → Shared → Prop}

theorem Src.self {I : Addr} {n : Nat} {P : Nat → Value → Prop} (S : Src prog w A h₀ L I n P news s.heap) (h : Q (.ref I) s) : wpAny (model prog w) A (pyIter (.ref I)) Q E s :=
  let ⟨_, _, _, W, _, _, hst, _⟩ := S; W.self 0 _ _ _ hst h

theorem src_list {l : Addr} {ol : Obj} {its : Array Value} (hh : A.handled = none) (F : Fr h₀ L s.heap m) (N : News h₀ L s.heap news) (hm : (l, ol) ∈ news) (hl : ol.cls = .type "list" ∧ ∃ n, ol.data = .seq its n)
    (h : ∀ I h', Fr h₀ L h' m → News h₀ L h' news → Src prog w A h₀ L I its.size (fun i v => its[i]? = some v) news h' → s.heap.objs.size ≤ I → (∀ b o, s.heap.get? b = some o → h'.get? b = some o) → Q (.ref I) { s with heap := h' }) :
    wpAny (model prog w) A (pyIter (.ref l)) Q E s := by
  have hax := N _ hm
  have hil : s.heap.IsList l its := ⟨ol, hax.1, hl.1, hl.2⟩
  have hlt : l < s.heap.objs.size := Heap.lt_size hax.1
  refine wpAny_pyIter_list hil ?_
  refine h _ _ (F.push _) (fun p hp => ⟨Heap.get?_push_of_some _ (N p hp).1, (N p hp).2⟩) ⟨_, _, [(l, ol)], Walks.list hh s.heap.objs.size l (Nat.ne_of_lt hlt) its, ?_, ?_, ⟨⟨_, Heap.get?_push_size _ rfl, rfl, rfl⟩, hil.push _⟩, ?_, ?_, (Nat.ne_of_lt F.ns.lt), next_is_new F, fun p hp => Nat.ne_of_lt (Heap.lt_size (N p hp).1)⟩ (Nat.le_refl _) (fun _ _ e => Heap.get?_push_of_some _ e)
  · rintro i h ⟨⟨o, he, _⟩, _⟩; exact ⟨_, he⟩
  · rintro i h h' o ⟨⟨o', he', r⟩, _⟩ he he2 hk _
    rw [he] at he'
    cases he'
    exact ⟨⟨o, he2, r⟩, ⟨ol, hk _ (List.mem_singleton.mpr rfl), hl.1, hl.2⟩⟩
  · intro b hb
    rcases List.mem_cons.mp hb with rfl | hb
    · exact .inl rfl
    · rw [List.mem_singleton.mp hb]; exact .inr (.inl ⟨ol, List.mem_singleton.mpr rfl⟩)
  · intro p hp; rw [List.mem_singleton.mp hp]; exact hm

theorem src_tuple {l : Addr} {ol : Obj} {its : Array Value} (hh : A.handled = none) (F : Fr h₀ L s.heap m) (N : News h₀ L s.heap news) (hm : (l, ol) ∈ news) (hl : ol.cls = .type "tuple" ∧ ∃ n, ol.data = .seq its n)
    (h : ∀ I h', Fr h₀ L h' m → News h₀ L h' news → Src prog w A h₀ L I its.size (fun i v => its[i]? = some v) news h' → s.heap.objs.size ≤ I → (∀ b o, s.heap.get? b = some o → h'.get? b = some o) → Q (.ref I) { s with heap := h' }) :
    wpAny (model prog w) A (pyIter (.ref l)) Q E s := by
  have hax := N _ hm
  have hil : s.heap.IsTuple l its := ⟨ol, hax.1, hl.1, hl.2⟩
  have hlt : l < s.heap.objs.size := Heap.lt_size hax.1
  refine wpAny_pyIter_tuple hil ?_
  refine h _ _ (F.push _) (fun p hp => ⟨Heap.get?_push_of_some _ (N p hp).1, (N p hp).2⟩) ⟨_, _, [(l, ol)], Walks.tuple hh s.heap.objs.size l (Nat.ne_of_lt hlt) its, ?_, ?_, ⟨⟨_, Heap.get?_push_size _ rfl, rfl, rfl⟩, ⟨ol, Heap.get?_push_of_some _ hax.1, hl.1, hl.2⟩⟩, ?_, ?_, (Nat.ne_of_lt F.ns.lt), next_is_new F, fun p hp => Nat.ne_of_lt (Heap.lt_size (N p hp).1)⟩ (Nat.le_refl _) (fun _ _ e => Heap.get?_push_of_some _ e)
  · rintro i h ⟨⟨o, he, _⟩, _⟩; exact ⟨_, he⟩
  · rintro i h h' o ⟨⟨o', he', r⟩, _⟩ he he2 hk _
    rw [he] at he'
    cases he'
    exact ⟨⟨o, he2, r⟩, ⟨ol, hk _ (List.mem_singleton.mpr rfl), hl.1, hl.2⟩⟩
  · intro b hb
    rcases List.mem_cons.mp hb with rfl | hb
    · exact .inl rfl
    · rw [List.mem_singleton.mp hb]; exact .inr (.inl ⟨ol, List.mem_singleton.mpr rfl⟩)
  · intro p hp; rw [List.mem_singleton.mp hp]; exact hm

theorem src_keys {d : Addr} {od : Obj} {c : List (PySem.Str × Int)} (hh : A.handled = none) (F : Fr h₀ L s.heap m) (N : News h₀ L s.heap news) (hm : (d, od) ∈ news) (hC : IsC prog w od c) (lo : (d == sysModules) = false)
    (h : ∀ I h', Fr h₀ L h' m → News h₀ L h' news → Src prog w A h₀ L I c.length (fun i v => ∃ k n t, c[i]? = some (k, n) ∧ v = .str k t) news h' → s.heap.objs.size ≤ I → (∀ b o, s.heap.get? b = some o → h'.get? b = some o) → Q (.ref I) { s with heap := h' }) :
    wpAny (model prog w) A (pyIter (.ref d)) Q E s := by
  have hax := N _ hm
  obtain ⟨kvs, hdo, hf⟩ := hC
  obtain ⟨ep, hat⟩ := (Heap.dictOf_iff.mpr ⟨od, hax.1, hdo⟩ : s.heap.DictOf (PySem.strKind prog w) d kvs).dictAt
  have hlen : kvs.length = c.length := by rw [← hf.length, kdpD_length]
  have hlt : d < s.heap.objs.size := Heap.lt_size hax.1
  refine wpAny_pyIter_dict lo hat ?_
  have W0 := Walks.dictKeys (prog := prog) (w := w) (A := A) (knd := PySem.strKind prog w) hh s.heap.objs.size d (Nat.ne_of_lt hlt) kvs ep
  have W : Walks prog w A s.heap.objs.size [s.heap.objs.size, d] [s.heap.objs.size] c.length (fun i v => ∃ k n t, c[i]? = some (k, n) ∧ v = .str k t) (fun i h => h.IsKeyIter s.heap.objs.size d i kvs.length ep ∧ h.DictAt (PySem.strKind prog w) d kvs ep) :=
    { sub := W0.sub, frame := W0.frame, self := W0.self, done := fun s Q E st hQ => W0.done s Q E (by rw [hlen]; rw [hlen] at st; exact st) hQ,
      item := fun i s Q E hi st hQ => W0.item i s Q E (by rw [hlen]; exact hi) st fun v h' tk hP => hQ v h' tk (by
        obtain ⟨k, x, hx, hk⟩ := hP
        obtain ⟨n, t2, hc, rfl⟩ := kdpD_at hf hx
        obtain ⟨t1, rfl⟩ := Value.isStrOf_shape hk
        exact ⟨k, n, t1, hc, rfl⟩) }
  refine h _ _ (F.push _) (fun p hp => ⟨Heap.get?_push_of_some _ (N p hp).1, (N p hp).2⟩) ⟨_, _, [(d, od)], W, ?_, ?_, ⟨⟨_, Heap.get?_push_size _ rfl, rfl, rfl⟩, hat.push _⟩, ?_, ?_, (Nat.ne_of_lt F.ns.lt), next_is_new F, fun p hp => Nat.ne_of_lt (Heap.lt_size (N p hp).1)⟩ (Nat.le_refl _) (fun _ _ e => Heap.get?_push_of_some _ e)
  · rintro i h ⟨⟨o, he, _⟩, _⟩; exact ⟨_, he⟩
  · rintro i h h' o ⟨⟨o', he', r⟩, hda⟩ he he2 hk _
    rw [he] at he'
    cases he'
    refine ⟨⟨o, he2, r⟩, ?_⟩
    obtain ⟨o3, es, ho, r2⟩ := hat
    have e3 : o3 = od := Option.some.inj (ho.symm.trans hax.1)
    exact ⟨o3, es, by rw [e3]; exact hk _ (List.mem_singleton.mpr rfl), r2⟩
  · intro b hb
    rcases List.mem_cons.mp hb with rfl | hb
    · exact .inl rfl
    · rw [List.mem_singleton.mp hb]; exact .inr (.inl ⟨od, List.mem_singleton.mpr rfl⟩)
  · intro p hp; rw [List.mem_singleton.mp hp]; exact hm

theorem small_range (n : Nat) (hn : n ≤ 1000) : Builtin.Range.rangeSize 0 (n : Int) 1 = (n : Int) ∧ Builtin.Range.small 0 (n : Int) 1 = true := by
  have hsz : Builtin.Range.rangeSize 0 (n : Int) 1 = (n : Int) := by
    unfold Builtin.Range.rangeSize
    simp only [Int.sub_zero, show ((1 : Int) > 0) = True from by simp, if_true]
    split <;> omega
  refine ⟨hsz, ?_⟩
  unfold Builtin.Range.small
  rw [hsz]
  have f : ∀ z : Int, 0 ≤ z → z ≤ 1001 → Builtin.Range.rangeFitsLong z = true := by
    intro z h1 h2
    unfold Builtin.Range.rangeFitsLong
    simp
    omega
  rw [f 0 (by omega) (by omega), f (n : Int) (by omega) (by omega), f 1 (by omega) (by omega)]
  simp only [Bool.and_self, Bool.true_and, show ((1 : Int) > 0) = True from by simp, if_true]
  rw [f ((n : Int) + (1 - 1)) (by omega) (by omega)]
  simp

theorem src_range {r : Addr} {b : Int} {t u v : Tok} {n : Nat} (hh : A.handled = none) (F : Fr h₀ L s.heap m) (N : News h₀ L s.heap news) (hr : IsRange s.heap r 0 b 1 t u v) (hb : b = (n : Int)) (hn : n ≤ 1000)
    (h : ∀ I h', Fr h₀ L h' m → News h₀ L h' news → Src prog w A h₀ L I n (fun i v => ∃ t, v = .int (i : Int) t) news h' → s.heap.objs.size ≤ I → (∀ b o, s.heap.get? b = some o → h'.get? b = some o) → Q (.ref I) { s with heap := h' }) :
    wpAny (model prog w) A (pyIter (.ref r)) Q E s := by
  subst hb
  obtain ⟨hsz, hsm⟩ := small_range n hn
  refine wpAny_pyIter_range hr hsm ?_
  have W0 := range_walks (prog := prog) (w := w) (A := A) (I := s.heap.objs.size) hh 0 n
  have W : Walks prog w A s.heap.objs.size [s.heap.objs.size] [s.heap.objs.size] n (fun i v => ∃ t, v = .int (i : Int) t) (fun i h => IsRangeIter h s.heap.objs.size (0 + (i : Nat) * 1) ((n : Int) - (i : Nat)) 1) :=
    { sub := W0.sub, frame := W0.frame, self := W0.self, done := W0.done, item := fun i s Q E hi st hQ => W0.item i s Q E hi st fun v h' tk hP => hQ v h' tk (by obtain ⟨t, rfl⟩ := hP; exact ⟨t, by rw [Int.zero_add]⟩) }
  refine h _ _ (F.push _) (fun p hp => ⟨Heap.get?_push_of_some _ (N p hp).1, (N p hp).2⟩) ⟨_, _, [], W, ?_, ?_, ?_, ?_, ?_, (Nat.ne_of_lt F.ns.lt), next_is_new F, fun p hp => Nat.ne_of_lt (Heap.lt_size (N p hp).1)⟩ (Nat.le_refl _) (fun _ _ e => Heap.get?_push_of_some _ e)
  · intro i h st; exact ⟨_, st⟩
  · intro i h h' o st he he2 _ _
    have st' : h.get? s.heap.objs.size = some _ := st
    show h'.get? s.heap.objs.size = some _
    rw [he2, ← he]; exact st'
  · show IsRangeIter _ _ _ _ _
    rw [hsz]
    simpa using Heap.get?_push_size _ rfl
  · intro b hb; exact .inl (List.mem_singleton.mp hb)
  · intro p hp; exact nomatch hp

theorem cs_start1 {elt iter0 iter1 : Expr} {x0 x1 : PySem.Str} {p0 p1 : Pos} {scope : Scope} {pos : Pos} {it acc : Value} {cenv : Env}
    (h0 : codeAny (model prog w) A (.compLoop (.ListComp elt [⟨.Name x0 p0, iter0, [], 0⟩, ⟨.Name x1 p1, iter1, [], 0⟩] scope pos) 1 it acc cenv) R s)
    (h : wpAny (model prog w) A (pyIter it) (fun it' s' => codeAny (model prog w) A (.compLoop (.ListComp elt [⟨.Name x0 p0, iter0, [], 0⟩, ⟨.Name x1 p1, iter1, [], 0⟩] scope pos) 1 it' acc cenv) R s')
      (notedBy (model prog w) A cenv fun x s' => R (.error x) s') s) :
    codeAny (model prog w) A (.compStart (.ListComp elt [⟨.Name x0 p0, iter0, [], 0⟩, ⟨.Name x1 p1, iter1, [], 0⟩] scope pos) 1 it acc cenv) R s := by
  refine codeAny_of_tree ?_
  show wpAny _ _ ((compStart (.ListComp elt [⟨.Name x0 p0, iter0, [], 0⟩, ⟨.Name x1 p1, iter1, [], 0⟩] scope pos) 1 it acc cenv).onRaise (fun x => do noteFrame x cenv; standAt theWindowsPlace)) _ _ s
  refine wpAny_notedAt ?_
  unfold compStart
  show wpAny _ _ (ask >>= _) _ _ s
  refine wpAny_bind (wpAny_askSetting (wpAny_ite ?_))
  split
  · first
      | exact wpAny_bind (wpAny_pure (wpAny_pure (And.intro rfl h0)))
      | exact wpAny_pure (And.intro rfl h0)
  · refine wpAny_bind (wpAny_rule ?_)
    show wpAny _ _ (standAt iter1.pos >>= _) _ _ s
    exact wpAny_bind (wpAny_standAt (wpAny_bind (wpAny_mono h (fun it' s' h' => wpAny_pure (And.intro rfl h')) fun _ _ x => x)))

/-- a comprehension's list and place are laid -/
theorem lc_block {e : Expr} {scope : Scope} {cl : List (PySem.Str × Addr)} {env : Env} {I : Addr} {n : Nat} {P : Nat → Value → Prop} {RR : Value → Addr → Result → Shared → Prop}
    (F : Fr h₀ L s.heap m) (N : News h₀ L s.heap news) (S : Src prog w A h₀ L I n P news s.heap) (hcell : ∀ y ∈ scope.names, y.2 ≠ .cell) (hkind : scope.kind = .function)
    (h : ∀ D C h₁ mC tk, Fr h₀ L h₁ m → News h₀ L h₁ ((D, lst []) :: news) → Src prog w A h₀ L I n P news h₁ → Plc h₀ L C D news → C ≠ I → I < D → h₁.Ns C mC →
      codeAny (model prog w) A (.compStart e 0 (.ref I) (.ref D) (compEnvC scope cl C env)) (RR (.ref D) C) { s with heap := h₁, toks := tk }) :
    wpAny (model prog w) A (newList []) (fun acc s₃ => wpAny (model prog w) A (newFunctionEnv scope env.globals cl [] env.qual none .none (some env)) (fun cenv s₄ =>
      codeAny (model prog w) A (.compStart e 0 (.ref I) acc { cenv with scope := relabel scope env }) (RR acc cenv.locals) s₄) E s₃) E s := by
  refine wpAny_newObj_type (wpAny_newFunctionEnv hcell (by intro y hy; simp at hy) (fun h₁ hns₁ hsb₁ => ?_) hkind)
  dsimp only at hns₁ hsb₁ ⊢
  generalize hH2 : s.heap.push { cls := .type "list", dict := none, data := .seq ([] : List Value).toArray } = H2 at hns₁ hsb₁ ⊢
  have hC : H2.objs.size = s.heap.objs.size + 1 := by rw [← hH2, Heap.size_push]
  have hDC : s.heap.objs.size ≠ H2.objs.size := by rw [hC]; exact Nat.ne_of_lt (Nat.lt_succ_self _)
  have below : ∀ b, b < s.heap.objs.size → b ≠ H2.objs.size ∧ b ≠ s.heap.objs.size := fun b hb => ⟨by rw [hC]; exact Nat.ne_of_lt (Nat.lt_succ_of_lt hb), Nat.ne_of_lt hb⟩
  obtain ⟨fp, St, keep, W, hIo, hSt, hst, hfp, hk, hIL, hI0, hoff⟩ := S
  obtain ⟨oI, heI⟩ := hIo _ _ hst
  have hIlt : I < s.heap.objs.size := Heap.lt_size heI
  have old : ∀ b o, s.heap.get? b = some o → h₁.get? b = some o := fun b o e => hsb₁.extBut b o (below b (Heap.lt_size e)).1 (Heap.get?_push_of_some _ (hH2 ▸ Heap.get?_push_of_some _ e))
  have hacc : h₁.get? s.heap.objs.size = some (lst []) := hsb₁.extBut _ _ hDC (Heap.get?_push_of_some _ (hH2 ▸ Heap.get?_push_size _ rfl))
  have fresh₀ : ∀ a, s.heap.objs.size ≤ a → h₀.get? a = none := fun a ha => by
    cases e : h₀.get? a with
    | none => rfl
    | some o' => exact absurd (Heap.lt_size (F.keep a o' e)) (Nat.not_lt.mpr ha)
  have hLlt : L < s.heap.objs.size := F.ns.lt
  refine h s.heap.objs.size H2.objs.size h₁ _ _ (F.keeps old) ?_ ⟨fp, St, keep, W, hIo, hSt, hSt _ _ _ _ hst heI (old _ _ heI) (fun p hp => old _ _ (N p (hk p hp)).1) (F.keeps old).keep, hfp, hk, hIL, hI0, hoff⟩ ?_ (Ne.symm (below I hIlt).1) hIlt hns₁
  · intro p hp
    rcases List.mem_cons.mp hp with rfl | hp
    · exact ⟨hacc, Ne.symm (below L hLlt).2, fresh₀ _ (Nat.le_refl _)⟩
    · exact ⟨old _ _ (N p hp).1, (N p hp).2⟩
  · exact ⟨Ne.symm hDC, Ne.symm (below L hLlt).1, Ne.symm (below L hLlt).2, fresh₀ _ (by rw [hC]; exact Nat.le_succ _), fresh₀ _ (Nat.le_refl _), fun p hp => below _ (Heap.lt_size (N p hp).1), fun p hp => Heap.lt_size (N p hp).1⟩

theorem src_bytes {b : Array UInt8} {t : Tok} (hh : A.handled = none) (F : Fr h₀ L s.heap m) (N : News h₀ L s.heap news)
    (h : ∀ I h', Fr h₀ L h' m → News h₀ L h' news → Src prog w A h₀ L I b.size (fun i v => ∃ c u, b[i]? = some c ∧ v = .int (c.toNat : Int) u) news h' → s.heap.objs.size ≤ I → (∀ b o, s.heap.get? b = some o → h'.get? b = some o) → Q (.ref I) { s with heap := h' }) :
    wpAny (model prog w) A (pyIter (.bytes b t)) Q E s := by
  refine KBw.pyIter_bytes ?_
  refine h _ _ (F.push _) (fun p hp => ⟨Heap.get?_push_of_some _ (N p hp).1, (N p hp).2⟩) ⟨_, _, [], KBw.walks hh s.heap.objs.size b t, ?_, ?_, ⟨_, Heap.get?_push_size _ rfl, rfl, rfl⟩, ?_, ?_, (Nat.ne_of_lt F.ns.lt), next_is_new F, fun p hp => Nat.ne_of_lt (Heap.lt_size (N p hp).1)⟩ (Nat.le_refl _) (fun _ _ e => Heap.get?_push_of_some _ e)
  · rintro i h ⟨o, he, _⟩; exact ⟨_, he⟩
  · rintro i h h' o ⟨o', he', r⟩ he he2 _ _
    rw [he] at he'
    cases he'
    exact ⟨o, he2, r⟩
  · intro b hb; exact .inl (List.mem_singleton.mp hb)
  · intro p hp; exact nomatch hp

/-- one clause, once the iterator stands -/
def LC1 (prog : Program) (w : World) (A : Around) (h₀ : Heap) (L : Addr) (m : PySem.Str → Option Value) (env : Env) (elt : Expr) (x : PySem.Str) (scope : Scope) (cl : List (PySem.Str × Addr)) (Fin : Shared → Addr → Heap → Nat → List Value → List (Addr × Obj) → Prop) (it : Value) (s₂ : Shared) : Prop :=
  ∃ (I : Addr) (n : Nat) (P : Nat → Value → Prop) (news : List (Addr × Obj)) (K : Nat → List Value → Prop), it = .ref I ∧ Fr h₀ L s₂.heap m ∧ News h₀ L s₂.heap news ∧ Src prog w A h₀ L I n P news s₂.heap ∧ K 0 [] ∧ (∀ i ys, K i ys → ys.length ≤ 1000) ∧
    (∀ C D i v ys oI oC m₂ h tk (E' : Value → Shared → Prop), i < n → P i v → K i ys → NsObj oC m₂ → m₂ x = some v → Plc h₀ L C D news → Fr h₀ L h m → News h₀ L h ((I, oI) :: (C, oC) :: (D, lst ys) :: news) →
      wpAny (model prog w) A (eval elt (compEnvC scope cl C env)) (EltEnd h₀ L m { s₂ with heap := h, toks := tk } ((I, oI) :: (C, oC) :: (D, lst ys) :: news) (fun y => K (i + 1) (ys ++ [y]))) E' { s₂ with heap := h, toks := tk }) ∧
    (∀ C D h tk ys, Plc h₀ L C D news → K n ys → Fin s₂ D h tk ys news)

/-- two clauses, once the outer iterator stands -/
def LC2 (prog : Program) (w : World) (A : Around) (h₀ : Heap) (L : Addr) (m : PySem.Str → Option Value) (env : Env) (elt iter1 : Expr) (x0 x1 : PySem.Str) (scope : Scope) (cl : List (PySem.Str × Addr)) (Fin : Shared → Addr → Heap → Nat → List Value → List (Addr × Obj) → Prop) (it : Value) (s₂ : Shared) : Prop :=
  ∃ (I : Addr) (n : Nat) (P : Nat → Value → Prop) (news : List (Addr × Obj)) (K : Nat → List Value → Prop), it = .ref I ∧ Fr h₀ L s₂.heap m ∧ News h₀ L s₂.heap news ∧ Src prog w A h₀ L I n P news s₂.heap ∧ K 0 [] ∧
    (∀ C D i v ys oI oC m₂ h tk (E' : Value → Shared → Prop), i < n → P i v → K i ys → NsObj oC m₂ → m₂ x0 = some v → Plc h₀ L C D news → Fr h₀ L h m → News h₀ L h ((I, oI) :: (C, oC) :: (D, lst ys) :: news) →
      wpAny (model prog w) A (eval iter1 (compEnvC scope cl C env)) (fun xv s₃ => wpAny (model prog w) A (pyIter xv) (fun it1 s₄ =>
        ∃ (I1 : Addr) (n1 : Nat) (P1 : Nat → Value → Prop) (K1 : Nat → List Value → Prop) (h4 : Heap) (tk4 : Nat), it1 = .ref I1 ∧ s₄ = { s₂ with heap := h4, toks := tk4 } ∧ Fr h₀ L h4 m ∧ News h₀ L h4 ((I, oI) :: (C, oC) :: (D, lst ys) :: news) ∧ Src prog w A h₀ L I1 n1 P1 ((I, oI) :: news) h4 ∧ C ≠ I1 ∧ D ≠ I1 ∧ K1 0 ys ∧ (∀ i ys, K1 i ys → ys.length ≤ 1000) ∧
          (∀ j v1 ys' oI1 oC' m₂' h' tk' (E'' : Value → Shared → Prop), j < n1 → P1 j v1 → K1 j ys' → NsObj oC' m₂' → m₂' x1 = some v1 → m₂' x0 = some v → Fr h₀ L h' m → News h₀ L h' ((I1, oI1) :: (C, oC') :: (D, lst ys') :: (I, oI) :: news) →
            wpAny (model prog w) A (eval elt (compEnvC scope cl C env)) (EltEnd h₀ L m { s₂ with heap := h', toks := tk' } ((I1, oI1) :: (C, oC') :: (D, lst ys') :: (I, oI) :: news) (fun y => K1 (j + 1) (ys' ++ [y]))) E'' { s₂ with heap := h', toks := tk' }) ∧
          (∀ ys', K1 n1 ys' → K (i + 1) ys')) E' s₃) E' { s₂ with heap := h, toks := tk }) ∧
    (∀ C D h tk ys, Plc h₀ L C D news → K n ys → Fin s₂ D h tk ys news)

def FinE' (h₀ : Heap) (L : Addr) (m : PySem.Str → Option Value) (Q : Value → Shared → Prop) (s₂ : Shared) (D : Addr) (h : Heap) (tk : Nat) (ys : List Value) (news : List (Addr × Obj)) : Prop :=
  Fr h₀ L h m → News h₀ L h ((D, lst ys) :: news) → Q (.ref D) { s₂ with heap := h, toks := tk }
def FinA' (h₀ : Heap) (L : Addr) (m : PySem.Str → Option Value) (y : PySem.Str) (Q : Flow → Shared → Prop) (s₂ : Shared) (D : Addr) (h : Heap) (tk : Nat) (ys : List Value) (news : List (Addr × Obj)) : Prop :=
  Fr h₀ L h (fun z => if z = y then some (.ref D) else m z) → News h₀ L h ((D, lst ys) :: news) → Q .next { s₂ with heap := h, toks := tk }

theorem lc1_block {env : Env} {elt iter : Expr} {x : PySem.Str} {px : Pos} {scope : Scope} {cl : List (PySem.Str × Addr)} {pos : Pos} {Fin : Shared → Addr → Heap → Nat → List Value → List (Addr × Obj) → Prop} {it : Value} {RR : Value → Addr → Result → Shared → Prop}
    (hcell : ∀ y ∈ scope.names, y.2 ≠ .cell) (hkind : scope.kind = .function) (hx : scope.names.lookup x = some .local)
    (h : LC1 prog w A h₀ L m env elt x scope cl Fin it s)
    (hRR : ∀ D C h tk ys m' news, Fr h₀ L h m → News h₀ L h ((D, lst ys) :: news) → Plc h₀ L C D news → h.Ns C m' → (∀ h' tk', Fin s D h' tk' ys news) → RR (.ref D) C (.ok .next) { s with heap := h, toks := tk }) :
    wpAny (model prog w) A (newList []) (fun acc s₃ => wpAny (model prog w) A (newFunctionEnv scope env.globals cl [] env.qual none .none (some env)) (fun cenv s₄ =>
      codeAny (model prog w) A (.compStart (.ListComp elt [⟨.Name x px, iter, [], 0⟩] scope pos) 0 it acc { cenv with scope := relabel scope env }) (RR acc cenv.locals) s₄) E s₃) E s := by
  obtain ⟨I, n, P, news, K, rfl, F, N, S, hK0, hKl, step, fin⟩ := h
  refine lc_block F N S hcell hkind fun D C h₁ mC tk F₁ N₁ S₁ pl hCI hID hC => ?_
  have hDI : D ≠ I := Nat.ne_of_gt hID
  have loop : codeAny (model prog w) A (.compLoop (.ListComp elt [⟨.Name x px, iter, [], 0⟩] scope pos) 0 (.ref I) (.ref D) (compEnvC scope cl C env)) (RR (.ref D) C) { s with heap := h₁, toks := tk } := by
    refine cl_lastS (s := { s with heap := h₁, toks := tk }) (x := x) (px := px) (elt := elt) (ipos := iter.pos) S₁ pl hCI hDI rfl (den_one ..) rfl rfl (lookup_relabel_local hx) (by simp [compEnvC, relabel, hkind]) (fun _ => True) (fun _ _ _ => trivial) K hKl ?_ F₁ N₁ hC trivial hK0 ?_
    · intro i v ys oI oC m₂ h tk' E' hi hP hK hN hm _ F' N'
      exact step C D i v ys oI oC m₂ h tk' E' hi hP hK hN hm pl F' N'
    · intro h tk' ys m' F' N' hC' _ hK
      exact hRR D C h tk' ys m' news F' N' pl hC' fun h' tk'' => fin C D h' tk'' ys pl hK
  exact codeAny_compStart_list loop (Src.self (s := { s with heap := h₁, toks := tk }) S₁ loop)

theorem lc2_block {env : Env} {elt iter0 iter1 : Expr} {x0 x1 : PySem.Str} {p0 p1 : Pos} {scope : Scope} {cl : List (PySem.Str × Addr)} {pos : Pos} {Fin : Shared → Addr → Heap → Nat → List Value → List (Addr × Obj) → Prop} {it : Value} {RR : Value → Addr → Result → Shared → Prop}
    (hAm : A.mark none = A) (hcell : ∀ y ∈ scope.names, y.2 ≠ .cell) (hkind : scope.kind = .function) (hx0 : scope.names.lookup x0 = some .local) (hx1 : scope.names.lookup x1 = some .local) (hne : x0 ≠ x1)
    (hs1 : ∀ C xv, foldedSetIterable iter1 (compEnvC scope cl C env) xv = pure xv)
    (h : LC2 prog w A h₀ L m env elt iter1 x0 x1 scope cl Fin it s)
    (hRR : ∀ D C h tk ys m' news, Fr h₀ L h m → News h₀ L h ((D, lst ys) :: news) → Plc h₀ L C D news → h.Ns C m' → (∀ h' tk', Fin s D h' tk' ys news) → RR (.ref D) C (.ok .next) { s with heap := h, toks := tk }) :
    wpAny (model prog w) A (newList []) (fun acc s₃ => wpAny (model prog w) A (newFunctionEnv scope env.globals cl [] env.qual none .none (some env)) (fun cenv s₄ =>
      codeAny (model prog w) A (.compStart (.ListComp elt [⟨.Name x0 p0, iter0, [], 0⟩, ⟨.Name x1 p1, iter1, [], 0⟩] scope pos) 0 it acc { cenv with scope := relabel scope env }) (RR acc cenv.locals) s₄) E s₃) E s := by
  obtain ⟨I, n, P, news, K, rfl, F, N, S, hK0, step, fin⟩ := h
  refine lc_block F N S hcell hkind fun D C h₁ mC tk F₁ N₁ S₁ pl hCI hID hC => ?_
  have hDI : D ≠ I := Nat.ne_of_gt hID
  have loop : codeAny (model prog w) A (.compLoop (.ListComp elt [⟨.Name x0 p0, iter0, [], 0⟩, ⟨.Name x1 p1, iter1, [], 0⟩] scope pos) 0 (.ref I) (.ref D) (compEnvC scope cl C env)) (RR (.ref D) C) { s with heap := h₁, toks := tk } := by
    refine cl_outerS (s := { s with heap := h₁, toks := tk }) S₁ pl hCI hDI hAm rfl (lookup_relabel_local hx0) (by simp [compEnvC, relabel, hkind]) (hs1 C) K ?_ F₁ N₁ hC hK0 ?_
    · intro i v ys oI oC m₂ h tk' E' hi hP hK hN hm F' N'
      refine wpAny_mono (step C D i v ys oI oC m₂ h tk' E' hi hP hK hN hm pl F' N') (fun xv s₃ h₃ => wpAny_mono h₃ (fun it1 s₄ h₄ => ?_) fun _ _ e => e) fun _ _ e => e
      obtain ⟨I1, n1, P1, K1, h4, tk4, rfl, rfl, F4, N4, S4, hC1, hD1, hK10, hK1l, step1, fin1⟩ := h₄
      have hCm : (C, oC) ∈ (I, oI) :: (C, oC) :: (D, lst ys) :: news := List.mem_cons_of_mem _ List.mem_cons_self
      have pl1 : Plc h₀ L C D ((I, oI) :: news) := ⟨pl.cd, pl.cl, pl.dl, pl.c0, pl.d0, fun p hp => by
        rcases List.mem_cons.mp hp with rfl | hp
        · exact ⟨Ne.symm hCI, Ne.symm hDI⟩
        · exact pl.off p hp, fun p hp => by
        rcases List.mem_cons.mp hp with rfl | hp
        · exact hID
        · exact pl.lt p hp⟩
      have loop1 : codeAny (model prog w) A (.compLoop (.ListComp elt [⟨.Name x0 p0, iter0, [], 0⟩, ⟨.Name x1 p1, iter1, [], 0⟩] scope pos) 1 (.ref I1) (.ref D) (compEnvC scope cl C env)) (fun r s₃ => r = .ok .next ∧ ∃ h' tk' ys' m', s₃ = { s with heap := h', toks := tk' } ∧ Fr h₀ L h' m ∧ News h₀ L h' ((D, lst ys') :: (I, oI) :: news) ∧ h'.Ns C m' ∧ K (i + 1) ys') { s with heap := h4, toks := tk4 } := by
        refine cl_lastS (s := { s with heap := h4, toks := tk4 }) (x := x1) (px := p1) (elt := elt) (ipos := iter1.pos) S4 pl1 hC1 hD1 rfl (den_two1 ..) rfl rfl (lookup_relabel_local hx1) (by simp [compEnvC, relabel, hkind]) (fun m => m x0 = some v) (fun m u hm => by show (if x0 = x1 then some u else m x0) = some v; rw [if_neg hne]; exact hm) K1 hK1l ?_ F4 ?_ (hN.ns (N4 _ hCm).1) hm hK10 ?_
        · intro j v1 ys' oI1 oC' m₂' h' tk' E'' hj hP1 hK1 hN' hm' hm0 F' N'
          exact step1 j v1 ys' oI1 oC' m₂' h' tk' E'' hj hP1 hK1 hN' hm' hm0 F' N'
        · intro p hp
          rcases List.mem_cons.mp hp with rfl | hp
          · exact N4 _ (by simp)
          · rcases List.mem_cons.mp hp with rfl | hp
            · exact N4 _ (by simp)
            · exact N4 _ (by simp [hp])
        · intro h' tk' ys' m' F' N' hC' _ hK1
          exact ⟨rfl, h', tk', ys', m', rfl, F', N', hC', fin1 ys' hK1⟩
      exact cs_start1 loop1 (Src.self (s := { s with heap := h4, toks := tk4 }) S4 loop1)
    · intro h tk' ys m' F' N' hC' hK
      exact hRR D C h tk' ys m' news F' N' pl hC' fun h' tk'' => fin C D h' tk'' ys pl hK
  exact codeAny_compStart_list loop (Src.self (s := { s with heap := h₁, toks := tk }) S₁ loop)

theorem lc1_expr (F₀ : Fr h₀ L s.heap m) {env : Env} {elt iter : Expr} {x : PySem.Str} {px : Pos} {scope : Scope} {cl : List (PySem.Str × Addr)} {pos : Pos}
    (hclos : closureFor scope env = pure cl) (hcell : ∀ y ∈ scope.names, y.2 ≠ .cell) (hkind : scope.kind = .function)
    (hnames : ∀ y ∈ scope.names, y.2 = .local → scope.names.lookup y.1 = some .local) (hx : scope.names.lookup x = some .local)
    (h : wpAny (model prog w) A (eval iter env) (fun xv s₁ => wpAny (model prog w) A (pyIter xv) (LC1 prog w A h₀ L m env elt x scope cl (FinE' h₀ L m Q)) E s₁) E s)
    (hs : ∀ x, foldedSetIterable iter env x = pure x := by intro _; rfl) :
    wpAny (model prog w) A (eval (.ListComp elt [⟨.Name x px, iter, [], 0⟩] scope pos) env) Q E s := by
  rw [eval_ListComp]
  refine wpAny_comprehension_free (use := none) rfl hs hclos hkind hnames (wpAny_mono h (fun xv s₁ h₁ => wpAny_mono h₁ (fun it s₂ h₂ => ?_) fun _ _ e => e) fun _ _ e => e)
  refine lc1_block (s := s₂) hcell hkind hx h₂ ?_
  intro D C h' tk ys m' news F' N' pl hn fin
  refine ⟨m', hn, fun h'' hs'' => fin h'' tk (F'.change hs'' pl.cl pl.c0) (fun p hp => ?_)⟩
  refine ⟨hs''.extBut _ _ ?_ (N' p hp).1, (N' p hp).2⟩
  rcases List.mem_cons.mp hp with rfl | hp
  · exact Ne.symm pl.cd
  · exact (pl.off p hp).1
theorem lc2_expr (F₀ : Fr h₀ L s.heap m) {env : Env} {elt iter0 iter1 : Expr} {x0 x1 : PySem.Str} {p0 p1 : Pos} {scope : Scope} {cl : List (PySem.Str × Addr)} {pos : Pos}
    (hAm : A.mark none = A) (hclos : closureFor scope env = pure cl) (hcell : ∀ y ∈ scope.names, y.2 ≠ .cell) (hkind : scope.kind = .function)
    (hnames : ∀ y ∈ scope.names, y.2 = .local → scope.names.lookup y.1 = some .local) (hx0 : scope.names.lookup x0 = some .local) (hx1 : scope.names.lookup x1 = some .local) (hne : x0 ≠ x1)
    (hs1 : ∀ C xv, foldedSetIterable iter1 (compEnvC scope cl C env) xv = pure xv)
    (h : wpAny (model prog w) A (eval iter0 env) (fun xv s₁ => wpAny (model prog w) A (pyIter xv) (LC2 prog w A h₀ L m env elt iter1 x0 x1 scope cl (FinE' h₀ L m Q)) E s₁) E s)
    (hs : ∀ x, foldedSetIterable iter0 env x = pure x := by intro _; rfl) :
    wpAny (model prog w) A (eval (.ListComp elt [⟨.Name x0 p0, iter0, [], 0⟩, ⟨.Name x1 p1, iter1, [], 0⟩] scope pos) env) Q E s := by
  rw [eval_ListComp]
  refine wpAny_comprehension_free (use := none) rfl hs hclos hkind hnames (wpAny_mono h (fun xv s₁ h₁ => wpAny_mono h₁ (fun it s₂ h₂ => ?_) fun _ _ e => e) fun _ _ e => e)
  refine lc2_block (s := s₂) hAm hcell hkind hx0 hx1 hne hs1 h₂ ?_
  intro D C h' tk ys m' news F' N' pl hn fin
  refine ⟨m', hn, fun h'' hs'' => fin h'' tk (F'.change hs'' pl.cl pl.c0) (fun p hp => ?_)⟩
  refine ⟨hs''.extBut _ _ ?_ (N' p hp).1, (N' p hp).2⟩
  rcases List.mem_cons.mp hp with rfl | hp
  · exact Ne.symm pl.cd
  · exact (pl.off p hp).1
theorem lc1_assign (F₀ : Fr h₀ L s.heap m) {Q : Flow → Shared → Prop} {env : Env} {elt iter : Expr} {x y : PySem.Str} {px py : Pos} {scope : Scope} {cl : List (PySem.Str × Addr)} {pos spos : Pos} (hLe : env.locals = L)
    (hsw : swapsWith (.ListComp elt [⟨.Name x px, iter, [], 0⟩] scope pos) (some (.Name y py)) spos.line env = pure true)
    (hclos : closureFor scope env = pure cl) (hcell : ∀ y ∈ scope.names, y.2 ≠ .cell) (hkind : scope.kind = .function)
    (hnames : ∀ y ∈ scope.names, y.2 = .local → scope.names.lookup y.1 = some .local) (hx : scope.names.lookup x = some .local)
    (hy : env.kindOf y = some .local) (hp : (env.scope.kind == .class || (env.scope.kind == .module && env.locals != env.globals)) = false)
    (h : wpAny (model prog w) A (eval iter env) (fun xv s₁ => wpAny (model prog w) A (pyIter xv) (LC1 prog w A h₀ L m env elt x scope cl (FinA' h₀ L m y Q)) E s₁) E s)
    (hs : ∀ x, foldedSetIterable iter env x = pure x := by intro _; rfl) :
    wpAny (model prog w) A (exec (.Assign [.Name y py] (.ListComp elt [⟨.Name x px, iter, [], 0⟩] scope pos) spos) env) Q E s := by
  subst hLe
  rw [exec_Assign_Name_used _ _ _ _ hsw]
  refine wpAny_bind (wpAny_standAt (wpAny_bind ?_))
  show wpAny _ A (do let _ ← comprehension (.ListComp elt [⟨.Name x px, iter, [], 0⟩] scope pos) scope env _ (newList []) false (eval iter env) (some (assign (.Name y py) env))) _ _ s
  refine wpAny_bind (wpAny_mono (wpAny_comprehension_free (use := some (assign (.Name y py) env)) (Q := fun _ s' => Q .next s') rfl hs hclos hkind hnames
    (wpAny_mono h (fun xv s₁ h₁ => wpAny_mono h₁ (fun it s₂ h₂ => ?_) fun _ _ e => e) fun _ _ e => e)) (fun _ s' hq => wpAny_pure (wpAny_pure hq)) fun _ _ e => e)
  refine lc1_block (s := s₂) hcell hkind hx h₂ ?_
  intro D C h' tk ys m' news F' N' pl hn fin
  show wpAny _ A (assign (.Name y py) env (.ref D)) _ _ _
  refine wpAny_assign_Name (wpAny_storeName_local hy F'.ns (fun h₂ hn₂ hs₂ => ?_) hp)
  have hL₀ : h₀.get? env.locals = none := Heap.get?_none_of_le F'.above
  have F₂ : Fr h₀ env.locals h₂ (fun z => if z = y then some (.ref D) else m z) := ⟨hn₂, fun b o e => hs₂.extBut b o (fun q => by rw [q, hL₀] at e; cases e) (F'.keep b o e), F'.above⟩
  refine ⟨m', hn.sameBut hs₂ pl.cl, fun h'' hs'' => fin h'' _ (F₂.change hs'' pl.cl pl.c0) (fun p hp => ?_)⟩
  have z : h₂.get? p.1 = some p.2 := hs₂.extBut _ _ (N' p hp).2.1 (N' p hp).1
  refine ⟨hs''.extBut _ _ ?_ z, (N' p hp).2⟩
  rcases List.mem_cons.mp hp with rfl | hp
  · exact Ne.symm pl.cd
  · exact (pl.off p hp).1
theorem lc2_assign (F₀ : Fr h₀ L s.heap m) {Q : Flow → Shared → Prop} {env : Env} {elt iter0 iter1 : Expr} {x0 x1 y : PySem.Str} {p0 p1 py : Pos} {scope : Scope} {cl : List (PySem.Str × Addr)} {pos spos : Pos} (hLe : env.locals = L)
    (hAm : A.mark none = A) (hsw : swapsWith (.ListComp elt [⟨.Name x0 p0, iter0, [], 0⟩, ⟨.Name x1 p1, iter1, [], 0⟩] scope pos) (some (.Name y py)) spos.line env = pure true)
    (hclos : closureFor scope env = pure cl) (hcell : ∀ y ∈ scope.names, y.2 ≠ .cell) (hkind : scope.kind = .function)
    (hnames : ∀ y ∈ scope.names, y.2 = .local → scope.names.lookup y.1 = some .local) (hx0 : scope.names.lookup x0 = some .local) (hx1 : scope.names.lookup x1 = some .local) (hne : x0 ≠ x1)
    (hs1 : ∀ C xv, foldedSetIterable iter1 (compEnvC scope cl C env) xv = pure xv)
    (hy : env.kindOf y = some .local) (hp : (env.scope.kind == .class || (env.scope.kind == .module && env.locals != env.globals)) = false)
    (h : wpAny (model prog w) A (eval iter0 env) (fun xv s₁ => wpAny (model prog w) A (pyIter xv) (LC2 prog w A h₀ L m env elt iter1 x0 x1 scope cl (FinA' h₀ L m y Q)) E s₁) E s)
    (hs : ∀ x, foldedSetIterable iter0 env x = pure x := by intro _; rfl) :
    wpAny (model prog w) A (exec (.Assign [.Name y py] (.ListComp elt [⟨.Name x0 p0, iter0, [], 0⟩, ⟨.Name x1 p1, iter1, [], 0⟩] scope pos) spos) env) Q E s := by
  subst hLe
  rw [exec_Assign_Name_used _ _ _ _ hsw]
  refine wpAny_bind (wpAny_standAt (wpAny_bind ?_))
  show wpAny _ A (do let _ ← comprehension (.ListComp elt [⟨.Name x0 p0, iter0, [], 0⟩, ⟨.Name x1 p1, iter1, [], 0⟩] scope pos) scope env _ (newList []) false (eval iter0 env) (some (assign (.Name y py) env))) _ _ s
  refine wpAny_bind (wpAny_mono (wpAny_comprehension_free (use := some (assign (.Name y py) env)) (Q := fun _ s' => Q .next s') rfl hs hclos hkind hnames
    (wpAny_mono h (fun xv s₁ h₁ => wpAny_mono h₁ (fun it s₂ h₂ => ?_) fun _ _ e => e) fun _ _ e => e)) (fun _ s' hq => wpAny_pure (wpAny_pure hq)) fun _ _ e => e)
  refine lc2_block (s := s₂) hAm hcell hkind hx0 hx1 hne hs1 h₂ ?_
  intro D C h' tk ys m' news F' N' pl hn fin
  show wpAny _ A (assign (.Name y py) env (.ref D)) _ _ _
  refine wpAny_assign_Name (wpAny_storeName_local hy F'.ns (fun h₂ hn₂ hs₂ => ?_) hp)
  have hL₀ : h₀.get? env.locals = none := Heap.get?_none_of_le F'.above
  have F₂ : Fr h₀ env.locals h₂ (fun z => if z = y then some (.ref D) else m z) := ⟨hn₂, fun b o e => hs₂.extBut b o (fun q => by rw [q, hL₀] at e; cases e) (F'.keep b o e), F'.above⟩
  refine ⟨m', hn.sameBut hs₂ pl.cl, fun h'' hs'' => fin h'' _ (F₂.change hs'' pl.cl pl.c0) (fun p hp => ?_)⟩
  have z : h₂.get? p.1 = some p.2 := hs₂.extBut _ _ (N' p hp).2.1 (N' p hp).1
  refine ⟨hs''.extBut _ _ ?_ z, (N' p hp).2⟩
  rcases List.mem_cons.mp hp with rfl | hp
  · exact Ne.symm pl.cd
  · exact (pl.off p hp).1
end

end Src31
section PW31
open PySem PySem.W PyProof.Rows PyProof.V PyProof.Rows.LCg
set_option maxRecDepth 100000
set_option maxHeartbeats 8000000
/-- a list of three ints on the ledger -/
def L3At (news : List (Addr × Obj)) (a : Addr) (x y z : Int) : Prop := ∃ tx ty tz n, (a, ({ cls := .type "list", data := .seq #[.int x tx, .int y ty, .int z tz] n } : Obj)) ∈ news
theorem L3At.mono {news news' : List (Addr × Obj)} {a : Addr} {x y z : Int} (h : L3At news a x y z) (hs : ∀ p ∈ news, p ∈ news') : L3At news' a x y z := let ⟨tx, ty, tz, n, h⟩ := h; ⟨tx, ty, tz, n, hs _ h⟩
inductive RowPow (news : List (Addr × Obj)) : List Value → (Int × Int × Int × Nat) → Prop
  | mk (a : Addr) (x y z : Int) (p : Nat) (tp : Tok) (h : L3At news a x y z) : RowPow news [.ref a, .int (p : Int) tp] (x, y, z, p)
def powS (x y z : Int) (p : Nat) : Int := (y - x) ^ p + (z - x) ^ p + (z - y) ^ p
abbrev powC : ToldN (Int × Int × Int × Nat) where
  Rel := RowPow
  Ok := fun d => (d.2.2.2 = 2 ∨ d.2.2.2 = 4) ∧ 0 ≤ d.1 ∧ d.1 < 1500 ∧ 0 ≤ d.2.1 ∧ d.2.1 < 1500 ∧ 0 ≤ d.2.2.1 ∧ d.2.2.1 < 1500
  size := fun _ => 1
  Tl := fun _ => True
  Out := fun _ r d => ∃ t, r = .int (powS d.1 d.2.1 d.2.2.1 d.2.2.2) t

def powR (x y z : Int) (i : Nat) : Int := match i with | 0 => x | 1 => y | _ => z
def powL (x y z : Int) (p : Nat) (i : Nat) : List Int := (List.range i).flatMap fun l => (List.range l).map fun e => (powR x y z l - powR x y z e) ^ p
def IV (ys : List Value) (l : List Int) : Prop := IntsAre ys l
theorem IV.snoc {ys : List Value} {l : List Int} (h : IV ys l) (n : Int) (t : Tok) : IV (ys ++ [.int n t]) (l ++ [n]) := by
  unfold IV at *
  induction h with
  | nil => exact .cons _ _ .nil
  | cons a b _ ih => exact .cons a b ih
theorem IV.len {ys : List Value} {l : List Int} (h : IV ys l) : ys.length = l.length := IntsAre.length h
theorem l3_item {prog : Program} {w : World} {A : Around} {E : Value → Shared → Prop} {s : Shared} {h₀ : Heap} {L l : Addr} {news : List (Addr × Obj)} {value slice : Expr} {x y z : Int} {tx ty tz : Tok} {n : Nat} {k : Int} {u : Tok} {Q : Value → Shared → Prop}
    (N : News h₀ L s.heap news) (hm : (l, ({ cls := .type "list", data := .seq #[.int x tx, .int y ty, .int z tz] n } : Obj)) ∈ news) (h0 : 0 ≤ k) (h3 : k < 3) (h : ∀ t, Q (.int (powR x y z k.toNat) t) s)
    (hs : subscripted slice false (.ref l) (.int k u) = operate [.ref l, .int k u] (getItem (.ref l) (.int k u)) := by with_unfolding_all rfl) (hg : ∀ r, letTemporaryGo value (.ref l) r = pure () := by intro _; with_unfolding_all rfl) :
    wpAny (model prog w) A (subscriptTail value slice (.ref l) (.int k u)) Q E s := by
  have hl : s.heap.IsList l #[.int x tx, .int y ty, .int z tz] := News.isList N hm
  obtain ⟨j, rfl⟩ : ∃ j : Nat, k = (j : Int) := ⟨k.toNat, by omega⟩
  have hj : j = 0 ∨ j = 1 ∨ j = 2 := by omega
  rcases hj with rfl | rfl | rfl
  · exact item_list hl h0 (by omega) rfl (h tx) hs hg
  · exact item_list hl h0 (by omega) rfl (h ty) hs hg
  · exact item_list hl h0 (by omega) rfl (h tz) hs hg
theorem powR_bnd {x y z : Int} {b : Int} (hx : 0 ≤ x) (hx1 : x < b) (hy : 0 ≤ y) (hy1 : y < b) (hz : 0 ≤ z) (hz1 : z < b) (i : Nat) : 0 ≤ powR x y z i ∧ powR x y z i < b := by
  unfold powR; split <;> omega
theorem pow_bnd {prog : Program} {w : World} {A : Around} {E : Value → Shared → Prop} {s : Shared} {a : Int} {n : Int} {t u : Tok} {Q : Value → Shared → Prop} (hn : 0 ≤ n) (hn2 : n ≤ 1000) (h1 : -100000 < a) (h2 : a < 100000) (h : Q (.int (a ^ n.toNat) s.toks) { s with toks := s.toks + 1 }) :
    wpAny (model prog w) A (binaryOp .Pow (.int a t) (.int n u)) Q E s := pow_int_small hn (by omega) (by omega) h
local macro_rules | `(tactic| walk_at "binaryOp Pow int int") => `(tactic| (k_here; k_dflt (refine' pow_bnd ?k1 ?k2 ?k3 ?k4 ?_; (case k1 => omega); (case k2 => omega); (case k3 => (simp only [Int.toNat_natCast] at *; omega)); (case k4 => (simp only [Int.toNat_natCast] at *; omega)))))
local macro_rules | `(tactic| walk_at "subscriptTail") => `(tactic| (k_here; (with_reducible show wpAny _ _ (subscriptTail _ _ (Value.ref _) (Value.int _ _)) _ _ _); k_dflt (refine' l3_item ?k1 ?k2 ?k3 ?k4 ?_; (case k1 => k_asm); (case k2 => k_mem); (case k3 => omega); (case k4 => omega)); intro t9))
theorem pow_tells (w : World) (mean : ExcName → Option Value) (mg mb : PySem.Str → Option Value) (d : _) : TL w mean mg mb 90 powC d := by
  (unfold TL TellsN; w_on; k_fill)
  intro dp un gd cn cs a ccd cl outer A₀ base h₀ L m news s vs Q E B F X N T hk hR hok hdp hu hret
  obtain ⟨a1, x, y, z, p, tp, ⟨tx, ty, tz, n, hm1⟩⟩ := hR
  obtain ⟨hpp, hx0, hx1, hy0, hy1, hz0, hz1⟩ := hok
  dsimp only at hpp hx0 hx1 hy0 hy1 hz0 hz1
  have hdp' : dp + 1 < recursionLimit := hdp
  clear hdp hu
  refine wpAny_call ?_
  walk_at "mine_enterC"
  rename_i g1 L1 h1 tk1 FG1 F1 B1 X1 T1 l1 oA oB dA dB N1
  have hcA : oA.data = .cell (some (.int (p : Int) tp)) := dA
  have hcB : oB.data = .cell (some (.ref a1)) := dB
  clear dA dB
  (repeat' (first | (k_unfold; (try dsimp only)) | ((fail_if_success (with_reducible show wpAny _ _ (PySem.exec (PySem.Stmt.For _ _ _ _ _) _) _ _ _)); first | walk1 | (dsimp only; walk1) | (leave1; try dsimp only))))
  (with_unfolding_all refine' lc2_expr F1 ?hAm ?hclos ?hcell ?hkind ?hnames ?hx0 ?hx1 ?hne ?hs1 ?_ ?hs)
  case hAm => rfl
  case hclos => with_unfolding_all rfl
  case hcell => decide
  case hkind => rfl
  case hnames => decide
  case hx0 => rfl
  case hx1 => rfl
  case hne => decide
  case hs1 => intro _ _; rfl
  case hs => intro _; rfl
  (repeat' (first | (k_unfold; (try dsimp only)) | ((fail_if_success (with_reducible show wpAny _ _ (PySem.exec (PySem.Stmt.For _ _ _ _ _) _) _ _ _)); first | walk1 | (dsimp only; walk1) | (leave1; try dsimp only))))
  rename IsRange _ _ _ _ _ _ _ _ => hR0
  rename Fr _ _ _ _ => F2
  rename News _ _ _ _ => N2
  (with_unfolding_all refine' src_range (n := 3) ?hh F2 N2 hR0 ?hb ?hn ?_)
  case hh => rfl
  case hb => rfl
  case hn => decide
  intro I h2 F2 N2 S2 hle2 hk2
  refine ⟨I, 3, _, _, fun i ys => IV ys (powL x y z p i), rfl, F2, N2, S2, .nil, ?_, ?_⟩
  · intro C D i v ys oI oC m₂ h tk E' hi hP hK hNs hm pl F3 N3
    obtain ⟨t, rfl⟩ := hP
    clear F2 N2 S2 hk2
    (repeat' (first | (k_unfold; (try dsimp only)) | ((fail_if_success (with_reducible show wpAny _ _ (PySem.exec (PySem.Stmt.For _ _ _ _ _) _) _ _ _)); first | walk1 | (dsimp only; walk1) | (leave1; try dsimp only))))
    rename IsRange _ _ _ _ _ _ _ _ => hR1
    rename Fr _ _ _ _ => F4
    rename News _ _ _ _ => N4
    have N4' : News g1 L1 _ ((I, oI) :: (L1 + 1 + 1, oA) :: (L1 + 1, oB) :: news) := N4.perm (fun p hp => by simp only [List.mem_cons] at hp ⊢; grind)
    (with_unfolding_all refine' src_range (n := i) ?hh F4 N4' hR1 ?hb ?hn ?_)
    case hh => rfl
    case hb => rfl
    case hn => omega
    intro I1 h5 F5 N5 S5 hle5 hk5
    have hCin := (N4 (C, oC) (by simp)).1
    have hDin := (N4 (D, lst ys) (by simp)).1
    refine ⟨I1, i, _, fun j ys' => j ≤ 3 ∧ IV ys' (powL x y z p i ++ (List.range j).map fun e => (powR x y z i - powR x y z e) ^ p), h5, _, rfl, rfl, F5, N4.grown hk5, S5, Nat.ne_of_lt (Nat.lt_of_lt_of_le (Heap.lt_size hCin) hle5), Nat.ne_of_lt (Nat.lt_of_lt_of_le (Heap.lt_size hDin) hle5), ?_, ?_, ?_, ?_⟩
    · exact ⟨by omega, by simpa using hK⟩
    · rintro j ys' ⟨hj3, hK1⟩
      have h1 := hK1.len
      have h2 : (powL x y z p i).length ≤ 9 := by
        have : i = 0 ∨ i = 1 ∨ i = 2 := by omega
        rcases this with rfl | rfl | rfl <;> simp [powL, List.range_succ]
      rw [h1, List.length_append, List.length_map, List.length_range]
      omega
    · rintro j v1 ys' oI1 oC' m₂' h' tk' E'' hj hP1 ⟨_, hK1⟩ hN' hm1 hm0 F6 N6
      clear F4 N4 F5 N5 S5 hk5 N4'
      obtain ⟨t1, rfl⟩ := hP1
      have b1 := powR_bnd hx0 hx1 hy0 hy1 hz0 hz1 i
      have b2 := powR_bnd hx0 hx1 hy0 hy1 hz0 hz1 j
      (repeat' (first | (k_unfold; (try dsimp only)) | ((fail_if_success (with_reducible show wpAny _ _ (PySem.exec (PySem.Stmt.For _ _ _ _ _) _) _ _ _)); first | walk1 | (dsimp only; walk1) | (leave1; try dsimp only))))
      refine EltEnd.intro F6 N6 (fun _ hp => hp) ?_
      refine ⟨by omega, ?_⟩
      rw [List.range_succ, List.map_append, ← List.append_assoc]
      exact hK1.snoc _ _
    · rintro ys' ⟨_, hK1⟩
      show IV ys' (powL x y z p (i + 1))
      unfold powL at hK1 ⊢
      rw [List.range_succ, List.flatMap_append]
      simpa using hK1
  · intro C D h tk ys pl hK F3 N3
    clear F2 N2 S2
    have hI3 : IntsAre ys (powL x y z p 3) := hK
    (repeat' (first | (k_unfold; (try dsimp only)) | ((fail_if_success (with_reducible show wpAny _ _ (PySem.exec (PySem.Stmt.For _ _ _ _ _) _) _ _ _)); first | walk1 | (dsimp only; walk1) | (leave1; try dsimp only))))
    rename Fr _ _ _ _ => F5
    rename News _ _ _ _ => N5
    obtain ⟨tl, Nt, ot, st⟩ := end_perm (news := news) N5 (fun p hp => by simp [hp]) (fun p hp => by
      simp only [List.mem_cons] at hp
      rcases hp with rfl | rfl | rfl | h
      · exact .inr fun q hq => pl.lt q (by simp [hq])
      · exact .inr fun q hq => Nat.lt_succ_of_lt (Nat.lt_succ_of_lt (l1 q hq))
      · exact .inr fun q hq => Nat.lt_succ_of_lt (l1 q hq)
      · exact .inl h)
    have e : (powL x y z p 3).sum = powS x y z p := by simp [powL, powS, List.range_succ, powR, Int.add_assoc]
    rw [e]
    exact hret _ tl _ _ F5 Nt ot trivial ⟨_, rfl⟩

end PW31
section IA31
open PySem PySem.W PyProof.Rows PyProof.V PyProof.Rows.LCg
set_option maxRecDepth 100000
set_option maxHeartbeats 8000000
theorem fills_list_iadd : fillsInplaceSlot (.type "list") "add" (Operator.Add == .Add) = pure false := by
  unfold fillsInplaceSlot
  show (typeLookup (.type "list") (dunderI "add") >>= fun fi => pure (fi.isSome && !isSeqSlot fi)) = pure false
  rw [F.slot_list_iadd.lookup]
  simp only [pure_bind]
  rw [show isSeqSlot (some (Value.builtin "list.__iadd__")) = true from by decide +kernel]
  rfl
theorem seq_list_iadd : seqSlot? (.type "list") (dunderI "add") = pure (some (.builtin "list.__iadd__")) := PySem.seqSlot_of F.slot_list_iadd.lookup (by decide +kernel)
section
variable {prog : Program} {w : World} {A : Around} {E : Value → Shared → Prop} {s : Shared} {h₀ : Heap} {L : Addr} {m : PySem.Str → Option Value} {news : List (Addr × Obj)} {u : Obj → List (Addr × Obj)} {Q : Value → Shared → Prop}
theorem iadd_list0 {l b : Addr} {items items2 : Array Value} {n n2 : Nat} (hl : s.heap.get? l = some { cls := .type "list", dict := none, data := .seq items n, slots := #[] }) (hb : s.heap.get? b = some { cls := .type "list", dict := none, data := .seq items2 n2, slots := #[] })
    (hsz : items.size ≤ 1000) (hsz2 : items2.size ≤ 1000) (h : Q (.ref l) { s with heap := s.heap.update l (Obj.mapSeq fun x => x ++ items2) }) : wpAny (model prog w) A (inplaceOp .Add (.ref l) (.ref b)) Q E s := by
  unfold inplaceOp
  refine wpAny_holding ?_
  have ha : s.TypeIs (.ref l) "list" := ⟨_, hl, rfl⟩
  have hb' : s.TypeIs (.ref b) "list" := ⟨_, hb, rfl⟩
  refine wpAny_bind (wpAny_typeOf ha (wpAny_bind (wpAny_of_eq fills_list_iadd ?_)))
  show wpAny _ A (if false = true then _ else _) Q E s
  rw [if_neg Bool.false_ne_true]
  refine wpAny_bind (wpAny_binaryOp1_none (nm := "add") ha hb' noFill_list_add ?_)
  refine wpAny_bind (wpAny_of_eq seq_list_iadd ?_)
  refine wpAny_bind (wpAny_rule ?_)
  have hsl := sizeLine_eq
  refine call_meets F.slot_list_iadd ha F.entry_list_iadd (F.args_list_iadd_2 _ _) (AutoSeq1.list___iadd___list_list_0 l items n b items2 n2 (by simp [Builtin.List.listTooLong, hsl]; omega) (by omega) (by omega)) ⟨hl, hb, ?_⟩
  exact h
theorem iadd_list {l b : Addr} {vs vs2 : List Value} {n n2 : Nat} (F : Fr h₀ L s.heap m) (N : News h₀ L s.heap news) (U : UpdF l ({ cls := .type "list", data := .seq vs.toArray n } : Obj) news u) (hb : (b, ({ cls := .type "list", data := .seq vs2.toArray n2 } : Obj)) ∈ news)
    (hsz : vs.length ≤ 1000) (hsz2 : vs2.length ≤ 1000) (h : ∀ h' n', Fr h₀ L h' m → News h₀ L h' (u { cls := .type "list", data := .seq (vs ++ vs2).toArray n' }) → Q (.ref l) { s with heap := h' }) :
    wpAny (model prog w) A (inplaceOp .Add (.ref l) (.ref b)) Q E s := by
  obtain ⟨pre, post, rfl, hu, ha, hp⟩ := U.split
  have hm : (l, ({ cls := .type "list", data := .seq vs.toArray n } : Obj)) ∈ pre ++ (l, { cls := .type "list", data := .seq vs.toArray n }) :: post := List.mem_append_right _ List.mem_cons_self
  have hl := N _ hm
  refine iadd_list0 hl.1 (N _ hb).1 (by simpa using hsz) (by simpa using hsz2) ?_
  obtain ⟨n', hn'⟩ := Obj.data_mapSeq (o := ({ cls := .type "list", data := .seq vs.toArray n } : Obj)) rfl (fun x => x ++ vs2.toArray)
  have hs : Heap.SameBut l s.heap (s.heap.update l (Obj.mapSeq fun x => x ++ vs2.toArray)) := Heap.SameBut.update ..
  have hg : (s.heap.update l (Obj.mapSeq fun x => x ++ vs2.toArray)).get? l = some (Obj.mapSeq (fun x => x ++ vs2.toArray) ({ cls := .type "list", data := .seq vs.toArray n } : Obj)) := Heap.get?_update_self _ hl.1 (Obj.isFreed_of_seq hn')
  have ho : Obj.mapSeq (fun x => x ++ vs2.toArray) ({ cls := .type "list", data := .seq vs.toArray n } : Obj) = { cls := .type "list", data := .seq (vs ++ vs2).toArray n' } := by
    have e : (vs ++ vs2).toArray = vs.toArray ++ vs2.toArray := by simp
    rw [e]
    unfold Obj.mapSeq at hn' ⊢
    simp only at hn' ⊢
    rw [← hn']
  refine h _ n' (F.change hs hl.2.1 hl.2.2) ?_
  rw [hu, ← ho]
  exact News.setAt N ha hp hs hg
end

end IA31
section GP31
open PySem PySem.W PyProof.Rows PyProof.V PyProof.Rows.LCg
set_option maxRecDepth 100000
set_option maxHeartbeats 8000000
structure Six where
  (x y z u v t : Int)
inductive TwoRows (news : List (Addr × Obj)) : List Value → Six → Prop
  | mk (a b : Addr) (d : Six) (h : L3At news a d.x d.y d.z) (h' : L3At news b d.u d.v d.t) : TwoRows news [.ref a, .ref b] d
/-- a list of ints on the ledger -/
def LIAt (news : List (Addr × Obj)) (a : Addr) (l : List Int) : Prop := ∃ vs n, (a, ({ cls := .type "list", data := .seq (List.toArray vs) n } : Obj)) ∈ news ∧ IV vs l
theorem LIAt.mono {news news' : List (Addr × Obj)} {a : Addr} {l : List Int} (h : LIAt news a l) (hs : ∀ p ∈ news, p ∈ news') : LIAt news' a l := let ⟨vs, n, h, k⟩ := h; ⟨vs, n, hs _ h, k⟩
def sgnL (u v t : Int) (i : Nat) : List Int := (List.range i).flatMap fun l => (List.range 3).map fun e => powR u v t l - powR u v t e
def difL (u v t : Int) (i : Nat) : List Int := (List.range i).flatMap fun l => (List.range l).map fun e => powR u v t l - powR u v t e
def gapI (d : Six) (l e : Nat) : List Int := (sgnL d.u d.v d.t 3).map fun g => powR d.x d.y d.z l - powR d.x d.y d.z e + g
def gapO (d : Six) (i : Nat) : List Int := (List.range i).flatMap fun l => (List.range l).flatMap fun e => gapI d l e
def gapsL (d : Six) : List Int := difL d.u d.v d.t 3 ++ difL d.u d.v d.t 3 ++ difL d.u d.v d.t 3 ++ gapO d 3
abbrev gpC : ToldN Six where
  Rel := TwoRows
  Ok := fun d => True
  size := fun _ => 1
  Tl := fun _ => True
  Out := fun news r d => ∃ a, r = .ref a ∧ LIAt news a (gapsL d)
local macro_rules | `(tactic| walk_at "subscriptTail") => `(tactic| (k_here; (with_reducible show wpAny _ _ (subscriptTail _ _ (Value.ref _) (Value.int _ _)) _ _ _); k_dflt (refine' l3_item ?k1 ?k2 ?k3 ?k4 ?_; (case k1 => k_asm); (case k2 => k_mem); (case k3 => omega); (case k4 => omega)); intro t9))
theorem l3_get {x y z : Int} {tx ty tz : Tok} {i : Nat} {v : Value} (h : (#[.int x tx, .int y ty, .int z tz] : Array Value)[i]? = some v) : i < 3 ∧ ∃ t, v = .int (powR x y z i) t := by
  have hi : i < 3 := by
    have := (Array.getElem?_eq_some_iff.mp h).1
    simpa using this
  refine ⟨hi, ?_⟩
  have : i = 0 ∨ i = 1 ∨ i = 2 := by omega
  rcases this with rfl | rfl | rfl
  · exact ⟨tx, by simpa [powR] using h.symm⟩
  · exact ⟨ty, by simpa [powR] using h.symm⟩
  · exact ⟨tz, by simpa [powR] using h.symm⟩
theorem sgnL_succ (u v t : Int) (i : Nat) : sgnL u v t (i + 1) = sgnL u v t i ++ (List.range 3).map fun e => powR u v t i - powR u v t e := by
  unfold sgnL; rw [show List.range (i + 1) = List.range i ++ [i] from List.range_succ, List.flatMap_append]; simp
theorem difL_succ (u v t : Int) (i : Nat) : difL u v t (i + 1) = difL u v t i ++ (List.range i).map fun e => powR u v t i - powR u v t e := by
  unfold difL; rw [show List.range (i + 1) = List.range i ++ [i] from List.range_succ, List.flatMap_append]; simp
theorem iv3 {ys : List Value} {a b c : Int} (h : IV ys [a, b, c]) : ∃ t1 t2 t3, ys = [.int a t1, .int b t2, .int c t3] := by
  unfold IV at h
  cases h with
  | cons _ t1 h => cases h with
    | cons _ t2 h => cases h with
      | cons _ t3 h => cases h with
        | nil => exact ⟨t1, t2, t3, rfl⟩
theorem difL3 (u v t : Int) : difL u v t 3 = [v - u, t - u, t - v] := by simp [difL, List.range_succ, powR]
theorem IV.append {ys zs : List Value} {l k : List Int} (h : IV ys l) (h' : IV zs k) : IV (ys ++ zs) (l ++ k) := by
  unfold IV at *
  induction h with
  | nil => exact h'
  | cons a b _ ih => exact .cons a b ih
theorem one_upd (a : PySem.Str) (x y : Option Value) (m : PySem.Str → Option Value) : (fun z => if z = a then x else if z = a then y else m z) = (fun z => if z = a then x else m z) := by
  funext z; split <;> rfl
theorem iv_get {ys : List Value} {l : List Int} (h : IV ys l) : ∀ {k : Nat} {v : Value}, ys[k]? = some v → ∃ g t, l[k]? = some g ∧ v = .int g t := by
  unfold IV at h
  induction h with
  | nil => intro k v hk; simp at hk
  | cons a t _ ih => intro k v hk; cases k with
    | zero => exact ⟨a, t, rfl, by simpa using hk.symm⟩
    | succ k => simpa using ih (by simpa using hk)
def base9 (d : Six) : List Int := difL d.u d.v d.t 3 ++ difL d.u d.v d.t 3 ++ difL d.u d.v d.t 3
theorem gapO_succ (d : Six) (i : Nat) : gapO d (i + 1) = gapO d i ++ (List.range i).flatMap fun e => gapI d i e := by
  unfold gapO; rw [show List.range (i + 1) = List.range i ++ [i] from List.range_succ, List.flatMap_append]; simp
theorem gapI_len (d : Six) (l e : Nat) : (gapI d l e).length = 9 := by simp [gapI, sgnL, List.range_succ]
theorem gapO_len (d : Six) (i : Nat) (hi : i ≤ 3) : (gapO d i).length ≤ 27 := by
  have : i = 0 ∨ i = 1 ∨ i = 2 ∨ i = 3 := by omega
  rcases this with rfl | rfl | rfl | rfl <;> simp [gapO, List.range_succ, gapI_len]
theorem gapJ_len (d : Six) (i j : Nat) : ((List.range j).flatMap fun e => gapI d i e).length = 9 * j := by
  induction j with
  | zero => rfl
  | succ j ih => rw [List.range_succ, List.flatMap_append, List.length_append, ih]; simp [gapI_len]; omega
theorem gp_tells (w : World) (mean : ExcName → Option Value) (mg mb : PySem.Str → Option Value) (d : _) : TL w mean mg mb 73 gpC d := by
  (unfold TL TellsN; w_on; k_fill)
  intro dp un gd cn cs a ccd cl outer A₀ base h₀ L m news s vs Q E B F X N T hk hR hok hdp hu hret
  obtain ⟨a1, a2, _, ⟨tx, ty, tz, n, hm1⟩, ⟨tu, tv, tt, n2, hm2⟩⟩ := hR
  have hdp' : dp + 1 < recursionLimit := hdp
  clear hdp hu hok
  refine wpAny_call ?_
  walk_at "mine_enterC"
  rename_i g1 L1 h1 tk1 FG1 F1 B1 X1 T1 l1 oE oL oS oF dE dL dS dF N1
  have hcF : oF.data = .cell (some (.ref a1)) := dF
  have hcS : oS.data = .cell (some (.ref a2)) := dS
  have hcL : oL.data = .cell none := dL
  have hcE : oE.data = .cell none := dE
  clear dE dL dS dF
  (repeat' (first | (k_unfold; (try dsimp only)) | ((fail_if_success (with_reducible show wpAny _ _ (PySem.exec (PySem.Stmt.For _ _ _ _ _) _) _ _ _)); first | walk1 | (dsimp only; walk1) | (leave1; try dsimp only))))
  (with_unfolding_all refine' lc2_assign F1 ?hLe ?hAm ?hsw ?hclos ?hcell ?hkind ?hnames ?hx0 ?hx1 ?hne ?hs1 ?hy ?hp ?_ ?hs)
  case hLe => rfl
  case hAm => rfl
  case hsw => with_unfolding_all rfl
  case hclos => with_unfolding_all rfl
  case hcell => decide
  case hkind => rfl
  case hnames => decide
  case hx0 => rfl
  case hx1 => rfl
  case hne => decide
  case hs1 => intro _ _; rfl
  case hy => rfl
  case hp => rfl
  case hs => intro _; rfl
  (repeat' (first | (k_unfold; (try dsimp only)) | ((fail_if_success (with_reducible show wpAny _ _ (PySem.exec (PySem.Stmt.For _ _ _ _ _) _) _ _ _)); first | walk1 | (dsimp only; walk1) | (leave1; try dsimp only))))
  (with_unfolding_all refine' src_list (l := a2) ?hh F1 N1 ?hm ?hl ?_)
  case hh => rfl
  case hm => exact List.mem_cons_of_mem _ (List.mem_cons_of_mem _ (List.mem_cons_of_mem _ (List.mem_cons_of_mem _ (hm2))))
  case hl => exact ⟨rfl, _, rfl⟩
  intro I h2 F2 N2 S2 hle2 hk2
  refine ⟨I, _, _, _, fun i ys => IV ys (sgnL d.u d.v d.t i), rfl, F2, N2, S2, .nil, ?_, ?_⟩
  · intro C D i v ys oI oC m₂ h tk E' hi hP hK hNs hm pl F3 N3
    obtain ⟨hi3, t, rfl⟩ := l3_get hP
    clear F2 N2 S2 hk2 F1 N1
    (repeat' (first | (k_unfold; (try dsimp only)) | ((fail_if_success (with_reducible show wpAny _ _ (PySem.exec (PySem.Stmt.For _ _ _ _ _) _) _ _ _)); first | walk1 | (dsimp only; walk1) | (leave1; try dsimp only))))
    have N4' : News g1 L1 _ ((I, oI) :: (L1 + 1 + 1 + 1 + 1, oE) :: (L1 + 1 + 1 + 1, oL) :: (L1 + 1 + 1, oS) :: (L1 + 1, oF) :: news) := N3.perm (fun p hp => by simp only [List.mem_cons] at hp ⊢; grind)
    (with_unfolding_all refine' src_list (l := a2) ?hh F3 N4' ?hm ?hl ?_)
    case hh => rfl
    case hm => exact List.mem_cons_of_mem _ (List.mem_cons_of_mem _ (List.mem_cons_of_mem _ (List.mem_cons_of_mem _ (List.mem_cons_of_mem _ (hm2)))))
    case hl => exact ⟨rfl, _, rfl⟩
    intro I1 h5 F5 N5 S5 hle5 hk5
    have hCin := (N3 (C, oC) (by simp)).1
    have hDin := (N3 (D, lst ys) (by simp)).1
    refine ⟨I1, _, _, fun j ys' => j ≤ 3 ∧ IV ys' (sgnL d.u d.v d.t i ++ (List.range j).map fun e => powR d.u d.v d.t i - powR d.u d.v d.t e), h5, _, rfl, rfl, F5, N3.grown hk5, S5, Nat.ne_of_lt (Nat.lt_of_lt_of_le (Heap.lt_size hCin) hle5), Nat.ne_of_lt (Nat.lt_of_lt_of_le (Heap.lt_size hDin) hle5), ?_, ?_, ?_, ?_⟩
    · exact ⟨by omega, by simpa using hK⟩
    · rintro j ys' ⟨hj3, hK1⟩
      have h1 := hK1.len
      have h2 : (sgnL d.u d.v d.t i).length ≤ 9 := by
        have : i = 0 ∨ i = 1 ∨ i = 2 := by omega
        rcases this with rfl | rfl | rfl <;> simp [sgnL, List.range_succ]
      rw [h1, List.length_append, List.length_map, List.length_range]
      omega
    · rintro j v1 ys' oI1 oC' m₂' h' tk' E'' hj hP1 ⟨_, hK1⟩ hN' hm1' hm0 F6 N6
      clear F3 N3 F5 N5 S5 hk5 N4'
      obtain ⟨hj3, t1, rfl⟩ := l3_get hP1
      (repeat' (first | (k_unfold; (try dsimp only)) | ((fail_if_success (with_reducible show wpAny _ _ (PySem.exec (PySem.Stmt.For _ _ _ _ _) _) _ _ _)); first | walk1 | (dsimp only; walk1) | (leave1; try dsimp only))))
      refine EltEnd.intro F6 N6 (fun _ hp => hp) ?_
      refine ⟨by omega, ?_⟩
      rw [List.range_succ, List.map_append, ← List.append_assoc]
      exact hK1.snoc _ _
    · rintro ys' ⟨_, hK1⟩
      show IV ys' (sgnL d.u d.v d.t (i + 1))
      rw [sgnL_succ]
      exact hK1
  · intro C D h tk ys pl hK F3 N3
    have hK : IV ys (sgnL d.u d.v d.t 3) := hK
    clear F2 N2 S2 F1 N1 hk2 hle2
    have plS := pl
    clear pl
    (repeat' (first | (k_unfold; (try dsimp only)) | ((fail_if_success (with_reducible show wpAny _ _ (PySem.exec (PySem.Stmt.For _ _ _ _ _) _) _ _ _)); first | walk1 | (dsimp only; walk1) | (leave1; try dsimp only))))
    (with_unfolding_all refine' lc2_expr F3 ?hAm ?hclos ?hcell ?hkind ?hnames ?hx0 ?hx1 ?hne ?hs1 ?_ ?hs)
    case hAm => rfl
    case hclos => with_unfolding_all rfl
    case hcell => decide
    case hkind => rfl
    case hnames => decide
    case hx0 => rfl
    case hx1 => rfl
    case hne => decide
    case hs1 => intro _ _; rfl
    case hs => intro _; rfl
    (repeat' (first | (k_unfold; (try dsimp only)) | ((fail_if_success (with_reducible show wpAny _ _ (PySem.exec (PySem.Stmt.For _ _ _ _ _) _) _ _ _)); first | walk1 | (dsimp only; walk1) | (leave1; try dsimp only))))
    rename IsRange _ _ _ _ _ _ _ _ => hR0
    rename Fr _ _ _ _ => F2
    rename News _ _ _ _ => N2
    (with_unfolding_all refine' src_range (n := 3) ?hh F2 N2 hR0 ?hb ?hn ?_)
    case hh => rfl
    case hb => rfl
    case hn => decide
    intro I h2 F2 N2 S2 hle2 hk2
    refine ⟨I, 3, _, _, fun i ys => IV ys (difL d.u d.v d.t i), rfl, F2, N2, S2, .nil, ?_, ?_⟩
    · intro C' D' i v ys' oI oC m₂ h tk E' hi hP hK2 hNs hm pl F3 N3
      obtain ⟨t, rfl⟩ := hP
      clear F2 N2 S2 hk2
      (repeat' (first | (k_unfold; (try dsimp only)) | ((fail_if_success (with_reducible show wpAny _ _ (PySem.exec (PySem.Stmt.For _ _ _ _ _) _) _ _ _)); first | walk1 | (dsimp only; walk1) | (leave1; try dsimp only))))
      rename IsRange _ _ _ _ _ _ _ _ => hR1
      rename Fr _ _ _ _ => F4
      rename News _ _ _ _ => N4
      have N4' : News g1 L1 _ ((I, oI) :: (D, lst ys) :: (L1 + 1 + 1 + 1 + 1, oE) :: (L1 + 1 + 1 + 1, oL) :: (L1 + 1 + 1, oS) :: (L1 + 1, oF) :: news) := N4.perm (fun p hp => by simp only [List.mem_cons] at hp ⊢; grind)
      (with_unfolding_all refine' src_range (n := i) ?hh F4 N4' hR1 ?hb ?hn ?_)
      case hh => rfl
      case hb => rfl
      case hn => omega
      intro I1 h5 F5 N5 S5 hle5 hk5
      have hCin := (N4 (C', oC) (by simp)).1
      have hDin := (N4 (D', lst ys') (by simp)).1
      refine ⟨I1, i, _, fun j ys' => j ≤ 3 ∧ IV ys' (difL d.u d.v d.t i ++ (List.range j).map fun e => powR d.u d.v d.t i - powR d.u d.v d.t e), h5, _, rfl, rfl, F5, N4.grown hk5, S5, Nat.ne_of_lt (Nat.lt_of_lt_of_le (Heap.lt_size hCin) hle5), Nat.ne_of_lt (Nat.lt_of_lt_of_le (Heap.lt_size hDin) hle5), ?_, ?_, ?_, ?_⟩
      · exact ⟨by omega, by simpa using hK2⟩
      · rintro j ys' ⟨hj3, hK1⟩
        have h1 := hK1.len
        have h2 : (difL d.u d.v d.t i).length ≤ 9 := by
          have : i = 0 ∨ i = 1 ∨ i = 2 := by omega
          rcases this with rfl | rfl | rfl <;> simp [difL, List.range_succ]
        rw [h1, List.length_append, List.length_map, List.length_range]
        omega
      · rintro j v1 ys' oI1 oC' m₂' h' tk' E'' hj hP1 ⟨_, hK1⟩ hN' hm1' hm0 F6 N6
        clear F4 N4 F5 N5 S5 hk5 N4'
        obtain ⟨t1, rfl⟩ := hP1
        (repeat' (first | (k_unfold; (try dsimp only)) | ((fail_if_success (with_reducible show wpAny _ _ (PySem.exec (PySem.Stmt.For _ _ _ _ _) _) _ _ _)); first | walk1 | (dsimp only; walk1) | (leave1; try dsimp only))))
        refine EltEnd.intro F6 N6 (fun _ hp => hp) ?_
        refine ⟨by omega, ?_⟩
        rw [List.range_succ, List.map_append, ← List.append_assoc]
        exact hK1.snoc _ _
      · rintro ys' ⟨_, hK1⟩
        show IV ys' (difL d.u d.v d.t (i + 1))
        rw [difL_succ]
        exact hK1
    · intro C2 D2 h tk ys2 pl2 hK2 F3 N3
      clear F2 N2 S2 hk2 hle2
      (repeat' (first | (k_unfold; (try dsimp only)) | ((fail_if_success (with_reducible show wpAny _ _ (PySem.exec (PySem.Stmt.For _ _ _ _ _) _) _ _ _)); first | walk1 | (dsimp only; walk1) | (leave1; try dsimp only))))
      rw [difL3] at hK2
      obtain ⟨t1, t2, t3, rfl⟩ := iv3 hK2
      (with_unfolding_all refine' mul_list F3 N3 ?hl ?hlo ?hhi ?hsz ?_)
      case hl => exact (N3 _ List.mem_cons_self).1
      case hlo => decide
      case hhi => decide
      case hsz => exact Nat.le_of_ble_eq_true rfl
      intro h3 F4 N4
      have hG0 : ∀ p ∈ news, p.1 < h.objs.size := fun p hp => Heap.lt_size (N3 p (by simp [hp])).1
      have hGD : D < h.objs.size := Heap.lt_size (N3 (D, lst ys) (by simp)).1
      have hDL : L1 + 1 + 1 + 1 + 1 < D := plS.lt _ List.mem_cons_self
      clear N3 F3
      have N5 : News g1 L1 h3 ((h.objs.size, ({ cls := .type "list", data := .seq [.int (d.v - d.u) t1, .int (d.t - d.u) t2, .int (d.t - d.v) t3, .int (d.v - d.u) t1, .int (d.t - d.u) t2, .int (d.t - d.v) t3, .int (d.v - d.u) t1, .int (d.t - d.u) t2, .int (d.t - d.v) t3].toArray 0 } : Obj)) :: (D, lst ys) :: (L1 + 1 + 1 + 1 + 1, oE) :: (L1 + 1 + 1 + 1, oL) :: (L1 + 1 + 1, oS) :: (L1 + 1, oF) :: news) := fun p hp => N4 p (by
        rcases List.mem_cons.mp hp with rfl | hp
        · exact List.mem_cons_self
        · exact List.mem_cons_of_mem _ (List.mem_cons_of_mem _ hp))
      clear N4
      generalize hGG : h.objs.size = G at *
      (repeat' (first | (k_unfold; (try dsimp only)) | ((fail_if_success (with_reducible show wpAny _ _ (PySem.exec (PySem.Stmt.For _ _ _ _ _) _) _ _ _)); first | walk1 | (dsimp only; walk1) | (leave1; try dsimp only))))
      rename Fr _ _ _ _ => lF
      rename News _ _ _ _ => lN
      with_unfolding_all refine' For_turns lF ?_
      (repeat' (first | (k_unfold; (try dsimp only)) | ((fail_if_success (with_reducible show wpAny _ _ (PySem.exec (PySem.Stmt.For _ _ _ _ _) _) _ _ _)); first | walk1 | (dsimp only; walk1) | (leave1; try dsimp only))))
      rename IsRange _ _ _ _ _ _ _ _ => hRo
      rename Fr _ _ _ _ => F6
      rename News _ _ _ _ => N6
      (with_unfolding_all refine' mi_range (n := 3) ?hh F6 N6 hRo ?hb ?hn (fun m0 i m' news' => m' = m0 ∧ ∃ oE' oL' vs n, news' = (G, ({ cls := .type "list", data := .seq (List.toArray vs) n } : Obj)) :: (D, lst ys) :: (L1 + 1 + 1 + 1 + 1, oE') :: (L1 + 1 + 1 + 1, oL') :: (L1 + 1 + 1, oS) :: (L1 + 1, oF) :: news ∧ IV vs (base9 d ++ gapO d i) ∧ (∃ c, oE'.data = .cell c) ∧ ∃ c, oL'.data = .cell c) ?_ ?_ ?_)
      case hh => rfl
      case hb => rfl
      case hn => decide
      · refine ⟨rfl, oE, oL, _, 0, rfl, ?_, ⟨_, hcE⟩, ⟨_, hcL⟩⟩
        have e : base9 d ++ gapO d 0 = [d.v - d.u, d.t - d.u, d.t - d.v, d.v - d.u, d.t - d.u, d.t - d.v, d.v - d.u, d.t - d.u, d.t - d.v] := by simp [base9, difL3, gapO]
        rw [e]
        exact .cons _ _ (.cons _ _ (.cons _ _ (.cons _ _ (.cons _ _ (.cons _ _ (.cons _ _ (.cons _ _ (.cons _ _ .nil))))))))
      · rintro I1 hI1 i hi m₁ news₁ h₁ tk₁ oI1 tv ⟨rfl, oE', oL', vsG, nG, rfl, hIV, ⟨cE, hcE'⟩, ⟨cL, hcL'⟩⟩ hne F7 N7 hit
        clear F6 N6 hRo
        have bI : ∀ p ∈ news, p.1 < I1 := fun p hp => hI1 p (by simp [hp])
        have bG : @LT.lt Nat _ G I1 := hI1 (G, _) List.mem_cons_self
        have bD : @LT.lt Nat _ (L1 + 1 + 1 + 1 + 1) D := hDL
        have bDG : @LT.lt Nat _ D G := hGD
        have bl : ∀ p ∈ news, @LT.lt Nat _ p.1 L1 := l1
        (repeat' (first | (k_unfold; (try dsimp only)) | ((fail_if_success (with_reducible show wpAny _ _ (PySem.exec (PySem.Stmt.For _ _ _ _ _) _) _ _ _)); first | walk1 | (dsimp only; walk1) | (leave1; try dsimp only))))
        (with_unfolding_all refine' storeX_C F7 N7 ?hc (UpdF.tail (p := (I1, oI1)) ?u1 (UpdF.tail (p := (G, _)) ?u2 (UpdF.tail (p := (D, _)) ?u3 (UpdF.tail (p := (_, oE')) ?u4 (UpdF.head ?u5))))) hcL' ?_)
        case hc => rfl
        case u1 => refine neN ?_; dsimp only; omega
        case u2 => refine neN ?_; dsimp only; omega
        case u3 => refine neN ?_; dsimp only; omega
        case u4 => refine neN ?_; dsimp only; omega
        case u5 =>
          intro p hp
          rcases List.mem_cons.mp hp with rfl | hp
          · refine neN ?_; dsimp only; omega
          · rcases List.mem_cons.mp hp with rfl | hp
            · refine neN ?_; dsimp only; omega
            · have := bl p hp; refine neN ?_; omega
        intro h8 oL2 F8 N8 hcL2
        clear F7 N7
        (repeat' (first | (k_unfold; (try dsimp only)) | ((fail_if_success (with_reducible show wpAny _ _ (PySem.exec (PySem.Stmt.For _ _ _ _ _) _) _ _ _)); first | walk1 | (dsimp only; walk1) | (leave1; try dsimp only))))
        rename Fr _ _ _ _ => lF
        rename News _ _ _ _ => lN
        with_unfolding_all refine' For_turns lF ?_
        (repeat' (first | (k_unfold; (try dsimp only)) | ((fail_if_success (with_reducible show wpAny _ _ (PySem.exec (PySem.Stmt.For _ _ _ _ _) _) _ _ _)); first | walk1 | (dsimp only; walk1) | (leave1; try dsimp only))))
        rename IsRange _ _ _ _ _ _ _ _ => hRi
        rename Fr _ _ _ _ => F9
        rename News _ _ _ _ => N9
        (with_unfolding_all refine' mi_range (n := i) ?hh F9 N9 hRi ?hb ?hn (fun m0 j m' news' => m' = m0 ∧ ∃ oE' vs n, news' = (I1, oI1) :: (G, ({ cls := .type "list", data := .seq (List.toArray vs) n } : Obj)) :: (D, lst ys) :: (L1 + 1 + 1 + 1 + 1, oE') :: (L1 + 1 + 1 + 1, oL2) :: (L1 + 1 + 1, oS) :: (L1 + 1, oF) :: news ∧ IV vs (base9 d ++ gapO d i ++ (List.range j).flatMap fun e => gapI d i e) ∧ ∃ c, oE'.data = .cell c) ?_ ?_ ?_)
        case hh => rfl
        case hb => rfl
        case hn => omega
        · exact ⟨rfl, oE', vsG, nG, rfl, by simpa using hIV, ⟨_, hcE'⟩⟩
        · rintro I2 hI2 j hj m₂ news₂ h₂ tk₂ oI2 tv2 ⟨rfl, oE2, vsH, nH, rfl, hIV2, ⟨cE2, hcE2⟩⟩ hne2 F10 N10 hit2
          clear F9 N9 hRi
          have bI2 : @LT.lt Nat _ I1 I2 := hI2 (I1, _) List.mem_cons_self
          (repeat' (first | (k_unfold; (try dsimp only)) | ((fail_if_success (with_reducible show wpAny _ _ (PySem.exec (PySem.Stmt.For _ _ _ _ _) _) _ _ _)); first | walk1 | (dsimp only; walk1) | (leave1; try dsimp only))))
          (with_unfolding_all refine' storeX_C F10 N10 ?hc (UpdF.tail (p := (I2, oI2)) ?u0 (UpdF.tail (p := (I1, oI1)) ?u1 (UpdF.tail (p := (G, _)) ?u2 (UpdF.tail (p := (D, _)) ?u3 (UpdF.head ?u5))))) hcE2 ?_)
          case hc => rfl
          case u0 => refine neN ?_; dsimp only; omega
          case u1 => refine neN ?_; dsimp only; omega
          case u2 => refine neN ?_; dsimp only; omega
          case u3 => refine neN ?_; dsimp only; omega
          case u5 =>
            intro p hp
            rcases List.mem_cons.mp hp with rfl | hp
            · refine neN ?_; dsimp only; omega
            · rcases List.mem_cons.mp hp with rfl | hp
              · refine neN ?_; dsimp only; omega
              · rcases List.mem_cons.mp hp with rfl | hp
                · refine neN ?_; dsimp only; omega
                · have := bl p hp; refine neN ?_; omega
          intro h11 oE3 F11 N11 hcE3
          clear F10 N10
          (repeat' (first | (k_unfold; (try dsimp only)) | ((fail_if_success (with_reducible show wpAny _ _ (PySem.exec (PySem.Stmt.For _ _ _ _ _) _) _ _ _)); (fail_if_success (with_reducible show wpAny _ _ (PySem.eval (PySem.Expr.ListComp _ _ _ _) _) _ _ _)); first | walk1 | (dsimp only; walk1) | (leave1; try dsimp only))))
          (with_unfolding_all refine' lc1_expr F11 ?hclos ?hcell ?hkind ?hnames ?hx0 ?_ ?hs)
          case hclos => with_unfolding_all rfl
          case hcell => decide
          case hkind => rfl
          case hnames => decide
          case hx0 => rfl
          case hs => intro _; rfl
          (repeat' (first | (k_unfold; (try dsimp only)) | ((fail_if_success (with_reducible show wpAny _ _ (PySem.exec (PySem.Stmt.For _ _ _ _ _) _) _ _ _)); first | walk1 | (dsimp only; walk1) | (leave1; try dsimp only))))
          (with_unfolding_all refine' src_list (l := D) ?hh F11 N11 ?hm ?hl ?_)
          case hh => rfl
          case hm => exact List.mem_cons_of_mem _ (List.mem_cons_of_mem _ (List.mem_cons_of_mem _ List.mem_cons_self))
          case hl => exact ⟨rfl, _, rfl⟩
          intro I3 h12 F12 N12 S12 hle12 hk12
          refine ⟨I3, _, _, _, fun k zs => k ≤ 9 ∧ IV zs (((sgnL d.u d.v d.t 3).take k).map fun g => powR d.x d.y d.z i - powR d.x d.y d.z j + g), rfl, F12, N12, S12, ⟨by omega, .nil⟩, ?_, ?_, ?_⟩
          · rintro k zs ⟨hk9, hIVz⟩
            have := hIVz.len
            rw [this, List.length_map, List.length_take]
            omega
          · rintro C3 D3 k v zs oI3 oC3 m₃ h tk E' hk hP ⟨hk9, hIVz⟩ hNs hm pl3 F13 N13
            have hP' : ys[k]? = some v := by simpa using hP
            obtain ⟨g, tg, hg, rfl⟩ := iv_get hK hP'
            have hk8 : k < 9 := by
              have := (List.getElem?_eq_some_iff.mp hg).1
              have e : (sgnL d.u d.v d.t 3).length = 9 := by simp [sgnL, List.range_succ]
              omega
            clear F12 N12 S12 hk12 F11 N11
            (repeat' (first | (k_unfold; (try dsimp only)) | ((fail_if_success (with_reducible show wpAny _ _ (PySem.exec (PySem.Stmt.For _ _ _ _ _) _) _ _ _)); first | walk1 | (dsimp only; walk1) | (leave1; try dsimp only))))
            refine EltEnd.intro F13 N13 (fun _ hp => hp) ⟨by omega, ?_⟩
            rw [take_snoc hg, List.map_append]
            exact hIVz.snoc _ _
          · rintro C3 D3 h tk zs pl3 ⟨_, hIVz⟩ F13 N13
            clear F12 N12 S12 hk12 F11 N11
            (repeat' (first | (k_unfold; (try dsimp only)) | ((fail_if_success (with_reducible show wpAny _ _ (PySem.exec (PySem.Stmt.For _ _ _ _ _) _) _ _ _)); first | walk1 | (dsimp only; walk1) | (leave1; try dsimp only))))
            have bGn : ∀ p ∈ news, @LT.lt Nat _ p.1 G := hG0
            have bG3 : @LT.lt Nat _ G D3 := pl3.lt (G, _) (List.mem_cons_of_mem _ (List.mem_cons_of_mem _ List.mem_cons_self))
            have hlenH := hIV2.len
            have hlenz := hIVz.len
            have hlz : zs.length ≤ 9 := by rw [hlenz, List.length_map, List.length_take]; omega
            have hlH : vsH.length ≤ 100 := by
              rw [hlenH, List.length_append, List.length_append, gapJ_len]
              have := gapO_len d i (by omega)
              have e : (base9 d).length = 9 := by simp [base9, difL3]
              omega
            (with_unfolding_all refine' iadd_list (vs := vsH) (vs2 := zs) F13 N13 (UpdF.tail (p := (D3, _)) ?u0 (UpdF.tail (p := (I2, oI2)) ?u1 (UpdF.tail (p := (I1, oI1)) ?u2 (UpdF.head ?u5)))) ?hb ?hs1 ?hs2 ?_)
            case u0 => refine neN ?_; dsimp only; omega
            case u1 => refine neN ?_; dsimp only; omega
            case u2 => refine neN ?_; dsimp only; omega
            case u5 =>
              intro p hp
              simp only [List.mem_cons] at hp
              rcases hp with rfl | rfl | rfl | rfl | rfl | hp
              · refine neN ?_; dsimp only; omega
              · refine neN ?_; dsimp only; omega
              · refine neN ?_; dsimp only; omega
              · refine neN ?_; dsimp only; omega
              · refine neN ?_; dsimp only; omega
              · have := bGn p hp; refine neN ?_; omega
            case hb => exact List.mem_cons_self
            case hs1 => omega
            case hs2 => omega
            intro h14 n14 F14 N14
            clear F13 N13
            (repeat' (first | (k_unfold; (try dsimp only)) | ((fail_if_success (with_reducible show wpAny _ _ (PySem.exec (PySem.Stmt.For _ _ _ _ _) _) _ _ _)); first | walk1 | (dsimp only; walk1) | (leave1; try dsimp only))))
            rename Fr _ _ _ _ => F15
            rename News _ _ _ _ => N15
            refine LoopStepU.intro (news₂ := (I1, oI1) :: (G, ({ cls := .type "list", data := .seq (vsH ++ zs).toArray n14 } : Obj)) :: (D, lst ys) :: (L1 + 1 + 1 + 1 + 1, oE3) :: (L1 + 1 + 1 + 1, oL2) :: (L1 + 1 + 1, oS) :: (L1 + 1, oF) :: news) F15 (N15.perm fun p hp => List.mem_cons_of_mem _ hp) ?_ ?_
            · intro p hp e
              have e := List.mem_singleton.mp e
              simp only [List.mem_cons] at hp
              have bIn : ∀ p ∈ news, @LT.lt Nat _ p.1 I2 := fun p hp => hI2 p (by simp [hp])
              have e' : @Eq Nat p.1 I2 := e
              rcases hp with rfl | rfl | rfl | rfl | rfl | rfl | rfl | hp
              · dsimp only at e'; omega
              · dsimp only at e'; omega
              · dsimp only at e'; omega
              · dsimp only at e'; omega
              · dsimp only at e'; omega
              · dsimp only at e'; omega
              · dsimp only at e'; omega
              · have := bIn p hp; omega
            · refine ⟨one_upd _ _ _ _, oE3, _, n14, rfl, ?_, ⟨_, hcE3⟩⟩
              rw [List.range_succ, List.flatMap_append, ← List.append_assoc]
              refine IV.append hIV2 ?_
              have e9 : ys.toArray.size = 9 := by
                have := hK.len
                have e : (sgnL d.u d.v d.t 3).length = 9 := by simp [sgnL, List.range_succ]
                simp; omega
              rw [e9, List.take_of_length_le (by simp [sgnL, List.range_succ])] at hIVz
              simpa [gapI] using hIVz
        · intro h12 tk12 m12 news12 F12 N12 hJ
          obtain ⟨rfl, oE2, vsH, nH, rfl, hIV2, hcE2⟩ := hJ
          clear F9 N9 hRi
          (repeat' (first | (k_unfold; (try dsimp only)) | ((fail_if_success (with_reducible show wpAny _ _ (PySem.exec (PySem.Stmt.For _ _ _ _ _) _) _ _ _)); first | walk1 | (dsimp only; walk1) | (leave1; try dsimp only))))
          rename Fr _ _ _ _ => F15
          rename News _ _ _ _ => N15
          refine LoopStepU.intro (news₂ := (G, ({ cls := .type "list", data := .seq vsH.toArray nH } : Obj)) :: (D, lst ys) :: (L1 + 1 + 1 + 1 + 1, oE2) :: (L1 + 1 + 1 + 1, oL2) :: (L1 + 1 + 1, oS) :: (L1 + 1, oF) :: news) F15 N15 ?_ ?_
          · intro p hp e
            have e := List.mem_singleton.mp e
            simp only [List.mem_cons] at hp
            have bIn : ∀ p ∈ news, @LT.lt Nat _ p.1 I1 := bI
            have e' : @Eq Nat p.1 I1 := e
            rcases hp with rfl | rfl | rfl | rfl | rfl | rfl | hp
            · dsimp only at e'; omega
            · dsimp only at e'; omega
            · dsimp only at e'; omega
            · dsimp only at e'; omega
            · dsimp only at e'; omega
            · dsimp only at e'; omega
            · have := bIn p hp; omega
          · refine ⟨rfl, oE2, oL2, _, nH, rfl, ?_, hcE2, ⟨_, hcL2⟩⟩
            rw [gapO_succ, ← List.append_assoc]
            exact hIV2
      · intro h12 tk12 m12 news12 F12 N12 hJ
        obtain ⟨rfl, oE2, oL2, vsH, nH, rfl, hIV2, hcE2, hcL2⟩ := hJ
        clear F6 N6 hRo
        (repeat' (first | (k_unfold; (try dsimp only)) | ((fail_if_success (with_reducible show wpAny _ _ (PySem.exec (PySem.Stmt.For _ _ _ _ _) _) _ _ _)); first | walk1 | (dsimp only; walk1) | (leave1; try dsimp only))))
        rename Fr _ _ _ _ => F15
        rename News _ _ _ _ => N15
        obtain ⟨tl, Nt, ot, st⟩ := end_perm (news := news) N15 (fun p hp => by simp [hp]) (fun p hp => by
          simp only [List.mem_cons] at hp
          have bl : ∀ p ∈ news, @LT.lt Nat _ p.1 L1 := l1
          have bD : @LT.lt Nat _ (L1 + 1 + 1 + 1 + 1) D := hDL
          have bDG : @LT.lt Nat _ D G := hGD
          rcases hp with rfl | rfl | rfl | rfl | rfl | rfl | hp
          · exact .inr fun q hq => by have := bl q hq; refine ltN ?_; dsimp only; omega
          · exact .inr fun q hq => by have := bl q hq; refine ltN ?_; dsimp only; omega
          · exact .inr fun q hq => by have := bl q hq; refine ltN ?_; dsimp only; omega
          · exact .inr fun q hq => by have := bl q hq; refine ltN ?_; dsimp only; omega
          · exact .inr fun q hq => by have := bl q hq; refine ltN ?_; dsimp only; omega
          · exact .inr fun q hq => by have := bl q hq; refine ltN ?_; dsimp only; omega
          · exact .inl hp)
        exact hret _ tl _ _ F15 Nt ot trivial ⟨_, rfl, vsH, nH, st _ List.mem_cons_self, hIV2⟩

end GP31
section WD31
open PySem PySem.W PyProof.Rows PyProof.V PyProof.Rows.LCg
set_option maxRecDepth 100000
set_option maxHeartbeats 8000000
def SV (ys : List Value) (l : List PySem.Str) : Prop := StrsAre ys l
inductive IntArg (news : List (Addr × Obj)) : List Value → Int → Prop
  | mk (n : Int) (t : Tok) : IntArg news [.int n t] n
def dig (n : Int) (p : Nat) : Nat := n.natAbs / 16 ^ p % 16
def ltr (k : Nat) : PySem.Str := ⟨#[65 + k]⟩
def wordL (n : Int) : List Nat := ([dig n 2, dig n 1, dig n 0].map (65 + ·)).dropWhile (· == 65)
def wordS (n : Int) : PySem.Str := ⟨(wordL n).toArray⟩
abbrev wdC : ToldN Int where
  Rel := IntArg
  Ok := fun d => -4096 < d ∧ d < 4096
  size := fun _ => 1
  Tl := fun _ => True
  Out := fun _ r d => ∃ t, r = .str (wordS d) t

theorem SV.snoc {ys : List Value} {l : List PySem.Str} (h : SV ys l) (x : PySem.Str) (t : Tok) : SV (ys ++ [.str x t]) (l ++ [x]) := by
  unfold SV at *
  induction h with
  | nil => exact .cons _ _ .nil
  | cons a b _ ih => exact .cons a b ih
theorem abs_dig (d : Int) (p : Nat) : ((if d < 0 then -d else d).fdiv (16 ^ p)).fmod 16 = ((dig d p : Nat) : Int) := by
  have e : (if d < 0 then -d else d) = ((d.natAbs : Nat) : Int) := by split <;> omega
  rw [e, Int.fdiv_eq_ediv_of_nonneg _ (by have : (0 : Int) < 16 ^ p := Int.pow_pos (by decide); omega), Int.fmod_eq_emod_of_nonneg _ (by decide)]
  unfold dig
  push_cast
  rfl
theorem item_ltr : ∀ k : Nat, k < 16 → Txt.item (PySem.Str.ofString "ABCDEFGHIJKLMNOP") (k : Int) = ltr k := by decide +kernel
theorem dig_lt (d : Int) (p : Nat) : dig d p < 16 := Nat.mod_lt _ (by decide)
theorem item_dig (d : Int) (p : Nat) : Txt.item (PySem.Str.ofString "ABCDEFGHIJKLMNOP") (((if d < 0 then -d else d).fdiv (16 ^ p)).fmod 16) = ltr (dig d p) := by
  rw [abs_dig]; exact item_ltr _ (dig_lt d p)
def digZ (d q : Int) : Nat := dig d q.toNat
theorem item_digZ (d q : Int) : Txt.item (PySem.Str.ofString "ABCDEFGHIJKLMNOP") (((if d < 0 then -d else d).fdiv (16 ^ q.toNat)).fmod 16) = ltr (digZ d q) := item_dig d q.toNat
theorem sv_word {ys : List Value} {l k : List PySem.Str} {d q : Int} {u : Tok} (h : SV ys l) (e : l ++ [ltr (digZ d q)] = k) : SV (ys ++ [.str (Txt.item (PySem.Str.ofString "ABCDEFGHIJKLMNOP") (((if d < 0 then -d else d).fdiv (16 ^ q.toNat)).fmod 16)) u]) k := by
  rw [item_digZ, ← e]; exact h.snoc _ _
theorem t3_get {x y z : Int} {tx ty tz : Tok} {i : Nat} {v : Value} (h : (#[.int x tx, .int y ty, .int z tz] : Array Value)[i]? = some v) : (i = 0 ∧ ∃ t, v = .int x t) ∨ (i = 1 ∧ ∃ t, v = .int y t) ∨ (i = 2 ∧ ∃ t, v = .int z t) := by
  obtain ⟨hi, t, e⟩ := l3_get h
  have : i = 0 ∨ i = 1 ∨ i = 2 := by omega
  rcases this with rfl | rfl | rfl
  · exact .inl ⟨rfl, t, e⟩
  · exact .inr (.inl ⟨rfl, t, e⟩)
  · exact .inr (.inr ⟨rfl, t, e⟩)
theorem join3 (a b c : Nat) : Txt.join (PySem.Str.ofString "") [ltr a, ltr b, ltr c] = ⟨#[65 + a, 65 + b, 65 + c]⟩ := by
  have e : (PySem.Str.ofString "").cps = #[] := by decide +kernel
  unfold Txt.join Builtin.Str.glued
  simp [ltr, e]
theorem strA : (PySem.Str.ofString "A").cps = #[65] := by decide +kernel
theorem drop_tw {α : Type} (p : α → Bool) (l : List α) : l.drop (l.takeWhile p).length = l.dropWhile p := by
  induction l with
  | nil => rfl
  | cons x r ih => by_cases h : p x = true <;> simp [List.takeWhile_cons, List.dropWhile_cons, h, ih]
theorem lstrip_is (x y : PySem.Str) : Txt.lstripChars x y = ⟨(x.cps.toList.dropWhile y.cps.contains).toArray⟩ := by
  unfold Txt.lstripChars Txt.stripBy
  split
  · rename_i h
    have h0 : (x.cps.toList.takeWhile y.cps.contains).length = 0 := by
      have := (Bool.and_eq_true_iff.mp h).1
      simpa [stripLo] using this
    have := drop_tw y.cps.contains x.cps.toList
    rw [h0, List.drop_zero] at this
    rw [← this]
  · show Builtin.Str.strSub x (stripLo y.cps.contains true x) (stripHi y.cps.contains false x _) = _
    unfold Builtin.Str.strSub stripHi stripLo
    simp only [if_true, Bool.false_eq_true, if_false]
    rw [← drop_tw]
    congr 1
    apply Array.ext'
    simp [Str.length, Array.toList_extract, List.extract_eq_take_drop]
    exact List.take_of_length_le (by rw [List.length_drop]; simp)
theorem lstrip3 (a b c : Nat) : Txt.lstripChars ⟨#[65 + a, 65 + b, 65 + c]⟩ (PySem.Str.ofString "A") = ⟨(([a, b, c].map (65 + ·)).dropWhile (· == 65)).toArray⟩ := by
  rw [lstrip_is, strA]
  have e : (#[65] : Array Nat).contains = fun n => n == 65 := by funext n; simp [Array.contains]
  rw [e]
  rfl
theorem word_end (d : Int) : Txt.lstripChars (Txt.join (PySem.Str.ofString "") [ltr (digZ d 2), ltr (digZ d 1), ltr (digZ d 0)]) (PySem.Str.ofString "A") = wordS d := by
  rw [join3, lstrip3]; rfl
theorem word_len3 (d : Int) : (Txt.join (PySem.Str.ofString "") [ltr (digZ d 2), ltr (digZ d 1), ltr (digZ d 0)]).length ≤ sizeLine := by
  rw [join3, sizeLine_eq]; exact Nat.le_of_ble_eq_true rfl
theorem wd_tells (w : World) (mean : ExcName → Option Value) (mg mb : PySem.Str → Option Value) (d : _) : TL w mean mg mb 78 wdC d := by
  (unfold TL TellsN; w_on; k_fill)
  intro dp un gd cn cs a ccd cl outer A₀ base h₀ L m news s vs Q E B F X N T hk hR hok hdp hu hret
  obtain ⟨_, tg⟩ := hR
  obtain ⟨hlo, hhi⟩ := hok
  have hdp' : dp + 1 < recursionLimit := hdp
  clear hdp hu
  refine wpAny_call ?_
  walk_at "mine_enterC"
  rename_i g1 L1 h1 tk1 FG1 F1 B1 X1 T1 l1 oG dG N1
  have hcG : oG.data = .cell (some (.int d tg)) := dG
  clear dG
  (repeat' (first | (k_unfold; (try dsimp only)) | ((fail_if_success (with_reducible show wpAny _ _ (PySem.exec (PySem.Stmt.Assign _ (PySem.Expr.ListComp _ _ _ _) _) _) _ _ _)); (fail_if_success (with_reducible show wpAny _ _ (PySem.eval (PySem.Expr.ListComp _ _ _ _) _) _ _ _)); first | walk1 | (dsimp only; walk1) | (leave1; try dsimp only))))
  (with_unfolding_all refine' lc1_assign F1 ?hLe ?hsw ?hclos ?hcell ?hkind ?hnames ?hx0 ?hy ?hp ?_ ?hs)
  case hLe => rfl
  case hsw => with_unfolding_all rfl
  case hclos => with_unfolding_all rfl
  case hcell => decide
  case hkind => rfl
  case hnames => decide
  case hx0 => rfl
  case hy => rfl
  case hp => rfl
  case hs => intro _; rfl
  (repeat' (first | (k_unfold; (try dsimp only)) | ((fail_if_success (with_reducible show wpAny _ _ (PySem.exec (PySem.Stmt.Assign _ (PySem.Expr.ListComp _ _ _ _) _) _) _ _ _)); (fail_if_success (with_reducible show wpAny _ _ (PySem.eval (PySem.Expr.ListComp _ _ _ _) _) _ _ _)); first | walk1 | (dsimp only; walk1) | (leave1; try dsimp only))))
  rename Fr _ _ _ _ => F2
  rename News _ _ _ _ => N2
  (with_unfolding_all refine' src_tuple ?hh F2 N2 ?hm ?hl ?_)
  case hh => rfl
  case hm => exact List.mem_cons_self
  case hl => exact ⟨rfl, _, rfl⟩
  intro I h3 F3 N3 S3 hle3 hk3
  refine ⟨I, _, _, _, fun i ys => i ≤ 3 ∧ SV ys (([digZ d 2, digZ d 1, digZ d 0].take i).map ltr), rfl, F3, N3, S3, ⟨by omega, .nil⟩, ?_, ?_, ?_⟩
  · rintro i ys ⟨hi3, hK⟩
    have h1 : ys.length = _ := StrsAre.length hK
    rw [h1, List.length_map, List.length_take]
    simp
    omega
  · rintro C D i v ys oI oC m₂ h tk E' hi hP ⟨hi3, hK⟩ hNs hm pl F4 N4
    clear F3 N3 S3 hk3 F2 N2
    rcases t3_get hP with ⟨rfl, t, rfl⟩ | ⟨rfl, t, rfl⟩ | ⟨rfl, t, rfl⟩
    · (repeat' (first | (k_unfold; (try dsimp only)) | ((fail_if_success (with_reducible show wpAny _ _ (PySem.exec (PySem.Stmt.Assign _ (PySem.Expr.ListComp _ _ _ _) _) _) _ _ _)); (fail_if_success (with_reducible show wpAny _ _ (PySem.eval (PySem.Expr.ListComp _ _ _ _) _) _ _ _)); first | walk1 | (dsimp only; walk1) | (leave1; try dsimp only))))
      refine EltEnd.intro F4 N4 (fun _ hp => hp) ⟨by omega, ?_⟩
      exact sv_word hK rfl
    · (repeat' (first | (k_unfold; (try dsimp only)) | ((fail_if_success (with_reducible show wpAny _ _ (PySem.exec (PySem.Stmt.Assign _ (PySem.Expr.ListComp _ _ _ _) _) _) _ _ _)); (fail_if_success (with_reducible show wpAny _ _ (PySem.eval (PySem.Expr.ListComp _ _ _ _) _) _ _ _)); first | walk1 | (dsimp only; walk1) | (leave1; try dsimp only))))
      refine EltEnd.intro F4 N4 (fun _ hp => hp) ⟨by omega, ?_⟩
      exact sv_word hK rfl
    · (repeat' (first | (k_unfold; (try dsimp only)) | ((fail_if_success (with_reducible show wpAny _ _ (PySem.exec (PySem.Stmt.Assign _ (PySem.Expr.ListComp _ _ _ _) _) _) _ _ _)); (fail_if_success (with_reducible show wpAny _ _ (PySem.eval (PySem.Expr.ListComp _ _ _ _) _) _ _ _)); first | walk1 | (dsimp only; walk1) | (leave1; try dsimp only))))
      refine EltEnd.intro F4 N4 (fun _ hp => hp) ⟨by omega, ?_⟩
      exact sv_word hK rfl
  · rintro C D h tk ys pl ⟨_, hK⟩ F4 N4
    clear F3 N3 S3 hk3
    have hS : StrsAre ys [ltr (digZ d 2), ltr (digZ d 1), ltr (digZ d 0)] := hK
    obtain ⟨t1, t2, t3, rfl⟩ : ∃ t1 t2 t3, ys = [.str (ltr (digZ d 2)) t1, .str (ltr (digZ d 1)) t2, .str (ltr (digZ d 0)) t3] := by
      cases hS with
      | cons _ t1 h => cases h with
        | cons _ t2 h => cases h with
          | cons _ t3 h => cases h with
            | nil => exact ⟨t1, t2, t3, rfl⟩
    (repeat' (first | (k_unfold; (try dsimp only)) | ((fail_if_success (with_reducible show wpAny _ _ (PySem.exec (PySem.Stmt.Assign _ (PySem.Expr.ListComp _ _ _ _) _) _) _ _ _)); (fail_if_success (with_reducible show wpAny _ _ (PySem.eval (PySem.Expr.ListComp _ _ _ _) _) _ _ _)); first | walk1 | (dsimp only; walk1) | (leave1; try dsimp only))))
    (with_unfolding_all refine' join_listW (ys := [ltr (digZ d 2), ltr (digZ d 1), ltr (digZ d 0)]) ?hl ?hi ?hsep ?hw ?_)
    case hl => exact News.isList N4 List.mem_cons_self
    case hi => exact hS
    case hsep => decide
    case hw => simp [ltr, Str.length]
    intro tj kj
    (repeat' (first | (k_unfold; (try dsimp only)) | ((fail_if_success (with_reducible show wpAny _ _ (PySem.exec (PySem.Stmt.Assign _ (PySem.Expr.ListComp _ _ _ _) _) _) _ _ _)); (fail_if_success (with_reducible show wpAny _ _ (PySem.eval (PySem.Expr.ListComp _ _ _ _) _) _ _ _)); first | walk1 | (dsimp only; walk1) | (leave1; try dsimp only))))
    (with_unfolding_all refine' SCL.lstripChars ?_ (word_len3 d))
    intro tq kq _
    rw [word_end]
    (repeat' (first | (k_unfold; (try dsimp only)) | ((fail_if_success (with_reducible show wpAny _ _ (PySem.exec (PySem.Stmt.Assign _ (PySem.Expr.ListComp _ _ _ _) _) _) _ _ _)); (fail_if_success (with_reducible show wpAny _ _ (PySem.eval (PySem.Expr.ListComp _ _ _ _) _) _ _ _)); first | walk1 | (dsimp only; walk1) | (leave1; try dsimp only))))
    rename Fr _ _ _ _ => F5
    rename News _ _ _ _ => N5
    rename _ ∧ AllLt _ news => l2
    obtain ⟨tl, Nt, ot, st⟩ := end_perm (news := news) N5 (fun p hp => by simp [hp]) (fun p hp => by
      simp only [List.mem_cons] at hp
      rcases hp with rfl | rfl | rfl | h
      · exact .inr fun q hq => pl.lt q (by simp [hq])
      · exact .inr fun q hq => ktn_ltOf l2.2 q hq
      · exact .inr fun q hq => Nat.lt_succ_of_lt (l1 q hq)
      · exact .inl h)
    exact hret _ tl _ _ F5 Nt ot trivial ⟨_, rfl⟩

end WD31
section IP31
open PySem PySem.W PyProof.Rows PyProof.V PyProof.Rows.LCg
set_option maxRecDepth 100000
set_option maxHeartbeats 8000000
def hexL : Nat → Nat → List Nat
  | 0, _ => []
  | k + 1, n => if n = 0 then [] else hexL k (n / 16) ++ [65 + n % 16]
def thr (a b c : PySem.Str) (x y z : Option Value) (m : PySem.Str → Option Value) : PySem.Str → Option Value := fun v => if v = a then x else if v = b then y else if v = c then z else m v
theorem thr_self (a b c : PySem.Str) (m : PySem.Str → Option Value) : m = thr a b c (m a) (m b) (m c) m := by
  funext v; unfold thr
  split
  · next h => rw [h]
  · split
    · next h => rw [h]
    · split
      · next h => rw [h]
      · rfl
theorem thr_upd (a b c : PySem.Str) (x y z x' y' z' : Option Value) (m : PySem.Str → Option Value) : (fun v => if v = a then x' else if v = b then y' else if v = c then z' else thr a b c x y z m v) = thr a b c x' y' z' m := by
  funext v; unfold thr
  split
  · rfl
  · split
    · rfl
    · split <;> rfl
def WEnd (h₀ : Heap) (L : Addr) (s : Shared) (k : Nat) (J : Nat → (PySem.Str → Option Value) → List (Addr × Obj) → Prop) (Q : Flow → Shared → Prop) (f : Flow) (s₃ : Shared) : Prop :=
  match f with
  | .ret v => Q (.ret v) s₃
  | .brk => Q .next s₃
  | _ => ∃ h' tk' m' news' k', k' < k ∧ s₃ = { s with heap := h', toks := tk' } ∧ Fr h₀ L h' m' ∧ News h₀ L h' news' ∧ J k' m' news'
theorem WEnd.next {h₀ : Heap} {L : Addr} {s : Shared} {k : Nat} {J : Nat → (PySem.Str → Option Value) → List (Addr × Obj) → Prop} {Q : Flow → Shared → Prop} {h' : Heap} {tk' : Nat} {m' : PySem.Str → Option Value} {news' : List (Addr × Obj)} (k' : Nat) (hk : k' < k) (F : Fr h₀ L h' m') (N : News h₀ L h' news') (j : J k' m' news') :
    WEnd h₀ L s k J Q .next { s with heap := h', toks := tk' } := ⟨h', tk', m', news', k', hk, rfl, F, N, j⟩
theorem mi_while {prog : Program} {w : World} {A : Around} {E : Value → Shared → Prop} {s : Shared} {env : Env} {h₀ : Heap} {L : Addr} {test : Expr} {body : List Stmt} {pos : Pos} {Q : Flow → Shared → Prop} {m₀ : PySem.Str → Option Value} {news : List (Addr × Obj)}
    (F : Fr h₀ L s.heap m₀) (N : News h₀ L s.heap news) (J : (PySem.Str → Option Value) → Nat → (PySem.Str → Option Value) → List (Addr × Obj) → Prop) (n0 : Nat) (h0 : J m₀ n0 m₀ news)
    (turn : ∀ k m₁ news₁ h tk (E' : Value → Shared → Prop), J m₀ k m₁ news₁ → Fr h₀ L h m₁ → News h₀ L h news₁ → wpAny (model prog w) A (isTrue test env (eval test env)) (fun b s₂ =>
      if b then wpAny (model prog w) A (execs body env) (WEnd h₀ L s k (J m₀) Q) E' s₂ else Q .next s₂) E' { s with heap := h, toks := tk }) :
    wpAny (model prog w) A (exec (.While test body [] pos) env) Q E s := by
  refine wpAny_While (codeAny_whileLoop (fun k s' => ∃ h tk m₁ news₁, s' = { s with heap := h, toks := tk } ∧ J m₀ k m₁ news₁ ∧ Fr h₀ L h m₁ ∧ News h₀ L h news₁) ?_ n0 ⟨s.heap, s.toks, m₀, news, rfl, h0, F, N⟩)
  rintro k s' ⟨h, tk, m₁, news₁, rfl, hJ, F', N'⟩
  refine wpAny_mono (turn k m₁ news₁ h tk _ hJ F' N') (fun b s₂ hb => ?_) fun _ _ e => e
  cases b with
  | false => exact wpAny_execs_nil hb
  | true =>
    refine wpAny_mono hb (fun f s₃ hf => ?_) fun _ _ e => e
    cases f with
    | ret v => exact hf
    | brk => exact hf
    | next => obtain ⟨h', tk', m', news', k', hk, rfl, F3, N3, j⟩ := hf; exact ⟨k', hk, h', tk', m', news', rfl, j, F3, N3⟩
    | cont => obtain ⟨h', tk', m', news', k', hk, rfl, F3, N3, j⟩ := hf; exact ⟨k', hk, h', tk', m', news', rfl, j, F3, N3⟩
abbrev apB : Array UInt8 := #[65, 66, 67, 68, 69, 70, 71, 72, 73, 74, 75, 76, 77, 78, 79, 80]
theorem ap_pick : ∀ k : Nat, k < 16 → KBy.picked apB (some (k : Int)) (some ((k : Int) + 1)) = #[UInt8.ofNat (65 + k)] := by decide +kernel
theorem ap_whole : ∀ k : Nat, k < 16 → KBy.whole apB (some (k : Int)) (some ((k : Int) + 1)) = false := by decide +kernel
theorem ap_slice {prog : Program} {w : World} {A : Around} {E : Value → Shared → Prop} {s : Shared} {h₀ : Heap} {L : Addr} {m : PySem.Str → Option Value} {news : List (Addr × Obj)} {value slice : Expr} {t t1 t2 : Tok} {n : Nat} {Q : Value → Shared → Prop} (F : Fr h₀ L s.heap m) (N : News h₀ L s.heap news)
    (h : ∀ h' t' k, Fr h₀ L h' m → News h₀ L h' news → Q (.bytes #[UInt8.ofNat (65 + n % 16)] t') { s with heap := h', toks := k })
    (hs : subscripted slice false (.bytes apB t) (.ref s.heap.objs.size) = operate [.ref s.heap.objs.size, .bytes apB t] (getItem (.bytes apB t) (.ref s.heap.objs.size)))
    (ht : ∀ r, letTemporaryGo value (.bytes apB t) r = pure ()) :
    wpAny (model prog w) A (subscriptTail value slice (.bytes apB t) (.ref s.heap.objs.size)) Q E { s with heap := s.heap.push { cls := .type "slice", data := .fields #[.int ((n : Int).fmod 16) t1, .int ((n : Int).fmod 16 + 1) t2, .none] } } := by
  have e : (n : Int).fmod 16 = ((n % 16 : Nat) : Int) := by rw [Int.fmod_eq_emod_of_nonneg _ (by decide)]; omega
  have hk : n % 16 < 16 := Nat.mod_lt _ (by decide)
  refine KBy.slice_N (lo := some ((n % 16 : Nat) : Int)) (hi := some (((n % 16 : Nat) : Int) + 1)) F N (by rw [e]; exact .int _ _) (by rw [e]; exact .int _ _) (ap_whole _ hk) (by rw [ap_pick _ hk]; exact Nat.le_of_ble_eq_true rfl) (fun h' t' k F' N' => ?_) hs ht
  rw [ap_pick _ hk]
  exact h h' t' k F' N'
abbrev ipC : ToldN Int where
  Rel := IntArg
  Ok := fun d => -4096 < d ∧ d < 4096
  size := fun _ => 1
  Tl := fun _ => True
  Out := fun _ r d => ∃ b t, r = .bytes b t ∧ b.toList.map UInt8.toNat = wordL d
theorem hex_word (d : Int) (h : d.natAbs < 4096) : hexL 3 d.natAbs = wordL d := by
  unfold wordL
  simp only [dig, Nat.pow_zero, Nat.pow_succ, Nat.one_mul, Nat.div_one]
  generalize d.natAbs = n at *
  simp only [hexL, List.map_cons, List.map_nil]
  by_cases h0 : n = 0
  · subst h0; rfl
  · rw [if_neg h0]
    by_cases h1 : n / 16 = 0
    · rw [if_pos h1]
      have e2 : n / 256 % 16 = 0 := by omega
      have e1 : n / 16 % 16 = 0 := by omega
      have e0 : ¬ n % 16 = 0 := by omega
      simp [List.dropWhile_cons, e2, e1, e0]
    · rw [if_neg h1]
      by_cases h2 : n / 16 / 16 = 0
      · rw [if_pos h2]
        have e2 : n / 256 % 16 = 0 := by omega
        have e1 : ¬ n / 16 % 16 = 0 := by omega
        simp [List.dropWhile_cons, e2, e1]
      · rw [if_neg h2]
        have e2 : ¬ n / 256 % 16 = 0 := by omega
        have e3 : n / 16 / 16 % 16 = n / 256 % 16 := by omega
        simp [List.dropWhile_cons, e2, e3]
theorem ip_tells (w : World) (mean : ExcName → Option Value) (mg mb : PySem.Str → Option Value) (d : _) : TL w mean mg mb 42 ipC d := by
  (unfold TL TellsN; w_on; k_fill)
  intro dp un gd cn cs a ccd cl outer A₀ base h₀ L m news s vs Q E B F X N T hk hR hok hdp hu hret
  obtain ⟨_, tg⟩ := hR
  obtain ⟨hlo, hhi⟩ := hok
  have hdp' : dp + 1 < recursionLimit := hdp
  clear hdp hu
  refine wpAny_call ?_
  k_dflt ktr_enter
  (repeat' (first | (k_unfold; (try dsimp only)) | ((fail_if_success (with_reducible show wpAny _ _ (PySem.exec (PySem.Stmt.While _ _ _ _) _) _ _ _)); first | walk1 | (dsimp only; walk1) | (leave1; try dsimp only))))
  rename_i g1 L1 h1 FG1 B1 X1 T1 h1a h1b u1 tk1 h2 F2 N2
  have eabs : (if d < 0 then -d else d) = ((d.natAbs : Nat) : Int) := by split <;> omega
  rw [eabs] at F2
  have hlt : d.natAbs < 4096 := by omega
  (with_unfolding_all refine' mi_while F2 N2 (fun m0 k m' news' => ∃ (i n : Nat) (val : Array UInt8) (t1 t2 : Tok) (y : Option Value), k = 3 - i ∧ i ≤ 3 ∧ m' = thr (Str.ofString "val") (Str.ofString "mod") (Str.ofString "num") (some (.bytes val t2)) y (some (.int (n : Int) t1)) m0 ∧ news' = news ∧ hexL (3 - i) n ++ val.toList.map UInt8.toNat = hexL 3 d.natAbs ∧ n < 16 ^ (3 - i) ∧ val.size ≤ i) 3 ?_ ?_)
  · exact ⟨0, d.natAbs, #[], _, _, _, rfl, by omega, thr_self _ _ _ _, rfl, by simp, by omega, by simp⟩
  · rintro k m₁ news₁ h tk E' ⟨i, n, val, t1, t2, y, rfl, hi, rfl, rfl, hx, hn, hv⟩ F3 N3
    clear F2 N2
    (repeat' (first | (k_unfold; (try dsimp only)) | ((fail_if_success (with_reducible show wpAny _ _ (PySem.exec (PySem.Stmt.While _ _ _ _) _) _ _ _)); first | walk1 | (dsimp only; walk1) | (leave1; try dsimp only))))
    · rename Fr _ _ _ _ => F4
      rename News _ _ _ _ => N4
      rename (n : Int) ≠ 0 => hn0
      (with_unfolding_all refine' ap_slice (n := n) F4 N4 ?_ ?hs ?ht)
      case hs => with_unfolding_all rfl
      case ht => intro _; with_unfolding_all rfl
      intro h5 t5 k5 F5 N5
      clear F4 N4
      (repeat' (first | (k_unfold; (try dsimp only)) | ((fail_if_success (with_reducible show wpAny _ _ (PySem.exec (PySem.Stmt.While _ _ _ _) _) _ _ _)); first | walk1 | (dsimp only; walk1) | (leave1; try dsimp only))))
      (with_unfolding_all refine' KBy.add_bytes ?hz ?_)
      case hz => simp; omega
      intro t6 k6
      (repeat' (first | (k_unfold; (try dsimp only)) | ((fail_if_success (with_reducible show wpAny _ _ (PySem.exec (PySem.Stmt.While _ _ _ _) _) _ _ _)); first | walk1 | (dsimp only; walk1) | (leave1; try dsimp only))))
      rename Fr _ _ _ _ => F6
      rename News _ _ _ _ => N6
      have hi3 : i < 3 := by
        refine Nat.lt_of_le_of_ne hi fun e => ?_
        subst e
        simp at hn
        exact hn0 (by omega)
      have efd : (n : Int).fdiv 16 = ((n / 16 : Nat) : Int) := by rw [Int.fdiv_eq_ediv_of_nonneg _ (by decide)]; omega
      rw [efd] at F6
      refine WEnd.next (3 - (i + 1)) (by omega) F6 (News.perm N6 fun p hp => List.mem_cons_of_mem _ hp) ⟨i + 1, n / 16, _, _, _, _, rfl, by omega, thr_upd _ _ _ _ _ _ _ _ _ _, rfl, ?_, ?_, ?_⟩
      · rw [← hx, show 3 - i = (3 - (i + 1)) + 1 by omega, hexL, if_neg (by omega)]
        have hb : (65 + n % 16) % 2 ^ 8 = 65 + n % 16 := by omega
        simp [hb]
      · rw [show 3 - i = (3 - (i + 1)) + 1 by omega, Nat.pow_succ] at hn
        omega
      · simp only [Array.size_append]; simp; omega
    · rename Fr h₀ _ _ _ => F6
      rename News h₀ _ _ _ => N6
      rename (n : Int) = 0 => hn0
      refine hret _ [] _ _ F6 (ktn_tl0 N6) ktn_ord0 trivial ⟨val, _, rfl, ?_⟩
      have e0 : n = 0 := by omega
      subst e0
      have ez : ∀ k, hexL k 0 = [] := fun k => by cases k <;> rfl
      rw [ez, List.nil_append] at hx
      rw [hx]
      exact hex_word d hlt

end IP31
section EN31
open PySem PySem.W PyProof.Rows PyProof.V PyProof.Rows.LCg
set_option maxRecDepth 100000
set_option maxHeartbeats 8000000
theorem ip_use {w : World} {mean : ExcName → Option Value} {mg mb : PySem.Str → Option Value} {x : Int} {t : Tok} {dp un : Nat} {gd : Option (List Code)} {cn : PySem.Str} {cs : Scope} {a : Addr} {ccd : Value} {cl : List (PySem.Str × Addr)} {outer : List Env} {A₀ : Around} {base h₀ : Heap} {L : Addr} {m : PySem.Str → Option Value} {news : List (Addr × Obj)} {s : Shared} {Q E : Value → Shared → Prop}
    (B : Below A₀ base outer h₀) (F : Fr h₀ L s.heap m) (X : (hd.heap_39 w.params).In h₀) (N : News h₀ L s.heap news) (T : Top hd.view_39 (looseW hd.view_39 []) mean mg mb h₀) (hk : cs.kind = .function)
    (hlo : -4096 < x) (hhi : x < 4096) (hdp : dp + 1 < recursionLimit) (hu : un + 8 < cLine)
    (ret : ∀ b t' tl h' tk', Fr h₀ L h' m → News h₀ L h' (news ++ tl) → (∀ q ∈ news, ∀ p ∈ tl, q.1 < p.1) → b.toList.map UInt8.toNat = wordL x → Q (.bytes b t') { s with heap := h', toks := tk' }) :
    wpAny (model PG w) (ktrTop dp un gd cn cs L a ccd cl outer) (call (.ref 42) [.int x t]) Q E s :=
  tellsN_use B F X N T hk (IntArg.mk x t) (ip_tells w mean mg mb x) ⟨hlo, hhi⟩ hdp hu fun r tl h' tk' F' N' ho _ hO => by
    obtain ⟨b, t', rfl, hz⟩ := hO
    exact ret b t' tl h' tk' F' N' ho hz
local macro_rules | `(tactic| walk_at "binaryOp Pow int int") => `(tactic| (k_here; k_dflt (refine' pow_bnd ?k1 ?k2 ?k3 ?k4 ?_; (case k1 => omega); (case k2 => omega); (case k3 => omega); (case k4 => omega))))
inductive TwoInts (news : List (Addr × Obj)) : List Value → (Int × Int) → Prop
  | mk (x y : Int) (t u : Tok) : TwoInts news [.int x t, .int y u] (x, y)
def entE (g : Int) : EntD := ⟨1, ((wordL g).length : Int), g ^ 2, g ^ 4, [(wordS g, 1)]⟩
abbrev enC (w : World) : ToldN (Int × Int) where
  Rel := TwoInts
  Ok := fun d => -4096 < d.1 - d.2 ∧ d.1 - d.2 < 4096
  size := fun _ => 2
  Tl := fun _ => True
  Out := fun news r d => ∃ a, r = .ref a ∧ EntAt w news a (entE (d.1 - d.2))
theorem wordL_len (g : Int) : (wordL g).length ≤ 3 := by
  unfold wordL
  rw [← drop_tw, List.length_drop]
  simp
theorem word_wt (g : Int) : ((((wordL g).map fun c => (⟨#[c]⟩ : PySem.Str))).map (·.length)).sum + ((wordL g).map fun c => (⟨#[c]⟩ : PySem.Str)).length ≤ 1048576 := by
  have h := wordL_len g
  have e : ∀ l : List Nat, ((l.map fun c => (⟨#[c]⟩ : PySem.Str)).map (·.length)).sum = l.length := by
    intro l
    induction l with
    | nil => rfl
    | cons a r ih => simp only [List.map_cons, List.sum_cons, ih, List.length_cons]; show 1 + _ = _; omega
  rw [e, List.length_map]
  omega
theorem glue_fold (l : List Nat) : ∀ acc : Array Nat, (l.map fun c => (⟨#[c]⟩ : PySem.Str)).foldl (fun acc p => acc ++ (PySem.Str.ofString "").cps ++ p.cps) acc = acc ++ l.toArray := by
  have e : (PySem.Str.ofString "").cps = #[] := by decide +kernel
  induction l with
  | nil => intro acc; simp
  | cons a r ih =>
    intro acc
    rw [List.map_cons, List.foldl_cons, ih, e]
    apply Array.ext'
    simp
theorem join_word (g : Int) : Txt.join (PySem.Str.ofString "") ((wordL g).map fun c => ⟨#[c]⟩) = wordS g := by
  unfold Txt.join Builtin.Str.glued wordS
  cases h : wordL g with
  | nil => rfl
  | cons a r =>
    simp only [List.map_cons, List.drop_succ_cons, List.drop_zero, List.headD_cons]
    rw [glue_fold]
    congr 1
    apply Array.ext'
    simp
theorem wordS_len (g : Int) : (wordS g).length = (wordL g).length := by simp [wordS, PySem.Str.length]
theorem en_tells (w : World) (mean : ExcName → Option Value) (mg mb : PySem.Str → Option Value) (d : _) : TL w mean mg mb 47 (enC w) d := by
  (unfold TL TellsN; w_on; k_fill)
  intro dp un gd cn cs a ccd cl outer A₀ base h₀ L m news s vs Q E B F X N T hk hR hok hdp hu hret
  obtain ⟨x, y, tx, ty⟩ := hR
  obtain ⟨hlo, hhi⟩ := hok
  dsimp only at hlo hhi
  have hdp' : dp + 2 < recursionLimit := hdp
  have hu' : un + 16 < cLine := hu
  clear hdp hu
  refine wpAny_call ?_
  k_dflt ktr_enter
  (repeat' (first | (k_unfold; (try dsimp only)) | ((fail_if_success (with_reducible show wpAny _ _ (PySem.eval (PySem.Expr.ListComp _ _ _ _) _) _ _ _)); (fail_if_success (with_reducible show wpAny _ _ (pyIter (Value.bytes _ _)) _ _ _)); first | walk1 | (dsimp only; walk1) | (leave1; try dsimp only))))
  rename Fr _ _ _ _ => F1
  (with_unfolding_all refine' lc1_expr F1 ?hclos ?hcell ?hkind ?hnames ?hx0 ?_ ?hs)
  case hclos => with_unfolding_all rfl
  case hcell => decide
  case hkind => rfl
  case hnames => decide
  case hx0 => rfl
  case hs => intro _; rfl
  repeat' (first | (k_unfold; (try dsimp only)) | ((fail_if_success (with_reducible show wpAny _ _ (call (Value.ref 42) _) _ _ _)); (fail_if_success (with_reducible show wpAny _ _ (PySem.eval (PySem.Expr.ListComp _ _ _ _) _) _ _ _)); (fail_if_success (with_reducible show wpAny _ _ (pyIter (Value.bytes _ _)) _ _ _)); first | walk1 | (dsimp only; walk1) | (leave1; try dsimp only)))
  (k_here; (with_reducible show wpAny _ _ (call (Value.ref 42) _) _ _ _); k_dflt ((show wpAny (model PG _) (ktrTop _ _ _ _ _ _ _ _ _ _) (call (Value.ref 42) [Value.int _ _]) _ _ _); refine' ip_use ?k1 ?k2 ?k3 ?k4 ?k5 ?kK ?kl ?kh ?kd ?ku ?_; (case k1 => k_asm); (case k2 => k_asm); (case k3 => k_asm); (case k4 => k_asm); (case k5 => k_asm); (case kK => first | exact rfl | assumption); (case kl => omega); (case kh => omega); (case kd => ktr_room); (case ku => ktr_units)); intro b9 t9 tl9 h9 tk9 F9 N9 hl9 ho9; (try k_sweep))
  (repeat' (first | (k_unfold; (try dsimp only)) | ((fail_if_success (with_reducible show wpAny _ _ (PySem.eval (PySem.Expr.ListComp _ _ _ _) _) _ _ _)); (fail_if_success (with_reducible show wpAny _ _ (pyIter (Value.bytes _ _)) _ _ _)); first | walk1 | (dsimp only; walk1) | (leave1; try dsimp only))))
  rename Fr _ _ _ _ => F2
  rename News _ _ _ _ => N2
  (with_unfolding_all refine' src_bytes ?hh F2 N2 ?_)
  case hh => rfl
  intro I h3 F3 N3 S3 hle3 hk3
  refine ⟨I, _, _, _, fun i ys => SV ys (((wordL (x - y)).take i).map fun c => ⟨#[c]⟩), rfl, F3, N3, S3, .nil, ?_, ?_, ?_⟩
  · intro i ys hK
    have h1 : ys.length = _ := StrsAre.length hK
    rw [h1, List.length_map, List.length_take]
    have := wordL_len (x - y)
    omega
  · rintro C D i v ys oI oC m₂ h tk E' hi ⟨c, u, hc, rfl⟩ hK hNs hm pl F4 N4
    clear F3 N3 S3 hk3 F2 N2
    have hw : (wordL (x - y))[i]? = some c.toNat := by rw [← ho9, List.getElem?_map]; simp [hc]
    have hc0 : (c.toNat : Int) < 256 := by have := c.toNat_lt; omega
    have hc1 : (0 : Int) ≤ (c.toNat : Int) := by omega
    (repeat' (first | (k_unfold; (try dsimp only)) | ((fail_if_success (with_reducible show wpAny _ _ (PySem.eval (PySem.Expr.ListComp _ _ _ _) _) _ _ _)); (fail_if_success (with_reducible show wpAny _ _ (pyIter (Value.bytes _ _)) _ _ _)); first | walk1 | (dsimp only; walk1) | (leave1; try dsimp only))))
    refine EltEnd.intro F4 N4 (fun _ hp => hp) ?_
    rw [take_snoc hw, List.map_append]
    exact hK.snoc _ _
  · intro C D h tk ys pl hK F4 N4
    clear F3 N3 S3 hk3 F2 N2
    have hb : b9.size = (wordL (x - y)).length := by rw [← ho9]; simp
    have hS : StrsAre ys ((wordL (x - y)).map fun c => ⟨#[c]⟩) := by
      have hK' := hK
      rw [hb, List.take_length] at hK'
      exact hK'
    (repeat' (first | (k_unfold; (try dsimp only)) | ((fail_if_success (with_reducible show wpAny _ _ (PySem.eval (PySem.Expr.ListComp _ _ _ _) _) _ _ _)); (fail_if_success (with_reducible show wpAny _ _ (pyIter (Value.bytes _ _)) _ _ _)); first | walk1 | (dsimp only; walk1) | (leave1; try dsimp only))))
    (with_unfolding_all refine' join_listW (ys := (wordL (x - y)).map fun c => ⟨#[c]⟩) ?hl ?hi ?hsep ?hw ?_)
    case hl => exact News.isList N4 List.mem_cons_self
    case hi => exact hS
    case hsep => decide
    case hw => exact word_wt (x - y)
    intro tj kj
    rw [join_word]
    clear hS
    (repeat' (first | (k_unfold; (try dsimp only)) | ((fail_if_success (with_reducible show wpAny _ _ (PySem.eval (PySem.Expr.ListComp _ _ _ _) _) _ _ _)); (fail_if_success (with_reducible show wpAny _ _ (pyIter (Value.bytes _ _)) _ _ _)); first | walk1 | (dsimp only; walk1) | (leave1; try dsimp only))))
    (with_unfolding_all refine' PyProof.Rows.len_str ?hfit ?_)
    case hfit => have := wordL_len (x - y); rw [wordS_len]; omega
    rw [wordS_len]
    (repeat' (first | (k_unfold; (try dsimp only)) | ((fail_if_success (with_reducible show wpAny _ _ (PySem.eval (PySem.Expr.ListComp _ _ _ _) _) _ _ _)); (fail_if_success (with_reducible show wpAny _ _ (pyIter (Value.bytes _ _)) _ _ _)); first | walk1 | (dsimp only; walk1) | (leave1; try dsimp only))))
    rename Fr _ _ _ _ => F5
    rename News _ _ _ _ => N5
    rename Top _ _ _ _ _ _ => T5
    (with_unfolding_all refine' kdn_eval (knd := PySem.strKind _ _) F5 N5 T5.nolimit ?hall ?hl ?h0 ?hlen ?_)
    case hall => rfl
    case hl => rfl
    case h0 => exact List.cons_ne_nil _ _
    case hlen => decide
    intro dd h6 o6 F6 N6 l6 lo6 hd6
    clear F5 N5
    (repeat' (first | (k_unfold; (try dsimp only)) | ((fail_if_success (with_reducible show wpAny _ _ (PySem.eval (PySem.Expr.ListComp _ _ _ _) _) _ _ _)); (fail_if_success (with_reducible show wpAny _ _ (pyIter (Value.bytes _ _)) _ _ _)); first | walk1 | (dsimp only; walk1) | (leave1; try dsimp only))))
    rename Fr _ _ _ _ => F7
    rename News _ _ _ _ => N7
    (with_unfolding_all refine' kdn_made_strF F7 N7 (UpdF.head ?u) hd6 ?hk ?hn ?hv ?_)
    case u => exact fun p hp => Nat.ne_of_lt (l6 p hp)
    case hk => rfl
    case hn => simp [strPairs]
    case hv => rfl
    intro h8 o8 F8 N8 hd8 hf8
    have hC8 : IsC PG w o8 [(wordS (x - y), 1)] := ⟨_, hd8, hf8⟩
    clear F7 N7
    (repeat' (first | (k_unfold; (try dsimp only)) | ((fail_if_success (with_reducible show wpAny _ _ (PySem.eval (PySem.Expr.ListComp _ _ _ _) _) _ _ _)); (fail_if_success (with_reducible show wpAny _ _ (pyIter (Value.bytes _ _)) _ _ _)); first | walk1 | (dsimp only; walk1) | (leave1; try dsimp only))))
    rename Fr h₀ L _ _ => F9
    rename News h₀ L _ _ => N9
    rename _ ∧ _ ∧ AllLt _ _ => l2
    obtain ⟨tl, Nt, ot, st⟩ := end_perm (news := news) N9 (fun p hp => by simp [hp]) (fun p hp => by
      simp only [List.mem_cons, List.mem_append] at hp
      rcases hp with rfl | rfl | rfl | h | h
      · exact .inr fun q hq => ktn_ltOf l2.2.2 q (by simp [hq])
      · exact .inr fun q hq => l6 q (by simp [hq])
      · exact .inr fun q hq => pl.lt q (by simp [hq])
      · exact .inl h
      · exact .inr fun q hq => hl9 q hq p h)
    exact hret _ tl _ _ F9 Nt ot trivial ⟨_, rfl, _, _, _, _, dd, _, st _ List.mem_cons_self, ⟨o8, st _ (List.mem_cons_of_mem _ List.mem_cons_self), hC8⟩, lo6⟩

end EN31
section ES31
open PySem PySem.W PyProof.Rows PyProof.V PyProof.Rows.LCg
set_option maxRecDepth 100000
set_option maxHeartbeats 8000000
theorem en_use {w : World} {mean : ExcName → Option Value} {mg mb : PySem.Str → Option Value} {x y : Int} {t u : Tok} {dp un : Nat} {gd : Option (List Code)} {cn : PySem.Str} {cs : Scope} {a : Addr} {ccd : Value} {cl : List (PySem.Str × Addr)} {outer : List Env} {A₀ : Around} {base h₀ : Heap} {L : Addr} {m : PySem.Str → Option Value} {news : List (Addr × Obj)} {s : Shared} {Q E : Value → Shared → Prop}
    (B : Below A₀ base outer h₀) (F : Fr h₀ L s.heap m) (X : (hd.heap_39 w.params).In h₀) (N : News h₀ L s.heap news) (T : Top hd.view_39 (looseW hd.view_39 []) mean mg mb h₀) (hk : cs.kind = .function)
    (hb : -4096 < x - y ∧ x - y < 4096) (hdp : dp + 2 < recursionLimit) (hu : un + 16 < cLine)
    (ret : ∀ r tl h' tk', Fr h₀ L h' m → News h₀ L h' (news ++ tl) → (∀ q ∈ news, ∀ p ∈ tl, q.1 < p.1) → EntAt w (news ++ tl) r (entE (x - y)) → Q (.ref r) { s with heap := h', toks := tk' }) :
    wpAny (model PG w) (ktrTop dp un gd cn cs L a ccd cl outer) (call (.ref 47) [.int x t, .int y u]) Q E s :=
  tellsN_use B F X N T hk (TwoInts.mk x y t u) (en_tells w mean mg mb (x, y)) hb hdp hu fun r tl h' tk' F' N' ho _ hO => by
    obtain ⟨z, rfl, hz⟩ := hO
    exact ret z tl h' tk' F' N' ho hz
section
variable {prog : Program} {w : World} {A : Around} {E : Value → Shared → Prop} {s : Shared} {h₀ : Heap} {L : Addr} {m : PySem.Str → Option Value} {news : List (Addr × Obj)} {u : Obj → List (Addr × Obj)} {Q : Value → Shared → Prop}
theorem my_append {l : Addr} {vs : List Value} {n : Nat} {v : Value} (F : Fr h₀ L s.heap m) (N : News h₀ L s.heap news) (U : UpdF l ({ cls := .type "list", data := .seq vs.toArray n } : Obj) news u) (hsz : vs.length ≤ 1000)
    (h : ∀ h', Fr h₀ L h' m → News h₀ L h' (u { cls := .type "list", data := .seq (vs ++ [v]).toArray (n + 1) }) → Q .none { s with heap := h' }) :
    wpAny (model prog w) A (call (.builtin "list.append") [.ref l, v]) Q E s := by
  obtain ⟨pre, post, rfl, hu, ha, hp⟩ := U.split
  have hm : (l, ({ cls := .type "list", data := .seq vs.toArray n } : Obj)) ∈ pre ++ (l, { cls := .type "list", data := .seq vs.toArray n }) :: post := List.mem_append_right _ List.mem_cons_self
  have hl := N _ hm
  refine append_at (hsz := by rw [List.size_toArray, sizeLine_eq]; omega) hl.1 fun h' hs hg => ?_
  refine h h' (F.change hs hl.2.1 hl.2.2) ?_
  rw [hu]
  refine News.setAt N ha hp hs ?_
  rw [hg]
  simp
end
/-- an int of a list on the ledger -/
theorem li_item {prog : Program} {w : World} {A : Around} {E : Value → Shared → Prop} {s : Shared} {h₀ : Heap} {L l : Addr} {news : List (Addr × Obj)} {value slice : Expr} {vs : List Value} {xs : List Int} {n : Nat} {k : Nat} {u : Tok} {Q : Value → Shared → Prop}
    (N : News h₀ L s.heap news) (hm : (l, ({ cls := .type "list", data := .seq vs.toArray n } : Obj)) ∈ news) (hv : IV vs xs) (h3 : k < xs.length) (hx : xs.length ≤ 1000) (h : ∀ t, Q (.int (xs.getD k 0) t) s)
    (hs : subscripted slice false (.ref l) (.int (k : Int) u) = operate [.ref l, .int (k : Int) u] (getItem (.ref l) (.int (k : Int) u)) := by with_unfolding_all rfl) (hg : ∀ r, letTemporaryGo value (.ref l) r = pure () := by intro _; with_unfolding_all rfl) :
    wpAny (model prog w) A (subscriptTail value slice (.ref l) (.int (k : Int) u)) Q E s := by
  have hl : s.heap.IsList l vs.toArray := News.isList N hm
  have hlen := hv.len
  obtain ⟨v, hvk⟩ : ∃ v, vs[k]? = some v := ⟨vs[k], List.getElem?_eq_getElem (by omega)⟩
  obtain ⟨g, t, hg', rfl⟩ := iv_get hv hvk
  refine item_listL hl (by omega) (by omega) (by simpa using hvk) ?_ hs hg
  have e : xs.getD k 0 = g := by rw [List.getD_eq_getElem?_getD, hg']; rfl
  rw [← e]
  exact h t
inductive PlacesB (news : List (Addr × Obj)) : List Value → (List Int × Bool) → Prop
  | mk (a : Addr) (l : List Int) (b : Bool) (h : LIAt news a l) : PlacesB news [.ref a, .bool b] (l, b)
def entG (l : List Int) (b : Bool) (late early : Nat) : EntD := if b then entE (l.getD early 0 - l.getD late 0) else entE (l.getD late 0 - l.getD early 0)
def entsI (l : List Int) (b : Bool) (i j : Nat) : List EntD := (List.range j).map fun e => entG l b i e
def entsL (l : List Int) (b : Bool) (i : Nat) : List EntD := (List.range i).flatMap fun la => entsI l b la la
abbrev esC (w : World) : ToldN (List Int × Bool) where
  Rel := PlacesB
  Ok := fun d => d.1.length = 9 ∧ ∀ x ∈ d.1, ∀ y ∈ d.1, -4096 < x - y ∧ x - y < 4096
  size := fun _ => 3
  Tl := fun _ => True
  Out := fun news r d => ∃ a, r = .ref a ∧ EntsAt w news a (entsL d.1 d.2 9)
set_option hygiene false
local macro_rules | `(tactic| walk_at "mine_len") => `(tactic| first | omega | (rw [hl9]; omega))
set_option hygiene true
local macro_rules | `(tactic| walk_at "subscriptTail") => `(tactic| (k_here; (with_reducible show wpAny _ _ (subscriptTail _ _ (Value.ref _) (Value.int _ _)) _ _ _); k_dflt (refine' li_item ?k1 ?k2 ?k3 ?k4 ?k5 ?_; (case k1 => k_asm); (case k2 => k_mem); (case k3 => assumption); (case k4 => walk_at "mine_len"); (case k5 => walk_at "mine_len")); intro t9))
def EsJ (w : World) (news : List (Addr × Obj)) (vs : List Value) (es : List EntD) : Prop := vs.length = es.length ∧ ∀ (k : Nat) (e : EntD), es[k]? = some e → ∃ r, vs[k]? = some (Value.ref r) ∧ EntAt w news r e
theorem EsJ.snoc {w : World} {news news' : List (Addr × Obj)} {vs : List Value} {es : List EntD} {r : Addr} {e : EntD} (h : EsJ w news vs es) (hs : ∀ p ∈ news, p ∈ news') (he : EntAt w news' r e) : EsJ w news' (vs ++ [.ref r]) (es ++ [e]) := by
  refine ⟨by simp [h.1], fun k e' hk => ?_⟩
  by_cases hlt : k < es.length
  · rw [List.getElem?_append_left hlt] at hk
    obtain ⟨r', hr', hent⟩ := h.2 k e' hk
    exact ⟨r', by rw [List.getElem?_append_left (by rw [h.1]; exact hlt)]; exact hr', hent.mono hs⟩
  · have hk2 : k = es.length := by
      have := (List.getElem?_eq_some_iff.mp hk).1
      rw [List.length_append, List.length_singleton] at this
      omega
    subst hk2
    have e1 : e' = e := by simpa using hk.symm
    subst e1
    exact ⟨r, by rw [← h.1]; simp, he⟩
theorem entsL_succ (l : List Int) (b : Bool) (i : Nat) : entsL l b (i + 1) = entsL l b i ++ entsI l b i i := by
  unfold entsL; rw [show List.range (i + 1) = List.range i ++ [i] from List.range_succ, List.flatMap_append]; simp
theorem entsI_succ (l : List Int) (b : Bool) (i j : Nat) : entsI l b i (j + 1) = entsI l b i j ++ [entG l b i j] := by
  unfold entsI; rw [List.range_succ, List.map_append]; rfl
theorem entsL_len (l : List Int) (b : Bool) : ∀ i, i ≤ 9 → (entsL l b i).length ≤ 36 := by
  intro i hi
  have e : (entsL l b i).length = (List.range i).sum := by
    unfold entsL
    rw [List.length_flatMap]
    congr 1
    exact (List.map_congr_left fun a _ => by unfold entsI; rw [List.length_map, List.length_range]).trans (List.map_id' _)
  have k : ∀ i : Fin 10, (List.range i.val).sum ≤ 36 := by decide
  rw [e]
  exact k ⟨i, Nat.lt_succ_of_le hi⟩
theorem two_late (a b : PySem.Str) (hab : a ≠ b) (x y u v : Option Value) (m : PySem.Str → Option Value) : (fun z => if z = a then x else if z = b then u else two a b v y m z) = two a b x u m := by
  funext z; unfold two
  by_cases h1 : z = a
  · rw [if_pos h1, if_pos h1]
  · rw [if_neg h1, if_neg h1]
    by_cases h2 : z = b
    · simp [h2, Ne.symm hab]
    · simp [h1, h2]
theorem one_self (a : PySem.Str) (m : PySem.Str → Option Value) : m = fun z => if z = a then m a else m z := by
  funext z; split
  · next h => rw [h]
  · rfl
theorem DcAt.stripL {w : World} {I : Addr} {oI : Obj} {news : List (Addr × Obj)} {a : Addr} {c : Ctr} (h : DcAt w ((I, oI) :: news) a c) (hi : oI.cls ≠ .type "dict") : DcAt w news a c := by
  obtain ⟨⟨o, hm, hC⟩, lo⟩ := h
  refine ⟨⟨o, mem_strip hm ?_, hC⟩, lo⟩
  obtain ⟨kvs, ⟨es, ep, hx, _⟩, _⟩ := hC
  rw [hx.1]
  exact hi
theorem EntAt.stripL {w : World} {I : Addr} {oI : Obj} {news : List (Addr × Obj)} {a : Addr} {e : EntD} (h : EntAt w ((I, oI) :: news) a e) (h1 : oI.cls ≠ .type "tuple") (h2 : oI.cls ≠ .type "dict") : EntAt w news a e :=
  let ⟨t1, t2, t3, t4, d, n, hm, hd⟩ := h; ⟨t1, t2, t3, t4, d, n, mem_strip hm h1, hd.stripL h2⟩
theorem es_tells (w : World) (mean : ExcName → Option Value) (mg mb : PySem.Str → Option Value) (d : _) : TL w mean mg mb 54 (esC w) d := by
  (unfold TL TellsN; w_on; k_fill)
  intro dp un gd cn cs a ccd cl outer A₀ base h₀ L m news s vs Q E B F X N T hk hR hok hdp hu hret
  obtain ⟨a1, xs, b, ⟨vs1, n1, hm1, hIV1⟩⟩ := hR
  obtain ⟨hl9, hbnd⟩ := hok
  dsimp only at hl9 hbnd
  have hdp' : dp + 3 < recursionLimit := hdp
  have hu' : un + 24 < cLine := hu
  clear hdp hu
  refine wpAny_call ?_
  k_dflt ktr_enter
  (repeat' (first | (k_unfold; (try dsimp only)) | ((fail_if_success (with_reducible show wpAny _ _ (PySem.exec (PySem.Stmt.For _ _ _ _ _) _) _ _ _)); first | walk1 | (dsimp only; walk1) | (leave1; try dsimp only))))
  rename_i g1 L1 h1 FG1 B1 X1 T1 Ea h1a l1 h1b F1 N1
  with_unfolding_all refine' For_turns F1 ?_
  (repeat' (first | (k_unfold; (try dsimp only)) | ((fail_if_success (with_reducible show wpAny _ _ (PySem.exec (PySem.Stmt.For _ _ _ _ _) _) _ _ _)); first | walk1 | (dsimp only; walk1) | (leave1; try dsimp only))))
  rename IsRange _ _ _ _ _ _ _ _ => hRo
  rename Fr _ _ _ _ => F2
  rename News _ _ _ _ => N2
  (with_unfolding_all refine' mi_range (n := 9) ?hh F2 N2 hRo ?hb ?hn (fun m0 i m' news' => ∃ x z vs n tl, m' = two (Str.ofString "early") (Str.ofString "late") x z m0 ∧ news' = (Ea, ({ cls := .type "list", data := .seq (List.toArray vs) n } : Obj)) :: (news ++ tl) ∧ EsJ w (news ++ tl) vs (entsL xs b i) ∧ (∀ q ∈ news, ∀ p ∈ tl, q.1 < p.1) ∧ ∀ p ∈ tl, @LT.lt Nat _ Ea p.1) ?_ ?_ ?_)
  case hh => rfl
  case hb => rfl
  case hn => decide
  · exact ⟨_, _, [], 0, [], two_self _ _ _, by rw [List.append_nil], ⟨rfl, fun k e h => by simp [entsL] at h⟩, (fun _ _ _ h => nomatch h), (fun _ h => nomatch h)⟩
  · rintro I1 hI1 i hi m₁ news₁ h₁ tk₁ oI1 tv ⟨x, z, vsE, nE, tl, rfl, rfl, hJ, hord, hEa⟩ hne F3 N3 hit
    clear F2 N2 hRo
    have bE : @LT.lt Nat _ Ea I1 := hI1 (Ea, _) List.mem_cons_self
    have bn : ∀ p ∈ news, @LT.lt Nat _ p.1 Ea := l1
    (repeat' (first | (k_unfold; (try dsimp only)) | ((fail_if_success (with_reducible show wpAny _ _ (PySem.exec (PySem.Stmt.For _ _ _ _ _) _) _ _ _)); first | walk1 | (dsimp only; walk1) | (leave1; try dsimp only))))
    rename Fr _ _ _ _ => lF
    rename News _ _ _ _ => lN
    with_unfolding_all refine' For_turns lF ?_
    (repeat' (first | (k_unfold; (try dsimp only)) | ((fail_if_success (with_reducible show wpAny _ _ (PySem.exec (PySem.Stmt.For _ _ _ _ _) _) _ _ _)); first | walk1 | (dsimp only; walk1) | (leave1; try dsimp only))))
    rename IsRange _ _ _ _ _ _ _ _ => hRi
    rename Fr _ _ _ _ => F4
    rename News _ _ _ _ => N4
    (with_unfolding_all refine' mi_range (n := i) ?hh F4 N4 hRi ?hb ?hn (fun m0 j m' news' => ∃ x vs n tl, m' = (fun z => if z = Str.ofString "early" then x else m0 z) ∧ news' = (I1, oI1) :: (Ea, ({ cls := .type "list", data := .seq (List.toArray vs) n } : Obj)) :: (news ++ tl) ∧ EsJ w (news ++ tl) vs (entsL xs b i ++ entsI xs b i j) ∧ (∀ q ∈ news, ∀ p ∈ tl, q.1 < p.1) ∧ (∀ p ∈ tl, @LT.lt Nat _ Ea p.1) ∧ ∀ p ∈ tl, p.1 ≠ I1) ?_ ?_ ?_)
    case hh => rfl
    case hb => rfl
    case hn => omega
    · exact ⟨_, vsE, nE, tl, one_self _ _, rfl, by simpa [entsI] using hJ, hord, hEa, fun p hp => hne p (by simp [hp])⟩
    · rintro I2 hI2 j hj m₂ news₂ h₂ tk₂ oI2 tv2 ⟨x2, vsH, nH, tl2, rfl, rfl, hJ2, hord2, hEa2, hI12⟩ hne2 F5 N5 hit2
      clear F4 N4 hRi
      have bI2 : @LT.lt Nat _ I1 I2 := hI2 (I1, _) List.mem_cons_self
      have hlenH : vsH.length ≤ 100 := by
        rw [hJ2.1, List.length_append]
        have := entsL_len xs b i (by omega)
        simp [entsI]
        omega
      cases b with
      | false =>
        repeat' (first | (k_unfold; (try dsimp only)) | ((fail_if_success (with_reducible show wpAny _ _ (call (Value.ref 47) _) _ _ _)); (fail_if_success (with_reducible show wpAny _ _ (PySem.exec (PySem.Stmt.For _ _ _ _ _) _) _ _ _)); first | walk1 | (dsimp only; walk1) | (leave1; try dsimp only)))
        (k_here; (with_reducible show wpAny _ _ (call (Value.ref 47) _) _ _ _); k_dflt ((show wpAny (model PG _) (ktrTop _ _ _ _ _ _ _ _ _ _) (call (Value.ref 47) [Value.int _ _, Value.int _ _]) _ _ _); refine' en_use ?k1 ?k2 ?k3 ?k4 ?k5 ?kK ?kb ?kd ?ku ?_; (case k1 => k_asm); (case k2 => k_asm); (case k3 => k_asm); (case k4 => k_asm); (case k5 => k_asm); (case kK => first | exact rfl | assumption); (case kb => (refine hbnd _ ?_ _ ?_ <;> (rw [List.getD_eq_getElem?_getD, List.getElem?_eq_getElem (by omega)]; exact List.getElem_mem _))); (case kd => ktr_room); (case ku => ktr_units)); intro r9 tl9 h9 tk9 F9 N9 hl9x ho9; (try simp only [List.cons_append, List.nil_append] at N9); (try simp only [List.cons_append, List.nil_append] at ho9); (try k_sweep))
        (repeat' (first | (k_unfold; (try dsimp only)) | ((fail_if_success (with_reducible show wpAny _ _ (PySem.exec (PySem.Stmt.For _ _ _ _ _) _) _ _ _)); first | walk1 | (dsimp only; walk1) | (leave1; try dsimp only))))
        (with_unfolding_all refine' my_append F9 N9 (UpdF.tail (p := (I2, oI2)) ?u0 (UpdF.tail (p := (I1, oI1)) ?u1 (UpdF.head ?u2))) ?hsz ?_)
        case u0 => refine neN ?_; dsimp only; omega
        case u1 => refine neN ?_; dsimp only; omega
        case u2 =>
          intro p hp
          simp only [List.mem_append] at hp
          rcases hp with (hp | hp) | hp
          · have := bn p hp; refine neN ?_; omega
          · have := hEa2 p hp; refine neN ?_; omega
          · have : @LT.lt Nat _ Ea p.1 := hl9x (Ea, _) (List.mem_cons_of_mem _ (List.mem_cons_of_mem _ List.mem_cons_self)) p hp
            refine neN ?_; omega
        case hsz => omega
        intro h10 F10 N10
        clear F9 N9
        (repeat' (first | (k_unfold; (try dsimp only)) | ((fail_if_success (with_reducible show wpAny _ _ (PySem.exec (PySem.Stmt.For _ _ _ _ _) _) _ _ _)); first | walk1 | (dsimp only; walk1) | (leave1; try dsimp only))))
        rename Fr _ _ _ _ => F11
        rename News _ _ _ _ => N11
        refine LoopStepU.intro F11 N11 ?_ ?_
        · intro p hp e
          have e := List.mem_singleton.mp e
          have e' : @Eq Nat p.1 I2 := e
          simp only [List.mem_cons, List.mem_append] at hp
          rcases hp with rfl | rfl | (hp | hp) | hp
          · dsimp only at e'; omega
          · dsimp only at e'; omega
          · have := bn p hp; omega
          · exact hne2 p (by simp [hp]) e
          · have : @LT.lt Nat _ I2 p.1 := hl9x (I2, _) List.mem_cons_self p hp
            omega
        · have ho : EntAt w (news ++ (tl2 ++ tl9)) r9 (entG xs false i j) := by rw [← List.append_assoc]; exact ((ho9.strip hit2).strip hit).stripL (by dsimp only; decide) (by dsimp only; decide)
          refine ⟨_, _, _, tl2 ++ tl9, one_upd _ _ _ _, by rw [List.append_assoc], ?_, ktn_ordA hord2 (fun q hq p hp => hl9x q (by simp only [List.mem_cons]; exact .inr (.inr (.inr hq))) p hp), ?_, ?_⟩
          · have h9 := hJ2.snoc (fun p hp => by simp only [List.mem_append] at hp ⊢; grind) ho
            rw [entsI_succ]
            rw [List.append_assoc] at h9
            exact h9
          · intro p hp
            rcases List.mem_append.mp hp with hp | hp
            · exact hEa2 p hp
            · exact hl9x (Ea, _) (List.mem_cons_of_mem _ (List.mem_cons_of_mem _ List.mem_cons_self)) p hp
          · intro p hp
            rcases List.mem_append.mp hp with hp | hp
            · exact hI12 p hp
            · exact Nat.ne_of_gt (hl9x (I1, _) (List.mem_cons_of_mem _ List.mem_cons_self) p hp)
      | true =>
        repeat' (first | (k_unfold; (try dsimp only)) | ((fail_if_success (with_reducible show wpAny _ _ (call (Value.ref 47) _) _ _ _)); (fail_if_success (with_reducible show wpAny _ _ (PySem.exec (PySem.Stmt.For _ _ _ _ _) _) _ _ _)); first | walk1 | (dsimp only; walk1) | (leave1; try dsimp only)))
        (k_here; (with_reducible show wpAny _ _ (call (Value.ref 47) _) _ _ _); k_dflt ((show wpAny (model PG _) (ktrTop _ _ _ _ _ _ _ _ _ _) (call (Value.ref 47) [Value.int _ _, Value.int _ _]) _ _ _); refine' en_use ?k1 ?k2 ?k3 ?k4 ?k5 ?kK ?kb ?kd ?ku ?_; (case k1 => k_asm); (case k2 => k_asm); (case k3 => k_asm); (case k4 => k_asm); (case k5 => k_asm); (case kK => first | exact rfl | assumption); (case kb => (refine hbnd _ ?_ _ ?_ <;> (rw [List.getD_eq_getElem?_getD, List.getElem?_eq_getElem (by omega)]; exact List.getElem_mem _))); (case kd => ktr_room); (case ku => ktr_units)); intro r9 tl9 h9 tk9 F9 N9 hl9x ho9; (try simp only [List.cons_append, List.nil_append] at N9); (try simp only [List.cons_append, List.nil_append] at ho9); (try k_sweep))
        (repeat' (first | (k_unfold; (try dsimp only)) | ((fail_if_success (with_reducible show wpAny _ _ (PySem.exec (PySem.Stmt.For _ _ _ _ _) _) _ _ _)); first | walk1 | (dsimp only; walk1) | (leave1; try dsimp only))))
        (with_unfolding_all refine' my_append F9 N9 (UpdF.tail (p := (I2, oI2)) ?u0 (UpdF.tail (p := (I1, oI1)) ?u1 (UpdF.head ?u2))) ?hsz ?_)
        case u0 => refine neN ?_; dsimp only; omega
        case u1 => refine neN ?_; dsimp only; omega
        case u2 =>
          intro p hp
          simp only [List.mem_append] at hp
          rcases hp with (hp | hp) | hp
          · have := bn p hp; refine neN ?_; omega
          · have := hEa2 p hp; refine neN ?_; omega
          · have : @LT.lt Nat _ Ea p.1 := hl9x (Ea, _) (List.mem_cons_of_mem _ (List.mem_cons_of_mem _ List.mem_cons_self)) p hp
            refine neN ?_; omega
        case hsz => omega
        intro h10 F10 N10
        clear F9 N9
        (repeat' (first | (k_unfold; (try dsimp only)) | ((fail_if_success (with_reducible show wpAny _ _ (PySem.exec (PySem.Stmt.For _ _ _ _ _) _) _ _ _)); first | walk1 | (dsimp only; walk1) | (leave1; try dsimp only))))
        rename Fr _ _ _ _ => F11
        rename News _ _ _ _ => N11
        refine LoopStepU.intro F11 N11 ?_ ?_
        · intro p hp e
          have e := List.mem_singleton.mp e
          have e' : @Eq Nat p.1 I2 := e
          simp only [List.mem_cons, List.mem_append] at hp
          rcases hp with rfl | rfl | (hp | hp) | hp
          · dsimp only at e'; omega
          · dsimp only at e'; omega
          · have := bn p hp; omega
          · exact hne2 p (by simp [hp]) e
          · have : @LT.lt Nat _ I2 p.1 := hl9x (I2, _) List.mem_cons_self p hp
            omega
        · have ho : EntAt w (news ++ (tl2 ++ tl9)) r9 (entG xs true i j) := by rw [← List.append_assoc]; exact ((ho9.strip hit2).strip hit).stripL (by dsimp only; decide) (by dsimp only; decide)
          refine ⟨_, _, _, tl2 ++ tl9, one_upd _ _ _ _, by rw [List.append_assoc], ?_, ktn_ordA hord2 (fun q hq p hp => hl9x q (by simp only [List.mem_cons]; exact .inr (.inr (.inr hq))) p hp), ?_, ?_⟩
          · have h9 := hJ2.snoc (fun p hp => by simp only [List.mem_append] at hp ⊢; grind) ho
            rw [entsI_succ]
            rw [List.append_assoc] at h9
            exact h9
          · intro p hp
            rcases List.mem_append.mp hp with hp | hp
            · exact hEa2 p hp
            · exact hl9x (Ea, _) (List.mem_cons_of_mem _ (List.mem_cons_of_mem _ List.mem_cons_self)) p hp
          · intro p hp
            rcases List.mem_append.mp hp with hp | hp
            · exact hI12 p hp
            · exact Nat.ne_of_gt (hl9x (I1, _) (List.mem_cons_of_mem _ List.mem_cons_self) p hp)
    · intro h12 tk12 m12 news12 F12 N12 hJx
      obtain ⟨x2, vsH, nH, tl2, rfl, rfl, hJ2, hord2, hEa2, hI12⟩ := hJx
      clear F4 N4 hRi
      (repeat' (first | (k_unfold; (try dsimp only)) | ((fail_if_success (with_reducible show wpAny _ _ (PySem.exec (PySem.Stmt.For _ _ _ _ _) _) _ _ _)); first | walk1 | (dsimp only; walk1) | (leave1; try dsimp only))))
      rename Fr _ _ _ _ => F15
      rename News _ _ _ _ => N15
      refine LoopStepU.intro F15 N15 ?_ ?_
      · intro p hp e
        have e := List.mem_singleton.mp e
        have e' : @Eq Nat p.1 I1 := e
        simp only [List.mem_cons, List.mem_append] at hp
        rcases hp with rfl | hp | hp
        · dsimp only at e'; omega
        · have := bn p hp; omega
        · exact hI12 p hp e
      · refine ⟨_, _, vsH, nH, tl2, two_late _ _ (by decide) _ _ _ _ _, rfl, ?_, hord2, hEa2⟩
        rw [entsL_succ]
        exact hJ2
  · intro h12 tk12 m12 news12 F12 N12 hJx
    obtain ⟨x2, z2, vsH, nH, tl2, rfl, rfl, hJ2, hord2, hEa2⟩ := hJx
    clear F2 N2 hRo
    (repeat' (first | (k_unfold; (try dsimp only)) | ((fail_if_success (with_reducible show wpAny _ _ (PySem.exec (PySem.Stmt.For _ _ _ _ _) _) _ _ _)); first | walk1 | (dsimp only; walk1) | (leave1; try dsimp only))))
    rename Fr _ _ _ _ => F15
    rename News _ _ _ _ => N15
    have bn : ∀ p ∈ news, @LT.lt Nat _ p.1 Ea := l1
    obtain ⟨tl, Nt, ot, st⟩ := end_perm (news := news) N15 (fun p hp => by simp [hp]) (fun p hp => by
      simp only [List.mem_cons, List.mem_append] at hp
      rcases hp with rfl | h | h
      · exact .inr fun q hq => l1 q hq
      · exact .inl h
      · exact .inr fun q hq => hord2 q hq p h)
    exact hret _ tl _ _ F15 Nt ot trivial ⟨_, rfl, vsH, nH, st _ List.mem_cons_self, hJ2.1, fun k e he => let ⟨r, hr, hent⟩ := hJ2.2 k e he; ⟨r, hr, hent.mono fun p hp => st p (List.mem_cons_of_mem _ hp)⟩⟩

end ES31
section TB31
open PySem PySem.W PyProof.Rows PyProof.V PyProof.Rows.LCg
set_option maxRecDepth 100000
set_option maxHeartbeats 8000000
theorem wd_use {w : World} {mean : ExcName → Option Value} {mg mb : PySem.Str → Option Value} {x : Int} {t : Tok} {dp un : Nat} {gd : Option (List Code)} {cn : PySem.Str} {cs : Scope} {a : Addr} {ccd : Value} {cl : List (PySem.Str × Addr)} {outer : List Env} {A₀ : Around} {base h₀ : Heap} {L : Addr} {m : PySem.Str → Option Value} {news : List (Addr × Obj)} {s : Shared} {Q E : Value → Shared → Prop}
    (B : Below A₀ base outer h₀) (F : Fr h₀ L s.heap m) (X : (hd.heap_39 w.params).In h₀) (N : News h₀ L s.heap news) (T : Top hd.view_39 (looseW hd.view_39 []) mean mg mb h₀) (hk : cs.kind = .function)
    (hb : -4096 < x ∧ x < 4096) (hdp : dp + 1 < recursionLimit) (hu : un + 8 < cLine)
    (ret : ∀ t' tl h' tk', Fr h₀ L h' m → News h₀ L h' (news ++ tl) → (∀ q ∈ news, ∀ p ∈ tl, q.1 < p.1) → Q (.str (wordS x) t') { s with heap := h', toks := tk' }) :
    wpAny (model PG w) (ktrTop dp un gd cn cs L a ccd cl outer) (call (.ref 78) [.int x t]) Q E s :=
  tellsN_use B F X N T hk (IntArg.mk x t) (wd_tells w mean mg mb x) hb hdp hu fun r tl h' tk' F' N' ho _ hO => by
    obtain ⟨t', rfl⟩ := hO
    exact ret t' tl h' tk' F' N' ho
inductive OneL (news : List (Addr × Obj)) : List Value → List Int → Prop
  | mk (a : Addr) (l : List Int) (h : LIAt news a l) : OneL news [.ref a] l
def putW (c : Ctr) (g : Int) : Ctr := kdpPut c (wordS g) (kdpLook c (wordS g) 0 + 1)
def tabC (l : List Int) : Ctr := l.foldl putW []
theorem tab_len (l : List Int) : ∀ acc : Ctr, (l.foldl putW acc).length ≤ acc.length + l.length := by
  induction l with
  | nil => intro acc; simp
  | cons g r ih => intro acc; rw [List.foldl_cons, List.length_cons]; have h1 := ih (putW acc g); have h2 : (putW acc g).length ≤ acc.length + 1 := kdpPut_len ..; omega
abbrev tbC (w : World) : ToldN (List Int) where
  Rel := OneL
  Ok := fun d => d.length ≤ 100 ∧ ∀ x ∈ d, -4096 < x ∧ x < 4096
  size := fun _ => 2
  Tl := fun _ => True
  Out := fun news r d => ∃ a, r = .ref a ∧ DcAt w news a (tabC d)
theorem tb_tells (w : World) (mean : ExcName → Option Value) (mg mb : PySem.Str → Option Value) (d : _) : TL w mean mg mb 85 (tbC w) d := by
  (unfold TL TellsN; w_on; k_fill)
  intro dp un gd cn cs a ccd cl outer A₀ base h₀ L m news s vs Q E B F X N T hk hR hok hdp hu hret
  obtain ⟨a1, _, ⟨vs1, n1, hm1, hIV1⟩⟩ := hR
  obtain ⟨hl9, hbnd⟩ := hok
  have hdp' : dp + 2 < recursionLimit := hdp
  have hu' : un + 16 < cLine := hu
  clear hdp hu
  refine wpAny_call ?_
  k_dflt ktr_enter
  (repeat' (first | (k_unfold; (try dsimp only)) | ((fail_if_success (with_reducible show wpAny _ _ (PySem.exec (PySem.Stmt.For _ _ _ _ _) _) _ _ _)); first | walk1 | (dsimp only; walk1) | (leave1; try dsimp only))))
  rename Fr _ _ _ _ => F1
  rename News _ _ _ _ => N1
  rename ∀ (p : Addr × Obj), p ∈ news → _ => l1
  rename Obj.IsDictOf (PySem.strKind _ _) _ _ => hs0
  rename (_ == sysModules) = false => lo0
  rename_i g1 L1 _ _ _ _ _ Ta _ o0 _ _ _ h1
  have N1' : News g1 L1 h1 ((Ta, o0) :: (news ++ [])) := by rw [List.append_nil]; exact N1
  with_unfolding_all refine' For_turns F1 ?_
  with_unfolding_all refine ld F1 (by rfl) ?_
  (with_unfolding_all refine' mi_list (l := a1) (its := vs1.toArray) ?hh F1 N1' (List.mem_cons_of_mem _ (List.mem_append_left _ hm1)) ⟨rfl, _, rfl⟩ (fun m0 i m' news' => ∃ z u o tl, m' = two (Str.ofString "word") (Str.ofString "gap") z u m0 ∧ news' = (Ta, o) :: (news ++ tl) ∧ IsC PG w o (tabC (d.take i)) ∧ (∀ q ∈ news, ∀ p ∈ tl, q.1 < p.1) ∧ ∀ p ∈ tl, @LT.lt Nat _ Ta p.1) ?_ ?_ ?_ ?_)
  case hh => rfl
  · rintro i m' news' ⟨z, u, o, tl, rfl, rfl, _⟩
    exact List.mem_cons_of_mem _ (List.mem_append_left _ hm1)
  · exact ⟨_, _, o0, [], two_self _ _ _, rfl, ⟨[], hs0, .nil⟩, (fun _ _ _ h => nomatch h), (fun _ h => nomatch h)⟩
  · rintro I hI i v hv m₁ news₁ h₁ tk₁ oI ⟨z, u, o, tl, rfl, rfl, ⟨kvs, hdk, hfk⟩, hord, hTa⟩ hne F2 N2 hit
    clear F1 N1 N1'
    have hiv : vs1[i]? = some v := by simpa using hv
    obtain ⟨g, tg, hg, rfl⟩ := iv_get hIV1 hiv
    have hb : -4096 < g ∧ g < 4096 := hbnd g (List.mem_of_getElem? hg)
    have bn : ∀ p ∈ news, @LT.lt Nat _ p.1 Ta := l1
    have hlen : (tabC (d.take i)).length ≤ 16777216 := by
      have := tab_len (d.take i) []; have := List.length_take_le' i d
      unfold tabC; simp at *; omega
    repeat' (first | (k_unfold; (try dsimp only)) | ((fail_if_success (with_reducible show wpAny _ _ (call (Value.ref 78) _) _ _ _)); (fail_if_success (with_reducible show wpAny _ _ (PySem.exec (PySem.Stmt.For _ _ _ _ _) _) _ _ _)); first | walk1 | (dsimp only; walk1) | (leave1; try dsimp only)))
    (k_here; (with_reducible show wpAny _ _ (call (Value.ref 78) _) _ _ _); k_dflt ((show wpAny (model PG _) (ktrTop _ _ _ _ _ _ _ _ _ _) (call (Value.ref 78) [Value.int _ _]) _ _ _); refine' wd_use ?k1 ?k2 ?k3 ?k4 ?k5 ?kK ?kb ?kd ?ku ?_; (case k1 => k_asm); (case k2 => k_asm); (case k3 => k_asm); (case k4 => k_asm); (case k5 => k_asm); (case kK => first | exact rfl | assumption); (case kb => assumption); (case kd => ktr_room); (case ku => ktr_units)); intro t9 tl9 h9 tk9 F9 N9 hl9'; (try simp only [List.cons_append, List.nil_append] at N9); (try k_sweep))
    (repeat' (first | (k_unfold; (try dsimp only)) | ((fail_if_success (with_reducible show wpAny _ _ (PySem.exec (PySem.Stmt.For _ _ _ _ _) _) _ _ _)); first | walk1 | (dsimp only; walk1) | (leave1; try dsimp only))))
    rename Flat _ _ => hv9
    rw [kdpD_getD] at hv9
    have hv8 := hv9 (default : Heap)
    cases hv8
    (repeat' (first | (k_unfold; (try dsimp only)) | ((fail_if_success (with_reducible show wpAny _ _ (PySem.exec (PySem.Stmt.For _ _ _ _ _) _) _ _ _)); first | walk1 | (dsimp only; walk1) | (leave1; try dsimp only))))
    rename Fr _ _ _ _ => F3
    rename News _ _ _ _ => N3
    have hIT : @LT.lt Nat _ Ta I := hI (Ta, o0) List.mem_cons_self
    have hTn : ∀ p ∈ tl9, @LT.lt Nat _ Ta p.1 := fun p hp => hl9' (Ta, o) (List.mem_cons_of_mem _ List.mem_cons_self) p hp
    with_unfolding_all refine' kdp_setItem F3 N3 (UpdF.tail ?u1 (UpdF.head ?u2)) hdk hfk hlen ?_
    case u1 => refine neN ?_; dsimp only; omega
    case u2 =>
      intro p hp
      refine neN ?_
      simp only [List.mem_append] at hp
      rcases hp with (hp | hp) | hp
      · have := bn p hp; omega
      · have : @LT.lt Nat _ Ta p.1 := hTa p hp; omega
      · have := hTn p hp; omega
    intro h10 o10 kvs10 F10 N10 hd10 hf10
    clear F3 N3
    (try dsimp only at N10)
    (repeat' (first | (k_unfold; (try dsimp only)) | ((fail_if_success (with_reducible show wpAny _ _ (PySem.exec (PySem.Stmt.For _ _ _ _ _) _) _ _ _)); first | walk1 | (dsimp only; walk1) | (leave1; try dsimp only))))
    rename Fr _ _ _ _ => F11
    rename News _ _ _ _ => N11
    refine LoopStepU.intro F11 N11 ?_ ?_
    · intro p hp e
      have e := List.mem_singleton.mp e
      have e' : @Eq Nat p.1 I := e
      simp only [List.mem_cons, List.mem_append] at hp
      rcases hp with rfl | (hp | hp) | hp
      · dsimp only at e'; omega
      · have := bn p hp; omega
      · exact hne p (List.mem_cons_of_mem _ (List.mem_append_right _ hp)) e
      · have : @LT.lt Nat _ I p.1 := hl9' (I, oI) List.mem_cons_self p hp
        omega
    · refine ⟨_, _, o10, tl ++ tl9, two_upd _ _ _ _ _ _ _, by rw [List.append_assoc], ⟨kvs10, hd10, ?_⟩, ?_, ?_⟩
      · rw [take_snoc hg, tabC, List.foldl_append]
        exact hf10
      · intro q hq p hp
        rcases List.mem_append.mp hp with hp | hp
        · exact hord q hq p hp
        · exact hl9' q (List.mem_cons_of_mem _ (List.mem_cons_of_mem _ (List.mem_append_left _ hq))) p hp
      · intro p hp
        rcases List.mem_append.mp hp with hp | hp
        · exact hTa p hp
        · exact hTn p hp
  · intro h12 tk12 m12 news12 F12 N12 hJx
    obtain ⟨z, u, o, tl, rfl, rfl, hC, hord, hTa⟩ := hJx
    clear F1 N1 N1'
    (repeat' (first | (k_unfold; (try dsimp only)) | ((fail_if_success (with_reducible show wpAny _ _ (PySem.exec (PySem.Stmt.For _ _ _ _ _) _) _ _ _)); first | walk1 | (dsimp only; walk1) | (leave1; try dsimp only))))
    rename Fr _ _ _ _ => F15
    rename News _ _ _ _ => N15
    obtain ⟨tl', Nt, ot, st⟩ := end_perm (news := news) N15 (fun p hp => by simp [hp]) (fun p hp => by
      simp only [List.mem_cons, List.mem_append] at hp
      rcases hp with rfl | h | h
      · exact .inr fun q hq => l1 q hq
      · exact .inl h
      · exact .inr fun q hq => hord q hq p h)
    rw [show vs1.toArray.size = d.length from by simpa using hIV1.len, List.take_length] at hC
    exact hret _ tl' _ _ F15 Nt ot trivial ⟨_, rfl, ⟨_, st _ List.mem_cons_self, hC⟩, lo0⟩

end TB31
section PL31
open PySem PySem.W PyProof.Rows PyProof.V PyProof.Rows.LCg
set_option maxRecDepth 100000
set_option maxHeartbeats 8000000
abbrev NdC (c : Ctr) : Prop := (c.map (·.1)).Nodup
theorem look_cons (p : PySem.Str × Int) (c : Ctr) (k : PySem.Str) (d : Int) : kdpLook (p :: c) k d = if p.1 = k then p.2 else kdpLook c k d := by
  unfold kdpLook; rw [List.find?_cons]; by_cases h : p.1 = k <;> simp [h]
theorem has_cons (p : PySem.Str × Int) (c : Ctr) (k : PySem.Str) : kdpHas (p :: c) k = (decide (p.1 = k) || kdpHas c k) := by
  unfold kdpHas; rw [List.any_cons]
theorem has_iff (c : Ctr) (k : PySem.Str) : kdpHas c k = true ↔ k ∈ c.map (·.1) := by
  unfold kdpHas; simp [List.any_eq_true]
theorem look_none {c : Ctr} {k : PySem.Str} (h : kdpHas c k = false) (d : Int) : kdpLook c k d = d := by
  induction c with
  | nil => rfl
  | cons p r ih => rw [has_cons, Bool.or_eq_false_iff] at h; rw [look_cons, if_neg (by simpa using h.1), ih h.2]
theorem has_append (c e : Ctr) (k : PySem.Str) : kdpHas (c ++ e) k = (kdpHas c k || kdpHas e k) := by
  unfold kdpHas; rw [List.any_append]
theorem look_append (c e : Ctr) (k : PySem.Str) (d : Int) : kdpLook (c ++ e) k d = if kdpHas c k then kdpLook c k d else kdpLook e k d := by
  induction c with
  | nil => rfl
  | cons p r ih =>
    rw [List.cons_append, look_cons, has_cons, look_cons, ih]
    by_cases h : p.1 = k <;> simp [h]
theorem put_new {c : Ctr} {k : PySem.Str} (h : kdpHas c k = false) (v : Int) : kdpPut c k v = c ++ [(k, v)] := by
  unfold kdpPut; unfold kdpHas at h; rw [h]; simp
theorem put_old {c : Ctr} {k : PySem.Str} (h : kdpHas c k = true) (v : Int) : kdpPut c k v = c.map fun p => if decide (p.1 = k) then (p.1, v) else p := by
  unfold kdpPut; unfold kdpHas at h; rw [h]; simp
theorem put_keys {c : Ctr} {k : PySem.Str} (h : kdpHas c k = true) (v : Int) : (kdpPut c k v).map (·.1) = c.map (·.1) := by
  rw [put_old h, List.map_map]
  refine List.map_congr_left fun p _ => ?_
  by_cases e : p.1 = k <;> simp [e]
theorem put_nd {c : Ctr} (hn : NdC c) (k : PySem.Str) (v : Int) : NdC (kdpPut c k v) := by
  unfold NdC
  cases h : kdpHas c k with
  | true => rw [put_keys h]; exact hn
  | false =>
    rw [put_new h, List.map_append]
    refine List.nodup_append.mpr ⟨hn, by simp, ?_⟩
    intro a ha b hb e
    have hb' : b = k := by simpa using hb
    rw [e, hb', ← has_iff, h] at ha
    exact nomatch ha
theorem look_map (k : PySem.Str) (v : Int) (j : PySem.Str) (d : Int) : ∀ c : Ctr, kdpLook (c.map fun p => if decide (p.1 = k) then (p.1, v) else p) j d = if j = k then (if kdpHas c k then v else d) else kdpLook c j d
  | [] => by by_cases h : j = k <;> simp [h, kdpLook, kdpHas]
  | p :: c => by
    rw [List.map_cons, look_cons, look_map k v j d c, has_cons, look_cons]
    by_cases h : p.1 = k
    · by_cases h2 : j = k
      · simp [h, h2]
      · simp [h, h2, Ne.symm h2]
    · by_cases h2 : j = k
      · simp [h, h2]
      · by_cases h3 : p.1 = j <;> simp [h, h2, h3]
theorem look_put (c : Ctr) (k : PySem.Str) (v : Int) (j : PySem.Str) (d : Int) : kdpLook (kdpPut c k v) j d = if j = k then v else kdpLook c j d := by
  cases h : kdpHas c k with
  | true => rw [put_old h, look_map, h]; simp
  | false =>
    rw [put_new h, look_append]
    by_cases e : j = k
    · subst e; rw [h]; simp [look_cons]
    · rw [if_neg e, look_cons, if_neg (show ¬ (k, v).1 = j from fun x => e x.symm)]
      cases h2 : kdpHas c j with
      | true => simp
      | false => rw [look_none h2]; simp [kdpLook]
/-- weighted sum over a counter -/
def wsum (f : PySem.Str → Int) (c : Ctr) : Int := (c.map fun p => f p.1 * p.2).sum
theorem wsum_map (f : PySem.Str → Int) (k : PySem.Str) (v : Int) : ∀ c : Ctr, NdC c → kdpHas c k = true → wsum f (c.map fun p => if decide (p.1 = k) then (p.1, v) else p) = wsum f c + f k * (v - kdpLook c k 0)
  | [], _, h => nomatch h
  | p :: c, hn, h => by
    have hn' := List.nodup_cons.mp (show (p.1 :: c.map (·.1)).Nodup from hn)
    by_cases e : p.1 = k
    · have hk : kdpHas c k = false := by
        cases h2 : kdpHas c k with
        | false => rfl
        | true => exact absurd ((has_iff _ _).mp h2) (e ▸ hn'.1)
      have same : (c.map fun p => if decide (p.1 = k) then (p.1, v) else p) = c := by
        have : ∀ q ∈ c, (if decide (q.1 = k) then (q.1, v) else q) = q := fun q hq => by
          rw [if_neg]; intro h3
          have : kdpHas c k = true := (has_iff _ _).mpr (by simp at h3; exact List.mem_map.mpr ⟨q, hq, h3⟩)
          rw [hk] at this; exact nomatch this
        exact (List.map_congr_left this).trans (List.map_id' _)
      rw [List.map_cons, same, look_cons, if_pos e]
      simp only [wsum, List.map_cons, List.sum_cons, e, decide_true, if_true]
      rw [Int.mul_sub]; omega
    · have hk : kdpHas c k = true := by rw [has_cons] at h; simpa [e] using h
      have ih := wsum_map f k v c hn'.2 hk
      rw [List.map_cons, look_cons, if_neg e]
      simp only [wsum, List.map_cons, List.sum_cons, e, decide_false, Bool.false_eq_true, if_false] at ih ⊢
      rw [ih]; omega
theorem wsum_append (f : PySem.Str → Int) (c d : Ctr) : wsum f (c ++ d) = wsum f c + wsum f d := by
  unfold wsum; rw [List.map_append, List.sum_append]
theorem wsum_put (f : PySem.Str → Int) {c : Ctr} (hn : NdC c) (k : PySem.Str) (v : Int) : wsum f (kdpPut c k v) = wsum f c + f k * (v - kdpLook c k 0) := by
  cases h : kdpHas c k with
  | true => rw [put_old h]; exact wsum_map f k v c hn h
  | false => rw [put_new h, wsum_append, look_none h]; simp [wsum]
/-- the counter counts the words -/
structure Rep (c : Ctr) (ws : List PySem.Str) : Prop where
  nd : NdC c
  look : ∀ k, kdpLook c k 0 = (ws.count k : Int)
  has : ∀ k, kdpHas c k = decide (k ∈ ws)
  sum : ∀ f, wsum f c = (ws.map f).sum
theorem Rep.nil : Rep [] [] := ⟨List.nodup_nil, fun _ => rfl, fun _ => rfl, fun _ => rfl⟩
theorem Rep.putW {c : Ctr} {ws : List PySem.Str} (h : Rep c ws) (g : Int) : Rep (putW c g) (ws ++ [wordS g]) := by
  refine ⟨put_nd h.nd _ _, fun k => ?_, fun k => ?_, fun f => ?_⟩
  · unfold Mine.putW
    rw [look_put, List.count_append]
    by_cases e : k = wordS g
    · rw [if_pos e, e, h.look]; simp
    · rw [if_neg e, List.count_singleton, h.look]; simp [show ¬ wordS g = k from fun x => e x.symm]
  · unfold Mine.putW
    rw [kdpHas_put, h.has]
    by_cases e : k = wordS g <;> simp [e]
  · unfold Mine.putW
    rw [wsum_put f h.nd, h.sum, List.map_append, List.sum_append]
    have : kdpLook c (wordS g) 0 + 1 - kdpLook c (wordS g) 0 = 1 := by omega
    rw [this]; simp
theorem rep_tab (l : List Int) : Rep (tabC l) (l.map wordS) := by
  have : ∀ (l : List Int) (c : Ctr) (ws : List PySem.Str), Rep c ws → Rep (l.foldl putW c) (ws ++ l.map wordS) := by
    intro l
    induction l with
    | nil => intro c ws h; simpa using h
    | cons g r ih => intro c ws h; have := ih _ _ (h.putW g); simpa using this
  have x := this l [] [] Rep.nil
  rw [List.nil_append] at x
  exact x
theorem cp_eq {c : Ctr} (hn : NdC c) : cpC c = c := by
  have : ∀ (d acc : Ctr), NdC (acc ++ d) → d.foldl (fun acc p => kdpPut acc p.1 p.2) acc = acc ++ d := by
    intro d
    induction d with
    | nil => intro acc _; simp
    | cons p r ih =>
      intro acc h
      have hk : kdpHas acc p.1 = false := by
        cases h2 : kdpHas acc p.1 with
        | false => rfl
        | true =>
          have h3 := (has_iff _ _).mp h2
          unfold NdC at h
          rw [List.map_append] at h
          exact absurd rfl ((List.nodup_append.mp h).2.2 _ h3 p.1 (by simp))
      rw [List.foldl_cons, put_new hk, ih _ (by simpa using h)]
      simp
  have x := this c [] (by simpa using hn)
  rw [List.nil_append] at x
  exact x
theorem addC_facts (acc : Ctr) (hn : NdC acc) (p : PySem.Str × Int) : NdC (addC acc p) ∧ (∀ k, kdpLook (addC acc p) k 0 = kdpLook acc k 0 + if p.1 = k then p.2 else 0) ∧ (∀ k, kdpHas (addC acc p) k = (kdpHas acc k || decide (p.1 = k))) ∧ ∀ f, wsum f (addC acc p) = wsum f acc + f p.1 * p.2 := by
  have hv : (if kdpHas acc p.1 then kdpLook acc p.1 0 + p.2 else p.2) = kdpLook acc p.1 0 + p.2 := by
    cases h : kdpHas acc p.1 with
    | true => simp
    | false => rw [look_none h]; simp
  unfold addC
  rw [hv]
  refine ⟨put_nd hn _ _, fun k => ?_, fun k => ?_, fun f => ?_⟩
  · rw [look_put]
    by_cases e : k = p.1
    · rw [if_pos e, if_pos e.symm, e]
    · rw [if_neg e, if_neg (fun x => e x.symm)]; omega
  · rw [kdpHas_put, Bool.or_comm]
    by_cases e : k = p.1 <;> simp [e, eq_comm]
  · rw [wsum_put f hn]
    have : kdpLook acc p.1 0 + p.2 - kdpLook acc p.1 0 = p.2 := by omega
    rw [this]
theorem addF (d : Ctr) : NdC d → ∀ acc : Ctr, NdC acc → NdC (d.foldl addC acc) ∧ (∀ k, kdpLook (d.foldl addC acc) k 0 = kdpLook acc k 0 + kdpLook d k 0) ∧ (∀ k, kdpHas (d.foldl addC acc) k = (kdpHas acc k || kdpHas d k)) ∧ ∀ f, wsum f (d.foldl addC acc) = wsum f acc + wsum f d := by
  induction d with
  | nil => intro _ acc h; refine ⟨h, fun k => ?_, fun k => ?_, fun f => ?_⟩ <;> simp [kdpLook, kdpHas, wsum]
  | cons p r ih =>
    intro hd acc h
    have hd' := List.nodup_cons.mp (show (p.1 :: r.map (·.1)).Nodup from hd)
    obtain ⟨a1, a2, a3, a4⟩ := addC_facts acc h p
    obtain ⟨b1, b2, b3, b4⟩ := ih hd'.2 _ a1
    refine ⟨b1, fun k => ?_, fun k => ?_, fun f => ?_⟩
    · rw [List.foldl_cons, b2, a2, look_cons]
      by_cases e : p.1 = k
      · have hk : kdpHas r k = false := by
          cases h2 : kdpHas r k with
          | false => rfl
          | true => exact absurd ((has_iff _ _).mp h2) (e ▸ hd'.1)
        rw [if_pos e, if_pos e, look_none hk]; omega
      · rw [if_neg e, if_neg e]; omega
    · rw [List.foldl_cons, b3, a3, has_cons, Bool.or_assoc]
    · rw [List.foldl_cons, b4, a4]; simp only [wsum, List.map_cons, List.sum_cons]; omega
theorem Rep.merge {c d : Ctr} {ws us : List PySem.Str} (h : Rep c ws) (k : Rep d us) : Rep (mergeC c d) (ws ++ us) := by
  unfold mergeC
  rw [cp_eq h.nd]
  obtain ⟨b1, b2, b3, b4⟩ := addF d k.nd c h.nd
  refine ⟨b1, fun j => ?_, fun j => ?_, fun f => ?_⟩
  · rw [b2, h.look, k.look, List.count_append]; omega
  · rw [b3, h.has, k.has]; simp
  · rw [b4, h.sum, k.sum, List.map_append, List.sum_append]

end PL31
section PM31
open PySem PySem.W PyProof.Rows PyProof.V PyProof.Rows.LCg
set_option maxRecDepth 100000
set_option maxHeartbeats 8000000
structure RepE (e : EntD) (gs : List Int) : Prop where
  cc : e.cc = gs.length
  nc : e.nc = (gs.map fun g => ((wordL g).length : Int)).sum
  tt : e.tt = (gs.map fun g => g ^ 2).sum
  ct : e.ct = (gs.map fun g => g ^ 4).sum
  c : Rep e.c (gs.map wordS)
theorem RepE.nil : RepE e0 [] := ⟨rfl, rfl, rfl, rfl, Rep.nil⟩
theorem Rep.one (k : PySem.Str) : Rep [(k, 1)] [k] := by
  refine ⟨by simp [NdC], fun j => ?_, fun j => ?_, fun f => ?_⟩
  · rw [look_cons, List.count_singleton]
    by_cases e : k = j <;> simp [e, kdpLook]
  · rw [has_cons]
    by_cases e : k = j
    · simp [e]
    · simp [e, kdpHas, show ¬ j = k from fun x => e x.symm]
  · simp [wsum]
theorem RepE.one (g : Int) : RepE (entE g) [g] := ⟨rfl, by simp [entE], by simp [entE], by simp [entE], Rep.one _⟩
theorem RepE.add {e f : EntD} {a b : List Int} (h : RepE e a) (k : RepE f b) : RepE (addE e f) (a ++ b) := by
  refine ⟨?_, ?_, ?_, ?_, ?_⟩
  · show f.cc + e.cc = _; rw [h.cc, k.cc, List.length_append]; omega
  · show f.nc + e.nc = _; rw [h.nc, k.nc, List.map_append, List.sum_append]; omega
  · show f.tt + e.tt = _; rw [h.tt, k.tt, List.map_append, List.sum_append]; omega
  · show f.ct + e.ct = _; rw [h.ct, k.ct, List.map_append, List.sum_append]; omega
  · show Rep (mergeC e.c f.c) _; rw [List.map_append]; exact h.c.merge k.c
theorem rep_fold (gs : List Int) : RepE ((gs.map entE).foldl addE e0) gs := by
  have : ∀ (gs a : List Int) (e : EntD), RepE e a → RepE ((gs.map entE).foldl addE e) (a ++ gs) := by
    intro gs
    induction gs with
    | nil => intro a e h; rw [List.append_nil]; exact h
    | cons g r ih => intro a e h; have := ih _ _ (h.add (RepE.one g)); rw [List.append_assoc] at this; exact this
  have x := this gs [] e0 RepE.nil
  rw [List.nil_append] at x
  exact x
theorem rep_halved {l : List EntD} {e : EntD} (h : Halved l e) : ∀ gs : List Int, l = gs.map entE → RepE e gs := by
  induction h with
  | one e =>
    intro gs hg
    match gs, hg with
    | [g], hg => injection hg with hg; rw [hg]; exact RepE.one g
  | two h1 h2 ih1 ih2 =>
    intro gs hg
    obtain ⟨a, b, rfl, ha, hb⟩ := List.append_eq_map_iff.mp hg
    exact (ih1 a ha.symm).add (ih2 b hb.symm)
/-- what two counters need for the dicts to be equal -/
theorem rows_of {c d : Ctr} (hc : NdC c) (hd : NdC d) (hh : ∀ k, kdpHas c k = kdpHas d k) (hl : ∀ k, kdpLook c k 0 = kdpLook d k 0) : (kdpD c).length = (kdpD d).length ∧ KeqRows (kdpD d) (kdpD c) true := by
  constructor
  · rw [kdpD_length, kdpD_length]
    have p : (c.map (·.1)).Perm (d.map (·.1)) := by
      refine (List.perm_ext_iff_of_nodup hc hd).mpr fun k => ?_
      rw [← has_iff, ← has_iff, hh]
    have := p.length_eq
    simpa using this
  · have : ∀ c' : Ctr, NdC c' → (∀ p ∈ c', kdpHas d p.1 = true ∧ kdpLook d p.1 0 = p.2) → KeqRows (kdpD d) (kdpD c') true := by
      intro c'
      induction c' with
      | nil => intro _ _; exact .nil
      | cons p r ih =>
        intro hn hp
        have h1 := hp p List.mem_cons_self
        have t := ih (List.nodup_cons.mp (show (p.1 :: r.map (·.1)).Nodup from hn)).2 fun q hq => hp q (List.mem_cons_of_mem _ hq)
        have e := kdpD_item h1.1
        rw [h1.2] at e
        have x := KeqRows.hit (v := PyData.int p.2) e t
        have ev : (PyData.eqv (PyData.int p.2) (PyData.int p.2) && true) = true := by simp [PyData.eqv]
        rw [ev] at x
        exact x
    refine this c hc fun p hp => ?_
    have hk : kdpHas c p.1 = true := (has_iff _ _).mpr (List.mem_map.mpr ⟨p, hp, rfl⟩)
    refine ⟨by rw [← hh]; exact hk, ?_⟩
    rw [← hl]
    have : ∀ c' : Ctr, NdC c' → p ∈ c' → kdpLook c' p.1 0 = p.2 := by
      intro c'
      induction c' with
      | nil => intro _ h; exact nomatch h
      | cons q r ih =>
        intro hn h
        have hn' := List.nodup_cons.mp (show (q.1 :: r.map (·.1)).Nodup from hn)
        rw [look_cons]
        rcases List.mem_cons.mp h with rfl | h
        · rw [if_pos rfl]
        · have ne : ¬ q.1 = p.1 := fun e => hn'.1 (by rw [e]; exact List.mem_map.mpr ⟨p, h, rfl⟩)
          rw [if_neg ne, ih hn'.2 h]
    exact this c hc hp
theorem rows_rep {c d : Ctr} {ws us : List PySem.Str} (h : Rep c ws) (k : Rep d us) (p : ws.Perm us) : (kdpD c).length = (kdpD d).length ∧ KeqRows (kdpD d) (kdpD c) true :=
  rows_of h.nd k.nd (fun j => by rw [h.has, k.has]; simp [p.mem_iff]) fun j => by rw [h.look, k.look, p.count_eq]
def dblC (c : Ctr) : Ctr := c.map fun p => (p.1, 2 * p.2)
theorem dbl_look (c : Ctr) (k : PySem.Str) : kdpLook (dblC c) k 0 = 2 * kdpLook c k 0 := by
  induction c with
  | nil => rfl
  | cons p r ih => show kdpLook ((p.1, 2 * p.2) :: dblC r) k 0 = _; rw [look_cons, look_cons, ih]; by_cases e : p.1 = k <;> simp [e]
theorem dbl_has (c : Ctr) (k : PySem.Str) : kdpHas (dblC c) k = kdpHas c k := by
  induction c with
  | nil => rfl
  | cons p r ih => show kdpHas ((p.1, 2 * p.2) :: dblC r) k = _; rw [has_cons, has_cons, ih]
theorem rows_dbl {c d : Ctr} {ws us vs : List PySem.Str} (h : Rep c (ws ++ us)) (k : Rep d vs) (p : ws.Perm vs) (q : us.Perm vs) : (kdpD c).length = (kdpD (dblC d)).length ∧ KeqRows (kdpD (dblC d)) (kdpD c) true :=
  rows_of h.nd (by have := k.nd; unfold NdC at *; simpa [dblC, Function.comp_def] using this) (fun j => by rw [h.has, dbl_has, k.has]; simp [p.mem_iff, q.mem_iff]) fun j => by rw [h.look, dbl_look, k.look, List.count_append, p.count_eq, q.count_eq]; omega
theorem tot_rep {c : Ctr} {ws : List PySem.Str} (h : Rep c ws) : totC c = ws.length := by
  have := h.sum fun _ => 1
  unfold wsum at this
  simp only [Int.one_mul] at this
  unfold totC
  rw [this]
  clear this h
  induction ws with
  | nil => rfl
  | cons a r ih => simp at *; omega

end PM31
section PN31
open PySem PySem.W PyProof.Rows PyProof.V PyProof.Rows.LCg
set_option maxRecDepth 100000
set_option maxHeartbeats 8000000
def glG (l : List Int) (b : Bool) (la e : Nat) : Int := if b then l.getD e 0 - l.getD la 0 else l.getD la 0 - l.getD e 0
def gl (l : List Int) (b : Bool) : List Int := (List.range 9).flatMap fun la => (List.range la).map fun e => glG l b la e
theorem ents_gl (l : List Int) (b : Bool) : entsL l b 9 = (gl l b).map entE := by
  unfold entsL gl
  rw [List.map_flatMap]
  congr 1
  funext la
  unfold entsI
  rw [List.map_map]
  congr 1
  funext e
  cases b <;> rfl
def sum9 (d : Six) : List Int := [d.x + d.u, d.x + d.v, d.x + d.t, d.y + d.u, d.y + d.v, d.y + d.t, d.z + d.u, d.z + d.v, d.z + d.t]
def dif9 (d : Six) : List Int := [d.x - d.u, d.x - d.v, d.x - d.t, d.y - d.u, d.y - d.v, d.y - d.t, d.z - d.u, d.z - d.v, d.z - d.t]
def sgA : List Nat := [0, 1, 2, 9, 10, 11, 12, 13, 14, 3, 15, 16, 17, 4, 5, 18, 19, 20, 27, 28, 29, 21, 22, 23, 30, 31, 32, 6, 24, 25, 26, 33, 34, 35, 7, 8]
def sgB : List Nat := [0, 1, 2, 9, 12, 15, 10, 13, 16, 3, 11, 14, 17, 4, 5, 18, 21, 24, 27, 30, 33, 19, 22, 25, 28, 31, 34, 6, 20, 23, 26, 29, 32, 35, 7, 8]
def gapE (d : Six) : List Int := [d.v - d.u, d.t - d.u, d.t - d.v, d.v - d.u, d.t - d.u, d.t - d.v, d.v - d.u, d.t - d.u, d.t - d.v,
  d.y - d.x + (d.u - d.u), d.y - d.x + (d.u - d.v), d.y - d.x + (d.u - d.t), d.y - d.x + (d.v - d.u), d.y - d.x + (d.v - d.v), d.y - d.x + (d.v - d.t), d.y - d.x + (d.t - d.u), d.y - d.x + (d.t - d.v), d.y - d.x + (d.t - d.t),
  d.z - d.x + (d.u - d.u), d.z - d.x + (d.u - d.v), d.z - d.x + (d.u - d.t), d.z - d.x + (d.v - d.u), d.z - d.x + (d.v - d.v), d.z - d.x + (d.v - d.t), d.z - d.x + (d.t - d.u), d.z - d.x + (d.t - d.v), d.z - d.x + (d.t - d.t),
  d.z - d.y + (d.u - d.u), d.z - d.y + (d.u - d.v), d.z - d.y + (d.u - d.t), d.z - d.y + (d.v - d.u), d.z - d.y + (d.v - d.v), d.z - d.y + (d.v - d.t), d.z - d.y + (d.t - d.u), d.z - d.y + (d.t - d.v), d.z - d.y + (d.t - d.t)]
theorem gaps_eq (d : Six) : gapsL d = gapE d := rfl
theorem na_eq {a b : Int} (h : a = b ∨ a = -b) : a.natAbs = b.natAbs := Int.natAbs_eq_natAbs_iff.mpr h
theorem map_range {α : Type} (l : List Int) (n : Nat) (hn : l.length = n) (f : Int → α) : (List.range n).map (fun i => f (l.getD i 0)) = l.map f := by
  subst hn
  apply List.ext_getElem
  · simp
  · intro i h1 h2; simp at h1 h2 ⊢; simp [h1]
theorem perm_of_sig (l l' : List Int) (sg : List Nat) (hn : l'.length = 36) (hs : sg.Perm (List.range 36)) (he : l.map Int.natAbs = sg.map fun i => (l'.getD i 0).natAbs) : (l.map Int.natAbs).Perm (l'.map Int.natAbs) := by
  rw [he, ← map_range l' 36 hn]
  exact hs.map _
theorem sgA_perm : sgA.Perm (List.range 36) := by decide +kernel
theorem sgB_perm : sgB.Perm (List.range 36) := by decide +kernel
theorem list2 {α : Type} {a b : α} {l m : List α} (h : a = b) (k : l = m) : a :: l = b :: m := by rw [h, k]
theorem na1 (x u v : Int) : (x + v - (x + u)).natAbs = (v - u).natAbs := na_eq (by omega)
theorem na2 (x y u v : Int) : (y + u - (x + v)).natAbs = (y - x + (u - v)).natAbs := na_eq (by omega)
theorem na3 (x u v : Int) : (x - u - (x - v)).natAbs = (v - u).natAbs := na_eq (by omega)
theorem na4 (x y u v : Int) : (x - u - (y - v)).natAbs = (y - x + (u - v)).natAbs := na_eq (by omega)
theorem permA (d : Six) : ((gl (sum9 d) false).map Int.natAbs).Perm ((gapsL d).map Int.natAbs) := by
  rw [gaps_eq]
  refine perm_of_sig _ _ sgA rfl sgA_perm ?_
  simp only [gl, glG, sum9, gapE, sgA, List.range, List.range.loop, List.flatMap_cons, List.flatMap_nil, List.map_cons, List.map_nil, List.nil_append, List.cons_append, List.getD_cons_zero, List.getD_cons_succ, if_false, Bool.false_eq_true, if_true]
  repeat' (first | exact rfl | refine list2 (na1 _ _ _) ?_ | refine list2 (na2 _ _ _ _) ?_)
theorem permB (d : Six) : ((gl (dif9 d) true).map Int.natAbs).Perm ((gapsL d).map Int.natAbs) := by
  rw [gaps_eq]
  refine perm_of_sig _ _ sgB rfl sgB_perm ?_
  simp only [gl, glG, dif9, gapE, sgB, List.range, List.range.loop, List.flatMap_cons, List.flatMap_nil, List.map_cons, List.map_nil, List.nil_append, List.cons_append, List.getD_cons_zero, List.getD_cons_succ, if_false, Bool.false_eq_true, if_true]
  repeat' (first | exact rfl | refine list2 (na3 _ _ _) ?_ | refine list2 (na4 _ _ _ _) ?_)

end PN31
section PO31
open PySem PySem.W PyProof.Rows PyProof.V PyProof.Rows.LCg
set_option maxRecDepth 100000
set_option maxHeartbeats 8000000
theorem sqT (d : Six) : ((gapsL d).map fun g => g ^ 2).sum = 9 * (powS d.x d.y d.z 2 + powS d.u d.v d.t 2) := by
  rw [gaps_eq]
  simp only [gapE, List.map_cons, List.map_nil, List.sum_cons, List.sum_nil, powS]
  grind
theorem quT (d : Six) : ((gapsL d).map fun g => g ^ 4).sum = 9 * (powS d.x d.y d.z 4 + powS d.u d.v d.t 4) + 12 * powS d.x d.y d.z 2 * powS d.u d.v d.t 2 := by
  rw [gaps_eq]
  simp only [gapE, List.map_cons, List.map_nil, List.sum_cons, List.sum_nil, powS]
  grind
theorem sum_perm {l m : List Int} (p : l.Perm m) : l.sum = m.sum := by
  induction p with
  | nil => rfl
  | cons a _ ih => simp only [List.sum_cons, ih]
  | swap a b l => simp only [List.sum_cons]; omega
  | trans _ _ h k => rw [h, k]
theorem map_na {α : Type} (f : Int → α) (hf : ∀ g : Int, f g = f (g.natAbs : Int)) {l m : List Int} (p : (l.map Int.natAbs).Perm (m.map Int.natAbs)) : (l.map f).Perm (m.map f) := by
  have e : ∀ l : List Int, l.map f = (l.map Int.natAbs).map (fun n : Nat => f (n : Int)) := fun l => by
    rw [List.map_map]; exact List.map_congr_left fun g _ => hf g
  rw [e l, e m]
  exact p.map _
theorem wordL_na (g : Int) : wordL g = wordL (g.natAbs : Int) := by unfold wordL dig; simp
theorem wordS_na (g : Int) : wordS g = wordS (g.natAbs : Int) := by unfold wordS; rw [wordL_na]
theorem sq_na (g : Int) : g ^ 2 = (g.natAbs : Int) ^ 2 := by
  rcases Int.natAbs_eq g with h | h <;> (rw [h]; simp <;> grind)
theorem qu_na (g : Int) : g ^ 4 = (g.natAbs : Int) ^ 4 := by
  have e : ∀ z : Int, z ^ 4 = (z ^ 2) ^ 2 := fun z => by grind
  rw [e, e, ← sq_na]
def lettersC (c : Ctr) : Int := wsum (fun k => (k.cps.size : Int)) c
/-- an entry that answers to the due one -/
structure Due (d : Six) (e : EntD) : Prop where
  cc : e.cc = 36
  nc : e.nc = lettersC (tabC (gapsL d))
  tt : e.tt = 9 * (powS d.x d.y d.z 2 + powS d.u d.v d.t 2)
  ct : e.ct = 9 * (powS d.x d.y d.z 4 + powS d.u d.v d.t 4) + 12 * powS d.x d.y d.z 2 * powS d.u d.v d.t 2
  rows : (kdpD e.c).length = (kdpD (tabC (gapsL d))).length ∧ KeqRows (kdpD (tabC (gapsL d))) (kdpD e.c) true
theorem due_of {d : Six} {e : EntD} {gs : List Int} (h : RepE e gs) (p : (gs.map Int.natAbs).Perm ((gapsL d).map Int.natAbs)) : Due d e := by
  have hlen : gs.length = 36 := by have := p.length_eq; simpa [gaps_eq, gapE] using this
  refine ⟨by rw [h.cc, hlen]; rfl, ?_, ?_, ?_, ?_⟩
  · rw [h.nc]
    unfold lettersC
    rw [(rep_tab (gapsL d)).sum, List.map_map]
    exact sum_perm (map_na (fun g => ((wordL g).length : Int)) (fun g => by rw [wordL_na g]) p)
  · rw [h.tt, ← sqT]; exact sum_perm (map_na (fun g => g ^ 2) sq_na p)
  · rw [h.ct, ← quT]; exact sum_perm (map_na (fun g => g ^ 4) qu_na p)
  · exact rows_rep h.c (rep_tab _) (map_na wordS wordS_na p)
theorem plain_sums (d : Six) : Due d ((entsL (sum9 d) false 9).foldl addE e0) := by
  rw [ents_gl]; exact due_of (rep_fold _) (permA d)
theorem plain_rests {d : Six} {e : EntD} (h : Halved (entsL (dif9 d) true 9) e) : Due d e ∧ totC e.c = 36 := by
  rw [ents_gl] at h
  have r := rep_halved h _ rfl
  refine ⟨due_of r (permB d), ?_⟩
  rw [tot_rep r.c, List.length_map]
  have := (permB d).length_eq
  have : (gl (dif9 d) true).length = 36 := by simpa [gaps_eq, gapE] using this
  rw [this]; rfl
theorem plain_both {d : Six} {e : EntD} (h : Halved (entsL (dif9 d) true 9) e) : (kdpD (mergeC ((entsL (sum9 d) false 9).foldl addE e0).c e.c)).length = (kdpD (dblC (tabC (gapsL d)))).length ∧ KeqRows (kdpD (dblC (tabC (gapsL d)))) (kdpD (mergeC ((entsL (sum9 d) false 9).foldl addE e0).c e.c)) true := by
  rw [ents_gl] at h ⊢
  exact rows_dbl ((rep_fold _).c.merge (rep_halved h _ rfl).c) (rep_tab _) (map_na wordS wordS_na (permA d)) (map_na wordS wordS_na (permB d))

end PO31
section LB31
open PySem PySem.W PyProof.Rows PyProof.V PyProof.Rows.LCg
set_option maxRecDepth 100000
set_option maxHeartbeats 8000000
structure SixOk (d : Six) : Prop where
  x : 0 ≤ d.x ∧ d.x < 1500
  y : 0 ≤ d.y ∧ d.y < 1500
  z : 0 ≤ d.z ∧ d.z < 1500
  u : 0 ≤ d.u ∧ d.u < 1500
  v : 0 ≤ d.v ∧ d.v < 1500
  t : 0 ≤ d.t ∧ d.t < 1500
theorem fm (a : Int) : 0 ≤ a.fmod 1500 ∧ a.fmod 1500 < 1500 := ⟨Int.fmod_nonneg_of_pos a (by decide), Int.fmod_lt_of_pos a (by decide)⟩
theorem cells6 (l : List Int) : ∃ d : Six, SixOk d ∧ (List.map (fun k' => k'.fmod 1500) (List.take 6 l) ++ List.drop (((List.map (fun k' => k'.fmod 1500) (List.take 6 l)).length : Int)).toNat [3, 19, 52, 1, 17, 260]) = [d.x, d.y, d.z, d.u, d.v, d.t] := by
  match l with
  | [] => exact ⟨⟨3, 19, 52, 1, 17, 260⟩, by constructor <;> decide, rfl⟩
  | [a] => exact ⟨⟨a.fmod 1500, 19, 52, 1, 17, 260⟩, by constructor <;> first | exact fm _ | (dsimp only; decide), rfl⟩
  | [a, b] => exact ⟨⟨a.fmod 1500, b.fmod 1500, 52, 1, 17, 260⟩, by constructor <;> first | exact fm _ | (dsimp only; decide), rfl⟩
  | [a, b, c] => exact ⟨⟨a.fmod 1500, b.fmod 1500, c.fmod 1500, 1, 17, 260⟩, by constructor <;> first | exact fm _ | (dsimp only; decide), rfl⟩
  | [a, b, c, e] => exact ⟨⟨a.fmod 1500, b.fmod 1500, c.fmod 1500, e.fmod 1500, 17, 260⟩, by constructor <;> first | exact fm _ | (dsimp only; decide), rfl⟩
  | [a, b, c, e, f] => exact ⟨⟨a.fmod 1500, b.fmod 1500, c.fmod 1500, e.fmod 1500, f.fmod 1500, 260⟩, by constructor <;> first | exact fm _ | (dsimp only; decide), rfl⟩
  | a :: b :: c :: e :: f :: g :: r => exact ⟨⟨a.fmod 1500, b.fmod 1500, c.fmod 1500, e.fmod 1500, f.fmod 1500, g.fmod 1500⟩, by constructor <;> exact fm _, rfl⟩
theorem bd1 {a b : Int} (h : 0 ≤ a ∧ a < 1500) (k : 0 ≤ b ∧ b < 1500) : -4096 < a - b ∧ a - b < 4096 := by omega
theorem bd2 {a b c e : Int} (h : 0 ≤ a ∧ a < 1500) (k : 0 ≤ b ∧ b < 1500) (h' : 0 ≤ c ∧ c < 1500) (k' : 0 ≤ e ∧ e < 1500) : -4096 < a - b + (c - e) ∧ a - b + (c - e) < 4096 := by omega
theorem gaps_bnd {d : Six} (h : SixOk d) : (gapsL d).length ≤ 100 ∧ ∀ x ∈ gapsL d, -4096 < x ∧ x < 4096 := by
  obtain ⟨hx, hy, hz, hu, hv, ht⟩ := h
  rw [gaps_eq]
  refine ⟨by simp [gapE], ?_⟩
  unfold gapE
  simp only [List.forall_mem_cons]
  repeat' (first | exact (fun _ h => nomatch h) | refine ⟨bd1 (by assumption) (by assumption), ?_⟩ | refine ⟨bd2 (by assumption) (by assumption) (by assumption) (by assumption), ?_⟩)

end LB31
section LU31
open PySem PySem.W PyProof.Rows PyProof.V PyProof.Rows.LCg
set_option maxRecDepth 100000
set_option maxHeartbeats 8000000
theorem gp_use {w : World} {mean : ExcName → Option Value} {mg mb : PySem.Str → Option Value} {x y : Addr} {d : Six} {dp un : Nat} {gd : Option (List Code)} {cn : PySem.Str} {cs : Scope} {a : Addr} {ccd : Value} {cl : List (PySem.Str × Addr)} {outer : List Env} {A₀ : Around} {base h₀ : Heap} {L : Addr} {m : PySem.Str → Option Value} {news : List (Addr × Obj)} {s : Shared} {Q E : Value → Shared → Prop}
    (B : Below A₀ base outer h₀) (F : Fr h₀ L s.heap m) (X : (hd.heap_39 w.params).In h₀) (N : News h₀ L s.heap news) (T : Top hd.view_39 (looseW hd.view_39 []) mean mg mb h₀) (hk : cs.kind = .function)
    (h1 : L3At news x d.x d.y d.z) (h2 : L3At news y d.u d.v d.t) (hdp : dp + 1 < recursionLimit) (hu : un + 8 * 1 < cLine)
    (ret : ∀ r tl h' tk', Fr h₀ L h' m → News h₀ L h' (news ++ tl) → (∀ q ∈ news, ∀ p ∈ tl, q.1 < p.1) → LIAt (news ++ tl) r (gapsL d) → Q (.ref r) { s with heap := h', toks := tk' }) :
    wpAny (model PG w) (ktrTop dp un gd cn cs L a ccd cl outer) (call (.ref 73) [.ref x, .ref y]) Q E s :=
  tellsN_use B F X N T hk (TwoRows.mk x y d h1 h2) (gp_tells w mean mg mb _) trivial hdp hu fun r tl h' tk' F' N' ho _ hO => by
    obtain ⟨z, rfl, hz⟩ := hO
    exact ret z tl h' tk' F' N' ho hz
theorem tb_use {w : World} {mean : ExcName → Option Value} {mg mb : PySem.Str → Option Value} {x : Addr} {l : List Int} {dp un : Nat} {gd : Option (List Code)} {cn : PySem.Str} {cs : Scope} {a : Addr} {ccd : Value} {cl : List (PySem.Str × Addr)} {outer : List Env} {A₀ : Around} {base h₀ : Heap} {L : Addr} {m : PySem.Str → Option Value} {news : List (Addr × Obj)} {s : Shared} {Q E : Value → Shared → Prop}
    (B : Below A₀ base outer h₀) (F : Fr h₀ L s.heap m) (X : (hd.heap_39 w.params).In h₀) (N : News h₀ L s.heap news) (T : Top hd.view_39 (looseW hd.view_39 []) mean mg mb h₀) (hk : cs.kind = .function)
    (h1 : LIAt news x l) (hb : l.length ≤ 100 ∧ ∀ x ∈ l, -4096 < x ∧ x < 4096) (hdp : dp + 2 < recursionLimit) (hu : un + 8 * 2 < cLine)
    (ret : ∀ r tl h' tk', Fr h₀ L h' m → News h₀ L h' (news ++ tl) → (∀ q ∈ news, ∀ p ∈ tl, q.1 < p.1) → DcAt w (news ++ tl) r (tabC l) → Q (.ref r) { s with heap := h', toks := tk' }) :
    wpAny (model PG w) (ktrTop dp un gd cn cs L a ccd cl outer) (call (.ref 85) [.ref x]) Q E s :=
  tellsN_use B F X N T hk (OneL.mk x l h1) (tb_tells w mean mg mb _) hb hdp hu fun r tl h' tk' F' N' ho _ hO => by
    obtain ⟨z, rfl, hz⟩ := hO
    exact ret z tl h' tk' F' N' ho hz
theorem pw2_use {w : World} {mean : ExcName → Option Value} {mg mb : PySem.Str → Option Value} {x : Addr} {p q r : Int} {tp : Tok} {dp un : Nat} {gd : Option (List Code)} {cn : PySem.Str} {cs : Scope} {a : Addr} {ccd : Value} {cl : List (PySem.Str × Addr)} {outer : List Env} {A₀ : Around} {base h₀ : Heap} {L : Addr} {m : PySem.Str → Option Value} {news : List (Addr × Obj)} {s : Shared} {Q E : Value → Shared → Prop}
    (B : Below A₀ base outer h₀) (F : Fr h₀ L s.heap m) (X : (hd.heap_39 w.params).In h₀) (N : News h₀ L s.heap news) (T : Top hd.view_39 (looseW hd.view_39 []) mean mg mb h₀) (hk : cs.kind = .function)
    (h1 : L3At news x p q r) (hb : 0 ≤ p ∧ p < 1500 ∧ 0 ≤ q ∧ q < 1500 ∧ 0 ≤ r ∧ r < 1500) (hdp : dp + 1 < recursionLimit) (hu : un + 8 * 1 < cLine)
    (ret : ∀ (tt : Tok) tl h' tk', Fr h₀ L h' m → News h₀ L h' (news ++ tl) → (∀ q ∈ news, ∀ p ∈ tl, q.1 < p.1) → Q (.int (powS p q r 2) tt) { s with heap := h', toks := tk' }) :
    wpAny (model PG w) (ktrTop dp un gd cn cs L a ccd cl outer) (call (.ref 90) [.ref x, .int 2 tp]) Q E s :=
  tellsN_use B F X N T hk (RowPow.mk x p q r 2 tp h1) (pow_tells w mean mg mb _) ⟨.inl rfl, hb⟩ hdp hu fun r tl h' tk' F' N' ho _ hO => by
    obtain ⟨t, rfl⟩ := hO
    exact ret t tl h' tk' F' N' ho
theorem pw4_use {w : World} {mean : ExcName → Option Value} {mg mb : PySem.Str → Option Value} {x : Addr} {p q r : Int} {tp : Tok} {dp un : Nat} {gd : Option (List Code)} {cn : PySem.Str} {cs : Scope} {a : Addr} {ccd : Value} {cl : List (PySem.Str × Addr)} {outer : List Env} {A₀ : Around} {base h₀ : Heap} {L : Addr} {m : PySem.Str → Option Value} {news : List (Addr × Obj)} {s : Shared} {Q E : Value → Shared → Prop}
    (B : Below A₀ base outer h₀) (F : Fr h₀ L s.heap m) (X : (hd.heap_39 w.params).In h₀) (N : News h₀ L s.heap news) (T : Top hd.view_39 (looseW hd.view_39 []) mean mg mb h₀) (hk : cs.kind = .function)
    (h1 : L3At news x p q r) (hb : 0 ≤ p ∧ p < 1500 ∧ 0 ≤ q ∧ q < 1500 ∧ 0 ≤ r ∧ r < 1500) (hdp : dp + 1 < recursionLimit) (hu : un + 8 * 1 < cLine)
    (ret : ∀ (tt : Tok) tl h' tk', Fr h₀ L h' m → News h₀ L h' (news ++ tl) → (∀ q ∈ news, ∀ p ∈ tl, q.1 < p.1) → Q (.int (powS p q r 4) tt) { s with heap := h', toks := tk' }) :
    wpAny (model PG w) (ktrTop dp un gd cn cs L a ccd cl outer) (call (.ref 90) [.ref x, .int 4 tp]) Q E s :=
  tellsN_use B F X N T hk (RowPow.mk x p q r 4 tp h1) (pow_tells w mean mg mb _) ⟨.inr rfl, hb⟩ hdp hu fun r tl h' tk' F' N' ho _ hO => by
    obtain ⟨t, rfl⟩ := hO
    exact ret t tl h' tk' F' N' ho
theorem es_use {w : World} {mean : ExcName → Option Value} {mg mb : PySem.Str → Option Value} {x : Addr} {l : List Int} {b : Bool} {dp un : Nat} {gd : Option (List Code)} {cn : PySem.Str} {cs : Scope} {a : Addr} {ccd : Value} {cl : List (PySem.Str × Addr)} {outer : List Env} {A₀ : Around} {base h₀ : Heap} {L : Addr} {m : PySem.Str → Option Value} {news : List (Addr × Obj)} {s : Shared} {Q E : Value → Shared → Prop}
    (B : Below A₀ base outer h₀) (F : Fr h₀ L s.heap m) (X : (hd.heap_39 w.params).In h₀) (N : News h₀ L s.heap news) (T : Top hd.view_39 (looseW hd.view_39 []) mean mg mb h₀) (hk : cs.kind = .function)
    (h1 : LIAt news x l) (hb : l.length = 9 ∧ ∀ x ∈ l, ∀ y ∈ l, -4096 < x - y ∧ x - y < 4096) (hdp : dp + 3 < recursionLimit) (hu : un + 8 * 3 < cLine)
    (ret : ∀ r tl h' tk', Fr h₀ L h' m → News h₀ L h' (news ++ tl) → (∀ q ∈ news, ∀ p ∈ tl, q.1 < p.1) → EntsAt w (news ++ tl) r (entsL l b 9) → Q (.ref r) { s with heap := h', toks := tk' }) :
    wpAny (model PG w) (ktrTop dp un gd cn cs L a ccd cl outer) (call (.ref 54) [.ref x, .bool b]) Q E s :=
  tellsN_use B F X N T hk (PlacesB.mk x l b h1) (es_tells w mean mg mb _) hb hdp hu fun r tl h' tk' F' N' ho _ hO => by
    obtain ⟨z, rfl, hz⟩ := hO
    exact ret z tl h' tk' F' N' ho hz
theorem bh_use {w : World} {mean : ExcName → Option Value} {mg mb : PySem.Str → Option Value} {x : Addr} {es : List EntD} {dp un : Nat} {gd : Option (List Code)} {cn : PySem.Str} {cs : Scope} {a : Addr} {ccd : Value} {cl : List (PySem.Str × Addr)} {outer : List Env} {A₀ : Around} {base h₀ : Heap} {L : Addr} {m : PySem.Str → Option Value} {news : List (Addr × Obj)} {s : Shared} {Q E : Value → Shared → Prop}
    (B : Below A₀ base outer h₀) (F : Fr h₀ L s.heap m) (X : (hd.heap_39 w.params).In h₀) (N : News h₀ L s.heap news) (T : Top hd.view_39 (looseW hd.view_39 []) mean mg mb h₀) (hk : cs.kind = .function)
    (h1 : EntsAt w news x es) (hb : lenE es ≤ 900) (hdp : dp + 3 < recursionLimit) (hu : un + 8 * 3 < cLine)
    (ret : ∀ r tl h' tk', Fr h₀ L h' m → News h₀ L h' (news ++ tl) → (∀ q ∈ news, ∀ p ∈ tl, q.1 < p.1) → EntAt w (news ++ tl) r (es.foldl addE e0) → Q (.ref r) { s with heap := h', toks := tk' }) :
    wpAny (model PG w) (ktrTop dp un gd cn cs L a ccd cl outer) (call (.ref 61) [.ref x]) Q E s :=
  tellsN_use B F X N T hk (OneEs.mk x es h1) (bh_tells w mean mg mb _) hb hdp hu fun r tl h' tk' F' N' ho _ hO => by
    obtain ⟨z, rfl, hz⟩ := hO
    exact ret z tl h' tk' F' N' ho hz
theorem cc_use {w : World} {mean : ExcName → Option Value} {mg mb : PySem.Str → Option Value} {x : Addr} {c : Ctr} {dp un : Nat} {gd : Option (List Code)} {cn : PySem.Str} {cs : Scope} {a : Addr} {ccd : Value} {cl : List (PySem.Str × Addr)} {outer : List Env} {A₀ : Around} {base h₀ : Heap} {L : Addr} {m : PySem.Str → Option Value} {news : List (Addr × Obj)} {s : Shared} {Q E : Value → Shared → Prop}
    (B : Below A₀ base outer h₀) (F : Fr h₀ L s.heap m) (X : (hd.heap_39 w.params).In h₀) (N : News h₀ L s.heap news) (T : Top hd.view_39 (looseW hd.view_39 []) mean mg mb h₀) (hk : cs.kind = .function)
    (h1 : DcAt w news x c) (hdp : dp + 1 < recursionLimit) (hu : un + 8 * 1 < cLine)
    (ret : ∀ (tt : Tok) tl h' tk', Fr h₀ L h' m → News h₀ L h' (news ++ tl) → (∀ q ∈ news, ∀ p ∈ tl, q.1 < p.1) → Q (.int (totC c) tt) { s with heap := h', toks := tk' }) :
    wpAny (model PG w) (ktrTop dp un gd cn cs L a ccd cl outer) (call (.ref 35) [.ref x]) Q E s :=
  tellsN_use B F X N T hk (OneC.mk x c h1) (cc_tells w mean mg mb _) trivial hdp hu fun r tl h' tk' F' N' ho _ hO => by
    obtain ⟨t, rfl⟩ := hO
    exact ret t tl h' tk' F' N' ho

end LU31
section LT31
open PySem PySem.W PyProof.Rows PyProof.V PyProof.Rows.LCg
set_option maxRecDepth 100000
set_option maxHeartbeats 8000000
theorem look_mem {c : Ctr} (hn : NdC c) {p : PySem.Str × Int} (h : p ∈ c) : kdpHas c p.1 = true ∧ kdpLook c p.1 0 = p.2 := by
  refine ⟨(has_iff _ _).mpr (List.mem_map.mpr ⟨p, h, rfl⟩), ?_⟩
  induction c with
  | nil => exact nomatch h
  | cons q r ih =>
    have hn' := List.nodup_cons.mp (show (q.1 :: r.map (·.1)).Nodup from hn)
    rw [look_cons]
    rcases List.mem_cons.mp h with rfl | h
    · rw [if_pos rfl]
    · have ne : ¬ q.1 = p.1 := fun e => hn'.1 (by rw [e]; exact List.mem_map.mpr ⟨p, h, rfl⟩)
      rw [if_neg ne, ih hn'.2 h]
structure TabFact (c : Ctr) (k : PySem.Str) (n : Int) : Prop where
  len : k.length ≤ 3
  lo : 0 ≤ n
  hi : n ≤ 36
  has : kdpHas c k = true
  look : kdpLook c k 0 = n
theorem gaps_len (d : Six) : (gapsL d).length = 36 := by rw [gaps_eq]; rfl
theorem tab_nd (l : List Int) : NdC (tabC l) := (rep_tab l).nd
theorem tab_fact {d : Six} {k : PySem.Str} {n : Int} (h : (k, n) ∈ tabC (gapsL d)) : TabFact (tabC (gapsL d)) k n := by
  have R := rep_tab (gapsL d)
  obtain ⟨h1, h2⟩ := look_mem R.nd h
  dsimp only at h1 h2
  have h3 := R.look k
  have h4 := R.has k
  rw [h1] at h4
  have h5 : k ∈ (gapsL d).map wordS := by simpa using h4.symm
  obtain ⟨g, _, rfl⟩ := List.mem_map.mp h5
  rw [h2] at h3
  have h6 := List.count_le_length (a := wordS g) (l := (gapsL d).map wordS)
  rw [List.length_map, gaps_len] at h6
  refine ⟨by rw [wordS_len]; exact wordL_len g, by omega, by omega, h1, h2⟩
theorem tab_len36 (d : Six) : (tabC (gapsL d)).length ≤ 36 := by
  have := tab_len (gapsL d) []
  rw [gaps_len] at this
  simpa [tabC] using this
theorem letters_eq (c : Ctr) : (c.map fun p => (p.1.length : Int) * p.2).sum = lettersC c := rfl
theorem take_snocC {α : Type} {l : List α} {i : Nat} {x : α} (h : l[i]? = some x) : l.take (i + 1) = l.take i ++ [x] := by
  rw [List.take_add_one, h]; rfl
theorem News_left {h₀ h : Heap} {L : Addr} {a b : List (Addr × Obj)} (N : News h₀ L h (a ++ b)) : News h₀ L h a := fun p hp => N p (List.mem_append_left _ hp)
theorem SixOk.r1 {d : Six} (h : SixOk d) : 0 ≤ d.x ∧ d.x < 1500 ∧ 0 ≤ d.y ∧ d.y < 1500 ∧ 0 ≤ d.z ∧ d.z < 1500 := ⟨h.x.1, h.x.2, h.y.1, h.y.2, h.z.1, h.z.2⟩
theorem SixOk.r2 {d : Six} (h : SixOk d) : 0 ≤ d.u ∧ d.u < 1500 ∧ 0 ≤ d.v ∧ d.v < 1500 ∧ 0 ≤ d.t ∧ d.t < 1500 := ⟨h.u.1, h.u.2, h.v.1, h.v.2, h.t.1, h.t.2⟩
theorem sq_bnd {a b : Int} (h : -1500 < a - b) (h2 : a - b < 1500) : 0 ≤ (a - b) ^ 2 ∧ (a - b) ^ 2 ≤ 2250000 := by
  have e : (a - b) ^ 2 = (a - b) * (a - b) := by grind
  rw [e]
  generalize a - b = z at *
  rcases Int.le_total 0 z with h3 | h3
  · exact ⟨Int.mul_nonneg h3 h3, by have := Int.mul_le_mul (show z ≤ 1500 by omega) (show z ≤ 1500 by omega) h3 (by decide); omega⟩
  · have h4 : (-z) * (-z) = z * z := by grind
    rw [← h4]
    exact ⟨Int.mul_nonneg (by omega) (by omega), by have := Int.mul_le_mul (show -z ≤ 1500 by omega) (show -z ≤ 1500 by omega) (by omega) (by decide); omega⟩
theorem pow2_bnd {x y z : Int} (h : 0 ≤ x ∧ x < 1500 ∧ 0 ≤ y ∧ y < 1500 ∧ 0 ≤ z ∧ z < 1500) : 0 ≤ powS x y z 2 ∧ powS x y z 2 ≤ 6750000 := by
  obtain ⟨h1, h2, h3, h4, h5, h6⟩ := h
  have a := sq_bnd (a := y) (b := x) (by omega) (by omega)
  have b := sq_bnd (a := z) (b := x) (by omega) (by omega)
  have c := sq_bnd (a := z) (b := y) (by omega) (by omega)
  unfold powS
  omega
theorem mul_fit {x y z u v t : Int} (h : 0 ≤ u ∧ u < 1500 ∧ 0 ≤ v ∧ v < 1500 ∧ 0 ≤ t ∧ t < 1500) : IntMulOk (12 * powS x y z 2) (powS u v t 2) := by
  have := pow2_bnd h
  refine IntMulOk.of_right (intBits_le_iff.mpr ?_)
  have e : (2 : Nat) ^ 64 = 18446744073709551616 := by decide
  rw [e]
  omega
/-- the counter that `_law_table` gives for the six (kept shut) -/
structure IsTab (d : Six) (c : Ctr) : Prop where
  eq : c = tabC (gapsL d)
theorem IsTab.fact {d : Six} {c : Ctr} (h : IsTab d c) {k : PySem.Str} {n : Int} (hm : (k, n) ∈ c) : TabFact c k n := by
  cases h with
  | mk e =>
    rw [e] at hm ⊢
    exact tab_fact hm
theorem IsTab.len {d : Six} {c : Ctr} (h : IsTab d c) : c.length ≤ 36 := by
  cases h with
  | mk e =>
    rw [e]
    exact tab_len36 d
theorem IsTab.nd {d : Six} {c : Ctr} (h : IsTab d c) : NdC c := by
  cases h with
  | mk e =>
    rw [e]
    exact tab_nd _

end LT31
section LS31
open PySem PySem.W PyProof.Rows PyProof.V PyProof.Rows.LCg
set_option maxRecDepth 100000
set_option maxHeartbeats 1000000
theorem Fr_two {h₀ h : Heap} {L : Addr} {m : PySem.Str → Option Value} (F : Fr h₀ L h m) {x y : PySem.Str} {u v : Value} (hx : m x = some u) (hy : m y = some v) :
    ∃ mO : PySem.Str → Option Value, Fr h₀ L h (fun z => if z = x then some u else if z = y then some v else mO z) := by
  refine ⟨m, ?_⟩
  have e : (fun z => if z = x then some u else if z = y then some v else m z) = m := by
    funext z
    by_cases h1 : z = x
    · rw [if_pos h1, h1, hx]
    · by_cases h2 : z = y
      · rw [if_neg h1, if_pos h2, h2, hy]
      · rw [if_neg h1, if_neg h2]
  rw [e]
  exact F
theorem News_pick {h₀ h : Heap} {L : Addr} {l l' : List (Addr × Obj)} (N : News h₀ L h l) (hs : ∀ p ∈ l', p ∈ l) : News h₀ L h l' := fun p hp => N p (hs p hp)
/-- the object is the entry's tuple -/
def EntO (o : Obj) (e : EntD) (d : Addr) : Prop := ∃ t1 t2 t3 t4 n, o = ({ cls := .type "tuple", data := .seq #[.int e.cc t1, .int e.nc t2, .int e.tt t3, .int e.ct t4, .ref d] n } : Obj)
theorem gen_head {h₀ h : Heap} {L a : Addr} {o : Obj} {l : List (Addr × Obj)} {P : Obj → Prop} (N : News h₀ L h ((a, o) :: l)) (hp : P o) : ∃ o', P o' ∧ News h₀ L h ((a, o') :: l) := ⟨o, hp, N⟩
theorem ent_open {w : World} {news : List (Addr × Obj)} {a : Addr} {e : EntD} (h : EntAt w news a e) : ∃ o d od, (a, o) ∈ news ∧ EntO o e d ∧ (d, od) ∈ news ∧ IsC PG w od e.c ∧ (d == sysModules) = false := by
  obtain ⟨t1, t2, t3, t4, d, n, h1, ⟨od, h2, h3⟩, lo⟩ := h
  exact ⟨_, d, od, h1, ⟨t1, t2, t3, t4, n, rfl⟩, h2, h3, lo⟩
theorem EntO.tup {h₀ h : Heap} {L a d : Addr} {o : Obj} {e : EntD} {news : List (Addr × Obj)} (x : EntO o e d) (N : News h₀ L h news) (hm : (a, o) ∈ news) :
    ∃ t1 t2 t3 t4, h.IsTuple a #[.int e.cc t1, .int e.nc t2, .int e.tt t3, .int e.ct t4, .ref d] := by
  obtain ⟨t1, t2, t3, t4, n, rfl⟩ := x
  exact ⟨t1, t2, t3, t4, _, (N _ hm).1, rfl, n, rfl⟩
def dueE (d : Six) (c : Ctr) : EntD := ⟨36, lettersC c, 9 * (powS d.x d.y d.z 2 + powS d.u d.v d.t 2), 9 * (powS d.x d.y d.z 4 + powS d.u d.v d.t 4) + 12 * powS d.x d.y d.z 2 * powS d.u d.v d.t 2, c⟩
def cmbL (f : Int → Int → Int) (d : Six) (i : Nat) : List Int := (List.range i).flatMap fun a => (List.range 3).map fun b => f (powR d.x d.y d.z a) (powR d.u d.v d.t b)
theorem cmbL_succ (f : Int → Int → Int) (d : Six) (i : Nat) : cmbL f d (i + 1) = cmbL f d i ++ (List.range 3).map fun b => f (powR d.x d.y d.z i) (powR d.u d.v d.t b) := by
  unfold cmbL; rw [List.range_succ (n := i), List.flatMap_append, List.flatMap_cons, List.flatMap_nil, List.append_nil]
theorem cmbL_len (f : Int → Int → Int) (d : Six) (i : Nat) : (cmbL f d i).length = 3 * i := by
  induction i with
  | zero => rfl
  | succ i ih => rw [cmbL_succ, List.length_append, ih]; simp; omega
theorem cmb_sum (d : Six) : cmbL (fun a b => a + b) d 3 = sum9 d := rfl
theorem cmb_dif (d : Six) : cmbL (fun a b => a - b) d 3 = dif9 d := rfl
theorem bs1 {a b : Int} (h : 0 ≤ a ∧ a < 1500) (k : 0 ≤ b ∧ b < 1500) : 0 ≤ a + b ∧ a + b < 2999 := by omega
theorem bs2 {a b : Int} (h : 0 ≤ a ∧ a < 1500) (k : 0 ≤ b ∧ b < 1500) : -1500 < a - b ∧ a - b < 1500 := by omega
theorem sum9_ok {d : Six} (h : SixOk d) : (sum9 d).length = 9 ∧ ∀ x ∈ sum9 d, ∀ y ∈ sum9 d, -4096 < x - y ∧ x - y < 4096 := by
  have b : ∀ x ∈ sum9 d, 0 ≤ x ∧ x < 2999 := by
    obtain ⟨hx, hy, hz, hu, hv, ht⟩ := h
    unfold sum9
    simp only [List.forall_mem_cons]
    repeat' (first | exact (fun _ h => nomatch h) | refine ⟨bs1 (by assumption) (by assumption), ?_⟩ | refine ⟨bs2 (by assumption) (by assumption), ?_⟩)
  exact ⟨rfl, fun x hx y hy => by have := b x hx; have := b y hy; omega⟩
theorem dif9_ok {d : Six} (h : SixOk d) : (dif9 d).length = 9 ∧ ∀ x ∈ dif9 d, ∀ y ∈ dif9 d, -4096 < x - y ∧ x - y < 4096 := by
  have b : ∀ x ∈ dif9 d, -1500 < x ∧ x < 1500 := by
    obtain ⟨hx, hy, hz, hu, hv, ht⟩ := h
    unfold dif9
    simp only [List.forall_mem_cons]
    repeat' (first | exact (fun _ h => nomatch h) | refine ⟨bs1 (by assumption) (by assumption), ?_⟩ | refine ⟨bs2 (by assumption) (by assumption), ?_⟩)
  exact ⟨rfl, fun x hx y hy => by have := b x hx; have := b y hy; omega⟩
theorem ents_lenE (l : List Int) (b : Bool) : (entsL l b 9).length = 36 ∧ lenE (entsL l b 9) = 36 := by
  rw [ents_gl]
  have hl : (gl l b).length = 36 := by
    unfold gl
    simp [List.range, List.range.loop]
  refine ⟨by rw [List.length_map, hl], ?_⟩
  unfold lenE
  rw [List.map_map]
  have : ∀ m : List Int, (m.map ((fun e : EntD => e.c.length) ∘ entE)).sum = m.length := by
    intro m
    induction m with
    | nil => rfl
    | cons a r ih => simp only [List.map_cons, List.sum_cons, ih, List.length_cons]; show 1 + _ = _; omega
  rw [this, hl]
structure IsSums (d : Six) (e : EntD) : Prop where
  eq : e = (entsL (sum9 d) false 9).foldl addE e0
structure IsRests (d : Six) (e : EntD) : Prop where
  eq : Halved (entsL (dif9 d) true 9) e
structure Match (e : EntD) (d : Six) (c : Ctr) : Prop where
  cc : e.cc = 36
  nc : e.nc = lettersC c
  tt : e.tt = 9 * (powS d.x d.y d.z 2 + powS d.u d.v d.t 2)
  ct : e.ct = 9 * (powS d.x d.y d.z 4 + powS d.u d.v d.t 4) + 12 * powS d.x d.y d.z 2 * powS d.u d.v d.t 2
  len : (kdpD e.c).length = (kdpD c).length
  rows : KeqRows (kdpD c) (kdpD e.c) true
theorem Due.match {d : Six} {e : EntD} {c : Ctr} (h : Due d e) (k : IsTab d c) : Match e d c := by
  cases k with
  | mk q => exact ⟨h.cc, by rw [q]; exact h.nc, h.tt, h.ct, by rw [q]; exact h.rows.1, by rw [q]; exact h.rows.2⟩
theorem IsSums.match {d : Six} {e : EntD} {c : Ctr} (h : IsSums d e) (k : IsTab d c) : Match e d c := by
  cases h with
  | mk q => rw [q]; exact (plain_sums d).match k
theorem IsRests.match {d : Six} {e : EntD} {c : Ctr} (h : IsRests d e) (k : IsTab d c) : Match e d c := (plain_rests h.eq).1.match k
theorem IsRests.tot {d : Six} {e : EntD} (h : IsRests d e) : totC e.c = 36 := (plain_rests h.eq).2
theorem both_rows {d : Six} {e f : EntD} {c : Ctr} (h : IsSums d e) (g : IsRests d f) (k : IsTab d c) : (kdpD (mergeC e.c f.c)).length = (kdpD (dblC c)).length ∧ KeqRows (kdpD (dblC c)) (kdpD (mergeC e.c f.c)) true := by
  cases h with
  | mk q => cases k with
    | mk q2 => rw [q, q2]; exact plain_both g.eq
theorem Match.lenC {d : Six} {e : EntD} {c : Ctr} (h : Match e d c) (k : IsTab d c) : e.c.length ≤ 36 := by
  have h1 := h.len
  rw [kdpD_length, kdpD_length] at h1
  have := k.len
  omega
-- pickN
theorem pick8 {h₀ h : Heap} {L : Addr} {l : List (Addr × Obj)} {a1 a2 a3 a4 a5 a6 a7 a8 : Addr} {o1 o2 o3 o4 o5 o6 o7 o8 : Obj} (N : News h₀ L h l) (h1 : (a1, o1) ∈ l) (h2 : (a2, o2) ∈ l) (h3 : (a3, o3) ∈ l) (h4 : (a4, o4) ∈ l) (h5 : (a5, o5) ∈ l) (h6 : (a6, o6) ∈ l) (h7 : (a7, o7) ∈ l) (h8 : (a8, o8) ∈ l) : News h₀ L h [(a1, o1), (a2, o2), (a3, o3), (a4, o4), (a5, o5), (a6, o6), (a7, o7), (a8, o8)] := by
  intro p hp
  simp only [List.mem_cons, List.not_mem_nil, or_false] at hp
  rcases hp with rfl | rfl | rfl | rfl | rfl | rfl | rfl | rfl
  · exact N _ h1
  · exact N _ h2
  · exact N _ h3
  · exact N _ h4
  · exact N _ h5
  · exact N _ h6
  · exact N _ h7
  · exact N _ h8
theorem pick10 {h₀ h : Heap} {L : Addr} {l : List (Addr × Obj)} {a1 a2 a3 a4 a5 a6 a7 a8 a9 a10 : Addr} {o1 o2 o3 o4 o5 o6 o7 o8 o9 o10 : Obj} (N : News h₀ L h l) (h1 : (a1, o1) ∈ l) (h2 : (a2, o2) ∈ l) (h3 : (a3, o3) ∈ l) (h4 : (a4, o4) ∈ l) (h5 : (a5, o5) ∈ l) (h6 : (a6, o6) ∈ l) (h7 : (a7, o7) ∈ l) (h8 : (a8, o8) ∈ l) (h9 : (a9, o9) ∈ l) (h10 : (a10, o10) ∈ l) : News h₀ L h [(a1, o1), (a2, o2), (a3, o3), (a4, o4), (a5, o5), (a6, o6), (a7, o7), (a8, o8), (a9, o9), (a10, o10)] := by
  intro p hp
  simp only [List.mem_cons, List.not_mem_nil, or_false] at hp
  rcases hp with rfl | rfl | rfl | rfl | rfl | rfl | rfl | rfl | rfl | rfl
  · exact N _ h1
  · exact N _ h2
  · exact N _ h3
  · exact N _ h4
  · exact N _ h5
  · exact N _ h6
  · exact N _ h7
  · exact N _ h8
  · exact N _ h9
  · exact N _ h10
theorem pick9 {h₀ h : Heap} {L : Addr} {l : List (Addr × Obj)} {a1 a2 a3 a4 a5 a6 a7 a8 a9 : Addr} {o1 o2 o3 o4 o5 o6 o7 o8 o9 : Obj} (N : News h₀ L h l) (h1 : (a1, o1) ∈ l) (h2 : (a2, o2) ∈ l) (h3 : (a3, o3) ∈ l) (h4 : (a4, o4) ∈ l) (h5 : (a5, o5) ∈ l) (h6 : (a6, o6) ∈ l) (h7 : (a7, o7) ∈ l) (h8 : (a8, o8) ∈ l) (h9 : (a9, o9) ∈ l) : News h₀ L h [(a1, o1), (a2, o2), (a3, o3), (a4, o4), (a5, o5), (a6, o6), (a7, o7), (a8, o8), (a9, o9)] := by
  intro p hp
  simp only [List.mem_cons, List.not_mem_nil, or_false] at hp
  rcases hp with rfl | rfl | rfl | rfl | rfl | rfl | rfl | rfl | rfl
  · exact N _ h1
  · exact N _ h2
  · exact N _ h3
  · exact N _ h4
  · exact N _ h5
  · exact N _ h6
  · exact N _ h7
  · exact N _ h8
  · exact N _ h9
structure IsBoth (c cB : Ctr) : Prop where
  len : (kdpD cB).length = (kdpD (dblC c)).length
  rows : KeqRows (kdpD (dblC c)) (kdpD cB) true
theorem is_both {d : Six} {e f : EntD} {c : Ctr} (h : IsSums d e) (g : IsRests d f) (k : IsTab d c) : IsBoth c (mergeC e.c f.c) := ⟨(both_rows h g k).1, (both_rows h g k).2⟩
theorem hv_use36 {w : World} {mean : ExcName → Option Value} {mg mb : PySem.Str → Option Value} {x : Addr} {es : List EntD} {dp un : Nat} {gd : Option (List Code)} {cn : PySem.Str} {cs : Scope} {a : Addr} {ccd : Value} {cl : List (PySem.Str × Addr)} {outer : List Env} {A₀ : Around} {base h₀ : Heap} {L : Addr} {m : PySem.Str → Option Value} {news : List (Addr × Obj)} {s : Shared} {Q E : Value → Shared → Prop}
    (B : Below A₀ base outer h₀) (F : Fr h₀ L s.heap m) (X : (hd.heap_39 w.params).In h₀) (N : News h₀ L s.heap news) (T : Top hd.view_39 (looseW hd.view_39 []) mean mg mb h₀) (hk : cs.kind = .function)
    (ha : EntsAt w news x es) (he : es.length = 36 ∧ lenE es = 36) (hdp : dp + 39 < recursionLimit) (hu : un + 8 * 39 < cLine)
    (ret : ∀ r e tl h' tk', Fr h₀ L h' m → News h₀ L h' (news ++ tl) → (∀ q ∈ news, ∀ p ∈ tl, q.1 < p.1) → EntAt w (news ++ tl) r e → Halved es e → Q (.ref r) { s with heap := h', toks := tk' }) :
    wpAny (model PG w) (ktrTop dp un gd cn cs L a ccd cl outer) (call (.ref 68) [.ref x]) Q E s :=
  hvI_use B F X N T hk ha (hv_tells w mean mg mb es) (by rw [he.2]; decide) (by rw [he.1]; decide) (by rw [he.1]; exact hdp) (by rw [he.1]; exact hu) fun r e tl h' tk' F' N' ho h1 h2 _ => ret r e tl h' tk' F' N' ho h1 h2

end LS31
section TQ31
open PySem PySem.W PyProof.Rows PyProof.V PySem.Spec PySem.Calls
set_option maxRecDepth 100000
set_option maxHeartbeats 8000000
section
variable {prog : Program} {w : World} {A : Around} {E : Value → Shared → Prop} {s : Shared}
/-- the two items are equal, at this world -/
def EqW (prog : Program) (w : World) (A : Around) (s : Shared) (y x : Value) : Prop := ∀ (E : Value → Shared → Prop) (Q : Bool → Shared → Prop), Q true s → wpAny (model prog w) A (eqBool y x) Q E s

theorem zip_at {α : Type} {xs ys : Array α} (hsz : xs.size = ys.size) {i : Nat} {y x : α} {rest : List (α × α)} (hz : (y, x) :: rest = (xs.toList.zip ys.toList).drop i) :
    ∃ (h1 : i < xs.size) (h2 : i < ys.size), y = xs[i] ∧ x = ys[i] ∧ rest = (xs.toList.zip ys.toList).drop (i + 1) := by
  have hlt : i < (xs.toList.zip ys.toList).length := by
    rcases Nat.lt_or_ge i (xs.toList.zip ys.toList).length with h' | h'
    · exact h'
    · rw [List.drop_of_length_le h'] at hz; exact nomatch hz
  have hl : (xs.toList.zip ys.toList).length = xs.size := by simp [hsz]
  have h1 : i < xs.size := hl ▸ hlt
  rw [List.drop_eq_getElem_cons hlt, List.getElem_zip] at hz
  injection hz with e1 e2
  injection e1 with e3 e4
  exact ⟨h1, hsz ▸ h1, by simpa using e3, by simpa using e4, e2⟩

theorem tq_eqb {l b : Addr} {items items2 : Array Value} (hl : s.heap.IsTuple l items) (hb : s.heap.IsTuple b items2) (hsz : items.size = items2.size)
    (he : ∀ j (h1 : j < items.size) (h2 : j < items2.size), EqW prog w A s items[j] items2[j]) {Q : Value → Shared → Prop} (h : Q (.bool true) s) :
    wpAny (model prog w) A (Builtin.«tuple.__eq__» ⟨[.ref l, .ref b], []⟩) (fun fin s' => ∃ v, fin = .done (.ret v) ∧ Q v s') E s := by
  obtain ⟨⟨cls, dd, data, sl⟩, ho, hc, n, hd⟩ := id hl
  obtain ⟨⟨cls2, dd2, data2, sl2⟩, ho2, hc2, n2, hd2⟩ := id hb
  simp only at hc hd hc2 hd2
  subst hc hd hc2 hd2
  obtain ⟨hp, g, d, tk, os⟩ := s
  have f2 := AutoSeq1.sub_tuple_tuple
  wp_walk using AutoSeq1.wpAny_loadPart' ho, AutoSeq1.wpAny_loadPart' ho2, wpAny_forIn_list _ (fun rest b s' => b.1 = none ∧ s' = ⟨hp, g, d, tk, os⟩ ∧ ∃ i, rest = (items.toList.zip items2.toList).drop i) _
  case turn =>
    rintro ⟨y, x⟩ rest b s' ⟨hb', rfl, i, hz⟩
    obtain ⟨h1, h2, rfl, rfl, hr⟩ := zip_at hsz hz
    refine wpAny_bind (he i h1 h2 _ _ ?_)
    wp_walk
    exact ⟨rfl, rfl, i + 1, hr⟩
  case fin =>
    rintro ⟨b1, b2⟩ s' ⟨hb', rfl, _⟩
    simp only at hb'
    subst hb'
    wp_walk
    refine ⟨_, rfl, ?_⟩
    simpa [Builtin.Tuple.tupleCompareSizes, hsz] using h
  case h => exact ⟨rfl, rfl, 0, rfl⟩
theorem tq_neb {l b : Addr} {items items2 : Array Value} (hl : s.heap.IsTuple l items) (hb : s.heap.IsTuple b items2) (hsz : items.size = items2.size)
    (he : ∀ j (h1 : j < items.size) (h2 : j < items2.size), EqW prog w A s items[j] items2[j]) {Q : Value → Shared → Prop} (h : Q (.bool false) s) :
    wpAny (model prog w) A (Builtin.«tuple.__ne__» ⟨[.ref l, .ref b], []⟩) (fun fin s' => ∃ v, fin = .done (.ret v) ∧ Q v s') E s := by
  obtain ⟨⟨cls, dd, data, sl⟩, ho, hc, n, hd⟩ := id hl
  obtain ⟨⟨cls2, dd2, data2, sl2⟩, ho2, hc2, n2, hd2⟩ := id hb
  simp only at hc hd hc2 hd2
  subst hc hd hc2 hd2
  obtain ⟨hp, g, d, tk, os⟩ := s
  have f2 := AutoSeq1.sub_tuple_tuple
  wp_walk using AutoSeq1.wpAny_loadPart' ho, AutoSeq1.wpAny_loadPart' ho2, wpAny_forIn_list _ (fun rest b s' => b.1 = none ∧ s' = ⟨hp, g, d, tk, os⟩ ∧ ∃ i, rest = (items.toList.zip items2.toList).drop i) _
  case turn =>
    rintro ⟨y, x⟩ rest b s' ⟨hb', rfl, i, hz⟩
    obtain ⟨h1, h2, rfl, rfl, hr⟩ := zip_at hsz hz
    refine wpAny_bind (he i h1 h2 _ _ ?_)
    wp_walk
    exact ⟨rfl, rfl, i + 1, hr⟩
  case fin =>
    rintro ⟨b1, b2⟩ s' ⟨hb', rfl, _⟩
    simp only at hb'
    subst hb'
    wp_walk
    refine ⟨_, rfl, ?_⟩
    simpa [Builtin.Tuple.tupleCompareSizes, hsz] using h
  case h => exact ⟨rfl, rfl, 0, rfl⟩
theorem tq_eq {l b : Addr} {items items2 : Array Value} (hl : s.heap.IsTuple l items) (hb : s.heap.IsTuple b items2) (hsz : items.size = items2.size) (hu : A.units < cLine)
    (he : ∀ j (h1 : j < items.size) (h2 : j < items2.size), EqW prog w A.in1 s items[j] items2[j]) {Q : Value → Shared → Prop} (h : Q (.bool true) s) :
    wpAny (model prog w) A (compareOp .Eq (.ref l) (.ref b)) Q E s := by
  have tl : s.TypeIs (.ref l) "tuple" := by obtain ⟨o, ho, hc, _⟩ := id hl; exact ⟨o, ho, hc⟩
  have tb : s.TypeIs (.ref b) "tuple" := by obtain ⟨o, ho, hc, _⟩ := id hb; exact ⟨o, ho, hc⟩
  exact wpAny_richCompare_same_room (op := .Eq) tl tb F.slot_tuple_eq (wpAny_call_entry F.slot_tuple_eq tl F.entry_tuple_eq (tq_eqb (Q := fun v s' => v ≠ .notImplemented ∧ Q v s') hl hb hsz he ⟨(fun x => nomatch x), h⟩) (F.args_tuple_eq_2 _ _)) hu
theorem tq_ne {l b : Addr} {items items2 : Array Value} (hl : s.heap.IsTuple l items) (hb : s.heap.IsTuple b items2) (hsz : items.size = items2.size) (hu : A.units < cLine)
    (he : ∀ j (h1 : j < items.size) (h2 : j < items2.size), EqW prog w A.in1 s items[j] items2[j]) {Q : Value → Shared → Prop} (h : Q (.bool false) s) :
    wpAny (model prog w) A (compareOp .NotEq (.ref l) (.ref b)) Q E s := by
  have tl : s.TypeIs (.ref l) "tuple" := by obtain ⟨o, ho, hc, _⟩ := id hl; exact ⟨o, ho, hc⟩
  have tb : s.TypeIs (.ref b) "tuple" := by obtain ⟨o, ho, hc, _⟩ := id hb; exact ⟨o, ho, hc⟩
  exact wpAny_richCompare_same_room (op := .NotEq) tl tb F.slot_tuple_ne (wpAny_call_entry F.slot_tuple_ne tl F.entry_tuple_ne (tq_neb (Q := fun v s' => v ≠ .notImplemented ∧ Q v s') hl hb hsz he ⟨(fun x => nomatch x), h⟩) (F.args_tuple_ne_2 _ _)) hu
/-- two counters on the ledger compare equal -/
theorem cq_eq {h₀ : Heap} {L : Addr} {news : List (Addr × Obj)} {a b : Addr} {oa ob : Obj} {c d : List (PySem.Str × Int)} {Q : Value → Shared → Prop}
    (N : News h₀ L s.heap news) (pa : (a, oa) ∈ news) (pb : (b, ob) ∈ news) (la : (a == sysModules) = false) (lb : (b == sysModules) = false) (ca : IsC prog w oa c) (cb : IsC prog w ob d)
    (hl : (kdpD c).length = (kdpD d).length) (rows : KeqRows (kdpD d) (kdpD c) true) (hu : A.units < cLine) (h : Q (.bool true) s) :
    wpAny (model prog w) A (compareOp .Eq (.ref a) (.ref b)) Q E s := by
  obtain ⟨ka, da, fa⟩ := ca
  obtain ⟨kb, db, fb⟩ := cb
  refine keq_tabs (knd := PySem.strKind prog w) (enc := PyData.str) PyProof.V.same_str ⟨la, ka, Heap.dictOf_iff.mpr ⟨oa, (N _ pa).1, da⟩, fa⟩ ⟨lb, kb, Heap.dictOf_iff.mpr ⟨ob, (N _ pb).1, db⟩, fb⟩ hl hu rows h
theorem eqw_int (n : Int) (t u : Tok) : EqW prog w A s (.int n t) (.int n u) := fun E Q h => wpAny_eqBool_int (by simpa using h)
theorem eqw_tab {h₀ : Heap} {L : Addr} {news : List (Addr × Obj)} {a b : Addr} {oa ob : Obj} {c d : List (PySem.Str × Int)}
    (N : News h₀ L s.heap news) (pa : (a, oa) ∈ news) (pb : (b, ob) ∈ news) (la : (a == sysModules) = false) (lb : (b == sysModules) = false) (ca : IsC prog w oa c) (cb : IsC prog w ob d)
    (hl : (kdpD c).length = (kdpD d).length) (rows : KeqRows (kdpD d) (kdpD c) true) (hu : A.units < cLine) : EqW prog w A s (.ref a) (.ref b) := fun E Q h => by
  unfold eqBool
  refine wpAny_holding (wpAny_ite_split (fun _ => wpAny_bind (wpAny_rule (wpAny_pure h))) (fun _ => ?_))
  exact wpAny_bind (cq_eq (A := A) (E := E) N pa pb la lb ca cb hl rows hu (wpAny_truthy_bool h))
/-- the entry on the ledger is the tuple of these five -/
theorem five_eqw {t1 t2 t3 t4 u1 u2 u3 u4 : Tok} {n1 n2 n3 n4 : Int} {x y : Value} (h5 : EqW prog w A s x y) (items items2 : Array Value)
    (e1 : items = #[.int n1 t1, .int n2 t2, .int n3 t3, .int n4 t4, x]) (e2 : items2 = #[.int n1 u1, .int n2 u2, .int n3 u3, .int n4 u4, y]) :
    ∀ j (h1 : j < items.size) (h2 : j < items2.size), EqW prog w A s items[j] items2[j] := by
  subst e1 e2
  intro j h1 h2
  match j, h1, h2 with
  | 0, _, _ => exact eqw_int _ _ _
  | 1, _, _ => exact eqw_int _ _ _
  | 2, _, _ => exact eqw_int _ _ _
  | 3, _, _ => exact eqw_int _ _ _
  | 4, _, _ => exact h5
  | n + 5, h1, _ => exact absurd h1 (by simp)
end

end TQ31
section TE31
open PySem PySem.W PyProof.Rows PyProof.V PyProof.Rows.LCg
set_option maxRecDepth 100000
set_option maxHeartbeats 1000000
section
variable {w : World} {A : Around} {E : Value → Shared → Prop} {s : Shared} {h₀ : Heap} {L : Addr} {news : List (Addr × Obj)} {a b da db : Addr} {oA oB oda odb : Obj} {e : EntD} {d : Six} {c : Ctr} {Q : Value → Shared → Prop}
theorem units_le {A : Around} (h : A.in1.units + 64 < cLine) : A.units < cLine := by
  rw [units_in1] at h
  omega
theorem ent_eqw (N : News h₀ L s.heap news) (m1 : (a, oA) ∈ news) (m2 : (b, oB) ∈ news) (hA : EntO oA e da) (hB : EntO oB (dueE d c) db) (ma : (da, oda) ∈ news) (mb : (db, odb) ∈ news) (ca : IsC PG w oda e.c) (cb : IsC PG w odb c)
    (la : (da == sysModules) = false) (lb : (db == sysModules) = false) (M : Match e d c) (hu : A.units < cLine) :
    ∃ items items2, s.heap.IsTuple a items ∧ s.heap.IsTuple b items2 ∧ items.size = items2.size ∧ ∀ j (h1 : j < items.size) (h2 : j < items2.size), EqW PG w A s items[j] items2[j] := by
  obtain ⟨t1, t2, t3, t4, hT⟩ := hA.tup N m1
  obtain ⟨u1, u2, u3, u4, hU⟩ := hB.tup N m2
  refine ⟨_, _, hT, hU, rfl, five_eqw (eqw_tab N ma mb la lb ca cb M.len M.rows hu) _ _ (n1 := 36) (n2 := lettersC c) (n3 := (dueE d c).tt) (n4 := (dueE d c).ct) (by rw [M.cc, M.nc, M.tt, M.ct]; rfl) rfl⟩
theorem ent_ne (N : News h₀ L s.heap news) (m1 : (a, oA) ∈ news) (m2 : (b, oB) ∈ news) (hA : EntO oA e da) (hB : EntO oB (dueE d c) db) (ma : (da, oda) ∈ news) (mb : (db, odb) ∈ news) (ca : IsC PG w oda e.c) (cb : IsC PG w odb c)
    (la : (da == sysModules) = false) (lb : (db == sysModules) = false) (M : Match e d c) (hu : A.in1.units + 64 < cLine) (h : Q (.bool false) s) :
    wpAny (model PG w) A (compareOp .NotEq (.ref a) (.ref b)) Q E s := by
  obtain ⟨i1, i2, h1, h2, h3, h4⟩ := ent_eqw (A := A.in1) N m1 m2 hA hB ma mb ca cb la lb M (by omega)
  exact tq_ne h1 h2 h3 (units_le hu) h4 h
theorem ent_eq (N : News h₀ L s.heap news) (m1 : (a, oA) ∈ news) (m2 : (b, oB) ∈ news) (hA : EntO oA e da) (hB : EntO oB (dueE d c) db) (ma : (da, oda) ∈ news) (mb : (db, odb) ∈ news) (ca : IsC PG w oda e.c) (cb : IsC PG w odb c)
    (la : (da == sysModules) = false) (lb : (db == sysModules) = false) (M : Match e d c) (hu : A.in1.units + 64 < cLine) (h : Q (.bool true) s) :
    wpAny (model PG w) A (compareOp .Eq (.ref a) (.ref b)) Q E s := by
  obtain ⟨i1, i2, h1, h2, h3, h4⟩ := ent_eqw (A := A.in1) N m1 m2 hA hB ma mb ca cb la lb M (by omega)
  exact tq_eq h1 h2 h3 (units_le hu) h4 h
end

end TE31
section DC31
open PySem PySem.W PyProof.Rows PyProof.V PySem.Spec PyProof.Rows.LCg
set_option maxRecDepth 100000
set_option maxHeartbeats 8000000
abbrev dcO : Obj := { cls := .type "dict", dict := none, data := .dict #[] }
section
variable {prog : Program} {w : World} {A : Around} {E : Value → Shared → Prop} {s : Shared} {h₀ : Heap} {L : Addr} {m : PySem.Str → Option Value} {R : Result → Shared → Prop} {news : List (Addr × Obj)} {Q : Value → Shared → Prop}

def KeyEnd (s : Shared) (k : PySem.Str) (y : Value) (s' : Shared) : Prop := (∃ t, y = .str k t) ∧ Keeps s s'
def ValEnd (s : Shared) (n : Int) (y : Value) (s' : Shared) : Prop := (∃ t, y = .int n t) ∧ Keeps s s'

theorem fr_buts {h h' : Heap} {X : Addr → Prop} (F : Fr h₀ L h m) (hk : ∀ b o, ¬ X b → h.get? b = some o → h'.get? b = some o) (hL : ¬ X L) (hI : ∀ b, X b → h₀.get? b = none) : Fr h₀ L h' m :=
  ⟨F.ns.at' fun o e => hk L o hL e, fun b o e => hk b o (fun hm => by rw [hI b hm] at e; cases e) (F.keep b o e), F.above⟩
theorem news_buts {h h' : Heap} {X : Addr → Prop} (N : News h₀ L h news) (hk : ∀ b o, ¬ X b → h.get? b = some o → h'.get? b = some o) (off : ∀ p ∈ news, ¬ X p.1) : News h₀ L h' news :=
  fun p hp => ⟨hk _ _ (off p hp) (N p hp).1, (N p hp).2⟩

/-- the doubled counter comes out of the stores -/
theorem dbl_stored {c : List (PySem.Str × Int)} (hn : NdC c) {vs : List Value} {kvs : List (PySem.Str × Value)}
    (x : StoredAll (fun (v : Value) (k : PySem.Str) => ∃ t, v = Value.str k t) (fun (v y : Value) => ∃ k n t t', (k, n) ∈ c ∧ v = Value.str k t ∧ y = Value.int (2 * n) t') vs kvs) :
    (∀ (j : Nat) (v : Value), vs[j]? = some v → ∃ k n t, c[j]? = some (k, n) ∧ v = Value.str k t) → FlatPairs PyData.str kvs (kdpD (dblC (c.take vs.length))) := by
  induction x with
  | nil => intro _; exact .nil
  | @snoc l kvs v k y _ hk hy ih =>
    intro hP
    have ih' := ih fun j u hj => hP j u (by
      have : j < l.length := (List.getElem?_eq_some_iff.mp hj).1
      rwa [List.getElem?_append_left this])
    obtain ⟨t, rfl⟩ := hk
    obtain ⟨k1, n, t1, t2, hmem, ev, rfl⟩ := hy
    injection ev with ek et
    subst ek
    obtain ⟨k2, n2, t3, hc, ev2⟩ := hP l.length (.str k t) (by simp)
    injection ev2 with ek2 _
    subst ek2
    have hlt : l.length < c.length := (List.getElem?_eq_some_iff.mp hc).1
    have hn2 : n2 = n := by
      have hm2 : (k, n2) ∈ c := List.mem_of_getElem? hc
      have : ∀ c' : List (PySem.Str × Int), NdC c' → (k, n2) ∈ c' → (k, n) ∈ c' → n2 = n := by
        intro c'
        induction c' with
        | nil => intro _ h; exact nomatch h
        | cons q r ih2 =>
          intro h1 h2 h3
          have h1' := List.nodup_cons.mp (show (q.1 :: r.map (·.1)).Nodup from h1)
          rcases List.mem_cons.mp h2 with e2 | h2 <;> rcases List.mem_cons.mp h3 with e3 | h3
          · exact congrArg Prod.snd (e2.trans e3.symm)
          · exact absurd (List.mem_map.mpr ⟨_, h3, rfl⟩) (by rw [← e2] at h1'; exact h1'.1)
          · exact absurd (List.mem_map.mpr ⟨_, h2, rfl⟩) (by rw [← e3] at h1'; exact h1'.1)
          · exact ih2 h1'.2 h2 h3
      exact this c hn hm2 hmem
    subst hn2
    have hs := PyProof.V.FlatPairs.stored PyProof.V.same_str ih' k (PyProof.V.Flat.int (2 * n2) t2)
    rw [kdpD_put] at hs
    have htk : c.take (l ++ [Value.str k t]).length = c.take l.length ++ [(k, n2)] := by
      rw [List.length_append, List.length_singleton, List.take_succ, hc]; rfl
    rw [htk]
    have hno : kdpHas (dblC (c.take l.length)) k = false := by
      rw [dbl_has]
      cases h : kdpHas (c.take l.length) k with
      | false => rfl
      | true =>
        have h2 := (has_iff _ _).mp h
        have h3 : NdC (c.take l.length ++ [(k, n2)]) := by
          rw [← htk]
          exact List.Nodup.sublist ((List.take_sublist _ _).map _) hn
        unfold NdC at h3
        rw [List.map_append] at h3
        exact absurd rfl ((List.nodup_append.mp h3).2.2 _ h2 k (by simp))
    rw [put_new hno] at hs
    have e : dblC (c.take l.length ++ [(k, n2)]) = dblC (c.take l.length) ++ [(k, 2 * n2)] := by simp [dblC]
    rw [e]
    exact hs

theorem dc_block {kx vx iter : Expr} {x : PySem.Str} {px : Pos} {scope : Scope} {cl : List (PySem.Str × Addr)} {pos : Pos} {env : Env} {I : Addr} {c : List (PySem.Str × Int)} {RR : Value → Addr → Result → Shared → Prop}
    (F : Fr h₀ L s.heap m) (N : News h₀ L s.heap news) (S : Src prog w A h₀ L I c.length (fun i v => ∃ k n t, c[i]? = some (k, n) ∧ v = .str k t) news s.heap)
    (hcell : ∀ y ∈ scope.names, y.2 ≠ .cell) (hkind : scope.kind = .function) (hx : scope.names.lookup x = some .local) (hn : NdC c) (hcl : c.length ≤ 16777216)
    (hkey : ∀ C oC k n t s₃ m₃ E', (k, n) ∈ c → NsObj oC m₃ → m₃ x = some (.str k t) → Fr h₀ L s₃.heap m → News h₀ L s₃.heap ((C, oC) :: news) →
      wpAny (model prog w) A (eval kx (compEnvC scope cl C env)) (KeyEnd s₃ k) E' s₃)
    (hval : ∀ C oC k n t s₃ m₃ E', (k, n) ∈ c → NsObj oC m₃ → m₃ x = some (.str k t) → Fr h₀ L s₃.heap m → News h₀ L s₃.heap ((C, oC) :: news) →
      wpAny (model prog w) A (eval vx (compEnvC scope cl C env)) (ValEnd s₃ (2 * n)) E' s₃)
    (hRR : ∀ D C h' tk m' kvs, s.heap.objs.size ≤ D → Plc h₀ L C D news → Fr h₀ L h' m → News h₀ L h' news → h'.Ns C m' → h'.DictOf (PySem.strKind prog w) D kvs → FlatPairs PyData.str kvs (kdpD (dblC c)) →
      RR (.ref D) C (.ok .next) { s with heap := h', toks := tk }) :
    wpAny (model prog w) A newDict (fun acc s₃ => wpAny (model prog w) A (newFunctionEnv scope env.globals cl [] env.qual none .none (some env)) (fun cenv s₄ =>
      codeAny (model prog w) A (.compStart (.DictComp kx vx [⟨.Name x px, iter, [], 0⟩] scope pos) 0 (.ref I) acc { cenv with scope := relabel scope env }) (RR acc cenv.locals) s₄) E s₃) E s := by
  refine wpAny_newObj_type (wpAny_newFunctionEnv hcell (by intro y hy; simp at hy) (fun h₁ hns₁ hsb₁ => ?_) hkind)
  dsimp only at hns₁ hsb₁ ⊢
  have hnew : (s.heap.push { cls := .type "dict", dict := none, data := .dict #[] }).DictOf (PySem.strKind prog w) s.heap.objs.size [] := Heap.DictOf.new s.heap
  generalize hH2 : s.heap.push { cls := .type "dict", dict := none, data := .dict #[] } = H2 at hns₁ hsb₁ hnew ⊢
  have hC : H2.objs.size = s.heap.objs.size + 1 := by rw [← hH2, Heap.size_push]
  have hDC : s.heap.objs.size ≠ H2.objs.size := by rw [hC]; exact Nat.ne_of_lt (Nat.lt_succ_self _)
  have below : ∀ b, b < s.heap.objs.size → b ≠ H2.objs.size ∧ b ≠ s.heap.objs.size := fun b hb => ⟨by rw [hC]; exact Nat.ne_of_lt (Nat.lt_succ_of_lt hb), Nat.ne_of_lt hb⟩
  obtain ⟨fp, St, keep, W, hIo, hSt, hst, hfp, hk, hIL, hI0, hoff⟩ := S
  obtain ⟨oI, heI⟩ := hIo _ _ hst
  have hIlt : I < s.heap.objs.size := Heap.lt_size heI
  have old : ∀ b o, s.heap.get? b = some o → h₁.get? b = some o := fun b o e => hsb₁.extBut b o (below b (Heap.lt_size e)).1 (Heap.get?_push_of_some _ (hH2 ▸ Heap.get?_push_of_some _ e))
  have hacc : h₁.DictOf (PySem.strKind prog w) s.heap.objs.size [] := hnew.at fun o e => hsb₁.extBut _ _ hDC (Heap.get?_push_of_some _ e)
  have fresh₀ : ∀ a, s.heap.objs.size ≤ a → h₀.get? a = none := fun a ha => by
    cases e : h₀.get? a with
    | none => rfl
    | some o' => exact absurd (Heap.lt_size (F.keep a o' e)) (Nat.not_lt.mpr ha)
  have hLlt : L < s.heap.objs.size := F.ns.lt
  have pl : Plc h₀ L H2.objs.size s.heap.objs.size news := ⟨Ne.symm hDC, Ne.symm (below L hLlt).1, Ne.symm (below L hLlt).2, fresh₀ _ (by rw [hC]; exact Nat.le_succ _), fresh₀ _ (Nat.le_refl _), fun p hp => below _ (Heap.lt_size (N p hp).1), fun p hp => Heap.lt_size (N p hp).1⟩
  have hCI : H2.objs.size ≠ I := Ne.symm (below I hIlt).1
  have hDI : s.heap.objs.size ≠ I := Ne.symm (below I hIlt).2
  have hCf : H2.objs.size ∉ fp := Src.offFp (P := fun _ _ => True) (n := 0) (C := 0) (D := 0) hfp hk pl.c0 hCI fun p hp => (pl.off p hp).1
  have hDf : s.heap.objs.size ∉ fp := Src.offFp (P := fun _ _ => True) (n := 0) (C := 0) (D := 0) hfp hk pl.d0 hDI fun p hp => (pl.off p hp).2
  have hst₁ : St 0 h₁ := W.frame _ _ _ hst fun b _ o e => old b o e
  have X0 : ∀ b, (b = H2.objs.size ∨ b = I ∨ b = s.heap.objs.size) → h₀.get? b = none := by
    rintro b (rfl | rfl | rfl)
    · exact pl.c0
    · exact hI0
    · exact pl.d0
  have XL : ¬ (L = H2.objs.size ∨ L = I ∨ L = s.heap.objs.size) := by
    rintro (e | e | e)
    · exact pl.cl e.symm
    · exact hIL e
    · exact pl.dl e.symm
  have XN : ∀ p ∈ news, ¬ (p.1 = H2.objs.size ∨ p.1 = I ∨ p.1 = s.heap.objs.size) := by
    rintro p hp (e | e | e)
    · exact (pl.off p hp).1 e
    · exact hoff p hp e
    · exact (pl.off p hp).2 e
  have FN : ∀ h' : Heap, (∀ b o, b ≠ H2.objs.size → b ∉ [I] → b ≠ s.heap.objs.size → h₁.get? b = some o → h'.get? b = some o) → Fr h₀ L h' m ∧ News h₀ L h' news := fun h' hk' => by
    have hk2 : ∀ b o, ¬ (b = H2.objs.size ∨ b = I ∨ b = s.heap.objs.size) → h₁.get? b = some o → h'.get? b = some o := fun b o hb e =>
      hk' b o (fun x => hb (.inl x)) (fun x => hb (.inr (.inl (List.mem_singleton.mp x)))) (fun x => hb (.inr (.inr x))) e
    exact ⟨fr_buts (F.keeps old) hk2 XL X0, news_buts (N.grown old) hk2 XN⟩
  have loop : ∀ s₃ : Shared, s₃ = { s with heap := h₁, toks := s.toks + ([] : List (PySem.Str × Value)).length } →
      codeAny (model prog w) A (.compLoop (.DictComp kx vx [⟨.Name x px, iter, [], 0⟩] scope pos) 0 (.ref I) (.ref s.heap.objs.size) (compEnvC scope cl H2.objs.size env)) (RR (.ref s.heap.objs.size) H2.objs.size) s₃ := by
    rintro s₃ rfl
    refine codeAny_compLoop_walkD (hsz := by rw [sizeLine_eq]; exact hcl) (knd := PySem.strKind prog w) (cenv := compEnvC scope cl H2.objs.size env) W (fun _ => true) (fun (v : Value) (k : PySem.Str) => ∃ t, v = Value.str k t) (fun (v y : Value) => ∃ k n t t', (k, n) ∈ c ∧ v = Value.str k t ∧ y = Value.int (2 * n) t')
      (lookup_relabel_local hx) (by simp [compEnvC, relabel, hkind]) hDC hDf hCf hst₁ hacc hns₁ ?_ ?_ ?_ ?_
    · intro i v s₂ m₂ _ _ _ _
      exact wpAny_pure ⟨rfl, _, _, rfl, fun _ _ e => e⟩
    · rintro i v s₂ m₂ ⟨k, n, t, hc, rfl⟩ _ hns hm hkk
      obtain ⟨F₂, N₂⟩ := FN s₂.heap hkk
      obtain ⟨oC, heC, hoC⟩ := ns_obj hns
      refine wpAny_mono (hkey H2.objs.size oC k n t s₂ m₂ _ (List.mem_of_getElem? hc) hoC hm F₂ (fun p hp => ?_)) (fun y s₃ hy => ?_) fun _ _ e => e
      · rcases List.mem_cons.mp hp with rfl | hp
        · exact ⟨heC, pl.cl, pl.c0⟩
        · exact N₂ p hp
      · obtain ⟨⟨t', rfl⟩, hkp⟩ := hy
        exact ⟨⟨k, strKind_is _ _ _ _, t, rfl⟩, hkp⟩
    · rintro i v s₂ m₂ ⟨k, n, t, hc, rfl⟩ _ hns hm hkk
      obtain ⟨F₂, N₂⟩ := FN s₂.heap hkk
      obtain ⟨oC, heC, hoC⟩ := ns_obj hns
      refine wpAny_mono (hval H2.objs.size oC k n t s₂ m₂ _ (List.mem_of_getElem? hc) hoC hm F₂ (fun p hp => ?_)) (fun y s₃ hy => ?_) fun _ _ e => e
      · rcases List.mem_cons.mp hp with rfl | hp
        · exact ⟨heC, pl.cl, pl.c0⟩
        · exact N₂ p hp
      · obtain ⟨⟨t', rfl⟩, hkp⟩ := hy
        exact ⟨⟨k, n, t, t', List.mem_of_getElem? hc, rfl, rfl⟩, hkp⟩
    · intro h' tk m' kvs vs hn' ha hlen hP hF hkk
      obtain ⟨F₂, N₂⟩ := FN h' hkk
      have hf : vs.filter (fun _ => true) = vs := by simp
      rw [hf] at hF
      have hfl := dbl_stored hn hF hP
      rw [hlen, List.take_length] at hfl
      exact hRR _ _ h' tk m' kvs (Nat.le_refl _) pl F₂ N₂ hn' ha hfl
  exact codeAny_compStart_dict (loop _ rfl) (W.self 0 _ _ _ hst₁ (loop _ rfl))

theorem dc_expr {env : Env} {kx vx iter : Expr} {x : PySem.Str} {px : Pos} {scope : Scope} {cl : List (PySem.Str × Addr)} {pos : Pos} {c : List (PySem.Str × Int)} {d : Addr} {od : Obj}
    (F₀ : Fr h₀ L s.heap m) (N₀ : News h₀ L s.heap news) (hh : A.handled = none) (hbig : h₀.NoLimit) (hclos : closureFor scope env = pure cl) (hcell : ∀ y ∈ scope.names, y.2 ≠ .cell) (hkind : scope.kind = .function)
    (hnames : ∀ y ∈ scope.names, y.2 = .local → scope.names.lookup y.1 = some .local) (hx : scope.names.lookup x = some .local)
    (hn : NdC c) (hcl : c.length ≤ 16777216) (hm : (d, od) ∈ news) (hC : IsC prog w od c) (lo : (d == sysModules) = false)
    (hkey : ∀ C oC k n t s₃ m₃ E', (k, n) ∈ c → NsObj oC m₃ → m₃ x = some (.str k t) → Fr h₀ L s₃.heap m → News h₀ L s₃.heap ((C, oC) :: news) →
      wpAny (model prog w) A (eval kx (compEnvC scope cl C env)) (KeyEnd s₃ k) E' s₃)
    (hval : ∀ C oC k n t s₃ m₃ E', (k, n) ∈ c → NsObj oC m₃ → m₃ x = some (.str k t) → Fr h₀ L s₃.heap m → News h₀ L s₃.heap ((C, oC) :: news) →
      wpAny (model prog w) A (eval vx (compEnvC scope cl C env)) (ValEnd s₃ (2 * n)) E' s₃)
    (h : wpAny (model prog w) A (eval iter env) (fun xv s₁ => xv = .ref d ∧ Fr h₀ L s₁.heap m ∧ News h₀ L s₁.heap news ∧
      ∀ D oD h' tk, Fr h₀ L h' m → News h₀ L h' ((D, oD) :: news) → IsC prog w oD (dblC c) → (D == sysModules) = false → Q (.ref D) { s₁ with heap := h', toks := tk }) E s)
    (hs : ∀ x, foldedSetIterable iter env x = pure x := by intro _; rfl) :
    wpAny (model prog w) A (eval (.DictComp kx vx [⟨.Name x px, iter, [], 0⟩] scope pos) env) Q E s := by
  rw [arm_eval_DictComp]
  refine wpAny_comprehension_free (use := none) rfl hs hclos hkind hnames (wpAny_mono h (fun xv s₁ h₁ => ?_) fun _ _ e => e)
  obtain ⟨rfl, F, N, fin⟩ := h₁
  refine src_keys hh F N hm hC lo fun I h2 F2 N2 S hle hk2 => ?_
  refine dc_block (s := { s₁ with heap := h2 }) (RR := fun acc C => compPost (model prog w) A E none Q acc C) F2 N2 S hcell hkind hx hn hcl hkey hval ?_
  intro D C h' tk m' kvs hDle pl F' N' hns hD hfl
  refine ⟨m', hns, fun h'' hs'' => ?_⟩
  obtain ⟨oD, hoD, hdD⟩ := Heap.dictOf_iff.mp hD
  refine fin D oD h'' tk (F'.change hs'' pl.cl pl.c0) (fun p hp => ?_) ⟨kvs, hdD, hfl⟩ ?_
  · rcases List.mem_cons.mp hp with rfl | hp
    · exact ⟨hs''.extBut _ _ (Ne.symm pl.cd) hoD, pl.dl, pl.d0⟩
    · exact ⟨hs''.extBut _ _ (pl.off p hp).1 (N' p hp).1, (N' p hp).2⟩
  · have h1 := modules_low hbig
    have h2 : h₀.objs.size ≤ D := Nat.le_trans (Nat.le_of_lt (Nat.lt_of_le_of_lt F2.above F2.ns.lt)) hDle
    exact beq_eq_false_iff_ne.mpr (Nat.ne_of_gt (Nat.lt_of_lt_of_le h1 h2))
end

end DC31
section Law
open PySem PySem.W PyProof.Rows PyProof.V PyProof.Rows.LCg
set_option maxRecDepth 100000
set_option maxHeartbeats 8000000
theorem pickL {h₀ h : Heap} {L : Addr} {l : List (Addr × Obj)} {cT cS Da Db r : Addr} {wT oS oa ob oT : Obj} (N : News h₀ L h l) (h1 : (cT, wT) ∈ l) (h2 : (cS, oS) ∈ l) (h3 : (Da, oa) ∈ l) (h4 : (Db, ob) ∈ l) (h5 : (r, oT) ∈ l) : News h₀ L h [(cT, wT), (cS, oS), (Da, oa), (Db, ob), (r, oT)] := by
  intro p hp
  simp only [List.mem_cons, List.not_mem_nil, or_false] at hp
  rcases hp with rfl | rfl | rfl | rfl | rfl
  · exact N _ h1
  · exact N _ h2
  · exact N _ h3
  · exact N _ h4
  · exact N _ h5
theorem dict_ne_cell {h₀ h : Heap} {L : Addr} {l : List (Addr × Obj)} {w : World} {c r : Addr} {o oT : Obj} {x : Option Value} {t : Ctr} (N : News h₀ L h l) (h1 : (c, o) ∈ l) (h2 : (r, oT) ∈ l) (dc : o.data = .cell x) (hC : IsC PG w oT t) : c ≠ r := by
  intro e
  subst e
  have e1 := (N _ h1).1
  have e2 := (N _ h2).1
  dsimp only at e1 e2
  rw [e1] at e2
  have e3 := Option.some.inj e2
  obtain ⟨kvs, ⟨es, ep, _, hdd, _⟩, _⟩ := hC
  rw [← e3, dc] at hdd
  exact nomatch hdd
theorem data_ne {h₀ h : Heap} {L : Addr} {l : List (Addr × Obj)} {a b : Addr} {o o' : Obj} (N : News h₀ L h l) (h1 : (a, o) ∈ l) (h2 : (b, o') ∈ l) (hd : o.data ≠ o'.data) : a ≠ b := by
  intro e
  subst e
  have e1 := (N _ h1).1
  have e2 := (N _ h2).1
  dsimp only at e1 e2
  rw [e1] at e2
  exact hd (by rw [Option.some.inj e2])
theorem law_holds : PySem.Challenge.rw_pg0031_01.Holds := hd (by
  k_go0
  all_goals try k_fold
  (repeat' (first | (k_unfold; (try dsimp only)) | ((fail_if_success (with_reducible show wpAny _ _ (call (Value.ref 73) _) _ _ _)); (fail_if_success (with_reducible show wpAny _ _ (PySem.exec (PySem.Stmt.For _ _ _ _ _) _) _ _ _)); first | walk1 | (dsimp only; walk1) | (leave1; try dsimp only))))
  rename List Int => sc
  rename IntsAre _ (List.take 3 _) => hI1
  rename IntsAre _ (List.drop 3 _) => hI2
  rename Fr _ _ _ _ => F
  rename News _ _ _ _ => N
  obtain ⟨d, hd6, e6⟩ := cells6 sc
  rw [e6] at hI1 hI2
  obtain ⟨t1, t2, t3, rfl⟩ := iv3 (show IV _ [d.x, d.y, d.z] from hI1)
  obtain ⟨t4, t5, t6, rfl⟩ := iv3 (show IV _ [d.u, d.v, d.t] from hI2)
  rename_i Da _ _ _ la Db _ _ _ lb Dt _ lt _ _ _ oS dS
  rename _ = Data.cell (bindC _ _ _ _) => dS0
  clear dS0
  rename _ = Data.cell (bindC _ _ _ _) => dT0
  rename Shared => s1
  (show wpAny (model PG _) (ktrTop _ _ _ _ _ _ _ _ _ _) (call (Value.ref 73) [Value.ref _, Value.ref _]) _ _ _)
  refine' gp_use (d := d) ?k1 F ?k3 N ?k5 rfl ?h1 ?h2 ?kd ?ku ?_
  case k1 => k_asm
  case k3 => k_asm
  case k5 => k_asm
  case h1 => exact ⟨_, _, _, _, by k_mem⟩
  case h2 => exact ⟨_, _, _, _, by k_mem⟩
  case kd => ktr_room
  case ku => ktr_units
  intro r9 tl9 h9 tk9 F9 N9 hl9 hr9
  clear F N
  simp only [List.cons_append, List.nil_append] at N9 hr9
  (repeat' (first | (k_unfold; (try dsimp only)) | ((fail_if_success (with_reducible show wpAny _ _ (call (Value.ref _) _) _ _ _)); (fail_if_success (with_reducible show wpAny _ _ (PySem.eval (PySem.Expr.ListComp _ _ _ _) _) _ _ _)); (fail_if_success (with_reducible show wpAny _ _ (PySem.eval (PySem.Expr.DictComp _ _ _ _ _) _) _ _ _)); first | walk1 | (dsimp only; walk1) | (leave1; try dsimp only))))
  rename Fr _ _ _ _ => F
  rename News _ _ _ _ => N
  (show wpAny (model PG _) (ktrTop _ _ _ _ _ _ _ _ _ _) (call (Value.ref 85) [Value.ref _]) _ _ _)
  refine' tb_use (l := gapsL d) ?k1 F ?k3 N ?k5 rfl hr9 (gaps_bnd hd6) ?kd ?ku ?_
  ((case k1 => k_asm); (case k3 => k_asm); (case k5 => k_asm); (case kd => ktr_room); (case ku => ktr_units))
  intro r8 tl8 h8 tk8 F8 N8 hl8 hr8
  clear F N
  simp only [List.cons_append] at N8 hr8
  obtain ⟨⟨oT, hmT, hCT⟩, loT⟩ := hr8
  have Nc := pickL N8 (cT := s1.heap.objs.size + 1 + 1) (cS := s1.heap.objs.size + 1) (Da := Da) (Db := Db) (by k_mem) (by k_mem) (by k_mem) (by k_mem) hmT
  have nr1 := dict_ne_cell Nc List.mem_cons_self (by k_mem) dT0 hCT
  have nr2 := dict_ne_cell Nc (List.mem_cons_of_mem _ List.mem_cons_self) (by k_mem) dS hCT
  obtain ⟨cT, hcT⟩ : ∃ c, IsTab d c := ⟨_, ⟨rfl⟩⟩
  rw [← hcT.eq] at hCT
  obtain ⟨kvsT, hdT, hfT⟩ := hCT
  clear N8 hl8 hl9 hr9 hmT
  (repeat' (first | (k_unfold; (try dsimp only)) | ((fail_if_success (with_reducible show wpAny _ _ (call (Value.ref _) _) _ _ _)); (fail_if_success (with_reducible show wpAny _ _ (PySem.eval (PySem.Expr.ListComp _ _ _ _) _) _ _ _)); (fail_if_success (with_reducible show wpAny _ _ (PySem.eval (PySem.Expr.DictComp _ _ _ _ _) _) _ _ _)); first | walk1 | (dsimp only; walk1) | (leave1; try dsimp only))))
  rename Fr _ _ _ _ => F
  (with_unfolding_all refine' storeX_C F Nc ?zc (UpdF.head ?zU) dT0 ?_ ?za ?zb)
  case zc => rfl
  case za => rfl
  case zb => rfl
  case zU =>
    intro p hp
    simp only [List.mem_cons, List.not_mem_nil, or_false] at hp
    rcases hp with rfl | rfl | rfl | rfl
    · exact Nat.ne_of_lt (Nat.lt_succ_self _)
    · exact Ne.symm (data_ne Nc List.mem_cons_self (by k_mem) (by rw [dT0]; exact fun x => nomatch x))
    · exact Ne.symm (data_ne Nc List.mem_cons_self (by k_mem) (by rw [dT0]; exact fun x => nomatch x))
    · exact Ne.symm nr1
  intro h10 oTc F10 N10 dT
  (try dsimp only at N10)
  clear F Nc
  (repeat' (first | (k_unfold; (try dsimp only)) | ((fail_if_success (with_reducible show wpAny _ _ (call (Value.ref _) _) _ _ _)); (fail_if_success (with_reducible show wpAny _ _ (PySem.eval (PySem.Expr.ListComp _ _ _ _) _) _ _ _)); (fail_if_success (with_reducible show wpAny _ _ (PySem.eval (PySem.Expr.DictComp _ _ _ _ _) _) _ _ _)); first | walk1 | (dsimp only; walk1) | (leave1; try dsimp only))))
  rename Fr _ _ _ _ => F
  rename News _ _ _ _ => N
  (with_unfolding_all refine' lc1_expr F ?hclos ?hcell ?hkind ?hnames ?hx ?_ ?hs)
  case hclos => with_unfolding_all rfl
  case hcell => decide
  case hkind => rfl
  case hnames => decide
  case hx => rfl
  case hs => intro _; rfl
  (repeat' (first | (k_unfold; (try dsimp only)) | ((fail_if_success (with_reducible show wpAny _ _ (call (Value.ref _) _) _ _ _)); (fail_if_success (with_reducible show wpAny _ _ (PySem.eval (PySem.Expr.ListComp _ _ _ _) _) _ _ _)); (fail_if_success (with_reducible show wpAny _ _ (PySem.eval (PySem.Expr.DictComp _ _ _ _ _) _) _ _ _)); first | walk1 | (dsimp only; walk1) | (leave1; try dsimp only))))
  rename Fr _ _ _ _ => F
  rename News _ _ _ _ => N
  (with_unfolding_all refine' src_keys (c := cT) ?hh F N ?hm ⟨kvsT, hdT, hfT⟩ loT ?_)
  case hh => rfl
  case hm => k_mem
  intro I h2 F2 N2 S2 hle2 hk2
  clear F N
  refine ⟨I, _, _, _, fun i ys => i ≤ cT.length ∧ IV ys ((cT.take i).map fun p => (p.1.length : Int) * p.2), rfl, F2, N2, S2, ⟨Nat.zero_le _, .nil⟩, ?_, ?_, ?_⟩
  · rintro i ys ⟨hi, hK⟩
    have h1 := hK.len
    have h2 := hcT.len
    rw [List.length_map, List.length_take] at h1
    omega
  · rintro C D i v ys oI oC m₂ h tk E' hi ⟨k, n, t, hc, rfl⟩ ⟨hi2, hK⟩ hNs hm pl F3 N3
    clear F2 N2 S2 hk2
    obtain ⟨f1, f2, f3, f4, f5⟩ := hcT.fact (List.mem_of_getElem? hc)
    (repeat' (first | (k_unfold; (try dsimp only)) | ((fail_if_success (with_reducible show wpAny _ _ (call (Value.ref _) _) _ _ _)); (fail_if_success (with_reducible show wpAny _ _ (PySem.eval (PySem.Expr.ListComp _ _ _ _) _) _ _ _)); (fail_if_success (with_reducible show wpAny _ _ (PySem.eval (PySem.Expr.DictComp _ _ _ _ _) _) _ _ _)); first | walk1 | (dsimp only; walk1) | (leave1; try dsimp only))))
    rename Fr _ _ _ _ => F4
    rename News _ _ _ _ => N4
    refine EltEnd.intro F4 N4 (fun _ hp => hp) ?_
    refine ⟨by omega, ?_⟩
    rw [take_snocC hc, List.map_append, f5]
    exact hK.snoc _ _
  · intro C D h tk ys pl hK F3 N3
    clear F2 N2 S2
    obtain ⟨_, hK⟩ := hK
    rw [List.take_length] at hK
    have hIl : IntsAre ys (cT.map fun p => (p.1.length : Int) * p.2) := hK
    clear hK
    (repeat' (first | (k_unfold; (try dsimp only)) | ((fail_if_success (with_reducible show wpAny _ _ (call (Value.ref _) _) _ _ _)); (fail_if_success (with_reducible show wpAny _ _ (PySem.eval (PySem.Expr.ListComp _ _ _ _) _) _ _ _)); (fail_if_success (with_reducible show wpAny _ _ (PySem.eval (PySem.Expr.DictComp _ _ _ _ _) _) _ _ _)); first | walk1 | (dsimp only; walk1) | (leave1; try dsimp only))))
    rename Fr _ _ _ _ => F
    rename News _ _ _ _ => N
    (show wpAny (model PG _) (ktrTop _ _ _ _ _ _ _ _ _ _) (call (Value.ref 90) [Value.ref _, Value.int 2 _]) _ _ _)
    refine' pw2_use (p := d.x) (q := d.y) (r := d.z) ?k1 F ?k3 N ?k5 rfl ?h1 ?h2 ?kd ?ku ?_
    ((case k1 => k_asm); (case k3 => k_asm); (case k5 => k_asm); (case kd => ktr_room); (case ku => ktr_units))
    case h1 => exact ⟨_, _, _, _, by k_mem⟩
    case h2 => exact hd6.r1
    intro tt11 tl11 h11 tk11 F11 N11 _
    have N11 := News_left N11
    clear F N
    (repeat' (first | (k_unfold; (try dsimp only)) | ((fail_if_success (with_reducible show wpAny _ _ (call (Value.ref _) _) _ _ _)); (fail_if_success (with_reducible show wpAny _ _ (PySem.eval (PySem.Expr.ListComp _ _ _ _) _) _ _ _)); (fail_if_success (with_reducible show wpAny _ _ (PySem.eval (PySem.Expr.DictComp _ _ _ _ _) _) _ _ _)); first | walk1 | (dsimp only; walk1) | (leave1; try dsimp only))))
    rename Fr _ _ _ _ => F
    rename News _ _ _ _ => N
    (show wpAny (model PG _) (ktrTop _ _ _ _ _ _ _ _ _ _) (call (Value.ref 90) [Value.ref _, Value.int 2 _]) _ _ _)
    refine' pw2_use (p := d.u) (q := d.v) (r := d.t) ?k1 F ?k3 N ?k5 rfl ?h1 ?h2 ?kd ?ku ?_
    ((case k1 => k_asm); (case k3 => k_asm); (case k5 => k_asm); (case kd => ktr_room); (case ku => ktr_units))
    case h1 => exact ⟨_, _, _, _, by k_mem⟩
    case h2 => exact hd6.r2
    intro tt12 tl12 h12 tk12 F12 N12 _
    have N12 := News_left N12
    clear F N
    (repeat' (first | (k_unfold; (try dsimp only)) | ((fail_if_success (with_reducible show wpAny _ _ (call (Value.ref _) _) _ _ _)); (fail_if_success (with_reducible show wpAny _ _ (PySem.eval (PySem.Expr.ListComp _ _ _ _) _) _ _ _)); (fail_if_success (with_reducible show wpAny _ _ (PySem.eval (PySem.Expr.DictComp _ _ _ _ _) _) _ _ _)); first | walk1 | (dsimp only; walk1) | (leave1; try dsimp only))))
    rename Fr _ _ _ _ => F
    rename News _ _ _ _ => N
    (show wpAny (model PG _) (ktrTop _ _ _ _ _ _ _ _ _ _) (call (Value.ref 90) [Value.ref _, Value.int 4 _]) _ _ _)
    refine' pw4_use (p := d.x) (q := d.y) (r := d.z) ?k1 F ?k3 N ?k5 rfl ?h1 ?h2 ?kd ?ku ?_
    ((case k1 => k_asm); (case k3 => k_asm); (case k5 => k_asm); (case kd => ktr_room); (case ku => ktr_units))
    case h1 => exact ⟨_, _, _, _, by k_mem⟩
    case h2 => exact hd6.r1
    intro tt13 tl13 h13 tk13 F13 N13 _
    have N13 := News_left N13
    clear F N
    (repeat' (first | (k_unfold; (try dsimp only)) | ((fail_if_success (with_reducible show wpAny _ _ (call (Value.ref _) _) _ _ _)); (fail_if_success (with_reducible show wpAny _ _ (PySem.eval (PySem.Expr.ListComp _ _ _ _) _) _ _ _)); (fail_if_success (with_reducible show wpAny _ _ (PySem.eval (PySem.Expr.DictComp _ _ _ _ _) _) _ _ _)); first | walk1 | (dsimp only; walk1) | (leave1; try dsimp only))))
    rename Fr _ _ _ _ => F
    rename News _ _ _ _ => N
    (show wpAny (model PG _) (ktrTop _ _ _ _ _ _ _ _ _ _) (call (Value.ref 90) [Value.ref _, Value.int 4 _]) _ _ _)
    refine' pw4_use (p := d.u) (q := d.v) (r := d.t) ?k1 F ?k3 N ?k5 rfl ?h1 ?h2 ?kd ?ku ?_
    ((case k1 => k_asm); (case k3 => k_asm); (case k5 => k_asm); (case kd => ktr_room); (case ku => ktr_units))
    case h1 => exact ⟨_, _, _, _, by k_mem⟩
    case h2 => exact hd6.r2
    intro tt14 tl14 h14 tk14 F14 N14 _
    have N14 := News_left N14
    clear F N
    (repeat' (first | (k_unfold; (try dsimp only)) | ((fail_if_success (with_reducible show wpAny _ _ (call (Value.ref _) _) _ _ _)); (fail_if_success (with_reducible show wpAny _ _ (PySem.eval (PySem.Expr.ListComp _ _ _ _) _) _ _ _)); (fail_if_success (with_reducible show wpAny _ _ (PySem.eval (PySem.Expr.DictComp _ _ _ _ _) _) _ _ _)); first | walk1 | (dsimp only; walk1) | (leave1; try dsimp only))))
    refine mul_int ?_ (mul_fit hd6.r2)
    (repeat' (first | (k_unfold; (try dsimp only)) | ((fail_if_success (with_reducible show wpAny _ _ (call (Value.ref _) _) _ _ _)); (fail_if_success (with_reducible show wpAny _ _ (PySem.eval (PySem.Expr.ListComp _ _ _ _) _) _ _ _)); (fail_if_success (with_reducible show wpAny _ _ (PySem.eval (PySem.Expr.DictComp _ _ _ _ _) _) _ _ _)); first | walk1 | (dsimp only; walk1) | (leave1; try dsimp only))))
    rename Fr _ _ _ _ => F
    rename News _ _ _ _ => N
    obtain ⟨mO, F1⟩ := Fr_two F (x := Str.ofString "due") (y := Str.ofString "first") rfl rfl
    obtain ⟨oDue, hDue, N1⟩ := gen_head N (P := fun o => EntO o (dueE d cT) r8) ⟨_, _, _, _, _, rfl⟩
    clear F N
    rename Fr _ _ _ _ => F
    rename News _ _ _ _ => N
    (with_unfolding_all refine' lc2_expr F ?hAm ?hclos ?hcell ?hkind ?hnames ?hx0 ?hx1 ?hne ?hs1 ?_ ?hs)
    case hAm => rfl
    case hclos => with_unfolding_all rfl
    case hcell => decide
    case hkind => rfl
    case hnames => decide
    case hx0 => rfl
    case hx1 => rfl
    case hne => decide
    case hs1 => intro _ _; rfl
    case hs => intro _; rfl
    (repeat' (first | (k_unfold; (try dsimp only)) | ((fail_if_success (with_reducible show wpAny _ _ (call (Value.ref _) _) _ _ _)); (fail_if_success (with_reducible show wpAny _ _ (PySem.eval (PySem.Expr.ListComp _ _ _ _) _) _ _ _)); (fail_if_success (with_reducible show wpAny _ _ (PySem.eval (PySem.Expr.DictComp _ _ _ _ _) _) _ _ _)); first | walk1 | (dsimp only; walk1) | (leave1; try dsimp only))))
    rename Fr _ _ _ _ => F
    rename News _ _ _ _ => N
    (with_unfolding_all refine' src_list (l := Da) ?hh F N ?hm ?hl ?_)
    case hh => rfl
    case hm => k_mem
    case hl => exact ⟨rfl, _, rfl⟩
    intro I h2 F2 N2 S2 hle2 hk2
    clear F N
    refine ⟨I, _, _, _, fun i ys => IV ys (cmbL (fun a b => a + b) d i), rfl, F2, N2, S2, .nil, ?_, ?_⟩
    focus
      intro C D i v ys oI oC m₂ h tk E' hi hP hK hNs hm pl F3 N3
      obtain ⟨hi3, t, rfl⟩ := l3_get hP
      clear F2 N2 S2 hk2
      (repeat' (first | (k_unfold; (try dsimp only)) | ((fail_if_success (with_reducible show wpAny _ _ (call (Value.ref _) _) _ _ _)); (fail_if_success (with_reducible show wpAny _ _ (PySem.eval (PySem.Expr.ListComp _ _ _ _) _) _ _ _)); (fail_if_success (with_reducible show wpAny _ _ (PySem.eval (PySem.Expr.DictComp _ _ _ _ _) _) _ _ _)); first | walk1 | (dsimp only; walk1) | (leave1; try dsimp only))))
      rename Fr _ _ _ _ => F4
      rename News _ _ _ _ => N4
      have N4' := News_pick (l' := (I, oI) :: _) N4 (fun p hp => List.mem_cons.mpr ((List.mem_cons.mp hp).imp id fun h => List.mem_cons_of_mem _ (List.mem_cons_of_mem _ h)))
      (with_unfolding_all refine' src_list (l := Db) ?hh F4 N4' ?hm ?hl ?_)
      case hh => rfl
      case hm => k_mem
      case hl => exact ⟨rfl, _, rfl⟩
      intro I1 h5 F5 N5 S5 hle5 hk5
      have hCin := (N4 (C, oC) (by simp)).1
      have hDin := (N4 (D, lst ys) (by simp)).1
      refine ⟨I1, _, _, fun j ys' => j ≤ 3 ∧ IV ys' (cmbL (fun a b => a + b) d i ++ (List.range j).map fun b => powR d.x d.y d.z i + powR d.u d.v d.t b), h5, _, rfl, rfl, F5, N4.grown hk5, S5, Nat.ne_of_lt (Nat.lt_of_lt_of_le (Heap.lt_size hCin) hle5), Nat.ne_of_lt (Nat.lt_of_lt_of_le (Heap.lt_size hDin) hle5), ?_, ?_, ?_, ?_⟩
      · exact ⟨by omega, by simpa using hK⟩
      · rintro j ys' ⟨hj3, hK1⟩
        have h1 := hK1.len
        rw [h1, List.length_append, List.length_map, List.length_range, cmbL_len]
        omega
      · rintro j v1 ys' oI1 oC' m₂' h' tk' E'' hj hP1 ⟨_, hK1⟩ hN' hm1' hm0 F6 N6
        clear F4 N4 F5 N5 S5 hk5 N4' hCin hDin
        obtain ⟨hj3, t1, rfl⟩ := l3_get hP1
        (repeat' (first | (k_unfold; (try dsimp only)) | ((fail_if_success (with_reducible show wpAny _ _ (call (Value.ref _) _) _ _ _)); (fail_if_success (with_reducible show wpAny _ _ (PySem.eval (PySem.Expr.ListComp _ _ _ _) _) _ _ _)); (fail_if_success (with_reducible show wpAny _ _ (PySem.eval (PySem.Expr.DictComp _ _ _ _ _) _) _ _ _)); first | walk1 | (dsimp only; walk1) | (leave1; try dsimp only))))
        rename Fr _ _ _ _ => F7
        rename News _ _ _ _ => N7
        refine EltEnd.intro F7 N7 (fun _ hp => hp) ?_
        refine ⟨by omega, ?_⟩
        rw [List.range_succ, List.map_append, ← List.append_assoc]
        exact hK1.snoc _ _
      · rintro ys' ⟨_, hK1⟩
        show IV ys' (cmbL (fun a b => a + b) d (i + 1))
        rw [cmbL_succ]
        exact hK1
    intro C D h tk ys1 pl1 hK1 F3 N3
    clear F2 N2 S2 hk2
    replace hK1 : IV ys1 (sum9 d) := by
      have := show IV ys1 (cmbL (fun a b => a + b) d 3) from hK1
      exact this
    (repeat' (first | (k_unfold; (try dsimp only)) | ((fail_if_success (with_reducible show wpAny _ _ (call (Value.ref _) _) _ _ _)); (fail_if_success (with_reducible show wpAny _ _ (PySem.eval (PySem.Expr.ListComp _ _ _ _) _) _ _ _)); (fail_if_success (with_reducible show wpAny _ _ (PySem.eval (PySem.Expr.DictComp _ _ _ _ _) _) _ _ _)); first | walk1 | (dsimp only; walk1) | (leave1; try dsimp only))))
    rename Fr _ _ _ _ => F
    rename News _ _ _ _ => N
    (show wpAny (model PG _) (ktrTop _ _ _ _ _ _ _ _ _ _) (call (Value.ref 54) [Value.ref _, Value.bool _]) _ _ _)
    refine' es_use (l := sum9 d) (b := false) ?k1 F ?k3 N ?k5 rfl ?h1 (sum9_ok hd6) ?kd ?ku ?_
    case h1 => exact ⟨ys1, _, by k_mem, hK1⟩
    ((case k1 => k_asm); (case k3 => k_asm); (case k5 => k_asm); (case kd => ktr_room); (case ku => ktr_units))
    intro rE tlE hE tkE FE NE _ entsE
    clear F N
    simp only [List.cons_append, List.nil_append] at NE entsE
    (repeat' (first | (k_unfold; (try dsimp only)) | ((fail_if_success (with_reducible show wpAny _ _ (call (Value.ref _) _) _ _ _)); (fail_if_success (with_reducible show wpAny _ _ (PySem.eval (PySem.Expr.ListComp _ _ _ _) _) _ _ _)); (fail_if_success (with_reducible show wpAny _ _ (PySem.eval (PySem.Expr.DictComp _ _ _ _ _) _) _ _ _)); first | walk1 | (dsimp only; walk1) | (leave1; try dsimp only))))
    rename Fr _ _ _ _ => F
    rename News _ _ _ _ => N
    (show wpAny (model PG _) (ktrTop _ _ _ _ _ _ _ _ _ _) (call (Value.ref 61) [Value.ref _]) _ _ _)
    refine' bh_use (es := entsL (sum9 d) false 9) ?k1 F ?k3 N ?k5 rfl entsE (by rw [(ents_lenE _ _).2]; decide) ?kd ?ku ?_
    ((case k1 => k_asm); (case k3 => k_asm); (case k5 => k_asm); (case kd => ktr_room); (case ku => ktr_units))
    intro rS tlS hS tkS FS NS _ entS
    clear F N entsE
    simp only [List.cons_append, List.nil_append] at NS entS
    obtain ⟨eS, isS, entS⟩ : ∃ e, IsSums d e ∧ EntAt _ _ rS e := ⟨_, ⟨rfl⟩, entS⟩
    obtain ⟨oSs, dSs, odS, mS1, hoS, mS2, cSs, loS⟩ := ent_open entS
    have NP := pick8 (o1 := oDue) (o2 := oTc) (o3 := oS) (a4 := Da) (a5 := Db) (o6 := oT) NS (by k_mem) (by k_mem) (by k_mem) (by k_mem) (by k_mem) (by k_mem) mS1 mS2
    clear NS entS mS1 mS2
    (repeat' (first | (k_unfold; (try dsimp only)) | ((fail_if_success (with_reducible show wpAny _ _ (call (Value.ref _) _) _ _ _)); (fail_if_success (with_reducible show wpAny _ _ (PySem.eval (PySem.Expr.ListComp _ _ _ _) _) _ _ _)); (fail_if_success (with_reducible show wpAny _ _ (PySem.eval (PySem.Expr.DictComp _ _ _ _ _) _) _ _ _)); first | walk1 | (dsimp only; walk1) | (leave1; try dsimp only))))
    rename Fr _ _ _ _ => F
    rename News _ _ _ _ => N
    (with_unfolding_all refine' lc2_expr F ?hAm ?hclos ?hcell ?hkind ?hnames ?hx0 ?hx1 ?hne ?hs1 ?_ ?hs)
    case hAm => rfl
    case hclos => with_unfolding_all rfl
    case hcell => decide
    case hkind => rfl
    case hnames => decide
    case hx0 => rfl
    case hx1 => rfl
    case hne => decide
    case hs1 => intro _ _; rfl
    case hs => intro _; rfl
    (repeat' (first | (k_unfold; (try dsimp only)) | ((fail_if_success (with_reducible show wpAny _ _ (call (Value.ref _) _) _ _ _)); (fail_if_success (with_reducible show wpAny _ _ (PySem.eval (PySem.Expr.ListComp _ _ _ _) _) _ _ _)); (fail_if_success (with_reducible show wpAny _ _ (PySem.eval (PySem.Expr.DictComp _ _ _ _ _) _) _ _ _)); first | walk1 | (dsimp only; walk1) | (leave1; try dsimp only))))
    rename Fr _ _ _ _ => F
    rename News _ _ _ _ => N
    (with_unfolding_all refine' src_list (l := Da) ?hh F N ?hm ?hl ?_)
    case hh => rfl
    case hm => k_mem
    case hl => exact ⟨rfl, _, rfl⟩
    intro I h2 F2 N2 S2 hle2 hk2
    clear F N
    refine ⟨I, _, _, _, fun i ys => IV ys (cmbL (fun a b => a - b) d i), rfl, F2, N2, S2, .nil, ?_, ?_⟩
    focus
      intro C D i v ys oI oC m₂ h tk E' hi hP hK hNs hm pl F3 N3
      obtain ⟨hi3, t, rfl⟩ := l3_get hP
      clear F2 N2 S2 hk2
      (repeat' (first | (k_unfold; (try dsimp only)) | ((fail_if_success (with_reducible show wpAny _ _ (call (Value.ref _) _) _ _ _)); (fail_if_success (with_reducible show wpAny _ _ (PySem.eval (PySem.Expr.ListComp _ _ _ _) _) _ _ _)); (fail_if_success (with_reducible show wpAny _ _ (PySem.eval (PySem.Expr.DictComp _ _ _ _ _) _) _ _ _)); first | walk1 | (dsimp only; walk1) | (leave1; try dsimp only))))
      rename Fr _ _ _ _ => F4
      rename News _ _ _ _ => N4
      have N4' := News_pick (l' := (I, oI) :: _) N4 (fun p hp => List.mem_cons.mpr ((List.mem_cons.mp hp).imp id fun h => List.mem_cons_of_mem _ (List.mem_cons_of_mem _ h)))
      (with_unfolding_all refine' src_list (l := Db) ?hh F4 N4' ?hm ?hl ?_)
      case hh => rfl
      case hm => k_mem
      case hl => exact ⟨rfl, _, rfl⟩
      intro I1 h5 F5 N5 S5 hle5 hk5
      have hCin := (N4 (C, oC) (by simp)).1
      have hDin := (N4 (D, lst ys) (by simp)).1
      refine ⟨I1, _, _, fun j ys' => j ≤ 3 ∧ IV ys' (cmbL (fun a b => a - b) d i ++ (List.range j).map fun b => powR d.x d.y d.z i - powR d.u d.v d.t b), h5, _, rfl, rfl, F5, N4.grown hk5, S5, Nat.ne_of_lt (Nat.lt_of_lt_of_le (Heap.lt_size hCin) hle5), Nat.ne_of_lt (Nat.lt_of_lt_of_le (Heap.lt_size hDin) hle5), ?_, ?_, ?_, ?_⟩
      · exact ⟨by omega, by simpa using hK⟩
      · rintro j ys' ⟨hj3, hK1⟩
        have h1 := hK1.len
        rw [h1, List.length_append, List.length_map, List.length_range, cmbL_len]
        omega
      · rintro j v1 ys' oI1 oC' m₂' h' tk' E'' hj hP1 ⟨_, hK1⟩ hN' hm1' hm0 F6 N6
        clear F4 N4 F5 N5 S5 hk5 N4' hCin hDin
        obtain ⟨hj3, t1, rfl⟩ := l3_get hP1
        (repeat' (first | (k_unfold; (try dsimp only)) | ((fail_if_success (with_reducible show wpAny _ _ (call (Value.ref _) _) _ _ _)); (fail_if_success (with_reducible show wpAny _ _ (PySem.eval (PySem.Expr.ListComp _ _ _ _) _) _ _ _)); (fail_if_success (with_reducible show wpAny _ _ (PySem.eval (PySem.Expr.DictComp _ _ _ _ _) _) _ _ _)); first | walk1 | (dsimp only; walk1) | (leave1; try dsimp only))))
        rename Fr _ _ _ _ => F7
        rename News _ _ _ _ => N7
        refine EltEnd.intro F7 N7 (fun _ hp => hp) ?_
        refine ⟨by omega, ?_⟩
        rw [List.range_succ, List.map_append, ← List.append_assoc]
        exact hK1.snoc _ _
      · rintro ys' ⟨_, hK1⟩
        show IV ys' (cmbL (fun a b => a - b) d (i + 1))
        rw [cmbL_succ]
        exact hK1
    intro C D h tk ys2 pl2 hK2 F3 N3
    clear F2 N2 S2 hk2
    replace hK2 : IV ys2 (dif9 d) := by
      have := show IV ys2 (cmbL (fun a b => a - b) d 3) from hK2
      exact this
    (repeat' (first | (k_unfold; (try dsimp only)) | ((fail_if_success (with_reducible show wpAny _ _ (call (Value.ref _) _) _ _ _)); (fail_if_success (with_reducible show wpAny _ _ (PySem.eval (PySem.Expr.ListComp _ _ _ _) _) _ _ _)); (fail_if_success (with_reducible show wpAny _ _ (PySem.eval (PySem.Expr.DictComp _ _ _ _ _) _) _ _ _)); first | walk1 | (dsimp only; walk1) | (leave1; try dsimp only))))
    rename Fr _ _ _ _ => F
    rename News _ _ _ _ => N
    (show wpAny (model PG _) (ktrTop _ _ _ _ _ _ _ _ _ _) (call (Value.ref 54) [Value.ref _, Value.bool _]) _ _ _)
    refine' es_use (l := dif9 d) (b := true) ?k1 F ?k3 N ?k5 rfl ?h1 (dif9_ok hd6) ?kd ?ku ?_
    case h1 => exact ⟨ys2, _, by k_mem, hK2⟩
    ((case k1 => k_asm); (case k3 => k_asm); (case k5 => k_asm); (case kd => ktr_room); (case ku => ktr_units))
    intro rE tlE hE tkE FE NE _ entsE
    clear F N
    simp only [List.cons_append, List.nil_append] at NE entsE
    (repeat' (first | (k_unfold; (try dsimp only)) | ((fail_if_success (with_reducible show wpAny _ _ (call (Value.ref _) _) _ _ _)); (fail_if_success (with_reducible show wpAny _ _ (PySem.eval (PySem.Expr.ListComp _ _ _ _) _) _ _ _)); (fail_if_success (with_reducible show wpAny _ _ (PySem.eval (PySem.Expr.DictComp _ _ _ _ _) _) _ _ _)); first | walk1 | (dsimp only; walk1) | (leave1; try dsimp only))))
    rename Fr _ _ _ _ => F
    rename News _ _ _ _ => N
    (show wpAny (model PG _) (ktrTop _ _ _ _ _ _ _ _ _ _) (call (Value.ref 68) [Value.ref _]) _ _ _)
    refine' hv_use36 (es := entsL (dif9 d) true 9) ?k1 F ?k3 N ?k5 rfl entsE (ents_lenE _ _) ?kd ?ku ?_
    ((case k1 => k_asm); (case k3 => k_asm); (case k5 => k_asm); (case kd => ktr_room); (case ku => ktr_units))
    intro rR eR tlR hR tkR FR NR _ entR halR
    clear F N entsE
    simp only [List.cons_append, List.nil_append] at NR entR
    have isR : IsRests d eR := ⟨halR⟩
    clear halR
    obtain ⟨oRs, dRs, odR, mR1, hoR, mR2, cRs, loR⟩ := ent_open entR
    have NP := pick10 (o1 := oDue) (o2 := oTc) (o3 := oS) (a4 := Da) (a5 := Db) (o6 := oT) (o7 := oSs) (o8 := odS) NR (by k_mem) (by k_mem) (by k_mem) (by k_mem) (by k_mem) (by k_mem) (by k_mem) (by k_mem) mR1 mR2
    clear NR entR mR1 mR2
    (repeat' (first | (k_unfold; (try dsimp only)) | ((fail_if_success (with_reducible show wpAny _ _ (call (Value.ref _) _) _ _ _)); (fail_if_success (with_reducible show wpAny _ _ (PySem.eval (PySem.Expr.ListComp _ _ _ _) _) _ _ _)); (fail_if_success (with_reducible show wpAny _ _ (PySem.eval (PySem.Expr.DictComp _ _ _ _ _) _) _ _ _)); first | walk1 | (dsimp only; walk1) | (leave1; try dsimp only))))
    rename Fr _ _ _ _ => F
    rename News _ _ _ _ => N
    refine' ent_ne (d := d) (c := cT) (e := eS) N ?m1 ?m2 hoS hDue ?ma ?mb cSs ⟨kvsT, hdT, hfT⟩ loS loT (isS.match hcT) ?hu ?_
    case m1 => k_mem
    case m2 => k_mem
    case ma => k_mem
    case mb => k_mem
    case hu => ke_room
    (repeat' (first | (k_unfold; (try dsimp only)) | ((fail_if_success (with_reducible show wpAny _ _ (call (Value.ref _) _) _ _ _)); (fail_if_success (with_reducible show wpAny _ _ (PySem.eval (PySem.Expr.ListComp _ _ _ _) _) _ _ _)); (fail_if_success (with_reducible show wpAny _ _ (PySem.eval (PySem.Expr.DictComp _ _ _ _ _) _) _ _ _)); first | walk1 | (dsimp only; walk1) | (leave1; try dsimp only))))
    rename Fr _ _ _ _ => F
    rename News _ _ _ _ => N
    refine' ent_ne (d := d) (c := cT) (e := eR) N ?m1 ?m2 hoR hDue ?ma ?mb cRs ⟨kvsT, hdT, hfT⟩ loR loT (isR.match hcT) ?hu ?_
    case m1 => k_mem
    case m2 => k_mem
    case ma => k_mem
    case mb => k_mem
    case hu => ke_room
    obtain ⟨q1, q2, q3, q4, qn, rfl⟩ := id hoR
    obtain ⟨p1, p2, p3, p4, pn, rfl⟩ := id hoS
    (repeat' (first | (k_unfold; (try dsimp only)) | ((fail_if_success (with_reducible show wpAny _ _ (call (Value.ref _) _) _ _ _)); (fail_if_success (with_reducible show wpAny _ _ (PySem.eval (PySem.Expr.ListComp _ _ _ _) _) _ _ _)); (fail_if_success (with_reducible show wpAny _ _ (PySem.eval (PySem.Expr.DictComp _ _ _ _ _) _) _ _ _)); first | walk1 | (dsimp only; walk1) | (leave1; try dsimp only))))
    rename Fr _ _ _ _ => F
    rename News _ _ _ _ => N
    (show wpAny (model PG _) (ktrTop _ _ _ _ _ _ _ _ _ _) (call (Value.ref 35) [Value.ref _]) _ _ _)
    refine' cc_use (c := eR.c) ?k1 F ?k3 N ?k5 rfl ⟨⟨odR, ?h1, cRs⟩, loR⟩ ?kd ?ku ?_
    case h1 => k_mem
    ((case k1 => k_asm); (case k3 => k_asm); (case k5 => k_asm); (case kd => ktr_room); (case ku => ktr_units))
    intro ttC tlC hC9 tkC FC NC _
    have NC := News_left NC
    clear F N
    rw [isR.tot]
    (repeat' (first | (k_unfold; (try dsimp only)) | ((fail_if_success (with_reducible show wpAny _ _ (call (Value.ref _) _) _ _ _)); (fail_if_success (with_reducible show wpAny _ _ (PySem.eval (PySem.Expr.ListComp _ _ _ _) _) _ _ _)); (fail_if_success (with_reducible show wpAny _ _ (PySem.eval (PySem.Expr.DictComp _ _ _ _ _) _) _ _ _)); first | walk1 | (dsimp only; walk1) | (leave1; try dsimp only))))
    rename Fr _ _ _ _ => F
    rename News _ _ _ _ => N
    (show wpAny (model PG _) (ktrTop _ _ _ _ _ _ _ _ _ _) (call (Value.ref 28) [Value.ref _, Value.ref _]) _ _ _)
    refine' ac_use (c := eS.c) (d := eR.c) ?k1 F ?k3 N ?k5 rfl ⟨⟨odS, ?h1, cSs⟩, loS⟩ ⟨⟨odR, ?h2, cRs⟩, loR⟩ ?hl ?kd ?ku ?_
    case h1 => k_mem
    case h2 => k_mem
    case hl => have h1 := (isS.match hcT).lenC hcT; have h2 := (isR.match hcT).lenC hcT; omega
    ((case k1 => k_asm); (case k3 => k_asm); (case k5 => k_asm); (case kd => ktr_room); (case ku => ktr_units))
    intro rB tlB hB9 tkB FB NB _ dcB
    clear F N
    simp only [List.cons_append, List.nil_append] at NB dcB
    have isB := is_both isS isR hcT
    obtain ⟨cB, hcB⟩ : ∃ c, c = mergeC eS.c eR.c := ⟨_, rfl⟩
    rw [← hcB] at isB dcB
    clear hcB
    obtain ⟨⟨oB, mB, cBs⟩, loB⟩ := dcB
    have NP := pick9 (o1 := oDue) (o2 := oTc) (o3 := oS) (o4 := oT) (a5 := rS) (o6 := odS) (a7 := rR) (o8 := odR) NB (by k_mem) (by k_mem) (by k_mem) (by k_mem) (by k_mem) (by k_mem) (by k_mem) (by k_mem) mB
    clear NB mB
    (repeat' (first | (k_unfold; (try dsimp only)) | ((fail_if_success (with_reducible show wpAny _ _ (call (Value.ref _) _) _ _ _)); (fail_if_success (with_reducible show wpAny _ _ (PySem.eval (PySem.Expr.ListComp _ _ _ _) _) _ _ _)); (fail_if_success (with_reducible show wpAny _ _ (PySem.eval (PySem.Expr.DictComp _ _ _ _ _) _) _ _ _)); first | walk1 | (dsimp only; walk1) | (leave1; try dsimp only))))
    rename Fr _ _ _ _ => F
    rename News _ _ _ _ => N
    rename Top _ _ _ _ _ _ => T9
    (with_unfolding_all refine' dc_expr (c := cT) (d := r8) (od := oT) F N ?hh T9.nolimit ?hclos ?hcell ?hkind ?hnames ?hx hcT.nd ?hcl ?hm ⟨kvsT, hdT, hfT⟩ loT ?hkey ?hval ?_ ?hs)
    case hh => rfl
    case hclos => with_unfolding_all rfl
    case hcell => decide
    case hkind => rfl
    case hnames => decide
    case hx => rfl
    case hs => intro _; rfl
    case hcl => have := hcT.len; omega
    case hm => k_mem
    case hkey =>
      intro C oC k n t s3 m3 E' hkn hNs hm F3 N3
      clear F N
      (repeat' (first | (k_unfold; (try dsimp only)) | ((fail_if_success (with_reducible show wpAny _ _ (call (Value.ref _) _) _ _ _)); (fail_if_success (with_reducible show wpAny _ _ (PySem.eval (PySem.Expr.ListComp _ _ _ _) _) _ _ _)); (fail_if_success (with_reducible show wpAny _ _ (PySem.eval (PySem.Expr.DictComp _ _ _ _ _) _) _ _ _)); first | walk1 | (dsimp only; walk1) | (leave1; try dsimp only))))
      exact ⟨⟨_, rfl⟩, _, _, rfl, fun _ _ e => e⟩
    case hval =>
      intro C oC k n t s3 m3 E' hkn hNs hm F3 N3
      clear F N
      obtain ⟨f1, f2, f3, f4, f5⟩ := hcT.fact hkn
      (repeat' (first | (k_unfold; (try dsimp only)) | ((fail_if_success (with_reducible show wpAny _ _ (call (Value.ref _) _) _ _ _)); (fail_if_success (with_reducible show wpAny _ _ (PySem.eval (PySem.Expr.ListComp _ _ _ _) _) _ _ _)); (fail_if_success (with_reducible show wpAny _ _ (PySem.eval (PySem.Expr.DictComp _ _ _ _ _) _) _ _ _)); first | walk1 | (dsimp only; walk1) | (leave1; try dsimp only))))
      rw [f5]
      exact ⟨⟨_, rfl⟩, _, _, rfl, fun _ _ e => e⟩
    walk1
    refine ⟨rfl, F, N, ?_⟩
    intro Dd oDd hDd tkDd FDd NDd cDd loDd
    clear F N
    (repeat' (first | (k_unfold; (try dsimp only)) | ((fail_if_success (with_reducible show wpAny _ _ (call (Value.ref _) _) _ _ _)); (fail_if_success (with_reducible show wpAny _ _ (PySem.eval (PySem.Expr.ListComp _ _ _ _) _) _ _ _)); (fail_if_success (with_reducible show wpAny _ _ (PySem.eval (PySem.Expr.DictComp _ _ _ _ _) _) _ _ _)); first | walk1 | (dsimp only; walk1) | (leave1; try dsimp only))))
    rename Fr _ _ _ _ => F
    rename News _ _ _ _ => N
    refine' cq_eq N ?pa ?pb loB loDd cBs cDd isB.len isB.rows ?hu ?_
    case pa => k_mem
    case pb => k_mem
    case hu => k_units
    (repeat' (first | (k_unfold; (try dsimp only)) | ((fail_if_success (with_reducible show wpAny _ _ (call (Value.ref _) _) _ _ _)); (fail_if_success (with_reducible show wpAny _ _ (PySem.eval (PySem.Expr.ListComp _ _ _ _) _) _ _ _)); (fail_if_success (with_reducible show wpAny _ _ (PySem.eval (PySem.Expr.DictComp _ _ _ _ _) _) _ _ _)); first | walk1 | (dsimp only; walk1) | (leave1; try dsimp only))))
    rename Fr _ _ _ _ => F
    rename News _ _ _ _ => N
    refine' ent_eq (d := d) (c := cT) (e := eS) N ?m1 ?m2 hoS hDue ?ma ?mb cSs ⟨kvsT, hdT, hfT⟩ loS loT (isS.match hcT) ?hu ?_
    case m1 => k_mem
    case m2 => k_mem
    case ma => k_mem
    case mb => k_mem
    case hu => ke_room
    (repeat' (first | (k_unfold; (try dsimp only)) | ((fail_if_success (with_reducible show wpAny _ _ (call (Value.ref _) _) _ _ _)); (fail_if_success (with_reducible show wpAny _ _ (PySem.eval (PySem.Expr.ListComp _ _ _ _) _) _ _ _)); (fail_if_success (with_reducible show wpAny _ _ (PySem.eval (PySem.Expr.DictComp _ _ _ _ _) _) _ _ _)); first | walk1 | (dsimp only; walk1) | (leave1; try dsimp only))))
    rename Fr _ _ _ _ => F
    rename News _ _ _ _ => N
    refine' ent_eq (d := d) (c := cT) (e := eR) N ?m1 ?m2 hoR hDue ?ma ?mb cRs ⟨kvsT, hdT, hfT⟩ loR loT (isR.match hcT) ?hu ?_
    case m1 => k_mem
    case m2 => k_mem
    case ma => k_mem
    case mb => k_mem
    case hu => ke_room
    (repeat' (first | (k_unfold; (try dsimp only)) | ((fail_if_success (with_reducible show wpAny _ _ (call (Value.ref _) _) _ _ _)); (fail_if_success (with_reducible show wpAny _ _ (PySem.eval (PySem.Expr.ListComp _ _ _ _) _) _ _ _)); (fail_if_success (with_reducible show wpAny _ _ (PySem.eval (PySem.Expr.DictComp _ _ _ _ _) _) _ _ _)); first | walk1 | (dsimp only; walk1) | (leave1; try dsimp only))))
    k_steps)
end Law
end Mine
theorem PySem.Challenge.cw_pg0031_01_holds : PySem.Challenge.rw_pg0031_01.Holds :=
  Mine.law_holds
