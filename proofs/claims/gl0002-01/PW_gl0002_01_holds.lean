import PyProof.Rows.All
import Wide.All
import OpenK.AllK
import Wide.FinOn
import PySem.Challenge.RW_gl0002_01
set_option Elab.async false
section
open PySem PySem.W PyProof.Rows PySem.Spec PySem.Calls
set_option maxRecDepth 100000
set_option maxHeartbeats 8000000
namespace Mine

structure EmptyD (prog : Program) (w : World) (d : Addr) (o : Obj) : Prop where
  ne : (d == sysModules) = false
  it : o.IsDictOf (intKind prog w) []

abbrev tupO (vs : List Value) : Obj := { cls := .type "tuple", data := .seq vs.toArray }

/-- a contract of a def of the text: what the call wants of the ledger, what it lays onto it -/
def Says (prog : Program) (K : Frag) (w : World) (d u : Nat) (f : Addr) (vs : List Value) (Pre : List (Addr × Obj) → Prop) (Post : Value → List (Addr × Obj) → Prop) : Prop :=
  ∀ (p : Program) (loose : List Str) (mean : ExcName → Option Value) (mg mb : Str → Option Value)
    (dp un : Nat) (gd : Option (List Code)) (cn : Str) (cs : Scope) (a : Addr) (ccd : Value) (cl : List (Str × Addr)) (outer : List Env) (A₀ : Around) (base h₀ : Heap) (L : Addr) (m : Str → Option Value) (news : List (Addr × Obj)) (s : Shared) (Q E : Value → Shared → Prop),
    Below A₀ base outer h₀ → Fr h₀ L s.heap m → K.In h₀ → News h₀ L s.heap news → Top p loose mean mg mb h₀ → cs.kind = .function → Pre news → dp + d < recursionLimit → un + u < cLine →
    (∀ r tl h' tk', Fr h₀ L h' m → News h₀ L h' (tl ++ news) → (∀ q ∈ news, ∀ p ∈ tl, q.1 < p.1) → Post r tl → Q r { s with heap := h', toks := tk' }) →
    wpAny (model prog w) (ktrTop dp un gd cn cs L a ccd cl outer) (call (.ref f) vs) Q E s

theorem says_use {prog : Program} {K : Frag} {w : World} {d u : Nat} {f : Addr} {vs : List Value} {Pre : List (Addr × Obj) → Prop} {Post : Value → List (Addr × Obj) → Prop} (C : Says prog K w d u f vs Pre Post)
    {p : Program} {loose : List Str} {mean : ExcName → Option Value} {mg mb : Str → Option Value}
    {dp un : Nat} {gd : Option (List Code)} {cn : Str} {cs : Scope} {a : Addr} {ccd : Value} {cl : List (Str × Addr)} {outer : List Env} {A₀ : Around} {base h₀ : Heap} {L : Addr} {m : Str → Option Value} {news : List (Addr × Obj)} {s : Shared} {Q E : Value → Shared → Prop}
    (B : Below A₀ base outer h₀) (F : Fr h₀ L s.heap m) (X : K.In h₀) (N : News h₀ L s.heap news) (T : Top p loose mean mg mb h₀) (hk : cs.kind = .function) (hp : Pre news) (hd : dp + d < recursionLimit) (hu : un + u < cLine)
    (ret : ∀ r tl h' tk', Fr h₀ L h' m → News h₀ L h' (tl ++ news) → (∀ q ∈ news, ∀ p ∈ tl, q.1 < p.1) → Post r tl → Q r { s with heap := h', toks := tk' }) :
    wpAny (model prog w) (ktrTop dp un gd cn cs L a ccd cl outer) (call (.ref f) vs) Q E s :=
  C p loose mean mg mb dp un gd cn cs a ccd cl outer A₀ base h₀ L m news s Q E B F X N T hk hp hd hu ret

theorem ord_cons {a : Addr} {o : Obj} {tl news : List (Addr × Obj)} (h : AllLt a news) (k : ∀ q ∈ news, ∀ p ∈ tl, q.1 < p.1) : ∀ q ∈ news, ∀ p ∈ (a, o) :: tl, q.1 < p.1 := by
  intro q hq p hp
  rcases List.mem_cons.mp hp with rfl | hp
  · exact ktn_ltOf h q hq
  · exact k q hq p hp

section
variable {prog : Program} {w : World} {A : Around} {s : Shared} {cn : Str} {cs : Scope} {L a d : Addr} {ccd : Value} {h₀ : Heap} {m : Str → Option Value} {news : List (Addr × Obj)} {o : Obj}
theorem For_items_empty {Q : Flow → Shared → Prop} {xk xv x : Str} {pk pv pt pos apos cpos px : Pos} {x1} {body : List Stmt}
    (hh : A.handled = none) (F : Fr h₀ L s.heap m) (N : News h₀ L s.heap news) (hm : (d, o) ∈ news) (D : EmptyD prog w d o) (hv : m x = some (.ref d))
    (hQ : ∀ h' tk, Fr h₀ L h' m → News h₀ L h' news → Q .next { s with heap := h', toks := tk })
    (hxk : (envOf cn cs L a ccd).kindOf xk = some .local := by rfl) (hxv : (envOf cn cs L a ccd).kindOf xv = some .local := by rfl)
    (hx : (envOf cn cs L a ccd).kindOf x = some .local := by rfl) (hk : cs.kind = .function := by rfl)
    (hline : (apos.endLine == cpos.line) = true := by rfl) (hdb : (x == ("__debug__" : Str)) = false := by decide) :
    wpAny (model prog w) A (exec (.For (.Tuple [.Name xk pk, .Name xv pv] x1 pt) (.Call (.Attribute (.Name x px) "items" apos) [] [] cpos) body [] pos) (envOf cn cs L a ccd)) Q (fun _ _ => False) s := by
  obtain ⟨es, ep, c1, c2, c3, c4, c5⟩ := D.it
  obtain ⟨n1, n2, n3⟩ := N _ hm
  refine wpAny_For_items_locals (knd := intKind prog w) (kvs := []) (ep := ep) hh hxk hxv ?_ n2 D.ne ⟨o, es, n1, c1, c2, c3, c4, c5⟩ F.ns ?_ hline (fun Q' h => ld F hv h hk hx hdb) (fun i m' => i = 0 ∧ m' = m) ⟨rfl, rfl⟩ ?_ ?_
  · show (cs.kind == .class || (cs.kind == .module && L != mainGlobals)) = false; rw [hk]; rfl
  · rfl
  · intro i k v key m₁ s₁ e; simp at e
  · rintro h' tk m' hn ⟨_, rfl⟩ hk'
    refine hQ h' tk ⟨hn, fun b o e => ?_, F.above⟩ fun p hp => ⟨hk' _ _ (N p hp).2.1 (N p hp).1, (N p hp).2⟩
    exact hk' _ _ (fun q => by subst q; exact absurd (Heap.lt_size e) (Nat.not_lt.mpr F.above)) (F.keep _ _ e)
end

/-- the end of a turn of my loops -/
def TurnEnd {σ : Type} (h₀ : Heap) (L : Addr) (Led : σ → List (Addr × Obj)) (ps : σ → List (Str × Value)) (x : Str) (stored : List Str) (m₀ : Str → Option Value) (P : σ → Prop) (I : Addr) (own : List (Addr × Obj)) (s₁ s₂ : Shared) : Prop :=
  ∃ c h' tk m' news', s₂ = { s₁ with heap := h', toks := tk } ∧ Fr h₀ L h' m' ∧ News h₀ L h' news' ∧ (∀ p ∈ own, p ∈ news') ∧ (∀ p ∈ Led c, p ∈ news') ∧ (∀ p ∈ Led c, p.1 ≠ I) ∧
    (∀ p ∈ ps c, m' p.1 = some p.2) ∧ (∀ z, z ≠ x → (∀ p ∈ ps c, z ≠ p.1) → stored.contains z = false → m' z = m₀ z) ∧ P c
def TurnPost {σ : Type} (h₀ : Heap) (L : Addr) (Led : σ → List (Addr × Obj)) (ps : σ → List (Str × Value)) (x : Str) (stored : List Str) (m₀ : Str → Option Value) (P : σ → Prop) (I : Addr) (own : List (Addr × Obj)) (s₁ : Shared) (Q : Flow → Shared → Prop) (f : Flow) (s₂ : Shared) : Prop :=
  match f with
  | .ret v => Q (.ret v) s₂
  | .brk => Q .next s₂
  | _ => TurnEnd h₀ L Led ps x stored m₀ P I own s₁ s₂

theorem TurnEnd.intro {σ : Type} {h₀ : Heap} {L : Addr} {Led : σ → List (Addr × Obj)} {ps : σ → List (Str × Value)} {x : Str} {stored : List Str} {m₀ : Str → Option Value} {P : σ → Prop} {I : Addr} {own : List (Addr × Obj)} {s₁ : Shared} (c : σ) {h' : Heap} {tk : Nat} {m' : Str → Option Value} {news' : List (Addr × Obj)}
    (F : Fr h₀ L h' m') (N : News h₀ L h' news') (ho : ∀ p ∈ own, p ∈ news') (hl : ∀ p ∈ Led c, p ∈ news') (hne : ∀ p ∈ Led c, p.1 ≠ I)
    (hk : ∀ p ∈ ps c, m' p.1 = some p.2) (hr : ∀ z, z ≠ x → (∀ p ∈ ps c, z ≠ p.1) → stored.contains z = false → m' z = m₀ z) (hp : P c) : TurnEnd h₀ L Led ps x stored m₀ P I own s₁ { s₁ with heap := h', toks := tk } :=
  ⟨c, h', tk, m', news', rfl, F, N, ho, hl, hne, hk, hr, hp⟩

section
variable {prog : Program} {w : World} {A : Around} {E : Value → Shared → Prop} {s : Shared} {env : Env} {h₀ : Heap} {x : Str} {body : List Stmt} {Q : Flow → Shared → Prop}

theorem walk_loop {σ : Type} {I : Addr} {fp : List Addr} {n : Nat} {V : Nat → Value → Prop} {St : Nat → Heap → Prop} {m₀ : Str → Option Value} (Led : σ → List (Addr × Obj)) (ps : σ → List (Str × Value)) (stored : List Str) (P : Nat → σ → Prop) (c₀ : σ)
    (W : Walks prog w A I fp [I] n V St) (hLf : env.locals ∉ fp) (hI : h₀.get? I = none) (hnw : ∀ p ∈ Led c₀, p.1 ≠ I) (hst : St 0 s.heap) (hIo : ∀ i h, St i h → ∃ o, h.get? I = some o)
    (F : Fr h₀ env.locals s.heap m₀) (N : News h₀ env.locals s.heap (Led c₀)) (hk : ∀ p ∈ ps c₀, m₀ p.1 = some p.2) (hp : P 0 c₀)
    (turn : ∀ i v c (u : Str → Option Value) h tk own, i < n → V i v → P i c → (∀ p ∈ Led c, p.1 ≠ I) → (∃ o, (I, o) ∈ own) → (∀ p ∈ own, p.1 ∈ fp) →
      Fr h₀ env.locals h (fun y => if y = x then some v else kstB (fun z => if stored.contains z then u z else m₀ z) (ps c) y) → News h₀ env.locals h (Led c ++ own) →
      wpAny (model prog w) A (execs body env) (TurnPost h₀ env.locals Led ps x stored m₀ (P (i + 1)) I own { s with heap := h, toks := tk } Q) E { s with heap := h, toks := tk })
    (done : ∀ c (u : Str → Option Value) h tk, P n c → Fr h₀ env.locals h (fun y => if y = x then u y else kstB (fun z => if stored.contains z then u z else m₀ z) (ps c) y) → News h₀ env.locals h (Led c) → Q .next { s with heap := h, toks := tk }) :
    LoopAtV prog w A h₀ env x body Q E (.ref I) s := by
  let J : Nat → (Str → Option Value) → List (Addr × Obj) → Prop := fun i m nx => ∃ c, nx = Led c ∧ (∀ p ∈ ps c, m p.1 = some p.2) ∧ (∀ z, z ≠ x → (∀ p ∈ ps c, z ≠ p.1) → stored.contains z = false → m z = m₀ z) ∧ P i c
  refine ⟨I, fp, [I], n, V, St, m₀, Led c₀, J, rfl, W, hLf, ?_, ?_, hst, F, N, ⟨c₀, rfl, hk, fun _ _ _ _ => rfl, hp⟩, ?_, ?_⟩
  · intro b hb; rw [List.mem_singleton.mp hb]; exact hI
  · intro p hp' hm; exact hnw p hp' (List.mem_singleton.mp hm)
  · rintro i v m₁ nx s₁ own ⟨hh', tk', rfl⟩ hin hV ⟨c, rfl, h1, h2, hp'⟩ hoff hown hget hall hst' F₁ N₁
    obtain ⟨o, ho⟩ := hIo _ hh' hst'
    have hmem : (I, o) ∈ own := hall I (W.sub I (.head _)) hI o ho
    have hne : ∀ p ∈ Led c, p.1 ≠ I := fun p hp e => hoff p hp (e ▸ .head _)
    have N₂ : News h₀ env.locals hh' (Led c ++ own) := fun p hp => N₁ p ((List.mem_append.mp hp).elim (fun h => List.mem_append.mpr (.inr h)) fun h => List.mem_append.mpr (.inl h))
    refine wpAny_mono (turn i v c m₁ hh' tk' own hin hV hp' hne ⟨o, hmem⟩ hown (kst_fr h1 h2 F₁) N₂) (fun f s₂ p => ?_) fun _ _ e => e
    have fin : TurnEnd h₀ env.locals Led ps x stored m₀ (P (i + 1)) I own { s with heap := hh', toks := tk' } s₂ → LoopStepU h₀ env.locals [I] own (J (i + 1)) { s with heap := hh', toks := tk' } .next s₂ := by
      rintro ⟨c', h', tk, m', news', e, F', N', ho', hl', hne', hk', hr', hp''⟩
      refine ⟨rfl, h', tk, m', Led c', e, F', fun p hp => N' p ((List.mem_append.mp hp).elim (ho' p) (hl' p)), fun p hp hq => hne' p hp (List.mem_singleton.mp hq), c', rfl, hk', hr', hp''⟩
    cases f with
    | ret v => exact .ret p
    | brk => exact .brk p
    | next => exact .next (fin p)
    | cont => exact .cont (fin p)
  · rintro h' tk m' news' F' N' _ ⟨c, rfl, h1, h2, hp'⟩
    exact done c m' h' tk hp' (kst_frOut h1 h2 F') N'

theorem rng_loop {σ : Type} {r : Addr} {a₀ b₀ : Int} {t₀ u₀ v₀ : Tok} {n : Nat} {m₀ : Str → Option Value} (Led : σ → List (Addr × Obj)) (ps : σ → List (Str × Value)) (stored : List Str) (P : Nat → σ → Prop) (c₀ : σ)
    (hh : A.handled = none) (hr : IsRange s.heap r a₀ b₀ 1 t₀ u₀ v₀) (hsmall : Builtin.Range.small a₀ b₀ 1 = true) (hn : Builtin.Range.rangeSize a₀ b₀ 1 = (n : Int))
    (F : Fr h₀ env.locals s.heap m₀) (N : News h₀ env.locals s.heap (Led c₀)) (hk : ∀ p ∈ ps c₀, m₀ p.1 = some p.2) (hp : P 0 c₀)
    (turn : ∀ I i t c (u : Str → Option Value) h tk own, i < n → P i c → (∀ p ∈ Led c, p.1 ≠ I) → (∃ o, (I, o) ∈ own) → (∀ p ∈ own, p.1 = I) →
      Fr h₀ env.locals h (fun y => if y = x then some (.int (a₀ + (i : Int)) t) else kstB (fun z => if stored.contains z then u z else m₀ z) (ps c) y) → News h₀ env.locals h (Led c ++ own) →
      wpAny (model prog w) A (execs body env) (TurnPost h₀ env.locals Led ps x stored m₀ (P (i + 1)) I own { s with heap := h, toks := tk } Q) E { s with heap := h, toks := tk })
    (done : ∀ c (u : Str → Option Value) h tk, P n c → Fr h₀ env.locals h (fun y => if y = x then u y else kstB (fun z => if stored.contains z then u z else m₀ z) (ps c) y) → News h₀ env.locals h (Led c) → Q .next { s with heap := h, toks := tk }) :
    wpAny (model prog w) A (pyIter (.ref r)) (fun it s₂ => LoopAtV prog w A h₀ env x body Q E it s₂) E s := by
  refine wpAny_pyIter_range hr hsmall ?_
  refine walk_loop Led ps stored P c₀ (Walks.range hh _ a₀ 1 n) ?_ (next_is_new F) ?_ (by show IsRangeIter _ _ _ _ _; rw [hn]; simpa using Heap.get?_push_size _ rfl) (fun i h st => ⟨_, st⟩) (F.push _) (fun p hp => ⟨Heap.get?_push_of_some _ (N p hp).1, (N p hp).2⟩) hk hp ?_ ?_
  · intro hm
    exact absurd F.ns.lt ((List.mem_singleton.mp hm) ▸ Nat.lt_irrefl _)
  · intro p hp hI
    exact absurd (Heap.lt_size (N p hp).1) (hI ▸ Nat.lt_irrefl _)
  · rintro i v c u h tk own hi ⟨t, rfl⟩ hp hne ho hfp F₁ N₁
    have e1 : a₀ + (i : Int) * 1 = a₀ + (i : Int) := by omega
    rw [e1] at F₁
    exact turn _ i t c u h tk own hi hp hne ho (fun p hp => List.mem_singleton.mp (hfp p hp)) F₁ N₁
  · exact done

/-- a for over a list that stands on the ledger all the while -/
theorem lst_loop {σ : Type} {l : Addr} {vs : List Value} {k : Nat} {m₀ : Str → Option Value} (Led : σ → List (Addr × Obj)) (ps : σ → List (Str × Value)) (stored : List Str) (P : Nat → σ → Prop) (c₀ : σ)
    (hh : A.handled = none) (hl : (l, listOf vs.toArray k) ∈ Led c₀)
    (F : Fr h₀ env.locals s.heap m₀) (N : News h₀ env.locals s.heap (Led c₀)) (hk : ∀ p ∈ ps c₀, m₀ p.1 = some p.2) (hp : P 0 c₀)
    (turn : ∀ I i v c (u : Str → Option Value) h tk own, vs[i]? = some v → P i c → (∀ p ∈ Led c, p.1 ≠ I) → (∃ o, (I, o) ∈ own) → (∀ p ∈ own, p.1 = I ∨ p.1 = l) →
      Fr h₀ env.locals h (fun y => if y = x then some v else kstB (fun z => if stored.contains z then u z else m₀ z) (ps c) y) → News h₀ env.locals h (Led c ++ own) →
      wpAny (model prog w) A (execs body env) (TurnPost h₀ env.locals Led ps x stored m₀ (P (i + 1)) I own { s with heap := h, toks := tk } Q) E { s with heap := h, toks := tk })
    (done : ∀ c (u : Str → Option Value) h tk, P vs.length c → Fr h₀ env.locals h (fun y => if y = x then u y else kstB (fun z => if stored.contains z then u z else m₀ z) (ps c) y) → News h₀ env.locals h (Led c) → Q .next { s with heap := h, toks := tk }) :
    wpAny (model prog w) A (pyIter (.ref l)) (fun it s₂ => LoopAtV prog w A h₀ env x body Q E it s₂) E s := by
  have hls : s.heap.IsList l vs.toArray := News.isList N hl
  obtain ⟨ol, hol, _⟩ := id hls
  have hne : l ≠ s.heap.objs.size := Nat.ne_of_lt (Heap.lt_size hol)
  refine wpAny_pyIter_list hls ?_
  have W := Walks.list (prog := prog) (w := w) (A := A) hh s.heap.objs.size l hne vs.toArray
  have hlen : vs.toArray.size = vs.length := by simp
  rw [hlen] at W
  refine walk_loop Led ps stored P c₀ W ?_ (next_is_new F) ?_ ⟨⟨_, Heap.get?_push_size _ rfl, rfl, rfl⟩, hls.at fun o e => Heap.get?_push_of_some _ e⟩ (fun i h st => ?_) (F.push _) (fun p hp => ⟨Heap.get?_push_of_some _ (N p hp).1, (N p hp).2⟩) hk hp ?_ ?_
  · intro hm
    rcases List.mem_cons.mp hm with e | hm
    · exact absurd F.ns.lt (e ▸ Nat.lt_irrefl _)
    · exact (N _ hl).2.1 (List.mem_singleton.mp hm).symm
  · intro p hp hI
    exact absurd (Heap.lt_size (N p hp).1) (hI ▸ Nat.lt_irrefl _)
  · obtain ⟨o, ho, _⟩ := st.1; exact ⟨o, ho⟩
  · intro i v c u h tk own hi hV hp hne ho hfp F₁ N₁
    exact turn _ i v c u h tk own (by simpa using hV) hp hne ho (fun p hp => (List.mem_cons.mp (hfp p hp)).imp id List.mem_singleton.mp) F₁ N₁
  · exact done
end

/-- an item of a list on the ledger, at a place that is not written -/
theorem item_at {prog : Program} {w : World} {A : Around} {E : Value → Shared → Prop} {s : Shared} {h₀ : Heap} {L : Addr} {news : List (Addr × Obj)} {value slice : PySem.Expr} {l : Addr} {vs : List Value} {n : Nat} {k : Int} {u : Tok} {v : Value} {Q : Value → Shared → Prop}
    (N : News h₀ L s.heap news) (hm : (l, listOf vs.toArray n) ∈ news) (h0 : 0 ≤ k) (hhi : k < 2 ^ 63) (hx : vs[k.toNat]? = some v) (h : Q v s)
    (hs : subscripted slice false (.ref l) (.int k u) = operate [.ref l, .int k u] (getItem (.ref l) (.int k u)) := by with_unfolding_all rfl) :
    wpAny (model prog w) A (subscriptTail value slice (.ref l) (.int k u)) Q E s :=
  tail_any (News.isList N hm).typeIs slot_list_getitem.lookup (wpAny_getItem_list (News.isList N hm) h0 hhi (by simpa using hx) h) hs
end Mine
end

section
open PySem PySem.W PyProof.Rows
set_option maxRecDepth 100000
set_option maxHeartbeats 8000000
namespace Mine
open_top hd for PySem.Challenge.rw_gl0002_01
end Mine
end

section
open PySem PySem.W PyProof.Rows PySem.Spec PySem.Calls
set_option maxRecDepth 100000
set_option maxHeartbeats 8000000
namespace Mine

local macro_rules | `(tactic| k_mem) => `(tactic| first | assumption | exact List.Mem.head _ | (refine' List.Mem.tail _ ?_; k_mem))
local macro_rules | `(tactic| walk_at "exec For Tuple Call cons nil") => `(tactic| (k_here; k_dflt (refine' For_items_empty ?k1 ?k2 ?k3 ?k4 ?k5 ?k6 ?_; (case k1 => exact rfl); (case k2 => k_asm); (case k3 => k_asm); (case k6 => exact rfl); (case k5 => first | assumption | exact EmptyD.mk (by assumption) (by assumption)); (case k4 => k_mem); k_whole); intro h' tk' F' N'; (try k_sweep); (try dsimp only)))

theorem addCallers (w : World) (x y : Addr) (ox oy : Obj) (ex : EmptyD PySem.Challenge.rw_gl0002_01.row.prog w x ox) (ey : EmptyD PySem.Challenge.rw_gl0002_01.row.prog w y oy) :
    Says PySem.Challenge.rw_gl0002_01.row.prog (hd.heap_39 w.params) w 3 20 28 [.ref x, .ref y] (fun news => (x, ox) ∈ news ∧ (y, oy) ∈ news) (fun r tl => ∃ d o, r = .ref d ∧ tl = [(d, o)] ∧ EmptyD PySem.Challenge.rw_gl0002_01.row.prog w d o) := by
  unfold Says
  w_top off
  k_fill
  intro p loose mean mg mb dp un gd cn cs a ccd cl outer A₀ base h₀ L m news s Q E B F X N T hk ⟨hx, hy⟩ hd hu hret
  refine wpAny_noRaise ?_
  refine wpAny_call ?_
  k_dflt ktr_enter
  all_goals refine wpAny_noRaise ?_
  k_steps
  exact hret _ [_] _ _ (by k_asm) (by k_asm) (ktn_ord1 (allLt_of (by assumption))) ⟨_, _, rfl, rfl, ⟨by assumption, by assumption⟩⟩

local macro_rules | `(tactic| walk_at "call ref") => `(tactic| (k_here; k_dflt (refine' says_use (addCallers _ _ _ _ _ ?e1 ?e2) ?k1 ?k2 ?k3 ?k4 ?k5 ?k6 ?k7 ?k8 ?k9 ?_; (case k1 => k_asm); (case k2 => k_asm); (case k3 => k_asm); (case k4 => k_asm); (case k5 => k_asm); (case k6 => first | assumption | exact rfl); (case e1 => assumption); (case e2 => assumption); (case k7 => exact ⟨by k_mem, by k_mem⟩); (case k8 => ktr_room); (case k9 => ktr_units); k_whole); intro r' tl' h' tk' F' N' l' hp'; obtain ⟨d', o', hr', htl', D'⟩ := hp'; subst hr' htl'; (try simp only [List.cons_append, List.nil_append] at N'); (try k_sweep); (try dsimp only)))

theorem addFuncStats (w : World) (x y dx dy : Addr) (ox oy : Obj) (ex : EmptyD PySem.Challenge.rw_gl0002_01.row.prog w dx ox) (ey : EmptyD PySem.Challenge.rw_gl0002_01.row.prog w dy oy) (a b c d a' b' c' d' : Int) (t1 t2 t3 t4 t5 t6 t7 t8 : Tok) :
    Says PySem.Challenge.rw_gl0002_01.row.prog (hd.heap_39 w.params) w 5 40 21 [.ref x, .ref y] (fun news => (x, tupO [.int a t1, .int b t2, .int c t3, .int d t4, .ref dx]) ∈ news ∧ (dx, ox) ∈ news ∧ (y, tupO [.int a' t5, .int b' t6, .int c' t7, .int d' t8, .ref dy]) ∈ news ∧ (dy, oy) ∈ news)
      (fun r tl => ∃ e d₁ o t1' t2' t3' t4', r = .ref e ∧ tl = [(e, tupO [.int (a' + a) t1', .int (b' + b) t2', .int (c' + c) t3', .int (d' + d) t4', .ref d₁]), (d₁, o)] ∧ EmptyD PySem.Challenge.rw_gl0002_01.row.prog w d₁ o) := by
  unfold Says
  w_top off
  k_fill
  intro p loose mean mg mb dp un gd cn cs a ccd cl outer A₀ base h₀ L m news s Q E B F X N T hk ⟨hx, hdx, hy, hdy⟩ hd hu hret
  refine wpAny_noRaise ?_
  refine wpAny_call ?_
  k_dflt ktr_enter
  all_goals refine wpAny_noRaise ?_
  k_steps
  rename EmptyD _ _ _ _ => D1
  exact hret _ [_, _] _ _ (by k_asm) (by k_asm) (ord_cons (And.right (by assumption)) (by assumption)) ⟨_, _, _, _, _, _, _, rfl, rfl, D1⟩

end Mine
end

section
open PySem PySem.W PyProof.Rows PySem.Spec PySem.Calls
set_option maxRecDepth 100000
set_option maxHeartbeats 8000000
namespace Mine
local macro_rules | `(tactic| walk_at "zz0") => `(tactic| fail)
local macro_rules | `(tactic| walk_at "zz1") => `(tactic| fail)
local macro_rules | `(tactic| walk_at "zz2") => `(tactic| fail)
local macro_rules | `(tactic| walk_at "zz3") => `(tactic| fail)
local macro_rules | `(tactic| walk_at "zz4") => `(tactic| fail)
local macro_rules | `(tactic| walk_at "zz5") => `(tactic| fail)
local macro_rules | `(tactic| walk_at "zz6") => `(tactic| fail)
local macro_rules | `(tactic| walk_at "zz7") => `(tactic| fail)
local macro_rules | `(tactic| walk_at "zz8") => `(tactic| fail)
local macro_rules | `(tactic| walk_at "zz9") => `(tactic| fail)
local macro_rules | `(tactic| walk_at "zz10") => `(tactic| fail)
local macro_rules | `(tactic| walk_at "zz11") => `(tactic| fail)
local macro_rules | `(tactic| walk_at "zz12") => `(tactic| fail)
local macro_rules | `(tactic| walk_at "zz13") => `(tactic| fail)
local macro_rules | `(tactic| walk_at "zz14") => `(tactic| fail)
local macro_rules | `(tactic| walk_at "zz15") => `(tactic| fail)
local macro_rules | `(tactic| walk_at "zz16") => `(tactic| fail)
local macro_rules | `(tactic| walk_at "zz17") => `(tactic| fail)
local macro_rules | `(tactic| walk_at "zz18") => `(tactic| fail)
local macro_rules | `(tactic| walk_at "zz19") => `(tactic| fail)

local macro_rules | `(tactic| k_mem) => `(tactic| first | assumption | exact List.Mem.head _ | (refine' List.Mem.tail _ ?_; k_mem))
local macro_rules | `(tactic| k_all) => `(tactic| assumption)
local macro_rules | `(tactic| k_steps) => `(tactic| repeat' ((fail_if_success (with_reducible show wpAny _ _ (pyIter (Value.ref _)) (fun it s₂ => LoopAtV _ _ _ _ _ _ _ _ _ it s₂) _ _)); first | (k_unfold; (try dsimp only)) | (k_end; wrow_close) | walk1 | (dsimp only; walk1) | (leave1; walk_say "STEP leave1"; try dsimp only) | fail "no step"))
local macro_rules | `(tactic| walk_at "exec For Name Call cons nil") => `(tactic| (k_here; (rename Fr _ _ _ _ => lF'); (with_unfolding_all refine' For_invVF lF' ?k1 ?k2 ?_; (case k1 => exact rfl); (case k2 => exact rfl); k_whole)))
local macro_rules | `(tactic| walk_at "call ref") => `(tactic| (k_here; k_dflt (refine' says_use (addFuncStats _ _ _ _ _ _ _ ?e1 ?e2 _ _ _ _ _ _ _ _ _ _ _ _ _ _ _ _) ?k1 ?k2 ?k3 ?k4 ?k5 ?k6 ?k7 ?k8 ?k9 ?_; (case k1 => k_asm); (case k2 => k_asm); (case k3 => k_asm); (case k4 => k_asm); (case k5 => k_asm); (case k6 => first | assumption | exact rfl); (case k7 => refine' ⟨?m1, ?m2, ?m3, ?m4⟩; (case m1 => k_mem); (case m2 => k_mem); (case m3 => k_mem); (case m4 => k_mem)); (case e1 => first | assumption | exact EmptyD.mk (by assumption) (by assumption)); (case e2 => first | assumption | exact EmptyD.mk (by assumption) (by assumption)); (case k8 => ktr_room); (case k9 => ktr_units); k_whole); intro r' tl' h' tk' F' N' l' hp'; obtain ⟨e', d', o', t1', t2', t3', t4', hr', htl', D'⟩ := hp'; subst hr' htl'; (try simp only [List.cons_append, List.nil_append] at N'); (try k_sweep); (try dsimp only)))
local macro_rules | `(tactic| walk_at "subscriptTail") => `(tactic| (k_here; (with_reducible show wpAny _ _ (subscriptTail _ _ (Value.ref _) (Value.int _ _)) _ _ _); (with_unfolding_all refine' item_at ?k1 ?k2 ?k3 ?k4 ?k5 ?_ ?k6; (case k1 => k_asm); (case k2 => k_mem); (case k3 => omega); (case k4 => omega); (case k5 => assumption); (case k6 => with_unfolding_all rfl); k_whole)))

def dot (sg ti : List Int) : Nat → Int
  | 0 => 0
  | j + 1 => sg.getD j 0 * ti.getD j 0 + dot sg ti j
def walsh (sg : List Int) (tb : List (List Int)) : List Int := (List.range 8).map fun i => dot sg (tb.getD i []) 8

theorem lawNumbers (w : World) (S T : Addr) (sv tv : List Value) (sg : List Int) (tb : List (List Int)) (kS kT : Nat)
    (hS : IntsAre sv sg) (hSl : sg.length = 8) (hTl : tb.length = 8) (rows : Nat → Addr) (rv : Nat → List Value) (rk : Nat → Nat)
    (hT : ∀ i, i < 8 → tv[i]? = some (.ref (rows i))) (hR : ∀ i, i < 8 → IntsAre (rv i) (tb.getD i [])) (hRl : ∀ i, i < 8 → (tb.getD i []).length = 8) (hb : ∀ i, i < 8 → ∀ j, j < 8 → -1 ≤ (tb.getD i []).getD j 0 ∧ (tb.getD i []).getD j 0 ≤ 1) :
    Says PySem.Challenge.rw_gl0002_01.row.prog (hd.heap_39 w.params) w 10 80 61 [.ref S, .ref T] (fun news => (S, listOf sv.toArray kS) ∈ news ∧ (T, listOf tv.toArray kT) ∈ news ∧ ∀ i, i < 8 → (rows i, listOf (rv i).toArray (rk i)) ∈ news)
      (fun r tl => ∃ e vs k, r = .ref e ∧ tl = [(e, listOf vs.toArray k)] ∧ IntsAre vs (walsh sg tb)) := by
  unfold Says
  w_top off
  k_fill
  intro p loose mean mg mb dp un gd cn cs a ccd cl outer A₀ base h₀ L m news s Q E B F X N T' hk ⟨h1, h2, h3⟩ hd hu hret
  refine wpAny_noRaise ?_
  refine wpAny_call ?_
  k_dflt ktr_enter
  all_goals refine wpAny_noRaise ?_
  k_steps
  rename IsRange _ _ _ _ _ _ _ _ => R1
  rename News _ _ _ _ => N1
  rename Fr _ _ _ _ => F1
  rename_i lf _ hlow _ _ _ _ _ _ _ _ _
  refine rng_loop (n := 8) (σ := List Value × Nat) (fun c => (lf, listOf c.1.toArray c.2) :: news) (fun _ => []) [Str.ofString "whole", Str.ofString "row"] (fun i c => IntsAre c.1 ((List.range i).map fun i => dot sg (tb.getD i []) 8)) ([], 0) rfl R1 (by decide) (by rfl) F1 N1 (fun _ h => nomatch h) .nil ?_ ?_
  · rintro I i t ⟨c1, c2⟩ u h tk own hi hP hne ho hown F2 N2
    clear R1 N1 F1
    dsimp only at hP
    have q1 : tv[((0 : Int) + (i : Int)).toNat]? = some (.ref (rows i)) := by rw [show ((0 : Int) + (i : Int)).toNat = i from by omega]; exact hT i hi
    have hlI : lf ≠ I := hne _ (.head _)
    have hall : ∀ p ∈ news ++ own, p.1 ≠ lf := fun p hp => (List.mem_append.mp hp).elim (fun h => Nat.ne_of_lt (hlow p h)) fun h => by rw [hown p h]; exact hlI.symm
    k_steps
    rename IsRange _ _ _ _ _ _ _ _ => R1
    rename News _ _ _ _ => N1
    rename Fr _ _ _ _ => F1
    simp only [List.cons_append] at *
    rename AllLt _ _ => hA1
    rename _ ∧ AllLt _ _ => hA2
    refine rng_loop (n := 8) (σ := Addr × Obj × Addr × Obj) (fun c => (c.1, c.2.1) :: (c.2.2.1, c.2.2.2) :: (lf, listOf c1.toArray c2) :: (news ++ own)) (fun c => [(Str.ofString "whole", .ref c.1)]) []
      (fun j c => EmptyD PySem.Challenge.rw_gl0002_01.row.prog w c.2.2.1 c.2.2.2 ∧ lf < c.1 ∧ lf < c.2.2.1 ∧ ∃ t1 t2 t3 t4, c.2.1 = tupO [.int (dot sg (tb.getD i []) j) t1, .int (j : Int) t2, .int 0 t3, .int 0 t4, .ref c.2.2.1]) (_, _, _, _) rfl R1 (by decide) (by rfl) F1 N1 (List.forall_mem_singleton.mpr rfl) ⟨EmptyD.mk (by assumption) (by assumption), hA2.2.1, hA1.1, _, _, _, _, rfl⟩ ?_ ?_
    · rintro I' j t' ⟨e, oe, d, od⟩ u' h tk own' hj ⟨hD, hlt1, hlt2, t1, t2, t3, t4, he⟩ hne' ⟨oI, ho'⟩ hown' F3 N3
      dsimp only at hD he hlt1 hlt2
      subst he
      clear R1 N1 F1 hA1 hA2
      obtain ⟨tS, qS⟩ := hS.get j (sg.getD j 0) (by rw [List.getD_eq_getElem?_getD, List.getElem?_eq_getElem (by omega)]; rfl)
      obtain ⟨tR, qR⟩ := (hR i hi).get j ((tb.getD i []).getD j 0) (by rw [List.getD_eq_getElem?_getD (l := tb.getD i []), List.getElem?_eq_getElem (by rw [hRl i hi]; exact hj)]; rfl)
      have q2 : sv[((0 : Int) + (j : Int)).toNat]? = some (.int (sg.getD j 0) tS) := by rw [show ((0 : Int) + (j : Int)).toNat = j from by omega]; exact qS
      have q3 : (rv i)[((0 : Int) + (j : Int)).toNat]? = some (.int ((tb.getD i []).getD j 0) tR) := by rw [show ((0 : Int) + (j : Int)).toNat = j from by omega]; exact qR
      have hS' : (S, listOf sv.toArray kS) ∈ news ++ own := List.mem_append_left _ h1
      have hT' : (T, listOf tv.toArray kT) ∈ news ++ own := List.mem_append_left _ h2
      have hR' : (rows i, listOf (rv i).toArray (rk i)) ∈ news ++ own := List.mem_append_left _ (h3 i hi)
      obtain ⟨b1, b2⟩ := hb i hi j hj
      k_steps
      rename_i e1 d1 o1 s1 s2 s3 s4 D1 hl hh1 FF NN
      have gI : I' < e1 ∧ I' < d1 := ⟨hl (I', oI) (by simp [ho']) _ (.head _), hl (I', oI) (by simp [ho']) _ (.tail _ (.head _))⟩
      have gl : lf < e1 ∧ lf < d1 := ⟨hl (lf, listOf c1.toArray c2) (by simp) _ (.head _), hl (lf, listOf c1.toArray c2) (by simp) _ (.tail _ (.head _))⟩
      rw [show (1 : Int) + (j : Int) = ((j + 1 : Nat) : Int) from by omega] at NN
      refine TurnEnd.intro (e1, tupO [.int (dot sg (tb.getD i []) (j + 1)) s1, .int ((j + 1 : Nat) : Int) s2, .int 0 s3, .int 0 s4, .ref d1], d1, o1) FF NN ?ho ?hl ?hne (List.forall_mem_singleton.mpr rfl) ?hr ⟨D1, gl.1, gl.2, s1, s2, s3, s4, rfl⟩
      case ho => intro p hp; simp [hp]
      case hl => exact List.forall_mem_cons.mpr ⟨.head _, List.forall_mem_cons.mpr ⟨.tail _ (.head _), fun p hp => by simp only [List.mem_cons, List.mem_append] at hp ⊢; grind⟩⟩
      case hne => exact List.forall_mem_cons.mpr ⟨Nat.ne_of_gt gI.1, List.forall_mem_cons.mpr ⟨Nat.ne_of_gt gI.2, fun p hp => hne' p (.tail _ (.tail _ hp))⟩⟩
      case hr => (intro z h1 h2 h3; have h4 := h2 _ (.head _); dsimp only at h4; simp [kstB, h1, h4])
    · rintro ⟨e, oe, d, od⟩ u' h tk ⟨hD, hlt1, hlt2, t1, t2, t3, t4, he⟩ F3 N3
      dsimp only at hD he hlt1 hlt2 N3
      subst he
      clear R1 N1 F1 hA1 hA2
      have hu1 : ∀ p ∈ news ++ own, p.1 ≠ lf := hall
      have hc1 : c1.length = i := by rw [hP.length]; simp
      have hc2 : c1.length ≤ 8 := by omega
      replace hlt1 := ltN hlt1
      replace hlt2 := ltN hlt2
      k_steps
      rename News _ _ _ _ => NN
      rename Fr _ _ _ _ => FF
      simp only [List.push_toArray] at NN
      refine TurnEnd.intro (c1 ++ [.int (dot sg (tb.getD i []) 8) t1], c2 + 1) FF NN ?ho ?hl ?hne (fun _ h => nomatch h) ?hr ?hv
      case ho => intro p hp; simp [hp]
      case hl => exact List.forall_mem_cons.mpr ⟨.tail _ (.tail _ (.head _)), fun p hp => by simp only [List.mem_cons, List.mem_append]; grind⟩
      case hne => exact List.forall_mem_cons.mpr ⟨hlI, fun p hp => hne p (.tail _ hp)⟩
      case hr =>
        intro z z1 z2 z3
        have z4 : z ≠ Str.ofString "whole" ∧ z ≠ Str.ofString "row" := by
          simp only [List.contains_cons, List.contains_nil, Bool.or_false, Bool.or_eq_false_iff, beq_eq_false_iff_ne, ne_eq] at z3; exact z3
        simp [kstB, z1, z4.1, z4.2]
      case hv =>
        dsimp only
        rw [List.range_succ, List.map_append]
        exact hP.append (.cons _ _ .nil)
  · rintro ⟨c1, c2⟩ u h tk hP F2 N2
    clear R1 N1 F1
    k_steps
    exact hret _ [_] _ _ (by k_asm) (by k_asm) (ktn_ord1 (allLt_of (by assumption))) ⟨_, _, _, rfl, rfl, hP⟩
end Mine
end

section
open PySem PySem.W PyProof.Rows PySem.Spec PySem.Calls
set_option maxRecDepth 100000
set_option maxHeartbeats 800000
namespace Mine

section
variable {prog : Program} {w : World} {A : Around} {E : Value → Shared → Prop} {s : Shared} {Q : Value → Shared → Prop} {a n r : Int} {t u : Tok}
theorem shr_to (hn : 0 ≤ n) (e : a.fdiv (2 ^ n.toNat) = r) (h : Q (.int r s.toks) { s with toks := s.toks + 1 }) : wpAny (model prog w) A (binaryOp .RShift (.int a t) (.int n u)) Q E s :=
  rshift_int hn (by rw [e]; exact h)
theorem mul_to (hm : IntMulOk a n) (e : a * n = r) (h : Q (.int r s.toks) { s with toks := s.toks + 1 }) : wpAny (model prog w) A (binaryOp .Mult (.int a t) (.int n u)) Q E s :=
  PyProof.Rows.mul_int (by rw [e]; exact h) hm
theorem shl_to (hn : 0 ≤ n) (hn2 : n ≤ 1000000) (ha : a.natAbs < 2 ^ 64) (e : a * 2 ^ n.toNat = r) (h : Q (.int r s.toks) { s with toks := s.toks + 1 }) : wpAny (model prog w) A (binaryOp .LShift (.int a t) (.int n u)) Q E s :=
  lshift_int_small hn hn2 ha (by rw [e]; exact h)
theorem xor_to (e : Builtin.bitXor a n = r) (h : Q (.int r s.toks) { s with toks := s.toks + 1 }) : wpAny (model prog w) A (binaryOp .BitXor (.int a t) (.int n u)) Q E s :=
  xor_int (by rw [e]; exact h)
end
theorem ite_yes {c : Bool} {P Q : Prop} (h : c = true) (p : P) : if c = true then P else Q := by rw [if_pos h]; exact p
theorem ite_no {c : Bool} {P Q : Prop} (h : c = false) (q : Q) : if c = true then P else Q := by rw [if_neg (by rw [h]; exact Bool.false_ne_true)]; exact q

theorem bits_lo : ∀ x : Fin 256, ∀ s : Fin 5, ∀ j : Fin 8, j.val < s.val → ((x.val : Int) % 2 ^ s.val) / 2 ^ j.val % 2 = (x.val : Int) / 2 ^ j.val % 2 := by decide +kernel
theorem bits_hi : ∀ x : Fin 256, ∀ s : Fin 5, ∀ j : Fin 8, ((x.val : Int) / 2 ^ s.val) / 2 ^ j.val % 2 = (x.val : Int) / 2 ^ (s.val + j.val) % 2 := by decide +kernel
theorem bits_xor : ∀ x : Fin 256, ∀ s : Fin 5, Builtin.bitXor (x.val : Int) ((x.val : Int) / 2 ^ s.val * 2 ^ s.val) = (x.val : Int) % 2 ^ s.val := by decide +kernel
theorem bits_b : ∀ x : Fin 256, ∀ s : Fin 5, ∀ k : Fin 9, (x.val : Int) < 2 ^ k.val → s.val ≤ k.val → (x.val : Int) / 2 ^ s.val < 2 ^ (k.val - s.val) ∧ 0 ≤ (x.val : Int) / 2 ^ s.val ∧ (x.val : Int) % 2 ^ s.val < 2 ^ s.val ∧ 0 ≤ (x.val : Int) % 2 ^ s.val := by decide +kernel

local macro_rules | `(tactic| k_mem) => `(tactic| first | assumption | exact List.Mem.head _ | (refine' List.Mem.tail _ ?_; k_mem))
local macro_rules | `(tactic| k_all) => `(tactic| assumption)
local macro_rules | `(tactic| k_steps) => `(tactic| repeat' ((fail_if_success (with_reducible show wpAny _ _ (pyIter (Value.ref _)) (fun it s₂ => LoopAtV _ _ _ _ _ _ _ _ _ it s₂) _ _)); (fail_if_success (with_reducible show wpAny _ _ (call (Value.ref _) _) _ _ _)); first | (k_unfold; (try dsimp only)) | (k_end; wrow_close) | walk1 | (dsimp only; walk1) | (leave1; walk_say "STEP leave1"; try dsimp only) | fail "no step"))
local macro_rules | `(tactic| walk_at "eval Name") => `(tactic| (k_here; (with_reducible show wpAny _ _ (eval (Expr.Name _ _) (envX _ _ _ _ _ _)) _ _ _); k_dflt (refine' nameX_F ?N ?c ?m ?d ?_ ?a ?b; (case a => rfl); (case b => rfl); (case N => k_asm); (case c => rfl); (case m => k_mem); (case d => k_asm); k_whole)))
local macro_rules | `(tactic| walk_at "ite") => `(tactic| (k_here; first | refine ite_yes (by simp only [beq_iff_eq, bne_iff_ne, decide_eq_true_eq]; omega) ?_ | refine ite_no (by simp only [beq_eq_false_iff_ne, bne_eq_false_iff_eq, decide_eq_false_iff_not]; omega) ?_))
local macro_rules | `(tactic| walk_at "binaryOp RShift int int") => `(tactic| (k_here; k_dflt ((refine' shr_to ?ca ?cb ?_); (case ca => first | decide | omega); (case cb => assumption))))
local macro_rules | `(tactic| walk_at "binaryOp LShift int int") => `(tactic| (k_here; k_dflt ((refine' shl_to ?ca ?cc ?cd ?cb ?_); (case ca => first | decide | omega); (case cc => omega); (case cd => omega); (case cb => exact rfl))))
local macro_rules | `(tactic| walk_at "binaryOp Mult int int") => `(tactic| (k_here; k_dflt ((refine' mul_to ?ca ?cb ?_); (case ca => mul_fits); (case cb => assumption))))
local macro_rules | `(tactic| walk_at "binaryOp BitXor int int") => `(tactic| (k_here; k_dflt ((refine' xor_to ?cb ?_); (case cb => assumption))))
local macro_rules | `(tactic| walk_at "callWith ref") => `(tactic| (k_here; k_dflt (refine' callWith_F ?k1 ?_; (case k1 => exact FnAt.of (by k_asm) (by k_mem)); k_whole)))
local macro_rules | `(tactic| walk_at "FnAt") => `(tactic| (k_dflt (exact FnAt.of (by k_asm) (by k_mem))))

def innerOf (p : Program) (x : Str) : Option Stmt :=
  (p.main.body.find? fun st => match st with | .FunctionDef n .. => n == x | _ => false).bind fun st => match st with
    | .FunctionDef _ _ body .. => body.find? fun st => match st with | .FunctionDef .. => true | _ => false
    | _ => none
def IsInner (p : Program) (x : Str) (name : Str) (params : Arguments) (body : List Stmt) (scope : Scope) : Prop :=
  ∃ pos, innerOf p x = some (.FunctionDef name params body [] none [] scope none name pos)

/-- _int2digits' inner: it writes x's figures by two into the places lo .. hi - 1 of the list at D -/
def InnerSays (prog : Program) (K : Frag) (w : World) (f D : Addr) (rest : List (Addr × Obj)) (k : Nat) : Prop :=
  ∀ (p : Program) (loose : List Str) (mean : ExcName → Option Value) (mg mb : Str → Option Value)
    (dp un : Nat) (gd : Option (List Code)) (cn : Str) (cs : Scope) (a : Addr) (ccd : Value) (cl : List (Str × Addr)) (outer : List Env) (A₀ : Around) (base h₀ : Heap) (L : Addr) (m : Str → Option Value) (s : Shared) (Q E : Value → Shared → Prop)
    (vs : List Value) (ns : List Int) (n lo hi : Nat) (x : Int) (tx tl th : Tok),
    Below A₀ base outer h₀ → Fr h₀ L s.heap m → K.In h₀ → News h₀ L s.heap ((D, listOf vs.toArray n) :: rest) → Top p loose mean mg mb h₀ → cs.kind = .function → IntsAre vs ns →
    lo + k = hi → 0 < k → hi ≤ ns.length → ns.length ≤ 8 → 0 ≤ x → x < 2 ^ k → dp + 2 * k + 2 < recursionLimit → un + 20 * k + 40 < cLine →
    (∀ (vs' : List Value) (ns' : List Int) (h' : Heap) (tk' : Nat), Fr h₀ L h' m → News h₀ L h' ((D, listOf vs'.toArray n) :: rest) → IntsAre vs' ns' → ns'.length = ns.length →
      (∀ i, ns'.getD i 0 = if lo ≤ i ∧ i < hi then x / 2 ^ (i - lo) % 2 else ns.getD i 0) → Q .none { s with heap := h', toks := tk' }) →
    wpAny (model prog w) (ktrTop dp un gd cn cs L a ccd cl outer) (call (.ref f) [.int x tx, .int (lo : Int) tl, .int (hi : Int) th]) Q E s
theorem inner_use {prog : Program} {K : Frag} {w : World} {f D : Addr} {rest : List (Addr × Obj)} {k : Nat} (C : InnerSays prog K w f D rest k)
    {p : Program} {loose : List Str} {mean : ExcName → Option Value} {mg mb : Str → Option Value}
    {dp un : Nat} {gd : Option (List Code)} {cn : Str} {cs : Scope} {a : Addr} {ccd : Value} {cl : List (Str × Addr)} {outer : List Env} {A₀ : Around} {base h₀ : Heap} {L : Addr} {m : Str → Option Value} {s : Shared} {Q E : Value → Shared → Prop}
    {vs : List Value} {ns : List Int} {n lo hi : Nat} {x : Int} {tx tl th : Tok}
    (B : Below A₀ base outer h₀) (F : Fr h₀ L s.heap m) (X : K.In h₀) (N : News h₀ L s.heap ((D, listOf vs.toArray n) :: rest)) (T : Top p loose mean mg mb h₀) (hk : cs.kind = .function) (hI : IntsAre vs ns)
    (h1 : lo + k = hi) (h2 : 0 < k) (h3 : hi ≤ ns.length) (h4 : ns.length ≤ 8) (h5 : 0 ≤ x) (h6 : x < 2 ^ k) (h7 : dp + 2 * k + 2 < recursionLimit) (h8 : un + 20 * k + 40 < cLine)
    (ret : ∀ (vs' : List Value) (ns' : List Int) (h' : Heap) (tk' : Nat), Fr h₀ L h' m → News h₀ L h' ((D, listOf vs'.toArray n) :: rest) → IntsAre vs' ns' → ns'.length = ns.length →
      (∀ i, ns'.getD i 0 = if lo ≤ i ∧ i < hi then x / 2 ^ (i - lo) % 2 else ns.getD i 0) → Q .none { s with heap := h', toks := tk' }) :
    wpAny (model prog w) (ktrTop dp un gd cn cs L a ccd cl outer) (call (.ref f) [.int x tx, .int (lo : Int) tl, .int (hi : Int) th]) Q E s :=
  C p loose mean mg mb dp un gd cn cs a ccd cl outer A₀ base h₀ L m s Q E vs ns n lo hi x tx tl th B F X N T hk hI h1 h2 h3 h4 h5 h6 h7 h8 ret

theorem innerSays (w : World) (name qual : Str) (params : Arguments) (body : List Stmt) (scope : Scope) (h : IsInner PySem.Challenge.rw_gl0002_01.row.prog (Str.ofString "_int2digits") name params body scope)
    (f D cA cI cN c' : Addr) (oA oI oN oc : Obj) (doc pm ctv : Value) (tN tq : Tok) (fs : Array Value) (rest : List (Addr × Obj))
    (hf : (f, fnMade name qual params body scope [(Str.ofString "n", cN), (Str.ofString "inner", cI), (Str.ofString "a_digits", cA)] doc pm c' ctv) ∈ rest)
    (hc : (c', oc) ∈ rest) (hc1 : oc.data = .fields fs) (hc2 : fs[1]? = some (.str qual tq))
    (hA : (cA, oA) ∈ rest) (hA' : oA.data = .cell (some (.ref D))) (hI : (cI, oI) ∈ rest) (hI' : oI.data = .cell (some (.ref f))) (hN : (cN, oN) ∈ rest) (hN' : oN.data = .cell (some (.int 1 tN)))
    (hD : ∀ p ∈ rest, p.1 ≠ D) : ∀ k, InnerSays PySem.Challenge.rw_gl0002_01.row.prog (hd.heap_39 w.params) w f D rest k := by
  w_top off
  k_fill
  obtain ⟨pos, h⟩ := h
  conv at h => lhs; whnf
  cases h
  intro k
  induction k using Nat.strongRecOn with
  | ind k IH =>
  unfold InnerSays
  intro p loose mean mg mb dp un gd cn cs a ccd cl outer A₀ base h₀ L m s Q E vs ns n lo hi x tx tl th B F X N T hk hints hlh hk0 hhv hv8 hx0 hxk hd hu hret
  refine wpAny_noRaise ?_
  refine wpAny_call ?_
  k_dflt (refine' code_nest ?k1 ?k2 ?k3 ?k4 ?k5 ?kA ?kF ?kK ?k6 ?k7 ?k8 ?k9 ?kB ?_ ?c2 ?c3 ?c4 ?c5; (case kA => exact rfl); (case kF => exact rfl); (case kK => assumption); (case k1 => k_asm); (case k2 => k_asm); (case k3 => k_asm); (case k4 => k_asm); (case k5 => k_asm); (case k6 => k_mem); (case k7 => exact codeRec_news (by k_asm) (by k_mem) (by assumption) (by assumption)); (case k8 => ktr_room); (case k9 => exact BindsTo.of_eq rfl); (case c5 => decide); (case kB => exact locs rfl); (case c2 => exact rfl); (case c3 => exact rfl); (case c4 => exact rfl); k_whole; intro g' L' h' FG' F' N' B' X' T'; (try dsimp only); (try k_lift B'); (try k_fold))
  all_goals refine wpAny_noRaise ?_
  have h256 : x < 256 := Int.lt_of_lt_of_le hxk (by
    have : (2 : Int) ^ k ≤ 2 ^ 8 := by exact_mod_cast Nat.pow_le_pow_right (by decide : 0 < 2) (by omega : k ≤ 8)
    exact this)
  obtain ⟨X0, rfl⟩ : ∃ X : Fin 256, x = (X.val : Int) := ⟨⟨x.toNat, by omega⟩, by simp; omega⟩
  by_cases hk1 : k = 1
  · have e1 : (lo : Int) + 1 = (hi : Int) := by omega
    k_steps
    rename IntsAre _ _ => hi1
    refine hret _ _ _ _ (by k_asm) (by k_asm) hi1 (by simp) fun i => ?_
    rw [Int.toNat_natCast, List.getD_eq_getElem?_getD, List.getElem?_set]
    subst hk1
    by_cases hil : lo = i
    · subst hil
      rw [if_pos rfl, if_pos (by omega), if_pos (by omega)]
      simp; omega
    · rw [if_neg hil, if_neg (by omega), List.getD_eq_getElem?_getD]
  · have e1 : (lo : Int) + 1 ≠ (hi : Int) := by omega
    obtain ⟨hsb1, hsb2, hsb3, hsb4⟩ := bits_b X0 ⟨k / 2, by omega⟩ ⟨k, by omega⟩ hxk (by show k / 2 ≤ k; omega)
    dsimp only at hsb1 hsb2 hsb3 hsb4
    have eM : ((lo : Int) + (hi : Int)).fdiv (2 ^ (1 : Int).toNat) = ((lo + k / 2 : Nat) : Int) := by
      rw [show (2 : Int) ^ (1 : Int).toNat = 2 from rfl, Int.fdiv_eq_ediv_of_nonneg _ (by decide)]; omega
    have eS : (((lo + k / 2 : Nat) : Int) - (lo : Int)) * 1 = ((k / 2 : Nat) : Int) := by omega
    have eU : (X0.val : Int).fdiv (2 ^ ((k / 2 : Nat) : Int).toNat) = (X0.val : Int) / 2 ^ (k / 2) := by
      rw [Int.toNat_natCast, Int.fdiv_eq_ediv_of_nonneg _ (by exact_mod_cast Nat.zero_le _)]
    have eX : Builtin.bitXor (X0.val : Int) ((X0.val : Int) / 2 ^ (k / 2) * 2 ^ ((k / 2 : Nat) : Int).toNat) = (X0.val : Int) % 2 ^ (k / 2) := by
      rw [Int.toNat_natCast]; exact bits_xor X0 ⟨k / 2, by omega⟩
    have hub : (X0.val : Int) / 2 ^ (k / 2) < 256 := Int.lt_of_le_of_lt (Int.ediv_le_self _ (by omega)) h256
    generalize hup : (X0.val : Int) / 2 ^ (k / 2) = up at *
    generalize hlw : (X0.val : Int) % 2 ^ (k / 2) = lw at *
    k_steps
    k_dflt (refine' inner_use (IH (k / 2) (by omega)) ?k1 ?k2 ?k3 ?k4 ?k5 ?k6 ?k7 rfl (by omega) (by omega) hv8 hsb4 hsb3 ?k8 ?k9 ?_; (case k1 => k_asm); (case k2 => k_asm); (case k3 => k_asm); (case k4 => k_asm); (case k5 => k_asm); (case k6 => exact rfl); (case k7 => assumption); (case k8 => ktr_room); (case k9 => ktr_units); k_whole)
    intro vs1 ns1 h1 tk1 F1 N1 I1 l1 q1
    k_sweep
    (try dsimp only)
    k_steps
    k_dflt (refine' inner_use (lo := lo + k / 2) (hi := hi) (ns := ns1) (IH (k - k / 2) (by omega)) ?k1 ?k2 ?k3 ?k4 ?k5 ?k6 ?k7 (by omega) (by omega) (by omega) (by omega) hsb2 hsb1 ?k8 ?k9 ?_; (case k1 => k_asm); (case k2 => k_asm); (case k3 => k_asm); (case k4 => k_asm); (case k5 => k_asm); (case k6 => exact rfl); (case k7 => assumption); (case k8 => ktr_room); (case k9 => ktr_units); k_whole)
    intro vs2 ns2 h2 tk2 F2 N2 I2 l2 q2
    k_sweep
    (try dsimp only)
    k_steps
    refine hret _ _ _ _ (by k_asm) (by k_asm) I2 (by omega) fun i => ?_
    rw [q2 i, q1 i]
    by_cases hi1 : lo + k / 2 ≤ i ∧ i < hi
    · rw [if_pos hi1, if_pos (by omega), ← hup]
      have := bits_hi X0 ⟨k / 2, by omega⟩ ⟨i - (lo + k / 2), by omega⟩
      dsimp only at this
      rw [this, show k / 2 + (i - (lo + k / 2)) = i - lo from by omega]
    · rw [if_neg hi1]
      by_cases hi2 : lo ≤ i ∧ i < lo + k / 2
      · rw [if_pos hi2, if_pos (by omega), ← hlw]
        exact bits_lo X0 ⟨k / 2, by omega⟩ ⟨i - lo, by omega⟩ (by show i - lo < k / 2; omega)
      · rw [if_neg hi2, if_neg (by omega)]
end Mine
end

section
open PySem PySem.W PyProof.Rows PySem.Spec PySem.Calls
set_option maxRecDepth 100000
set_option maxHeartbeats 800000
namespace Mine
local macro_rules | `(tactic| walk_at "zz0") => `(tactic| fail)
local macro_rules | `(tactic| walk_at "zz1") => `(tactic| fail)
local macro_rules | `(tactic| walk_at "zz2") => `(tactic| fail)
local macro_rules | `(tactic| walk_at "zz3") => `(tactic| fail)
local macro_rules | `(tactic| walk_at "zz4") => `(tactic| fail)
local macro_rules | `(tactic| walk_at "zz5") => `(tactic| fail)
local macro_rules | `(tactic| walk_at "zz6") => `(tactic| fail)
local macro_rules | `(tactic| walk_at "zz7") => `(tactic| fail)
local macro_rules | `(tactic| walk_at "zz8") => `(tactic| fail)
local macro_rules | `(tactic| walk_at "zz9") => `(tactic| fail)
local macro_rules | `(tactic| walk_at "zz10") => `(tactic| fail)
local macro_rules | `(tactic| walk_at "zz11") => `(tactic| fail)
local macro_rules | `(tactic| walk_at "zz12") => `(tactic| fail)
local macro_rules | `(tactic| walk_at "zz13") => `(tactic| fail)
local macro_rules | `(tactic| walk_at "zz14") => `(tactic| fail)
local macro_rules | `(tactic| walk_at "zz15") => `(tactic| fail)
local macro_rules | `(tactic| walk_at "zz16") => `(tactic| fail)
local macro_rules | `(tactic| walk_at "zz17") => `(tactic| fail)
local macro_rules | `(tactic| walk_at "zz18") => `(tactic| fail)
local macro_rules | `(tactic| walk_at "zz19") => `(tactic| fail)

theorem codeHd_mk {h : Heap} {c P : Addr} {vs : Array Value} {d : Option Addr} {sl : Array (Option Value)} {file : Str} {tf : Tok} {flags : Int} {tg : Tok} {inF : Bool} {text : Int} {tt : Tok} (e : h.get? c = some ⟨.type "code", d, .fields vs, sl⟩)
    (a : vs[11]? = some (.ref P)) (a' : vs.getD 11 .none = .ref P) (b : vs.getD 18 .none = .str file tf) (f : vs.getD 7 .none = .int flags tg) (g : vs.getD 9 .none = .bool inF) (i : vs.getD 10 .none = .int text tt) (n : c ≠ P) : CodeHd h c P :=
  ⟨_, vs, file, tf, flags, tg, inF, text, tt, e, rfl, rfl, a, a', b, f, g, i, n⟩
theorem codeHd34 (w : World) : ∀ (h : Heap) (X : (hd.heap_39 w.params).In h) (q : PySem.Challenge.rw_gl0002_01 = PySem.Challenge.rw_gl0002_01), CodeHd h 34 30 := by
  w_top off
  k_fill
  intro h X _
  refine' codeHd_mk (X 34 _ ?e) ?a ?a' ?b ?f ?g ?i ?n
  case e => k_is
  case n => decide
  case a => exact rfl
  case a' => exact rfl
  case b => exact rfl
  case f => exact rfl
  case g => exact rfl
  case i => exact rfl
theorem codeHd41 (w : World) : ∀ (h : Heap) (X : (hd.heap_39 w.params).In h) (q : PySem.Challenge.rw_gl0002_01 = PySem.Challenge.rw_gl0002_01), CodeHd h 41 37 := by
  w_top off
  k_fill
  intro h X _
  refine' codeHd_mk (X 41 _ ?e) ?a ?a' ?b ?f ?g ?i ?n
  case e => k_is
  case n => decide
  case a => exact rfl
  case a' => exact rfl
  case b => exact rfl
  case f => exact rfl
  case g => exact rfl
  case i => exact rfl

theorem bl_facts : ∀ x : Fin 256, Builtin.Int.intBits (x.val : Int) ≤ 8 ∧ (x.val : Int) < 2 ^ Builtin.Int.intBits (x.val : Int) ∧ ((x.val : Int) = 0 ↔ Builtin.Int.intBits (x.val : Int) = 0) := by decide +kernel
def digs (x : Fin 256) : List Int := (List.range (Builtin.Int.intBits (x.val : Int))).map fun i => (x.val : Int) / 2 ^ i % 2
abbrev tab30 (c' : Addr) : Obj := tabObj #[rawInt 23, rawInt 4, .ref c']

theorem news_swap {h₀ h : Heap} {L : Addr} {a b : Addr × Obj} {r : List (Addr × Obj)} (N : News h₀ L h (a :: b :: r)) : News h₀ L h (b :: a :: r) := fun p hp => N p (by
  rcases List.mem_cons.mp hp with rfl | hp
  · exact .tail _ (.head _)
  · rcases List.mem_cons.mp hp with rfl | hp
    · exact .head _
    · exact .tail _ (.tail _ hp))
theorem ext_getD {l l' : List Int} (h : l.length = l'.length) (e : ∀ i, i < l.length → l.getD i 0 = l'.getD i 0) : l = l' := by
  refine List.ext_getElem h fun i h1 h2 => ?_
  have := e i h1
  rw [List.getD_eq_getElem?_getD, List.getD_eq_getElem?_getD, List.getElem?_eq_getElem h1, List.getElem?_eq_getElem h2] at this
  exact this
theorem len_to {prog : Program} {w : World} {A : Around} {E : Value → Shared → Prop} {s : Shared} {h₀ : Heap} {L : Addr} {news : List (Addr × Obj)} {D : Addr} {vs : List Value} {ns : List Int} {c k : Nat} {Q : Value → Shared → Prop} (N : News h₀ L s.heap news) (hm : (D, listOf vs.toArray c) ∈ news) (hI : IntsAre vs ns) (e : ns.length = k) (hf : k < 2 ^ 62) (h : Q (.int (k : Nat) (s.toks + 1)) { s with toks := s.toks + 1 + 1 }) :
    wpAny (model prog w) A (call (.builtin "len") [.ref D]) Q E s :=
  KM.len_K N hm (by rw [List.size_toArray, hI.length, e]) hf h

section
variable {prog : Program} {w : World} {A : Around} {E : Value → Shared → Prop} {s : Shared} {Q : Value → Shared → Prop} {a n r : Int} {t u : Tok}
theorem fdv_to (hb : n ≠ 0) (e : a.fdiv n = r) (hp : Builtin.divisionGoesByPylong a n = false) (h : Q (.int r s.toks) { s with toks := s.toks + 1 }) : wpAny (model prog w) A (binaryOp .FloorDiv (.int a t) (.int n u)) Q E s :=
  floordiv_int hb (by rw [e]; exact h) (.inl hp)
theorem rep_to {h₀ : Heap} {L : Addr} {m : Str → Option Value} {news : List (Addr × Obj)} {l : Addr} {k c : Nat} {z : Int} {tz : Tok} (F : Fr h₀ L s.heap m) (N : News h₀ L s.heap news) (hm : (l, listOf #[.int z tz] c) ∈ news) (hk : k ≤ 8)
    (h : ∀ D vs h', Fr h₀ L h' m → News h₀ L h' ((D, listOf vs.toArray 0) :: news) → (∀ p ∈ news, p.1 < D) → IntsAre vs (List.replicate k z) → Q (.ref D) { s with heap := h' }) : wpAny (model prog w) A (binaryOp .Mult (.ref l) (.int (k : Int) u)) Q E s := by
  refine KM.mul (vs := [.int z tz]) (ns := [z]) F N (News.isList N hm) (.cons _ _ .nil) (by omega) (by omega) (by simp; omega) (fun D h' F' N' l1 i1 _ _ _ _ _ => ?_)
  rw [Int.toNat_natCast] at N' i1
  rw [krep_flat] at i1
  exact h D _ h' F' N' l1 i1
end

local macro_rules | `(tactic| k_mem) => `(tactic| first | assumption | exact List.Mem.head _ | (refine' List.Mem.tail _ ?_; k_mem))
local macro_rules | `(tactic| k_all) => `(tactic| first | assumption | exact List.forall_mem_nil _ | (refine' List.forall_mem_cons.mpr ⟨?a, ?b⟩; (case a => k_ne); (case b => k_all)))
local macro_rules | `(tactic| k_steps) => `(tactic| repeat' ((fail_if_success (with_reducible show wpAny _ _ (pyIter (Value.ref _)) (fun it s₂ => LoopAtV _ _ _ _ _ _ _ _ _ it s₂) _ _)); (fail_if_success (with_reducible show wpAny _ _ (call (Value.ref _) _) _ _ _)); first | (k_unfold; (try dsimp only)) | (k_end; wrow_close) | walk1 | (dsimp only; walk1) | (leave1; walk_say "STEP leave1"; try dsimp only) | fail "no step"))
local macro_rules | `(tactic| walk_at "ite") => `(tactic| (k_here; first | refine ite_yes (by simp only [beq_iff_eq, bne_iff_ne, decide_eq_true_eq]; omega) ?_ | refine ite_no (by simp only [beq_eq_false_iff_ne, bne_eq_false_iff_eq, decide_eq_false_iff_not]; omega) ?_))
local macro_rules | `(tactic| walk_at "binaryOp FloorDiv int int") => `(tactic| (k_here; k_dflt ((refine' fdv_to ?ca ?cb ?cc ?_); (case cb => assumption); (case ca => decide); (case cc => exact PyProof.noPylong_small (by omega)))))
local macro_rules | `(tactic| walk_at "binaryOp Mult ref int") => `(tactic| (k_here; k_dflt ((refine' rep_to ?F ?N ?m ?k ?_); (case F => k_asm); (case N => k_asm); (case m => k_mem); (case k => omega); k_whole); intro D' vs' h' F' N' l1 i1; (try k_lt l1); (try k_sweep)))

local macro_rules | `(tactic| walk_at "call builtin:len") => `(tactic| (k_here; (with_reducible show wpAny _ _ (call (Value.builtin "len") [Value.ref _]) _ _ _); k_dflt (refine' len_to ?N ?m ?I ?e ?f ?_; (case N => k_asm); (case m => k_mem); (case I => assumption); (case e => exact List.length_replicate); (case f => omega); k_whole)))

theorem int2digits (w : World) (X0 : Fin 256) (tx tn : Tok) (c' : Addr) (oc : Obj) (fs : Array Value) (tq : Tok) (hc1 : oc.data = .fields fs) (hc2 : fs[1]? = some (.str (Str.ofString "_int2digits.<locals>.inner") tq)) :
    Says PySem.Challenge.rw_gl0002_01.row.prog (hd.heap_39 w.params) w 25 300 35 [.int (X0.val : Int) tx, .int 1 tn] (fun news => (30, tab30 c') ∈ news ∧ (c', oc) ∈ news)
      (fun r tl => ∃ e vs, r = .ref e ∧ tl = [(e, listOf vs.toArray 0)] ∧ IntsAre vs (digs X0)) := by
  unfold Says
  w_top off
  k_fill
  intro p loose mean mg mb dp un gd cn cs a ccd cl outer A₀ base h₀ L m news s Q E B F X N T' hk ⟨h1, h2⟩ hd hu hret
  refine wpAny_noRaise ?_
  refine wpAny_call ?_
  obtain ⟨b1, b2, b3⟩ := bl_facts X0
  obtain ⟨kb, hkb⟩ : ∃ kb, kb = Builtin.Int.intBits (X0.val : Int) := ⟨_, rfl⟩
  have eb : ((Builtin.Int.intBits (X0.val : Int) : Int) + 1 - 1).fdiv 1 = (kb : Int) := by rw [Int.fdiv_one]; omega
  have eb1 := b1
  rw [← hkb] at b1 b2 b3
  k_dflt (refine' code_defC ?k1 ?k2 ?k3 ?k4 ?k5 ?kA ?kF ?kK ?k6 ?k7 ?k8 ?k9 ?kB ?kD ?_ ?c2 ?c3 ?c4; (case kA => exact rfl); (case kF => exact rfl); (case kK => assumption); (case k1 => k_asm); (case k2 => k_asm); (case k3 => k_asm); (case k4 => k_asm); (case k5 => k_asm); (case k6 => k_is); (case k7 => k_is); (case k8 => ktr_room); (case k9 => exact BindsTo.of_eq rfl); (case kB => exact rfl); (case kD => decide +kernel); (case c2 => exact rfl); (case c3 => exact rfl); (case c4 => exact rfl); k_whole; intro g' L' h' tk' cells' FG' F' N' Y' B' X' T' l1; k_cells Y'; (try simp only [List.cons_append, List.nil_append] at N'); (try dsimp only); (try k_fold))
  all_goals refine wpAny_noRaise ?_
  have CH := codeHd34 w _ X' rfl
  have n1 : ∀ p ∈ news, p.1 ≠ L' + 1 := fun p hp => Nat.ne_of_lt (Nat.lt_succ_of_lt (l1 p hp))
  have n2 : ∀ p ∈ news, p.1 ≠ L' + 1 + 1 := fun p hp => Nat.ne_of_lt (Nat.lt_succ_of_lt (Nat.lt_succ_of_lt (l1 p hp)))
  have n3 : ∀ p ∈ news, p.1 ≠ L' + 1 + 1 + 1 := fun p hp => Nat.ne_of_lt (Nat.lt_succ_of_lt (Nat.lt_succ_of_lt (Nat.lt_succ_of_lt (l1 p hp))))
  k_steps
  · rename_i q1 q2 q3 d1 d2 d3 l hA lA D vs hB hI lB hC oA dA f ct dc hE tk2 lE hG oI FF NN dI hne
    have nD : ∀ p ∈ news, p.1 ≠ D := fun p hp => Nat.ne_of_lt (ktn_ltOf lB.2.2.2.2 p hp)
    k_dflt (refine' inner_use (lo := 0) (hi := kb) (innerSays w _ _ _ _ _ ?isin f D (L' + 1 + 1) (L' + 1 + 1 + 1) (L' + 1) c' oA oI _ oc dc _ ct tn tq fs _ (.head _) ?mc hc1 ?hq ?mA dA ?mI dI ?mN d3 ?mD kb) ?k1 ?k2 ?k3 (news_swap NN) ?k5 ?k6 hI (Nat.zero_add _) (by omega) (by simp) (by simp; omega) (by omega) b2 ?k8 ?k9 ?_; (case k1 => k_asm); (case k2 => k_asm); (case k3 => k_asm); (case k5 => k_asm); (case k6 => exact rfl); (case k8 => ktr_room); (case k9 => ktr_units); (case isin => exact ⟨_, rfl⟩); (case mc => k_mem); (case hq => exact hc2); (case mA => k_mem); (case mI => k_mem); (case mN => k_mem); (case mD => k_all); k_whole)
    intro vs1 ns1 h1 tk1 F1 N1 I1 l1 q1
    k_sweep
    (try dsimp only)
    k_steps
    refine hret (.ref D) [(D, listOf vs1.toArray 0)] _ _ (by k_asm) (kst_newsOf (by k_asm) fun p hp => ?_) (ktn_ord1 lB.2.2.2.2) ⟨D, vs1, rfl, rfl, ?_⟩
    · simp only [List.cons_append, List.nil_append, List.mem_cons] at hp ⊢
      rcases hp with hp | hp <;> simp [hp]
    · have : ns1 = digs X0 := ext_getD (by rw [l1, digs, List.length_replicate, List.length_map, List.length_range, hkb]) fun i hi => by
        rw [l1, List.length_replicate] at hi
        rw [q1 i, if_pos ⟨Nat.zero_le _, hi⟩, Nat.sub_zero, digs, ← hkb, List.getD_eq_getElem?_getD, List.getElem?_map, List.getElem?_range hi]
        rfl
      rw [← this]; exact I1
  · rename_i q1 q2 q3 d1 d2 d3 l hA lA D vs hB hI lB hC oA dA f ct dc hE tk2 lE hG oI FF NN dI hne kF kN kT kX
    have h0 : kb = 0 := b3.mp hne
    refine hret (.ref D) [(D, listOf vs.toArray 0)] _ _ (by k_asm) (kst_newsOf kN fun p hp => ?_) (ktn_ord1 lB.2.2.2.2) ⟨D, vs, rfl, rfl, ?_⟩
    · simp only [List.cons_append, List.nil_append, List.mem_cons] at hp ⊢
      rcases hp with hp | hp <;> simp [hp]
    · rw [digs, ← hkb, h0]
      rw [h0] at hI
      exact hI
end Mine
end

section
open PySem PySem.W PyProof.Rows PySem.Spec PySem.Calls
set_option maxRecDepth 100000
set_option maxHeartbeats 800000
namespace Mine

theorem news_rot3 {h₀ h : Heap} {L : Addr} {a b c : Addr × Obj} {r : List (Addr × Obj)} (N : News h₀ L h (a :: b :: c :: r)) : News h₀ L h (c :: a :: b :: r) := fun p hp => N p (by
  simp only [List.mem_cons] at hp ⊢
  rcases hp with hp | hp | hp | hp <;> simp [hp])

/-- a contract of a def that turns something of the ledger (the table of a code object) -/
def SaysM (prog : Program) (K : Frag) (w : World) (d u : Nat) (f : Addr) (vs : List Value) (news : List (Addr × Obj)) (Post : Value → List (Addr × Obj) → Prop) : Prop :=
  ∀ (p : Program) (loose : List Str) (mean : ExcName → Option Value) (mg mb : Str → Option Value)
    (dp un : Nat) (gd : Option (List Code)) (cn : Str) (cs : Scope) (a : Addr) (ccd : Value) (cl : List (Str × Addr)) (outer : List Env) (A₀ : Around) (base h₀ : Heap) (L : Addr) (m : Str → Option Value) (s : Shared) (Q E : Value → Shared → Prop),
    Below A₀ base outer h₀ → Fr h₀ L s.heap m → K.In h₀ → News h₀ L s.heap news → Top p loose mean mg mb h₀ → cs.kind = .function → dp + d < recursionLimit → un + u < cLine →
    (∀ r led h' tk', Fr h₀ L h' m → News h₀ L h' led → Post r led → Q r { s with heap := h', toks := tk' }) →
    wpAny (model prog w) (ktrTop dp un gd cn cs L a ccd cl outer) (call (.ref f) vs) Q E s

theorem saysM_use {prog : Program} {K : Frag} {w : World} {d u : Nat} {f : Addr} {vs : List Value} {news : List (Addr × Obj)} {Post : Value → List (Addr × Obj) → Prop} (C : SaysM prog K w d u f vs news Post)
    {p : Program} {loose : List Str} {mean : ExcName → Option Value} {mg mb : Str → Option Value}
    {dp un : Nat} {gd : Option (List Code)} {cn : Str} {cs : Scope} {a : Addr} {ccd : Value} {cl : List (Str × Addr)} {outer : List Env} {A₀ : Around} {base h₀ : Heap} {L : Addr} {m : Str → Option Value} {s : Shared} {Q E : Value → Shared → Prop}
    (B : Below A₀ base outer h₀) (F : Fr h₀ L s.heap m) (X : K.In h₀) (N : News h₀ L s.heap news) (T : Top p loose mean mg mb h₀) (hk : cs.kind = .function) (hd : dp + d < recursionLimit) (hu : un + u < cLine)
    (ret : ∀ r led h' tk', Fr h₀ L h' m → News h₀ L h' led → Post r led → Q r { s with heap := h', toks := tk' }) :
    wpAny (model prog w) (ktrTop dp un gd cn cs L a ccd cl outer) (call (.ref f) vs) Q E s :=
  C p loose mean mg mb dp un gd cn cs a ccd cl outer A₀ base h₀ L m s Q E B F X N T hk hd hu ret

local macro_rules | `(tactic| k_mem) => `(tactic| first | assumption | exact List.Mem.head _ | (refine' List.Mem.tail _ ?_; k_mem))
local macro_rules | `(tactic| k_all) => `(tactic| first | assumption | exact List.forall_mem_nil _ | (refine' List.forall_mem_cons.mpr ⟨?a, ?b⟩; (case a => k_ne); (case b => k_all)))
local macro_rules | `(tactic| k_steps) => `(tactic| repeat' ((fail_if_success (with_reducible show wpAny _ _ (pyIter (Value.ref _)) (fun it s₂ => LoopAtV _ _ _ _ _ _ _ _ _ it s₂) _ _)); (fail_if_success (with_reducible show wpAny _ _ (call (Value.ref _) _) _ _ _)); first | (k_unfold; (try dsimp only)) | (k_end; wrow_close) | walk1 | (dsimp only; walk1) | (leave1; walk_say "STEP leave1"; try dsimp only) | fail "no step"))
local macro_rules | `(tactic| walk_at "ite") => `(tactic| (k_here; first | refine ite_yes (by simp only [beq_iff_eq, bne_iff_ne, decide_eq_true_eq]; omega) ?_ | refine ite_no (by simp only [beq_eq_false_iff_ne, bne_eq_false_iff_eq, decide_eq_false_iff_not]; omega) ?_))
local macro_rules | `(tactic| walk_at "binaryOp FloorDiv int int") => `(tactic| (k_here; k_dflt ((refine' fdv_to ?ca ?cb ?cc ?_); (case cb => assumption); (case ca => decide); (case cc => exact PyProof.noPylong_small (by omega)))))
local macro_rules | `(tactic| walk_at "binaryOp Mult ref int") => `(tactic| (k_here; k_dflt ((refine' rep_to ?F ?N ?m ?k ?_); (case F => k_asm); (case N => k_asm); (case m => k_mem); (case k => omega); k_whole); intro D' vs' h' F' N' l1 i1; (try k_lt l1); (try k_sweep)))

local macro_rules | `(tactic| walk_at "call builtin:len") => `(tactic| (k_here; (with_reducible show wpAny _ _ (call (Value.builtin "len") [Value.ref _]) _ _ _); k_dflt (refine' len_to ?N ?m ?I ?e ?f ?_; (case N => k_asm); (case m => k_mem); (case I => assumption); (case e => exact List.length_replicate); (case f => omega); k_whole)))

theorem int2digitsCold (w : World) (X0 : Fin 256) (tx tn : Tok) (rest : List (Addr × Obj)) (hrest : ∀ p ∈ rest, p.1 ≠ 30) :
    SaysM PySem.Challenge.rw_gl0002_01.row.prog (hd.heap_39 w.params) w 25 300 35 [.int (X0.val : Int) tx, .int 1 tn] ((30, tabObj #[]) :: rest)
      (fun r led => ∃ e vs c' oc fs tq, r = .ref e ∧ led = (e, listOf vs.toArray 0) :: (c', oc) :: (30, tab30 c') :: rest ∧ IntsAre vs (digs X0) ∧ oc.data = .fields fs ∧ fs[1]? = some (.str (Str.ofString "_int2digits.<locals>.inner") tq) ∧
        e ≠ 30 ∧ c' ≠ 30 ∧ (∀ p ∈ rest, p.1 < e ∧ p.1 < c')) := by
  unfold SaysM
  w_top off
  k_fill
  intro p loose mean mg mb dp un gd cn cs a ccd cl outer A₀ base h₀ L m s Q E B F X N T' hk hd hu hret
  refine wpAny_noRaise ?_
  refine wpAny_call ?_
  obtain ⟨b1, b2, b3⟩ := bl_facts X0
  obtain ⟨kb, hkb⟩ : ∃ kb, kb = Builtin.Int.intBits (X0.val : Int) := ⟨_, rfl⟩
  have eb : ((Builtin.Int.intBits (X0.val : Int) : Int) + 1 - 1).fdiv 1 = (kb : Int) := by rw [Int.fdiv_one]; omega
  have eb1 := b1
  rw [← hkb] at b1 b2 b3
  k_dflt (refine' code_defC ?k1 ?k2 ?k3 ?k4 ?k5 ?kA ?kF ?kK ?k6 ?k7 ?k8 ?k9 ?kB ?kD ?_ ?c2 ?c3 ?c4; (case kA => exact rfl); (case kF => exact rfl); (case kK => assumption); (case k1 => k_asm); (case k2 => k_asm); (case k3 => k_asm); (case k4 => k_asm); (case k5 => k_asm); (case k6 => k_is); (case k7 => k_is); (case k8 => ktr_room); (case k9 => exact BindsTo.of_eq rfl); (case kB => exact rfl); (case kD => decide +kernel); (case c2 => exact rfl); (case c3 => exact rfl); (case c4 => exact rfl); k_whole; intro g' L' h' tk' cells' FG' F' N' Y' B' X' T' l1; k_cells Y'; (try simp only [List.cons_append, List.nil_append] at N'); (try dsimp only); (try k_fold))
  all_goals refine wpAny_noRaise ?_
  have CH := codeHd34 w _ X' rfl
  have h30 := ltN (l1 _ (.head _))
  dsimp only at h30
  have n1 : ∀ p ∈ rest, p.1 ≠ L' + 1 := fun p hp => Nat.ne_of_lt (Nat.lt_succ_of_lt (l1 p (.tail _ hp)))
  have n2 : ∀ p ∈ rest, p.1 ≠ L' + 1 + 1 := fun p hp => Nat.ne_of_lt (Nat.lt_succ_of_lt (Nat.lt_succ_of_lt (l1 p (.tail _ hp))))
  have n3 : ∀ p ∈ rest, p.1 ≠ L' + 1 + 1 + 1 := fun p hp => Nat.ne_of_lt (Nat.lt_succ_of_lt (Nat.lt_succ_of_lt (Nat.lt_succ_of_lt (l1 p (.tail _ hp)))))
  k_steps
  · rename_i q1 q2 q3 d1 d2 d3 l hA lA D vs hB hI lB hC oA dA f c' oc fs tq ct dc hE tk2 hc1 hc2 lE lF hG oI FF NN dI hne
    have nD : ∀ p ∈ rest, p.1 ≠ D := fun p hp => Nat.ne_of_lt (ktn_ltOf lB.2.2.2.2.2 p hp)
    simp only [Array.empty_append] at NN
    k_dflt (refine' inner_use (lo := 0) (hi := kb) (innerSays w _ _ _ _ _ ?isin f D (L' + 1 + 1) (L' + 1 + 1 + 1) (L' + 1) c' oA oI _ oc dc _ ct tn tq fs _ (.head _) ?mc hc1 ?hq ?mA dA ?mI dI ?mN d3 ?mD kb) ?k1 ?k2 ?k3 (news_rot3 NN) ?k5 ?k6 hI (Nat.zero_add _) (by omega) (by simp) (by simp; omega) (by omega) b2 ?k8 ?k9 ?_; (case k1 => k_asm); (case k2 => k_asm); (case k3 => k_asm); (case k5 => k_asm); (case k6 => exact rfl); (case k8 => ktr_room); (case k9 => ktr_units); (case isin => exact ⟨_, rfl⟩); (case mc => k_mem); (case hq => exact hc2); (case mA => k_mem); (case mI => k_mem); (case mN => k_mem); (case mD => k_all); k_whole)
    intro vs1 ns1 h1 tk1 F1 N1 I1 l1 q1
    k_sweep
    (try dsimp only)
    k_steps
    refine hret (.ref D) _ _ _ (by k_asm) (kst_newsOf (by k_asm) fun p hp => ?_) ⟨D, vs1, c', oc, fs, tq, rfl, rfl, ?_, hc1, hc2, ?_, ?_, ?_⟩
    · simp only [List.mem_cons] at hp ⊢
      rcases hp with hp | hp | hp | hp <;> simp [hp]
    · have : ns1 = digs X0 := ext_getD (by rw [l1, digs, List.length_replicate, List.length_map, List.length_range, hkb]) fun i hi => by
        rw [l1, List.length_replicate] at hi
        rw [q1 i, if_pos ⟨Nat.zero_le _, hi⟩, Nat.sub_zero, digs, ← hkb, List.getD_eq_getElem?_getD, List.getElem?_map, List.getElem?_range hi]
        rfl
      rw [← this]; exact I1
    · exact Nat.ne_of_gt lB.2.2.2.2.1
    · exact Nat.ne_of_gt lE.2.2.2.2.2.1
    · exact fun p hp => ⟨ktn_ltOf lB.2.2.2.2.2 p hp, ktn_ltOf lE.2.2.2.2.2.2 p hp⟩
  · rename_i q1 q2 q3 d1 d2 d3 l hA lA D vs hB hI lB hC oA dA f c' oc fs tq ct dc hE tk2 hc1 hc2 lE lF hG oI FF NN dI hne kF kN kT kX
    have h0 : kb = 0 := b3.mp hne
    simp only [Array.empty_append] at kN
    refine hret (.ref D) _ _ _ (by k_asm) (kst_newsOf kN fun p hp => ?_) ⟨D, vs, c', oc, fs, tq, rfl, rfl, ?_, hc1, hc2, ?_, ?_, ?_⟩
    · simp only [List.mem_cons] at hp ⊢
      rcases hp with hp | hp | hp | hp <;> simp [hp]
    · rw [digs, ← hkb, h0]
      rw [h0] at hI
      exact hI
    · exact Nat.ne_of_gt lB.2.2.2.2.1
    · exact Nat.ne_of_gt lE.2.2.2.2.2.1
    · exact fun p hp => ⟨ktn_ltOf lB.2.2.2.2.2 p hp, ktn_ltOf lE.2.2.2.2.2.2 p hp⟩
end Mine
end

section
open PySem PySem.W PyProof.Rows PySem.Spec PySem.Calls
set_option maxRecDepth 100000
set_option maxHeartbeats 800000
namespace Mine
local macro_rules | `(tactic| walk_at "zz0") => `(tactic| fail)
local macro_rules | `(tactic| walk_at "zz1") => `(tactic| fail)
local macro_rules | `(tactic| walk_at "zz2") => `(tactic| fail)
local macro_rules | `(tactic| walk_at "zz3") => `(tactic| fail)
local macro_rules | `(tactic| walk_at "zz4") => `(tactic| fail)
local macro_rules | `(tactic| walk_at "zz5") => `(tactic| fail)
local macro_rules | `(tactic| walk_at "zz6") => `(tactic| fail)
local macro_rules | `(tactic| walk_at "zz7") => `(tactic| fail)
local macro_rules | `(tactic| walk_at "zz8") => `(tactic| fail)
local macro_rules | `(tactic| walk_at "zz9") => `(tactic| fail)
local macro_rules | `(tactic| walk_at "zz10") => `(tactic| fail)
local macro_rules | `(tactic| walk_at "zz11") => `(tactic| fail)
local macro_rules | `(tactic| walk_at "zz12") => `(tactic| fail)
local macro_rules | `(tactic| walk_at "zz13") => `(tactic| fail)
local macro_rules | `(tactic| walk_at "zz14") => `(tactic| fail)
local macro_rules | `(tactic| walk_at "zz15") => `(tactic| fail)
local macro_rules | `(tactic| walk_at "zz16") => `(tactic| fail)
local macro_rules | `(tactic| walk_at "zz17") => `(tactic| fail)
local macro_rules | `(tactic| walk_at "zz18") => `(tactic| fail)
local macro_rules | `(tactic| walk_at "zz19") => `(tactic| fail)

def numval (ds : List Int) : Nat → Nat → Int
  | _, 0 => 0
  | lo, k + 1 => ds.getD lo 0 + 2 * numval ds (lo + 1) k
theorem numval_add (ds : List Int) (b : Nat) : ∀ (a lo : Nat), numval ds lo (a + b) = numval ds lo a + 2 ^ a * numval ds (lo + a) b
  | 0, lo => by simp [numval]
  | a + 1, lo => by
    rw [show a + 1 + b = (a + b) + 1 from by omega, numval, numval, numval_add ds b a (lo + 1), show lo + 1 + a = lo + (a + 1) from by omega, Int.pow_succ, Int.mul_add, Int.mul_comm ((2 : Int) ^ a) 2, Int.mul_assoc, Int.add_assoc]
theorem numval_bound (ds : List Int) (h : ∀ i, 0 ≤ ds.getD i 0 ∧ ds.getD i 0 ≤ 1) : ∀ k lo, 0 ≤ numval ds lo k ∧ numval ds lo k < 2 ^ k
  | 0, lo => by simp [numval]
  | k + 1, lo => by
    have := numval_bound ds h k (lo + 1)
    have := h lo
    rw [numval, Int.pow_succ]; omega

local macro_rules | `(tactic| k_mem) => `(tactic| first | assumption | exact List.Mem.head _ | (refine' List.Mem.tail _ ?_; k_mem))
local macro_rules | `(tactic| k_all) => `(tactic| assumption)
local macro_rules | `(tactic| k_steps) => `(tactic| repeat' ((fail_if_success (with_reducible show wpAny _ _ (pyIter (Value.ref _)) (fun it s₂ => LoopAtV _ _ _ _ _ _ _ _ _ it s₂) _ _)); (fail_if_success (with_reducible show wpAny _ _ (call (Value.ref _) _) _ _ _)); first | (k_unfold; (try dsimp only)) | (k_end; wrow_close) | walk1 | (dsimp only; walk1) | (leave1; walk_say "STEP leave1"; try dsimp only) | fail "no step"))
local macro_rules | `(tactic| walk_at "eval Name") => `(tactic| (k_here; (with_reducible show wpAny _ _ (eval (Expr.Name _ _) (envX _ _ _ _ _ _)) _ _ _); k_dflt (refine' nameX_F ?N ?c ?m ?d ?_ ?a ?b; (case a => rfl); (case b => rfl); (case N => k_asm); (case c => rfl); (case m => k_mem); (case d => k_asm); k_whole)))
local macro_rules | `(tactic| walk_at "ite") => `(tactic| (k_here; first | refine ite_yes (by simp only [beq_iff_eq, bne_iff_ne, decide_eq_true_eq]; omega) ?_ | refine ite_no (by simp only [beq_eq_false_iff_ne, bne_eq_false_iff_eq, decide_eq_false_iff_not]; omega) ?_))
local macro_rules | `(tactic| walk_at "binaryOp RShift int int") => `(tactic| (k_here; k_dflt ((refine' shr_to ?ca ?cb ?_); (case ca => first | decide | omega); (case cb => assumption))))
local macro_rules | `(tactic| walk_at "binaryOp LShift int int") => `(tactic| (k_here; k_dflt ((refine' shl_to ?ca ?cc ?cd ?cb ?_); (case ca => first | decide | omega); (case cc => omega); (case cd => omega); (case cb => exact rfl))))
local macro_rules | `(tactic| walk_at "binaryOp Mult int int") => `(tactic| (k_here; k_dflt ((refine' mul_to ?ca ?cb ?_); (case ca => mul_fits); (case cb => assumption))))
local macro_rules | `(tactic| walk_at "binaryOp BitXor int int") => `(tactic| (k_here; k_dflt ((refine' xor_to ?cb ?_); (case cb => assumption))))
local macro_rules | `(tactic| walk_at "callWith ref") => `(tactic| (k_here; k_dflt (refine' callWith_F ?k1 ?_; (case k1 => exact FnAt.of (by k_asm) (by k_mem)); k_whole)))
local macro_rules | `(tactic| walk_at "FnAt") => `(tactic| (k_dflt (exact FnAt.of (by k_asm) (by k_mem))))


local macro_rules | `(tactic| walk_at "subscriptTail") => `(tactic| (k_here; (with_reducible show wpAny _ _ (subscriptTail _ _ (Value.ref _) (Value.int _ _)) _ _ _); (with_unfolding_all refine' item_at ?k1 ?k2 ?k3 ?k4 ?k5 ?_ ?k6; (case k1 => k_asm); (case k2 => k_mem); (case k3 => omega); (case k4 => omega); (case k5 => assumption); (case k6 => with_unfolding_all rfl); k_whole)))

theorem inner2Says (w : World) (name qual : Str) (params : Arguments) (body : List Stmt) (scope : Scope) (h : IsInner PySem.Challenge.rw_gl0002_01.row.prog (Str.ofString "_digits2int") name params body scope)
    (f D cA cI cN c' : Addr) (oA oI oN oc : Obj) (doc pm ctv : Value) (tN tq : Tok) (fs : Array Value) (vs : List Value) (ds : List Int) (n : Nat) (hints : IntsAre vs ds) (hv8 : ds.length ≤ 8) (hds : ∀ i, 0 ≤ ds.getD i 0 ∧ ds.getD i 0 ≤ 1)
    (hc1 : oc.data = .fields fs) (hc2 : fs[1]? = some (.str qual tq))
    (hA' : oA.data = .cell (some (.ref D))) (hI' : oI.data = .cell (some (.ref f))) (hN' : oN.data = .cell (some (.int 1 tN))) : ∀ (k lo hi : Nat) (tl th : Tok), lo + k = hi → 0 < k → hi ≤ ds.length →
    Says PySem.Challenge.rw_gl0002_01.row.prog (hd.heap_39 w.params) w (2 * k + 2) (20 * k + 40) f [.int (lo : Int) tl, .int (hi : Int) th]
      (fun rest => (f, fnMade name qual params body scope [(Str.ofString "n", cN), (Str.ofString "inner", cI), (Str.ofString "digits", cA)] doc pm c' ctv) ∈ rest ∧ (c', oc) ∈ rest ∧ (cA, oA) ∈ rest ∧ (cI, oI) ∈ rest ∧ (cN, oN) ∈ rest ∧ (D, listOf vs.toArray n) ∈ rest)
      (fun r tl => ∃ t, r = .int (numval ds lo k) t ∧ tl = []) := by
  w_top off
  k_fill
  obtain ⟨pos, h⟩ := h
  conv at h => lhs; whnf
  cases h
  intro k
  induction k using Nat.strongRecOn with
  | ind k IH =>
  intro lo hi tl th hlh hk0 hhv
  unfold Says
  intro p loose mean mg mb dp un gd cn cs a ccd cl outer A₀ base h₀ L m rest s Q E B F X N T hk ⟨hf, hc, hA, hI, hN, hD⟩ hd hu hret
  refine wpAny_noRaise ?_
  refine wpAny_call ?_
  k_dflt (refine' code_nest ?k1 ?k2 ?k3 ?k4 ?k5 ?kA ?kF ?kK ?k6 ?k7 ?k8 ?k9 ?kB ?_ ?c2 ?c3 ?c4 ?c5; (case kA => exact rfl); (case kF => exact rfl); (case kK => assumption); (case k1 => k_asm); (case k2 => k_asm); (case k3 => k_asm); (case k4 => k_asm); (case k5 => k_asm); (case k6 => k_mem); (case k7 => exact codeRec_news (by k_asm) (by k_mem) (by assumption) (by assumption)); (case k8 => ktr_room); (case k9 => exact BindsTo.of_eq rfl); (case c5 => decide); (case kB => exact locs rfl); (case c2 => exact rfl); (case c3 => exact rfl); (case c4 => exact rfl); k_whole; intro g' L' h' FG' F' N' B' X' T'; (try dsimp only); (try k_lift B'); (try k_fold))
  all_goals refine wpAny_noRaise ?_
  by_cases hk1 : k = 1
  · have e1 : (lo : Int) + 1 = (hi : Int) := by omega
    obtain ⟨tS, qS⟩ := hints.get lo (ds.getD lo 0) (by rw [List.getD_eq_getElem?_getD, List.getElem?_eq_getElem (by omega)]; rfl)
    have q2 : vs[(lo : Int).toNat]? = some (.int (ds.getD lo 0) tS) := by rw [Int.toNat_natCast]; exact qS
    k_steps
    subst hk1
    exact hret _ [] _ _ (by k_asm) (by k_asm) ktn_ord0 ⟨tS, by simp [numval], rfl⟩
  · have e1 : (lo : Int) + 1 ≠ (hi : Int) := by omega
    have eM : ((lo : Int) + (hi : Int)).fdiv (2 ^ (1 : Int).toNat) = ((lo + k / 2 : Nat) : Int) := by
      rw [show (2 : Int) ^ (1 : Int).toNat = 2 from rfl, Int.fdiv_eq_ediv_of_nonneg _ (by decide)]; omega
    have eS : (((lo + k / 2 : Nat) : Int) - (lo : Int)) * 1 = ((k / 2 : Nat) : Int) := by omega
    have hb1 := numval_bound ds hds (k - k / 2) (lo + k / 2)
    have hb2 : numval ds (lo + k / 2) (k - k / 2) < 256 := Int.lt_of_lt_of_le hb1.2 (by
      have : (2 : Int) ^ (k - k / 2) ≤ 2 ^ 8 := by exact_mod_cast Nat.pow_le_pow_right (by decide : 0 < 2) (by omega : k - k / 2 ≤ 8)
      exact this)
    have hb3 := hb1.1
    k_steps
    k_dflt (refine' says_use (IH (k - k / 2) (by omega) (lo + k / 2) hi _ _ (by omega) (by omega) (by omega)) ?k1 ?k2 ?k3 ?k4 ?k5 ?k6 ?k7 ?k8 ?k9 ?_; (case k1 => k_asm); (case k2 => k_asm); (case k3 => k_asm); (case k4 => k_asm); (case k5 => k_asm); (case k6 => exact rfl); (case k7 => exact ⟨by k_mem, by k_mem, by k_mem, by k_mem, by k_mem, by k_mem⟩); (case k8 => ktr_room); (case k9 => ktr_units); k_whole)
    rintro r1 tl1 h1 tk1 F1 N1 l1 ⟨t1, rfl, rfl⟩
    rw [List.nil_append] at N1
    k_sweep
    (try dsimp only)
    k_steps
    k_dflt (refine' says_use (IH (k / 2) (by omega) lo (lo + k / 2) _ _ (by omega) (by omega) (by omega)) ?k1 ?k2 ?k3 ?k4 ?k5 ?k6 ?k7 ?k8 ?k9 ?_; (case k1 => k_asm); (case k2 => k_asm); (case k3 => k_asm); (case k4 => k_asm); (case k5 => k_asm); (case k6 => exact rfl); (case k7 => exact ⟨by k_mem, by k_mem, by k_mem, by k_mem, by k_mem, by k_mem⟩); (case k8 => ktr_room); (case k9 => ktr_units); k_whole)
    rintro r2 tl2 h2 tk2 F2 N2 l2 ⟨t2, rfl, rfl⟩
    rw [List.nil_append] at N2
    k_sweep
    (try dsimp only)
    k_steps
    refine hret _ [] _ _ (by k_asm) (by k_asm) ktn_ord0 ⟨tk2, congrArg (Value.int · tk2) ?_, rfl⟩
    rw [Int.toNat_natCast]
    have := numval_add ds (k - k / 2) (k / 2) lo
    rw [show k / 2 + (k - k / 2) = k from by omega] at this
    rw [this, Int.mul_comm, Int.add_comm]
end Mine
end

section
open PySem PySem.W PyProof.Rows PySem.Spec PySem.Calls
set_option maxRecDepth 100000
set_option maxHeartbeats 800000
namespace Mine

abbrev tab37 (c' : Addr) : Obj := tabObj #[rawInt 38, rawInt 4, .ref c']

theorem truthy_yes {prog : Program} {w : World} {A : Around} {E : Value → Shared → Prop} {s : Shared} {h₀ : Heap} {L : Addr} {news : List (Addr × Obj)} {D : Addr} {vs : List Value} {ns : List Int} {c : Nat} {Q : Bool → Shared → Prop} (N : News h₀ L s.heap news) (hm : (D, listOf vs.toArray c) ∈ news) (hI : IntsAre vs ns) (h0 : 0 < ns.length) (hf : ns.length < 2 ^ 62) (h : ∀ tk, Q true { s with toks := tk }) :
    wpAny (model prog w) A (truthy (.ref D)) Q E s := by
  have e : vs.toArray.size = ns.length := by rw [List.size_toArray, hI.length]
  refine wpAny_truthy_list (News.isList N hm) (by rw [e]; omega) ?_
  have q : (!vs.toArray.isEmpty) = true := by
    cases vs with
    | nil => simp at e; omega
    | cons _ _ => rfl
  rw [q]
  exact h _

local macro_rules | `(tactic| k_mem) => `(tactic| first | assumption | exact List.Mem.head _ | (refine' List.Mem.tail _ ?_; k_mem))
local macro_rules | `(tactic| k_all) => `(tactic| first | assumption | exact List.forall_mem_nil _ | (refine' List.forall_mem_cons.mpr ⟨?a, ?b⟩; (case a => k_ne); (case b => k_all)))
local macro_rules | `(tactic| k_steps) => `(tactic| repeat' ((fail_if_success (with_reducible show wpAny _ _ (pyIter (Value.ref _)) (fun it s₂ => LoopAtV _ _ _ _ _ _ _ _ _ it s₂) _ _)); (fail_if_success (with_reducible show wpAny _ _ (call (Value.ref _) _) _ _ _)); first | (k_unfold; (try dsimp only)) | (k_end; wrow_close) | walk1 | (dsimp only; walk1) | (leave1; walk_say "STEP leave1"; try dsimp only) | fail "no step"))
local macro_rules | `(tactic| walk_at "ite") => `(tactic| (k_here; first | refine ite_yes (by simp only [beq_iff_eq, bne_iff_ne, decide_eq_true_eq]; omega) ?_ | refine ite_no (by simp only [beq_eq_false_iff_ne, bne_eq_false_iff_eq, decide_eq_false_iff_not]; omega) ?_))
local macro_rules | `(tactic| walk_at "binaryOp FloorDiv int int") => `(tactic| (k_here; k_dflt ((refine' fdv_to ?ca ?cb ?cc ?_); (case cb => assumption); (case ca => decide); (case cc => exact PyProof.noPylong_small (by omega)))))
local macro_rules | `(tactic| walk_at "binaryOp Mult ref int") => `(tactic| (k_here; k_dflt ((refine' rep_to ?F ?N ?m ?k ?_); (case F => k_asm); (case N => k_asm); (case m => k_mem); (case k => omega); k_whole); intro D' vs' h' F' N' l1 i1; (try k_lt l1); (try k_sweep)))

local macro_rules | `(tactic| walk_at "call builtin:len") => `(tactic| (k_here; (with_reducible show wpAny _ _ (call (Value.builtin "len") [Value.ref _]) _ _ _); k_dflt (refine' len_to ?N ?m ?I ?e ?f ?_; (case N => k_asm); (case m => k_mem); (case I => assumption); (case e => exact rfl); (case f => omega); k_whole)))


local macro_rules | `(tactic| walk_at "truthy ref") => `(tactic| (k_here; k_dflt (refine' truthy_yes ?N ?m ?I ?e ?f ?_; (case N => k_asm); (case m => k_mem); (case I => assumption); (case e => assumption); (case f => omega); k_whole); intro _))

theorem digits2int (w : World) (tn : Tok) (c' : Addr) (oc : Obj) (fs : Array Value) (tq : Tok) (hc1 : oc.data = .fields fs) (hc2 : fs[1]? = some (.str (Str.ofString "_digits2int.<locals>.inner") tq))
    (D : Addr) (vs : List Value) (ds : List Int) (n : Nat) (hints : IntsAre vs ds) (hv8 : ds.length ≤ 8) (hv0 : 0 < ds.length) (hds : ∀ i, 0 ≤ ds.getD i 0 ∧ ds.getD i 0 ≤ 1) :
    Says PySem.Challenge.rw_gl0002_01.row.prog (hd.heap_39 w.params) w 25 300 42 [.ref D, .int 1 tn] (fun news => (37, tab37 c') ∈ news ∧ (c', oc) ∈ news ∧ (D, listOf vs.toArray n) ∈ news)
      (fun r tl => ∃ t, r = .int (numval ds 0 ds.length) t ∧ tl = []) := by
  unfold Says
  w_top off
  k_fill
  intro p loose mean mg mb dp un gd cn cs a ccd cl outer A₀ base h₀ L m news s Q E B F X N T' hk ⟨h1, h2, h3⟩ hd hu hret
  refine wpAny_noRaise ?_
  refine wpAny_call ?_
  k_dflt (refine' code_defC ?k1 ?k2 ?k3 ?k4 ?k5 ?kA ?kF ?kK ?k6 ?k7 ?k8 ?k9 ?kB ?kD ?_ ?c2 ?c3 ?c4; (case kA => exact rfl); (case kF => exact rfl); (case kK => assumption); (case k1 => k_asm); (case k2 => k_asm); (case k3 => k_asm); (case k4 => k_asm); (case k5 => k_asm); (case k6 => k_is); (case k7 => k_is); (case k8 => ktr_room); (case k9 => exact BindsTo.of_eq rfl); (case kB => exact rfl); (case kD => decide +kernel); (case c2 => exact rfl); (case c3 => exact rfl); (case c4 => exact rfl); k_whole; intro g' L' h' tk' cells' FG' F' N' Y' B' X' T' l1; k_cells Y'; (try simp only [List.cons_append, List.nil_append] at N'); (try dsimp only); (try k_fold))
  all_goals refine wpAny_noRaise ?_
  have CH := codeHd41 w _ X' rfl
  have n1 : ∀ p ∈ news, p.1 ≠ L' + 1 := fun p hp => Nat.ne_of_lt (Nat.lt_succ_of_lt (l1 p hp))
  have n2 : ∀ p ∈ news, p.1 ≠ L' + 1 + 1 := fun p hp => Nat.ne_of_lt (Nat.lt_succ_of_lt (Nat.lt_succ_of_lt (l1 p hp)))
  have n3 : ∀ p ∈ news, p.1 ≠ L' + 1 + 1 + 1 := fun p hp => Nat.ne_of_lt (Nat.lt_succ_of_lt (Nat.lt_succ_of_lt (Nat.lt_succ_of_lt (l1 p hp))))
  k_steps
  rename_i q1 q2 q3 d1 d2 d3 f ct dc hE tk2 lE hG oI FF NN dI tk3
  k_dflt (refine' says_use (inner2Says w _ _ _ _ _ ?isin f D (L' + 1) (L' + 1 + 1 + 1) (L' + 1 + 1) c' _ oI _ oc dc _ ct tn tq fs vs ds n hints hv8 hds hc1 ?hq ?dA dI ?dN ds.length 0 ds.length _ _ (Nat.zero_add _) hv0 (Nat.le_refl _)) ?k1 ?k2 ?k3 ?k4 ?k5 ?k6 ?k7 ?k8 ?k9 ?_; (case k1 => k_asm); (case k2 => k_asm); (case k3 => k_asm); (case k4 => k_asm); (case k5 => k_asm); (case k6 => exact rfl); (case k7 => refine' ⟨?m1, ?m2, ?m3, ?m4, ?m5, ?m6⟩; (case m1 => exact .head _); (case m2 => k_mem); (case m3 => k_mem); (case m4 => k_mem); (case m5 => k_mem); (case m6 => k_mem)); (case isin => exact ⟨_, rfl⟩); (case hq => exact hc2); (case dA => exact d3); (case dN => exact d2); (case k8 => ktr_room); (case k9 => ktr_units); k_whole)
  rintro r1 tl1 h1 tk1 F1 N1 l1 ⟨t1, rfl, rfl⟩
  rw [List.nil_append] at N1
  k_sweep
  (try dsimp only)
  k_steps
  refine hret _ [] _ _ (by k_asm) (kst_newsOf (by k_asm) fun p hp => ?_) ktn_ord0 ⟨t1, rfl, rfl⟩
  rw [List.nil_append] at hp
  simp [hp]
end Mine
end

section
open PySem PySem.W PyProof.Rows PySem.Spec PySem.Calls
set_option maxRecDepth 100000
set_option maxHeartbeats 800000
namespace Mine
local macro_rules | `(tactic| walk_at "zz0") => `(tactic| fail)
local macro_rules | `(tactic| walk_at "zz1") => `(tactic| fail)
local macro_rules | `(tactic| walk_at "zz2") => `(tactic| fail)
local macro_rules | `(tactic| walk_at "zz3") => `(tactic| fail)
local macro_rules | `(tactic| walk_at "zz4") => `(tactic| fail)
local macro_rules | `(tactic| walk_at "zz5") => `(tactic| fail)
local macro_rules | `(tactic| walk_at "zz6") => `(tactic| fail)
local macro_rules | `(tactic| walk_at "zz7") => `(tactic| fail)
local macro_rules | `(tactic| walk_at "zz8") => `(tactic| fail)
local macro_rules | `(tactic| walk_at "zz9") => `(tactic| fail)
local macro_rules | `(tactic| walk_at "zz10") => `(tactic| fail)
local macro_rules | `(tactic| walk_at "zz11") => `(tactic| fail)
local macro_rules | `(tactic| walk_at "zz12") => `(tactic| fail)
local macro_rules | `(tactic| walk_at "zz13") => `(tactic| fail)
local macro_rules | `(tactic| walk_at "zz14") => `(tactic| fail)
local macro_rules | `(tactic| walk_at "zz15") => `(tactic| fail)
local macro_rules | `(tactic| walk_at "zz16") => `(tactic| fail)
local macro_rules | `(tactic| walk_at "zz17") => `(tactic| fail)
local macro_rules | `(tactic| walk_at "zz18") => `(tactic| fail)
local macro_rules | `(tactic| walk_at "zz19") => `(tactic| fail)

local macro_rules | `(tactic| k_mem) => `(tactic| first | assumption | exact List.Mem.head _ | (refine' List.Mem.tail _ ?_; k_mem))
local macro_rules | `(tactic| k_all) => `(tactic| first | assumption | exact List.forall_mem_nil _ | (refine' List.forall_mem_cons.mpr ⟨?a, ?b⟩; (case a => k_ne); (case b => k_all)))
local macro_rules | `(tactic| k_steps) => `(tactic| repeat' ((fail_if_success (with_reducible show wpAny _ _ (pyIter (Value.ref _)) (fun it s₂ => LoopAtV _ _ _ _ _ _ _ _ _ it s₂) _ _)); (fail_if_success (with_reducible show wpAny _ _ (call (Value.ref _) _) _ _ _)); first | (k_unfold; (try dsimp only)) | (k_end; wrow_close) | walk1 | (dsimp only; walk1) | (leave1; walk_say "STEP leave1"; try dsimp only) | fail "no step"))
local macro_rules | `(tactic| walk_at "ite") => `(tactic| (k_here; first | refine ite_yes (by simp only [beq_iff_eq, bne_iff_ne, decide_eq_true_eq]; omega) ?_ | refine ite_no (by simp only [beq_eq_false_iff_ne, bne_eq_false_iff_eq, decide_eq_false_iff_not]; omega) ?_))
local macro_rules | `(tactic| walk_at "binaryOp FloorDiv int int") => `(tactic| (k_here; k_dflt ((refine' fdv_to ?ca ?cb ?cc ?_); (case cb => assumption); (case ca => decide); (case cc => exact PyProof.noPylong_small (by omega)))))
local macro_rules | `(tactic| walk_at "binaryOp Mult ref int") => `(tactic| (k_here; k_dflt ((refine' rep_to ?F ?N ?m ?k ?_); (case F => k_asm); (case N => k_asm); (case m => k_mem); (case k => omega); k_whole); intro D' vs' h' F' N' l1 i1; (try k_lt l1); (try k_sweep)))

local macro_rules | `(tactic| walk_at "call builtin:len") => `(tactic| (k_here; (with_reducible show wpAny _ _ (call (Value.builtin "len") [Value.ref _]) _ _ _); k_dflt (refine' len_to ?N ?m ?I ?e ?f ?_; (case N => k_asm); (case m => k_mem); (case I => assumption); (case e => exact rfl); (case f => omega); k_whole)))


local macro_rules | `(tactic| walk_at "truthy ref") => `(tactic| (k_here; k_dflt (refine' truthy_yes ?N ?m ?I ?e ?f ?_; (case N => k_asm); (case m => k_mem); (case I => assumption); (case e => assumption); (case f => omega); k_whole); intro _))

theorem digits2intCold (w : World) (tn : Tok) (rest : List (Addr × Obj)) (hrest : ∀ p ∈ rest, p.1 ≠ 37)
    (D : Addr) (vs : List Value) (ds : List Int) (n : Nat) (hints : IntsAre vs ds) (hv8 : ds.length ≤ 8) (hv0 : 0 < ds.length) (hds : ∀ i, 0 ≤ ds.getD i 0 ∧ ds.getD i 0 ≤ 1) (h3 : (D, listOf vs.toArray n) ∈ rest) :
    SaysM PySem.Challenge.rw_gl0002_01.row.prog (hd.heap_39 w.params) w 25 300 42 [.ref D, .int 1 tn] ((37, tabObj #[]) :: rest)
      (fun r led => ∃ t c' oc fs tq, r = .int (numval ds 0 ds.length) t ∧ led = (c', oc) :: (37, tab37 c') :: rest ∧ oc.data = .fields fs ∧ fs[1]? = some (.str (Str.ofString "_digits2int.<locals>.inner") tq) ∧
        c' ≠ 37 ∧ (∀ p ∈ rest, p.1 < c')) := by
  unfold SaysM
  w_top off
  k_fill
  intro p loose mean mg mb dp un gd cn cs a ccd cl outer A₀ base h₀ L m s Q E B F X N T' hk hd hu hret
  refine wpAny_noRaise ?_
  refine wpAny_call ?_
  k_dflt (refine' code_defC ?k1 ?k2 ?k3 ?k4 ?k5 ?kA ?kF ?kK ?k6 ?k7 ?k8 ?k9 ?kB ?kD ?_ ?c2 ?c3 ?c4; (case kA => exact rfl); (case kF => exact rfl); (case kK => assumption); (case k1 => k_asm); (case k2 => k_asm); (case k3 => k_asm); (case k4 => k_asm); (case k5 => k_asm); (case k6 => k_is); (case k7 => k_is); (case k8 => ktr_room); (case k9 => exact BindsTo.of_eq rfl); (case kB => exact rfl); (case kD => decide +kernel); (case c2 => exact rfl); (case c3 => exact rfl); (case c4 => exact rfl); k_whole; intro g' L' h' tk' cells' FG' F' N' Y' B' X' T' l1; k_cells Y'; (try simp only [List.cons_append, List.nil_append] at N'); (try dsimp only); (try k_fold))
  all_goals refine wpAny_noRaise ?_
  have CH := codeHd41 w _ X' rfl
  have h37 := ltN (l1 _ (.head _))
  dsimp only at h37
  have n1 : ∀ p ∈ rest, p.1 ≠ L' + 1 := fun p hp => Nat.ne_of_lt (Nat.lt_succ_of_lt (l1 p (.tail _ hp)))
  have n2 : ∀ p ∈ rest, p.1 ≠ L' + 1 + 1 := fun p hp => Nat.ne_of_lt (Nat.lt_succ_of_lt (Nat.lt_succ_of_lt (l1 p (.tail _ hp))))
  have n3 : ∀ p ∈ rest, p.1 ≠ L' + 1 + 1 + 1 := fun p hp => Nat.ne_of_lt (Nat.lt_succ_of_lt (Nat.lt_succ_of_lt (Nat.lt_succ_of_lt (l1 p (.tail _ hp)))))
  k_steps
  rename_i q1 q2 q3 d1 d2 d3 f c' oc fs tq ct dc hE tk2 hc1 hc2 lE lF hG oI FF NN dI tk3
  simp only [Array.empty_append] at NN
  k_dflt (refine' says_use (inner2Says w _ _ _ _ _ ?isin f D (L' + 1) (L' + 1 + 1 + 1) (L' + 1 + 1) c' _ oI _ oc dc _ ct tn tq fs vs ds n hints hv8 hds hc1 ?hq ?dA dI ?dN ds.length 0 ds.length _ _ (Nat.zero_add _) hv0 (Nat.le_refl _)) ?k1 ?k2 ?k3 ?k4 ?k5 ?k6 ?k7 ?k8 ?k9 ?_; (case k1 => k_asm); (case k2 => k_asm); (case k3 => k_asm); (case k4 => k_asm); (case k5 => k_asm); (case k6 => exact rfl); (case k7 => refine' ⟨?m1, ?m2, ?m3, ?m4, ?m5, ?m6⟩; (case m1 => exact .head _); (case m2 => k_mem); (case m3 => k_mem); (case m4 => k_mem); (case m5 => k_mem); (case m6 => k_mem)); (case isin => exact ⟨_, rfl⟩); (case hq => exact hc2); (case dA => exact d3); (case dN => exact d2); (case k8 => ktr_room); (case k9 => ktr_units); k_whole)
  rintro r1 tl1 h1 tk1 F1 N1 l1 ⟨t1, rfl, rfl⟩
  rw [List.nil_append] at N1
  k_sweep
  (try dsimp only)
  k_steps
  refine hret _ _ _ _ (by k_asm) (kst_newsOf (by k_asm) fun p hp => ?_) ⟨t1, c', oc, fs, tq, rfl, rfl, hc1, hc2, Nat.ne_of_gt lE.2.2.2.1, fun p hp => ktn_ltOf lE.2.2.2.2 p hp⟩
  simp only [List.mem_cons] at hp ⊢
  rcases hp with hp | hp | hp <;> simp [hp]
end Mine
end

section
open PySem PySem.W PyProof.Rows PySem.Spec PySem.Calls
set_option maxRecDepth 100000
set_option maxHeartbeats 800000
namespace Mine

def figs (x : Fin 256) (m : Nat) : List Int := (digs x ++ List.replicate m 0).take m

section
variable {prog : Program} {w : World} {A : Around} {E : Value → Shared → Prop} {s : Shared} {h₀ : Heap} {L : Addr} {m : Str → Option Value} {news : List (Addr × Obj)} {Q : Value → Shared → Prop}
theorem slice_upto {value slice : PySem.Expr} {l : Addr} {vs : List Value} {ns : List Int} {n : Nat} {y : Int} {ty : Tok} (F : Fr h₀ L s.heap m) (N : News h₀ L s.heap news) (hm : (l, listOf vs.toArray n) ∈ news) (hI : IntsAre vs ns) (hy : 0 ≤ y) (hz : ns.length ≤ 100)
    (h : ∀ D ws h', Fr h₀ L h' m → News h₀ L h' ((D, listOf (List.toArray ws) 0) :: news) → (∀ p ∈ news, p.1 < D) → IntsAre ws (ns.take y.toNat) → Q (.ref D) { s with heap := h' })
    (hs : subscripted slice false (.ref l) (.ref s.heap.objs.size) = operate [.ref s.heap.objs.size, .ref l] (getItem (.ref l) (.ref s.heap.objs.size))) (ht : ∀ r, letTemporaryGo value (.ref l) r = pure ()) :
    wpAny (model prog w) A (subscriptTail value slice (.ref l) (.ref s.heap.objs.size)) Q E { s with heap := s.heap.push { cls := .type "slice", data := .fields #[.none, .int y ty, .none] } } := by
  have hl := hI.length
  refine kms_slice_lit (lo := none) (hi := some y) F N (News.isList N hm) .none (.int y ty) rfl (fun D h' F' N' l1 => h D _ h' F' N' l1 ?_) hs ht (by rw [List.size_toArray, hl, sizeLine_eq]; omega)
  have e : kms_pick vs.toArray.toList none (some y) = vs.take y.toNat := by
    simp only [kms_pick, kms_lo, kms_hi, List.drop_zero, Nat.sub_zero, if_neg (Int.not_lt.mpr hy)]
    rw [Nat.min_def]; split
    · rfl
    · rw [List.take_of_length_le (Nat.le_refl _), List.take_of_length_le (by omega)]
  rw [e]; exact hI.take _
theorem add_two {a b : Addr} {vs ws : List Value} {ns ms : List Int} {i j : Nat} (F : Fr h₀ L s.heap m) (N : News h₀ L s.heap news) (ha : (a, listOf vs.toArray i) ∈ news) (hb : (b, listOf ws.toArray j) ∈ news) (hI : IntsAre vs ns) (hJ : IntsAre ws ms) (hz : ns.length + ms.length ≤ 1000)
    (h : ∀ D h', Fr h₀ L h' m → News h₀ L h' ((D, listOf (vs ++ ws).toArray 0) :: news) → (∀ p ∈ news, p.1 < D) → IntsAre (vs ++ ws) (ns ++ ms) → Q (.ref D) { s with heap := h' }) : wpAny (model prog w) A (binaryOp .Add (.ref a) (.ref b)) Q E s :=
  add_lists_ints F N (News.isList N ha) (News.isList N hb) hI hJ (fun h' F' N' i' => h _ h' F' N' (fun p hp => Heap.lt_size (N p hp).1) i') (by rw [sizeLine_eq]; omega)
end
theorem digs_len (x : Fin 256) : (digs x).length ≤ 8 := by rw [digs, List.length_map, List.length_range]; exact (bl_facts x).1

local macro_rules | `(tactic| k_mem) => `(tactic| first | assumption | exact List.Mem.head _ | (refine' List.Mem.tail _ ?_; k_mem))
local macro_rules | `(tactic| k_all) => `(tactic| first | assumption | exact List.forall_mem_nil _ | (refine' List.forall_mem_cons.mpr ⟨?a, ?b⟩; (case a => k_ne); (case b => k_all)))
local macro_rules | `(tactic| k_steps) => `(tactic| repeat' ((fail_if_success (with_reducible show wpAny _ _ (pyIter (Value.ref _)) (fun it s₂ => LoopAtV _ _ _ _ _ _ _ _ _ it s₂) _ _)); (fail_if_success (with_reducible show wpAny _ _ (call (Value.ref _) _) _ _ _)); first | (k_unfold; (try dsimp only)) | (k_end; wrow_close) | walk1 | (dsimp only; walk1) | (leave1; walk_say "STEP leave1"; try dsimp only) | fail "no step"))
local macro_rules | `(tactic| walk_at "binaryOp Mult ref int") => `(tactic| (k_here; k_dflt ((refine' rep_to ?F ?N ?m ?k ?_); (case F => k_asm); (case N => k_asm); (case m => k_mem); (case k => omega); k_whole); intro D' vs' h' F' N' l1 i1; (try k_lt l1); (try k_sweep)))

local macro_rules | `(tactic| walk_at "binaryOp Add ref ref") => `(tactic| (k_here; k_dflt (refine' add_two ?F ?N ?a ?b ?i ?j ?z ?_; (case F => k_asm); (case N => k_asm); (case a => k_mem); (case b => k_mem); (case i => assumption); (case j => assumption); (case z => simp only [List.length_replicate]; omega); k_whole); intro D' h' F' N' l1 i1; (try k_lt l1); (try k_sweep)))
local macro_rules | `(tactic| walk_at "subscriptTail") => `(tactic| (k_here; (with_reducible show wpAny _ _ (subscriptTail _ (PySem.Expr.Slice none _ none _) (Value.ref _) (Value.ref _)) _ _ _); (fail_if_success (with_reducible show wpAny _ _ (subscriptTail (PySem.Expr.Name _ _) _ _ _) _ _ _)); k_dflt (refine kba_turn (value' := PySem.Expr.Name (PySem.Str.ofString "_") ⟨0, 0, 0, 0⟩) (fun _ => rfl) ?_)))
local macro_rules | `(tactic| walk_at "subscriptTail") => `(tactic| (k_here; (with_reducible show wpAny _ _ (subscriptTail (PySem.Expr.Name _ _) (PySem.Expr.Slice none _ none _) (Value.ref _) (Value.ref _)) _ _ _); k_dflt (refine' slice_upto ?F ?N ?m ?i ?y ?z ?_ ?s ?t; (case F => k_asm); (case N => k_asm); (case m => k_mem); (case i => assumption); (case y => omega); (case z => simp only [List.length_append, List.length_replicate]; omega); (case s => with_unfolding_all rfl); (case t => intro _; rfl); k_whole); intro D' ws' h' F' N' l1 i1; (try k_lt l1); (try k_sweep)))

theorem lawFigures (w : World) (X0 : Fin 256) (mm : Nat) (hm8 : mm ≤ 8) (tx tm : Tok) (c' : Addr) (oc : Obj) (fs : Array Value) (tq : Tok) (hc1 : oc.data = .fields fs) (hc2 : fs[1]? = some (.str (Str.ofString "_int2digits.<locals>.inner") tq)) :
    Says PySem.Challenge.rw_gl0002_01.row.prog (hd.heap_39 w.params) w 30 340 49 [.int (X0.val : Int) tx, .int (mm : Int) tm] (fun news => (30, tab30 c') ∈ news ∧ (c', oc) ∈ news)
      (fun r tl => ∃ e vs k, r = .ref e ∧ tl = [(e, listOf vs.toArray k)] ∧ IntsAre vs (figs X0 mm)) := by
  unfold Says
  w_top off
  k_fill
  intro p loose mean mg mb dp un gd cn cs a ccd cl outer A₀ base h₀ L m news s Q E B F X N T' hk ⟨h1, h2⟩ hd hu hret
  refine wpAny_noRaise ?_
  refine wpAny_call ?_
  k_dflt ktr_enter
  all_goals refine wpAny_noRaise ?_
  k_steps
  have hdl := digs_len X0
  k_dflt (refine' says_use (int2digits w X0 _ _ c' oc fs tq hc1 hc2) ?k1 ?k2 ?k3 ?k4 ?k5 ?k6 ?k7 ?k8 ?k9 ?_; (case k1 => k_asm); (case k2 => k_asm); (case k3 => k_asm); (case k4 => k_asm); (case k5 => k_asm); (case k6 => exact rfl); (case k7 => exact ⟨by k_mem, by k_mem⟩); (case k8 => ktr_room); (case k9 => ktr_units); k_whole)
  rintro r1 tl1 hh1 tk1 F1 N1 l1 ⟨e1, vs1, rfl, rfl, I1⟩
  rw [List.cons_append, List.nil_append] at N1
  k_sweep
  (try dsimp only)
  k_steps
  rename IntsAre _ (List.take _ _) => hI
  rw [Int.toNat_natCast] at hI
  rename _ ∧ _ ∧ _ ∧ _ ∧ AllLt _ _ => hA
  refine hret (.ref _) [(_, listOf _ 0)] _ _ (by k_asm) (kst_newsOf (by k_asm) fun p hp => ?_) (ktn_ord1 hA.2.2.2.2) ⟨_, _, _, rfl, rfl, hI⟩
  simp only [List.cons_append, List.nil_append, List.mem_cons] at hp ⊢
  rcases hp with hp | hp <;> simp [hp]
end Mine
end

section
open PySem PySem.W PyProof.Rows PySem.Spec PySem.Calls
set_option maxRecDepth 100000
set_option maxHeartbeats 800000
namespace Mine
local macro_rules | `(tactic| walk_at "zz0") => `(tactic| fail)
local macro_rules | `(tactic| walk_at "zz1") => `(tactic| fail)
local macro_rules | `(tactic| walk_at "zz2") => `(tactic| fail)
local macro_rules | `(tactic| walk_at "zz3") => `(tactic| fail)
local macro_rules | `(tactic| walk_at "zz4") => `(tactic| fail)
local macro_rules | `(tactic| walk_at "zz5") => `(tactic| fail)
local macro_rules | `(tactic| walk_at "zz6") => `(tactic| fail)
local macro_rules | `(tactic| walk_at "zz7") => `(tactic| fail)
local macro_rules | `(tactic| walk_at "zz8") => `(tactic| fail)
local macro_rules | `(tactic| walk_at "zz9") => `(tactic| fail)
local macro_rules | `(tactic| walk_at "zz10") => `(tactic| fail)
local macro_rules | `(tactic| walk_at "zz11") => `(tactic| fail)
local macro_rules | `(tactic| walk_at "zz12") => `(tactic| fail)
local macro_rules | `(tactic| walk_at "zz13") => `(tactic| fail)
local macro_rules | `(tactic| walk_at "zz14") => `(tactic| fail)
local macro_rules | `(tactic| walk_at "zz15") => `(tactic| fail)
local macro_rules | `(tactic| walk_at "zz16") => `(tactic| fail)
local macro_rules | `(tactic| walk_at "zz17") => `(tactic| fail)
local macro_rules | `(tactic| walk_at "zz18") => `(tactic| fail)
local macro_rules | `(tactic| walk_at "zz19") => `(tactic| fail)

local macro_rules | `(tactic| k_mem) => `(tactic| first | assumption | exact List.Mem.head _ | (refine' List.Mem.tail _ ?_; k_mem))
local macro_rules | `(tactic| k_all) => `(tactic| first | assumption | exact List.forall_mem_nil _ | (refine' List.forall_mem_cons.mpr ⟨?a, ?b⟩; (case a => k_ne); (case b => k_all)))
local macro_rules | `(tactic| k_steps) => `(tactic| repeat' ((fail_if_success (with_reducible show wpAny _ _ (pyIter (Value.ref _)) (fun it s₂ => LoopAtV _ _ _ _ _ _ _ _ _ it s₂) _ _)); (fail_if_success (with_reducible show wpAny _ _ (call (Value.ref _) _) _ _ _)); first | (k_unfold; (try dsimp only)) | (k_end; wrow_close) | walk1 | (dsimp only; walk1) | (leave1; walk_say "STEP leave1"; try dsimp only) | fail "no step"))
local macro_rules | `(tactic| walk_at "binaryOp Mult ref int") => `(tactic| (k_here; k_dflt ((refine' rep_to ?F ?N ?m ?k ?_); (case F => k_asm); (case N => k_asm); (case m => k_mem); (case k => omega); k_whole); intro D' vs' h' F' N' l1 i1; (try k_lt l1); (try k_sweep)))

local macro_rules | `(tactic| walk_at "binaryOp Add ref ref") => `(tactic| (k_here; k_dflt (refine' add_two ?F ?N ?a ?b ?i ?j ?z ?_; (case F => k_asm); (case N => k_asm); (case a => k_mem); (case b => k_mem); (case i => assumption); (case j => assumption); (case z => simp only [List.length_replicate]; omega); k_whole); intro D' h' F' N' l1 i1; (try k_lt l1); (try k_sweep)))
local macro_rules | `(tactic| walk_at "subscriptTail") => `(tactic| (k_here; (with_reducible show wpAny _ _ (subscriptTail _ (PySem.Expr.Slice none _ none _) (Value.ref _) (Value.ref _)) _ _ _); (fail_if_success (with_reducible show wpAny _ _ (subscriptTail (PySem.Expr.Name _ _) _ _ _) _ _ _)); k_dflt (refine kba_turn (value' := PySem.Expr.Name (PySem.Str.ofString "_") ⟨0, 0, 0, 0⟩) (fun _ => rfl) ?_)))
local macro_rules | `(tactic| walk_at "subscriptTail") => `(tactic| (k_here; (with_reducible show wpAny _ _ (subscriptTail (PySem.Expr.Name _ _) (PySem.Expr.Slice none _ none _) (Value.ref _) (Value.ref _)) _ _ _); k_dflt (refine' slice_upto ?F ?N ?m ?i ?y ?z ?_ ?s ?t; (case F => k_asm); (case N => k_asm); (case m => k_mem); (case i => assumption); (case y => omega); (case z => simp only [List.length_append, List.length_replicate]; omega); (case s => with_unfolding_all rfl); (case t => intro _; rfl); k_whole); intro D' ws' h' F' N' l1 i1; (try k_lt l1); (try k_sweep)))

theorem lawFiguresCold (w : World) (X0 : Fin 256) (mm : Nat) (hm8 : mm ≤ 8) (tx tm : Tok) (rest : List (Addr × Obj)) (hrest : ∀ p ∈ rest, p.1 ≠ 30) :
    SaysM PySem.Challenge.rw_gl0002_01.row.prog (hd.heap_39 w.params) w 30 340 49 [.int (X0.val : Int) tx, .int (mm : Int) tm] ((30, tabObj #[]) :: rest)
      (fun r led => ∃ e vs k c' oc fs tq, r = .ref e ∧ led = (e, listOf vs.toArray k) :: (c', oc) :: (30, tab30 c') :: rest ∧ IntsAre vs (figs X0 mm) ∧ oc.data = .fields fs ∧ fs[1]? = some (.str (Str.ofString "_int2digits.<locals>.inner") tq) ∧
        e ≠ 30 ∧ c' ≠ 30 ∧ (∀ p ∈ rest, p.1 < e ∧ p.1 < c')) := by
  unfold SaysM
  w_top off
  k_fill
  intro p loose mean mg mb dp un gd cn cs a ccd cl outer A₀ base h₀ L m s Q E B F X N T' hk hd hu hret
  refine wpAny_noRaise ?_
  refine wpAny_call ?_
  k_dflt ktr_enter
  all_goals refine wpAny_noRaise ?_
  k_steps
  have hdl := digs_len X0
  k_dflt (refine' saysM_use (int2digitsCold w X0 _ _ rest hrest) ?k1 ?k2 ?k3 ?k4 ?k5 ?k6 ?k8 ?k9 ?_; (case k1 => k_asm); (case k2 => k_asm); (case k3 => k_asm); (case k4 => k_asm); (case k5 => k_asm); (case k6 => exact rfl); (case k8 => ktr_room); (case k9 => ktr_units); k_whole)
  rintro r1 led hh1 tk1 F1 N1 ⟨e1, vs1, c', oc, fs, tq, rfl, rfl, I1, hc1, hc2, hne1, hne2, hlow⟩
  k_sweep
  (try dsimp only)
  k_steps
  rename IntsAre _ (List.take _ _) => hI
  rw [Int.toNat_natCast] at hI
  rename _ ∧ _ ∧ _ ∧ _ ∧ _ ∧ _ ∧ AllLt _ _ => hA
  refine hret (.ref _) _ _ _ (by k_asm) (kst_newsOf (by k_asm) fun p hp => ?_) ⟨_, _, 0, c', oc, fs, tq, rfl, rfl, hI, hc1, hc2, Nat.ne_of_gt hA.2.2.2.2.2.1, hne2, fun p hp => ⟨ktn_ltOf hA.2.2.2.2.2.2 p hp, (hlow p hp).2⟩⟩
  simp only [List.mem_cons] at hp ⊢
  rcases hp with hp | hp | hp | hp <;> simp [hp]
end Mine
end

section
open PySem PySem.W PyProof.Rows PySem.Spec PySem.Calls
open PyProof.Rows.LCg
set_option maxRecDepth 100000
set_option maxHeartbeats 1600000
namespace Mine

/-- the end of a turn of a comprehension whose name is a cell -/
def CpEnd (h₀ : Heap) (L : Addr) (m : Str → Option Value) (s₁ : Shared) (I : Addr) (oI : Obj) (C : Addr) (oC : Obj) (c : Addr) (oc : Obj) (D : Addr) (oD : Obj) (S : List (Addr × Obj) → Prop) (rest : List (Addr × Obj) → Prop) (s₂ : Shared) : Prop :=
  ∃ h' tk nw', s₂ = { s₁ with heap := h', toks := tk } ∧ Fr h₀ L h' m ∧ News h₀ L h' ((I, oI) :: (C, oC) :: (c, oc) :: (D, oD) :: nw') ∧ (∀ p ∈ nw', p.1 ≠ I ∧ p.1 ≠ C ∧ p.1 ≠ c ∧ p.1 ≠ D) ∧ S nw' ∧ rest nw'
theorem CpEnd.intro {h₀ : Heap} {L : Addr} {m : Str → Option Value} {s₁ : Shared} {I : Addr} {oI : Obj} {C : Addr} {oC : Obj} {c : Addr} {oc : Obj} {D : Addr} {oD : Obj} {S : List (Addr × Obj) → Prop} {rest : List (Addr × Obj) → Prop} {h' : Heap} {tk : Nat} {all : List (Addr × Obj)} (nw' : List (Addr × Obj))
    (F : Fr h₀ L h' m) (N : News h₀ L h' all) (sub : ∀ p ∈ (I, oI) :: (C, oC) :: (c, oc) :: (D, oD) :: nw', p ∈ all) (off : ∀ p ∈ nw', p.1 ≠ I ∧ p.1 ≠ C ∧ p.1 ≠ c ∧ p.1 ≠ D) (hS : S nw') (r : rest nw') :
    CpEnd h₀ L m s₁ I oI C oC c oc D oD S rest { s₁ with heap := h', toks := tk } := ⟨h', tk, nw', rfl, F, fun p hp => N p (sub p hp), off, hS, r⟩

theorem newFunctionEnv_comp {M : Model} {A : Around} {E : Value → Shared → Prop} {s : Shared} {scope : Scope} {globals : Addr} {cl : List (Str × Addr)} {qual : Str} {env : Env} {Q : Env → Shared → Prop}
    (h : Q { scope := scope, locals := s.heap.objs.size, globals := globals, cells := cellsFrom (s.heap.objs.size + 1) scope.names cl, qual := qual, func := none, code := env.code, frame := env.frame, builtins := env.builtins } { s with heap := pushCells (s.heap.push { cls := .type "dict", data := .dict #[] }) scope.names }) :
    wpAny M A (newFunctionEnv scope globals cl [] qual none .none (some env)) Q E s := by
  simp only [newFunctionEnv, Option.isSome_some, if_true]
  refine wpAny_bind (wpAny_alloc ?_)
  refine wpAny_bind (wpAny_layCells _ (fun name kind cells => by cases hkc : kind == NameKind.cell <;> simp [hkc]) _ _ _ _ ?_)
  rw [show ({ s with heap := s.heap.push { cls := .type "dict", data := .dict #[] } } : Shared).heap.objs.size = s.heap.objs.size + 1 from Heap.size_push ..]
  exact wpAny_bind (wpAny_pure (wpAny_pure h))

theorem lookup_relabel_cell {env : Env} : ∀ {names : List (Str × NameKind)} {x : Str}, names.lookup x = some .cell →
    (names.map fun (n, k) => if (k == NameKind.free && env.scope.kind == .function && env.kindOf n == some .cell) then (n, NameKind.cell) else (n, k)).lookup x = some .cell
  | [], _, h => by simp at h
  | (n, k) :: r, x, h => by
    have ih := @lookup_relabel_cell env r x
    show List.lookup x ((if (k == NameKind.free && env.scope.kind == .function && env.kindOf n == some .cell) = true then (n, NameKind.cell) else (n, k)) :: _) = _
    cases hx : x == n with
    | true =>
      simp only [List.lookup_cons, hx] at h
      cases h
      simp [List.lookup_cons, hx]
    | false =>
      simp only [List.lookup_cons, hx] at h
      by_cases hc : (k == NameKind.free && env.scope.kind == .function && env.kindOf n == some .cell) = true
      · rw [if_pos hc]; simp only [List.lookup_cons, hx]; exact ih h
      · rw [if_neg hc]; simp only [List.lookup_cons, hx]; exact ih h

section
variable {prog : Program} {w : World} {A : Around} {E : Value → Shared → Prop} {s : Shared} {h₀ : Heap} {L : Addr} {m : Str → Option Value} {env : Env}

/-- what a turn of a comprehension whose name is a cell must show -/
def CpTurn (prog : Program) (w : World) (A : Around) (h₀ : Heap) (L : Addr) (m : Str → Option Value) (env : Env) (elt : Expr) (ifs : List Expr) (x : Str) (scope : Scope) (cl : List (Str × Addr)) (s : Shared) (S : List (Addr × Obj) → Prop) (P : Nat → Value → Prop) (n : Nat)
    (J : Nat → List Value → List (Addr × Obj) → Prop) : Prop :=
  ∀ i v ys nw I oI C oC c oc D h tk (E' : Value → Shared → Prop), i < n → P i v → ys.length ≤ i → oc.data = .cell (some v) → Fr h₀ L h m → News h₀ L h ((I, oI) :: (C, oC) :: (c, oc) :: (D, lst ys) :: nw) → (∀ p ∈ nw, p.1 ≠ I ∧ p.1 ≠ C ∧ p.1 ≠ c ∧ p.1 ≠ D) → S nw → J i ys nw →
    wpAny (model prog w) A (forIn ifs true fun t r => if r = true then do let ok ← isTrue t (compEnvC scope ((x, c) :: cl) C env) (eval t (compEnvC scope ((x, c) :: cl) C env)); pure (ForInStep.yield ok) else pure (ForInStep.yield r)) (fun ok s' => if ok = true then
        wpAny (model prog w) A (eval elt (compEnvC scope ((x, c) :: cl) C env)) (fun y s'' => CpEnd h₀ L m { s with heap := h, toks := tk } I oI C oC c oc D (lst ys) S (J (i + 1) (ys ++ [y])) s'') E' s'
      else CpEnd h₀ L m { s with heap := h, toks := tk } I oI C oC c oc D (lst ys) S (J (i + 1) ys) s') E' { s with heap := h, toks := tk }
/-- the end of a turn of a comprehension whose name is local -/
def LpEnd (h₀ : Heap) (L : Addr) (m : Str → Option Value) (s₁ : Shared) (I : Addr) (oI : Obj) (C : Addr) (oC : Obj) (D : Addr) (oD : Obj) (S : List (Addr × Obj) → Prop) (rest : List (Addr × Obj) → Prop) (s₂ : Shared) : Prop :=
  ∃ h' tk nw', s₂ = { s₁ with heap := h', toks := tk } ∧ Fr h₀ L h' m ∧ News h₀ L h' ((I, oI) :: (C, oC) :: (D, oD) :: nw') ∧ (∀ p ∈ nw', p.1 ≠ I ∧ p.1 ≠ C ∧ p.1 ≠ D) ∧ S nw' ∧ rest nw'
theorem LpEnd.intro {h₀ : Heap} {L : Addr} {m : Str → Option Value} {s₁ : Shared} {I : Addr} {oI : Obj} {C : Addr} {oC : Obj} {D : Addr} {oD : Obj} {S : List (Addr × Obj) → Prop} {rest : List (Addr × Obj) → Prop} {h' : Heap} {tk : Nat} {all : List (Addr × Obj)} (nw' : List (Addr × Obj))
    (F : Fr h₀ L h' m) (N : News h₀ L h' all) (sub : ∀ p ∈ (I, oI) :: (C, oC) :: (D, oD) :: nw', p ∈ all) (off : ∀ p ∈ nw', p.1 ≠ I ∧ p.1 ≠ C ∧ p.1 ≠ D) (hS : S nw') (r : rest nw') :
    LpEnd h₀ L m s₁ I oI C oC D oD S rest { s₁ with heap := h', toks := tk } := ⟨h', tk, nw', rfl, F, fun p hp => N p (sub p hp), off, hS, r⟩

/-- what a turn of a comprehension whose name is local must show -/
def LpTurn (prog : Program) (w : World) (A : Around) (h₀ : Heap) (L : Addr) (m : Str → Option Value) (env : Env) (elt : Expr) (ifs : List Expr) (x : Str) (scope : Scope) (cl : List (Str × Addr)) (s : Shared) (S : List (Addr × Obj) → Prop) (P : Nat → Value → Prop) (n : Nat)
    (J : Nat → List Value → List (Addr × Obj) → Prop) : Prop :=
  ∀ i v ys nw I oI C oC D m₂ h tk (E' : Value → Shared → Prop), i < n → P i v → ys.length ≤ i → NsObj oC m₂ → m₂ x = some v → Fr h₀ L h m → News h₀ L h ((I, oI) :: (C, oC) :: (D, lst ys) :: nw) → (∀ p ∈ nw, p.1 ≠ I ∧ p.1 ≠ C ∧ p.1 ≠ D) → S nw → J i ys nw →
    wpAny (model prog w) A (forIn ifs true fun t r => if r = true then do let ok ← isTrue t (compEnvC scope cl C env) (eval t (compEnvC scope cl C env)); pure (ForInStep.yield ok) else pure (ForInStep.yield r)) (fun ok s' => if ok = true then
        wpAny (model prog w) A (eval elt (compEnvC scope cl C env)) (fun y s'' => LpEnd h₀ L m { s with heap := h, toks := tk } I oI C oC D (lst ys) S (J (i + 1) (ys ++ [y])) s'') E' s'
      else LpEnd h₀ L m { s with heap := h, toks := tk } I oI C oC D (lst ys) S (J (i + 1) ys) s') E' { s with heap := h, toks := tk }
theorem news_grow {h₀ h h' : Heap} {L : Addr} {nw : List (Addr × Obj)} (N : News h₀ L h nw) (k : ∀ p ∈ nw, h.get? p.1 = some p.2 → h'.get? p.1 = some p.2) : News h₀ L h' nw := fun p hp => ⟨k p hp (N p hp).1, (N p hp).2⟩

theorem block_C {elt iter : Expr} {ifs : List Expr} {x : Str} {px : Pos} {scope : Scope} {cl : List (Str × Addr)} {pos : Pos} {s₂ : Shared} {I : Addr} {fp : List Addr} {n : Nat} {P : Nat → Value → Prop} {St : Nat → Heap → Prop} {S : List (Addr × Obj) → Prop} {news : List (Addr × Obj)}
    {J : Nat → List Value → List (Addr × Obj) → Prop} {RR : Value → Addr → Result → Shared → Prop}
    (W : Walks prog w A I fp [I] n P St) (hsz : n ≤ sizeLine) (hIo : ∀ i h, St i h → ∃ o, h.get? I = some o)
    (hSt : ∀ i h h' o nw, St i h → h.get? I = some o → h'.get? I = some o → (∀ b o, h₀.get? b = some o → h'.get? b = some o) → News h₀ L h' nw → S nw → St i h')
    (hcf : ∀ k, cellsFrom k scope.names cl = (x, k) :: cl) (hpc : ∀ h, pushCells h scope.names = h.push { cls := .type "cell", data := .cell none })
    (hkind : scope.kind = .function) (hx : scope.names.lookup x = some .cell) (hst : St 0 s₂.heap) (hfp : ∀ b ∈ fp, b < s₂.heap.objs.size)
    (F : Fr h₀ L s₂.heap m) (N : News h₀ L s₂.heap news) (hIL : L ≠ I) (hI₀ : h₀.get? I = none) (off : ∀ p ∈ news, p.1 ≠ I) (hS : S news)
    (hJ : J 0 [] news) (turn : CpTurn prog w A h₀ L m env elt ifs x scope cl s₂ S P n J)
    (hRR : ∀ D C h tk m' ys news', Fr h₀ L h m → News h₀ L h ((D, lst ys) :: news') → (∀ p ∈ news', p.1 ≠ D) → (∀ p ∈ news, p.1 < D) → h.Ns C m' → h₀.get? C = none → h₀.get? D = none → C ≠ L → D ≠ L → C ≠ D → (∀ p ∈ news', p.1 ≠ C) → J n ys news' → RR (.ref D) C (.ok .next) { s₂ with heap := h, toks := tk }) :
    wpAny (model prog w) A (newList []) (fun acc s₃ => wpAny (model prog w) A (newFunctionEnv scope env.globals cl [] env.qual none .none (some env)) (fun cenv s₄ =>
      codeAny (model prog w) A (.compStart (.ListComp elt [⟨.Name x px, iter, ifs, 0⟩] scope pos) 0 (.ref I) acc { cenv with scope := relabel scope env }) (RR acc cenv.locals) s₄) E s₃) E s₂ := by
  refine wpAny_newObj_type (newFunctionEnv_comp ?_)
  dsimp only
  rw [hcf, hpc]
  generalize hH1 : s₂.heap.push { cls := .type "list", dict := none, data := .seq ([] : List Value).toArray } = H1
  have z1 : H1.objs.size = s₂.heap.objs.size + 1 := by rw [← hH1, Heap.size_push]
  generalize hH2 : H1.push { cls := .type "dict", data := .dict #[] } = H2
  have z2 : H2.objs.size = H1.objs.size + 1 := by rw [← hH2, Heap.size_push]
  rw [← z2]
  generalize hH3 : H2.push { cls := .type "cell", data := .cell none } = H3
  obtain ⟨D, hD⟩ : ∃ D, D = s₂.heap.objs.size := ⟨_, rfl⟩
  obtain ⟨C, hC⟩ : ∃ C, C = H1.objs.size := ⟨_, rfl⟩
  obtain ⟨c, hc⟩ : ∃ c, c = H2.objs.size := ⟨_, rfl⟩
  rw [← hD, ← hC, ← hc]
  have hDC : D ≠ C := by rw [hD, hC, z1]; exact Nat.ne_of_lt (Nat.lt_succ_self _)
  have hDc : D ≠ c := by rw [hD, hc, z2, z1]; exact Nat.ne_of_lt (Nat.lt_succ_of_lt (Nat.lt_succ_self _))
  have hCc : C ≠ c := by rw [hC, hc, z2]; exact Nat.ne_of_lt (Nat.lt_succ_self _)
  have below : ∀ b, b < s₂.heap.objs.size → b ≠ C ∧ b ≠ c ∧ b ≠ D := fun b hb => ⟨by rw [hC, z1]; exact Nat.ne_of_lt (Nat.lt_succ_of_lt hb), by rw [hc, z2, z1]; exact Nat.ne_of_lt (Nat.lt_succ_of_lt (Nat.lt_succ_of_lt hb)), by rw [hD]; exact Nat.ne_of_lt hb⟩
  have notfp : ∀ {b}, s₂.heap.objs.size ≤ b → b ∉ fp := fun hb hm => Nat.not_lt.mpr hb (hfp _ hm)
  have hDf : D ∉ fp := notfp (Nat.le_of_eq hD.symm)
  have hCf : C ∉ fp := notfp (by rw [hC, z1]; exact Nat.le_succ _)
  have hcf' : c ∉ fp := notfp (by rw [hc, z2, z1]; exact Nat.le_trans (Nat.le_succ _) (Nat.le_succ _))
  have hIlt : I < s₂.heap.objs.size := hfp I (W.sub I (.head _))
  obtain ⟨hIC, hIc, hID⟩ := below I hIlt
  have old : ∀ b o, s₂.heap.get? b = some o → H3.get? b = some o := fun b o e => by rw [← hH3]; exact Heap.get?_push_of_some _ (hH2 ▸ Heap.get?_push_of_some _ (hH1 ▸ Heap.get?_push_of_some _ e))
  have hacc : H3.get? D = some (lst []) := by rw [← hH3]; exact Heap.get?_push_of_some _ (hH2 ▸ Heap.get?_push_of_some _ (by rw [hD, ← hH1]; exact Heap.get?_push_size _ rfl))
  have hnsC : H3.Ns C (fun _ => none) := by rw [← hH3, ← hH2, hC]; exact (Heap.Ns.new H1 (.type "dict")).push _
  have hcell : H3.IsCell c none := by rw [← hH3, hc]; exact ⟨_, Heap.get?_push_size _ rfl, rfl⟩
  have hst₁ : St 0 H3 := W.frame _ _ _ hst fun b _ o e => old b o e
  have fresh₀ : ∀ a, s₂.heap.objs.size ≤ a → h₀.get? a = none := fun a ha => by
    cases e : h₀.get? a with
    | none => rfl
    | some o' => exact absurd (Heap.lt_size (F.keep a o' e)) (Nat.not_lt.mpr ha)
  have hlow : ∀ p ∈ news, p.1 < D := fun p hp => by rw [hD]; exact Heap.lt_size (N p hp).1
  have hD₀ : h₀.get? D = none := fresh₀ _ (Nat.le_of_eq hD.symm)
  have hC₀ : h₀.get? C = none := fresh₀ _ (by rw [hC, z1]; exact Nat.le_succ _)
  have hc₀ : h₀.get? c = none := fresh₀ _ (by rw [hc, z2, z1]; exact Nat.le_trans (Nat.le_succ _) (Nat.le_succ _))
  obtain ⟨hLC, hLc, hLD⟩ := below L F.ns.lt
  have off₀ : ∀ p ∈ news, p.1 ≠ I ∧ p.1 ≠ C ∧ p.1 ≠ c ∧ p.1 ≠ D := fun p hp => ⟨off p hp, below _ (Heap.lt_size (N p hp).1)⟩
  have loop : ∀ tk, codeAny (model prog w) A (.compLoop (.ListComp elt [⟨.Name x px, iter, ifs, 0⟩] scope pos) 0 (.ref I) (.ref D) (compEnvC scope ((x, c) :: cl) C env)) (RR (.ref D) C) { s₂ with heap := H3, toks := tk } := by
    intro tk0
    refine codeAny_compLoop_tests
      (fun k s' => ∃ h' tk i ys m' nw v₀, s' = { s₂ with heap := h', toks := tk } ∧ i ≤ n ∧ k = n + 1 - i ∧ ys.length ≤ i ∧ St i h' ∧ Fr h₀ L h' m ∧ h'.Ns C m' ∧ h'.IsCell c v₀ ∧ News h₀ L h' ((D, lst ys) :: nw) ∧
        (∀ p ∈ nw, p.1 ≠ I ∧ p.1 ≠ C ∧ p.1 ≠ c ∧ p.1 ≠ D) ∧ S nw ∧ J i ys nw) ?_ (n + 1)
      ⟨H3, _, 0, [], _, news, _, rfl, Nat.zero_le _, rfl, Nat.le_refl _, hst₁, F.keeps old, hnsC, hcell, fun p hp => ?_, off₀, hS, hJ⟩
    · rintro k s' ⟨h', tk, i, ys, m', nw, v₀, rfl, hi, rfl, hyl, hst', F', hn', hcl', N', off', hS', hJ'⟩
      by_cases hlt : i < n
      · refine W.item i _ _ _ hlt hst' fun v h₂ tk₂ hPv hst₂ hk₂ => ?_
        have kb : ∀ b o, b ≠ I → h'.get? b = some o → h₂.get? b = some o := fun b o hb e => hk₂ b o (by simpa using hb) e
        refine wpAny_assign_Name (wpAny_storeName_cell (c := c) (by simp [compEnvC, relabel, hkind]) (lookup_relabel_cell hx) (by simp [compEnvC]) (let ⟨o, e, d⟩ := hcl'; ⟨o, kb _ _ hIc.symm e, d⟩) fun h₃ hc₃ hs₃ => ?_)
        have hst₃ : St (i + 1) h₃ := W.frame _ _ _ hst₂ fun b hb o e => hs₃.extBut b o (fun q => hcf' (q ▸ hb)) e
        obtain ⟨oI, heI⟩ := hIo _ _ hst₃
        obtain ⟨oC, heC, hoC⟩ := ns_obj ((hn'.at' fun o e => kb _ o hIC.symm e).sameBut hs₃ hCc)
        obtain ⟨oc, hec, hoc⟩ := hc₃
        have F₃ : Fr h₀ L h₃ m := (fr_but F' hk₂ hIL hI₀).change hs₃ hLc.symm hc₀
        have N₃ : News h₀ L h₃ ((I, oI) :: (C, oC) :: (c, oc) :: (D, lst ys) :: nw) := by
          refine List.forall_mem_cons.mpr ⟨⟨heI, hIL.symm, hI₀⟩, List.forall_mem_cons.mpr ⟨⟨heC, hLC.symm, hC₀⟩, List.forall_mem_cons.mpr ⟨⟨hec, hLc.symm, hc₀⟩, fun p hp => ?_⟩⟩⟩
          refine ⟨hs₃.extBut _ _ ?_ (kb _ _ ?_ (N' p hp).1), (N' p hp).2⟩
          · rcases List.mem_cons.mp hp with rfl | hp
            · exact hDc
            · exact (off' p hp).2.2.1
          · rcases List.mem_cons.mp hp with rfl | hp
            · exact hID.symm
            · exact (off' p hp).1
        refine wpAny_mono (turn i v ys nw I oI C oC c oc D h₃ tk₂ _ hlt hPv hyl hoc F₃ N₃ off' hS' hJ') (fun ok s₄ h₄ => ?_) fun _ _ e => e
        cases ok with
        | true =>
          simp only [if_true] at h₄ ⊢
          refine wpAny_mono h₄ (fun y s₅ h₅ => ?_) fun _ _ e => e
          obtain ⟨h₄, tk₄, nw₄, rfl, F₄, N₄, off₄, hS₄, J₄⟩ := h₅
          have N₄' : News h₀ L h₄ nw₄ := fun p hp => N₄ p (.tail _ (.tail _ (.tail _ (.tail _ hp))))
          have hst₄ : St (i + 1) h₄ := hSt _ _ _ _ _ hst₃ heI (N₄ (I, oI) (.head _)).1 F₄.keep N₄' hS₄
          refine append_at (hsz := by show ys.toArray.size ≤ sizeLine; rw [List.size_toArray]; exact Nat.le_trans (Nat.le_trans hyl hi) hsz) (N₄ (D, lst ys) (.tail _ (.tail _ (.tail _ (.head _))))).1 fun h₅ hs₅ hD₅ => ?_
          refine ⟨n + 1 - (i + 1), by omega, h₅, tk₄, i + 1, ys ++ [y], _, nw₄, some v, rfl, hlt, rfl, by rw [List.length_append, List.length_singleton]; exact Nat.succ_le_succ hyl, W.frame _ _ _ hst₄ fun b hb o e => hs₅.extBut b o (fun q => hDf (q ▸ hb)) e, F₄.change hs₅ hLD.symm hD₀,
            (hoC.ns (N₄ (C, oC) (.tail _ (.head _))).1).sameBut hs₅ hDC.symm, ⟨oc, hs₅.extBut _ _ hDc.symm (N₄ (c, oc) (.tail _ (.tail _ (.head _)))).1, hoc⟩, List.forall_mem_cons.mpr ⟨⟨hD₅.trans (congrArg some (lst_snoc ys y)), hLD.symm, hD₀⟩, fun p hp => ⟨hs₅.extBut _ _ (off₄ p hp).2.2.2 (N₄' p hp).1, (N₄' p hp).2⟩⟩, off₄, hS₄, J₄⟩
        | false =>
          simp only [Bool.false_eq_true, if_false] at h₄ ⊢
          obtain ⟨h₅, tk₄, nw₄, rfl, F₄, N₄, off₄, hS₄, J₄⟩ := h₄
          have N₄' : News h₀ L h₅ nw₄ := fun p hp => N₄ p (.tail _ (.tail _ (.tail _ (.tail _ hp))))
          have hst₄ : St (i + 1) h₅ := hSt _ _ _ _ _ hst₃ heI (N₄ (I, oI) (.head _)).1 F₄.keep N₄' hS₄
          exact ⟨n + 1 - (i + 1), by omega, h₅, tk₄, i + 1, ys, _, nw₄, some v, rfl, hlt, rfl, Nat.le_succ_of_le hyl, hst₄, F₄, hoC.ns (N₄ (C, oC) (.tail _ (.head _))).1, ⟨oc, (N₄ (c, oc) (.tail _ (.tail _ (.head _)))).1, hoc⟩, fun p hp => N₄ p (.tail _ (.tail _ (.tail _ hp))), off₄, hS₄, J₄⟩
      · obtain rfl : i = n := Nat.le_antisymm hi (Nat.not_lt.mp hlt)
        refine W.done _ _ _ hst' fun h₂ tk₂ hk₂ => ?_
        have kb : ∀ b o, b ≠ I → h'.get? b = some o → h₂.get? b = some o := fun b o hb e => hk₂ b o (by simpa using hb) e
        exact hRR _ _ h₂ tk₂ _ ys nw (fr_but F' hk₂ hIL hI₀) (news_but N' hk₂ fun p hp => by
          rcases List.mem_cons.mp hp with rfl | hp
          · exact hID.symm
          · exact (off' p hp).1) (fun p hp => (off' p hp).2.2.2) hlow (hn'.at' fun o e => kb _ o hIC.symm e) hC₀ hD₀ hLC.symm hLD.symm hDC.symm (fun p hp => (off' p hp).2.1) hJ'
    · rcases List.mem_cons.mp hp with rfl | hp
      · exact ⟨hacc, hLD.symm, hD₀⟩
      · exact ⟨old _ _ (N p hp).1, (N p hp).2⟩
  exact codeAny_compStart_list (loop _) (W.self 0 _ _ _ hst₁ (loop _))

/-- the iterable of a comprehension: a list of the ledger, or a range; the turns by an invariant -/
def CpSrc (h₀ : Heap) (L : Addr) (m : Str → Option Value) (A : Around) (Turn : (List (Addr × Obj) → Prop) → (Nat → Value → Prop) → Nat → (Nat → List Value → List (Addr × Obj) → Prop) → Prop) (Fin : Value → Shared → Prop) (xv : Value) (s₁ : Shared) : Prop :=
  (∃ ax vs k news J, xv = .ref ax ∧ A.handled = none ∧ Fr h₀ L s₁.heap m ∧ News h₀ L s₁.heap news ∧ (ax, listOf (List.toArray vs) k) ∈ news ∧ vs.length ≤ sizeLine ∧ J 0 [] news ∧ Turn (SrcAt h₀ ax vs.toArray) (fun i v => vs[i]? = some v) vs.length J ∧
    ∀ D h tk ys nw, Fr h₀ L h m → News h₀ L h ((D, lst ys) :: nw) → (∀ p ∈ nw, p.1 ≠ D) → (∀ p ∈ news, p.1 < D) → J vs.length ys nw → Fin (.ref D) { s₁ with heap := h, toks := tk }) ∨
  (∃ r a b t u v n news J, xv = .ref r ∧ A.handled = none ∧ Fr h₀ L s₁.heap m ∧ News h₀ L s₁.heap news ∧ IsRange s₁.heap r a b 1 t u v ∧ Builtin.Range.small a b 1 = true ∧ Builtin.Range.rangeSize a b 1 = ((n : Nat) : Int) ∧ n ≤ sizeLine ∧ J 0 [] news ∧ Turn (fun _ => True) (fun i v => ∃ t, v = .int (a + (i : Int)) t) n J ∧
    ∀ D h tk ys nw, Fr h₀ L h m → News h₀ L h ((D, lst ys) :: nw) → (∀ p ∈ nw, p.1 ≠ D) → (∀ p ∈ news, p.1 < D) → J n ys nw → Fin (.ref D) { s₁ with heap := h, toks := tk })

theorem CpSrc.list {Turn : (List (Addr × Obj) → Prop) → (Nat → Value → Prop) → Nat → (Nat → List Value → List (Addr × Obj) → Prop) → Prop} {Fin : Value → Shared → Prop} {s₁ : Shared} {ax : Addr} {vs : List Value} {k : Nat} {news : List (Addr × Obj)} (J : Nat → List Value → List (Addr × Obj) → Prop)
    (hh : A.handled = none) (F : Fr h₀ L s₁.heap m) (N : News h₀ L s₁.heap news) (hm : (ax, listOf (List.toArray vs) k) ∈ news) (hsz : vs.length ≤ sizeLine) (h0 : J 0 [] news) (turn : Turn (SrcAt h₀ ax vs.toArray) (fun i v => vs[i]? = some v) vs.length J)
    (fin : ∀ D h tk ys nw, Fr h₀ L h m → News h₀ L h ((D, lst ys) :: nw) → (∀ p ∈ nw, p.1 ≠ D) → (∀ p ∈ news, p.1 < D) → J vs.length ys nw → Fin (.ref D) { s₁ with heap := h, toks := tk }) : CpSrc h₀ L m A Turn Fin (.ref ax) s₁ :=
  .inl ⟨ax, vs, k, news, J, rfl, hh, F, N, hm, hsz, h0, turn, fin⟩
theorem CpSrc.range {Turn : (List (Addr × Obj) → Prop) → (Nat → Value → Prop) → Nat → (Nat → List Value → List (Addr × Obj) → Prop) → Prop} {Fin : Value → Shared → Prop} {s₁ : Shared} {r : Addr} {a b : Int} {t u v : Tok} (n : Nat) {news : List (Addr × Obj)} (J : Nat → List Value → List (Addr × Obj) → Prop)
    (hh : A.handled = none) (F : Fr h₀ L s₁.heap m) (N : News h₀ L s₁.heap news) (hr : IsRange s₁.heap r a b 1 t u v) (hsm : Builtin.Range.small a b 1 = true) (hn : Builtin.Range.rangeSize a b 1 = ((n : Nat) : Int)) (hsz : n ≤ sizeLine) (h0 : J 0 [] news) (turn : Turn (fun _ => True) (fun i v => ∃ t, v = .int (a + (i : Int)) t) n J)
    (fin : ∀ D h tk ys nw, Fr h₀ L h m → News h₀ L h ((D, lst ys) :: nw) → (∀ p ∈ nw, p.1 ≠ D) → (∀ p ∈ news, p.1 < D) → J n ys nw → Fin (.ref D) { s₁ with heap := h, toks := tk }) : CpSrc h₀ L m A Turn Fin (.ref r) s₁ :=
  .inr ⟨r, a, b, t, u, v, n, news, J, rfl, hh, F, N, hr, hsm, hn, hsz, h0, turn, fin⟩

/-- from an iterable to the block of a comprehension: both kinds of sources, for any rule of the block -/
theorem src_block {Turn : (List (Addr × Obj) → Prop) → (Nat → Value → Prop) → Nat → (Nat → List Value → List (Addr × Obj) → Prop) → Prop} {Fin : Value → Shared → Prop} {xv : Value} {s₁ : Shared} {K : Value → Shared → Prop} (h : CpSrc h₀ L m A Turn Fin xv s₁)
    (blk : ∀ (s₂ : Shared) (I : Addr) (fp : List Addr) (n : Nat) (P : Nat → Value → Prop) (St : Nat → Heap → Prop) (S : List (Addr × Obj) → Prop) (news : List (Addr × Obj)) (J : Nat → List Value → List (Addr × Obj) → Prop) (hp : Heap), s₂ = { s₁ with heap := hp } →
      Walks prog w A I fp [I] n P St → n ≤ sizeLine → (∀ i h, St i h → ∃ o, h.get? I = some o) →
      (∀ i h h' o nw, St i h → h.get? I = some o → h'.get? I = some o → (∀ b o, h₀.get? b = some o → h'.get? b = some o) → News h₀ L h' nw → S nw → St i h') → St 0 s₂.heap → (∀ b ∈ fp, b < s₂.heap.objs.size) →
      Fr h₀ L s₂.heap m → News h₀ L s₂.heap news → L ≠ I → h₀.get? I = none → (∀ p ∈ news, p.1 ≠ I) → S news → J 0 [] news → Turn S P n J →
      (∀ D h tk ys nw, Fr h₀ L h m → News h₀ L h ((D, lst ys) :: nw) → (∀ p ∈ nw, p.1 ≠ D) → (∀ p ∈ news, p.1 < D) → J n ys nw → Fin (.ref D) { s₁ with heap := h, toks := tk }) → K (.ref I) s₂) :
    wpAny (model prog w) A (pyIter xv) K E s₁ := by
  rcases h with ⟨ax, vs, k, news, J, rfl, hh, F, N, hm, hsz, h0, turn, fin⟩ | ⟨r, a, b, t, u, v, n, news, J, rfl, hh, F, N, hr, hsm, hn, hsz, h0, turn, fin⟩
  · have hl : s₁.heap.IsList ax vs.toArray := News.isList N hm
    have hlt : ax < s₁.heap.objs.size := by obtain ⟨_, e, _⟩ := hl; exact Heap.lt_size e
    refine wpAny_pyIter_list hl ?_
    have up : ∀ b o, s₁.heap.get? b = some o → (s₁.heap.push { cls := .type "list_iterator", data := .fields #[.ref ax, .int 0 0] }).get? b = some o := fun b o e => Heap.get?_push_of_some _ e
    have W := Walks.list (prog := prog) (w := w) hh s₁.heap.objs.size ax (Nat.ne_of_lt hlt) vs.toArray
    have e1 : vs.toArray.size = vs.length := by simp
    rw [e1] at W
    refine blk _ s₁.heap.objs.size _ vs.length (fun i v => vs[i]? = some v) _ (SrcAt h₀ ax vs.toArray) news J _ rfl (?_ : Walks prog w A s₁.heap.objs.size [s₁.heap.objs.size, ax] [s₁.heap.objs.size] vs.length (fun i v => vs[i]? = some v) _) hsz (fun i h st => by obtain ⟨o, e, _⟩ := st.1; exact ⟨o, e⟩) list_st ⟨⟨_, Heap.get?_push_size _ rfl, rfl, rfl⟩, hl.push _⟩ (fun b hb => ?_)
      (F.keeps up) (N.grown up) (Nat.ne_of_lt F.ns.lt) (next_is_new F) (fun p hp => Nat.ne_of_lt (Heap.lt_size (N p hp).1)) (.inr ⟨_, hm, rfl, _, rfl⟩) h0 turn fin
    · simpa using W
    · show b < (s₁.heap.push _).objs.size
      rw [Heap.size_push]
      rcases List.mem_cons.mp hb with rfl | hb
      · exact Nat.lt_succ_self _
      · rw [List.mem_singleton.mp hb]; exact Nat.lt_succ_of_lt hlt
  · refine wpAny_pyIter_range hr hsm ?_
    refine blk _ s₁.heap.objs.size _ n _ _ (fun _ => True) news J _ rfl (range_walks hh a n) hsz (fun i h st => ⟨_, st⟩) range_st (by show IsRangeIter _ _ _ _ _; rw [hn]; simpa using Heap.get?_push_size _ rfl) (fun b hb => ?_)
      (F.keeps fun _ _ e => Heap.get?_push_of_some _ e) (N.grown fun _ _ e => Heap.get?_push_of_some _ e) (Nat.ne_of_lt F.ns.lt) (next_is_new F) (fun p hp => Nat.ne_of_lt (Heap.lt_size (N p hp).1)) trivial h0 turn fin
    rw [List.mem_singleton.mp hb]
    show s₁.heap.objs.size < (s₁.heap.push _).objs.size
    rw [Heap.size_push]; exact Nat.lt_succ_self _

theorem ListComp_C {elt iter : Expr} {ifs : List Expr} {x : Str} {px : Pos} {scope : Scope} {cl : List (Str × Addr)} {pos : Pos} {Q : Value → Shared → Prop} (_F₀ : Fr h₀ L s.heap m)
    (hclos : closureFor scope env = pure cl) (hcf : ∀ k, cellsFrom k scope.names cl = (x, k) :: cl) (hpc : ∀ h, pushCells h scope.names = h.push { cls := .type "cell", data := .cell none }) (hkind : scope.kind = .function)
    (hnames : ∀ y ∈ scope.names, y.2 = .local → scope.names.lookup y.1 = some .local) (hx : scope.names.lookup x = some .cell)
    (h : wpAny (model prog w) A (eval iter env) (fun xv s₁ => CpSrc h₀ L m A (CpTurn prog w A h₀ L m env elt ifs x scope cl s₁) Q xv s₁) E s)
    (hs : ∀ x, foldedSetIterable iter env x = pure x := by intro _; rfl) :
    wpAny (model prog w) A (eval (.ListComp elt [⟨.Name x px, iter, ifs, 0⟩] scope pos) env) Q E s := by
  rw [eval_ListComp]
  refine wpAny_comprehension_free (use := none) rfl hs hclos hkind hnames (wpAny_mono h (fun xv s₁ h₁ => ?_) fun _ _ e => e)
  refine src_block h₁ fun s₂ I fp n P St S news J hp e W hsz hIo hSt hst hfp F N hIL hI₀ off hS h0 turn fin => ?_
  subst e
  refine block_C W hsz hIo hSt hcf hpc hkind hx hst hfp F N hIL hI₀ off hS h0 turn ?_
  intro D C h' tk m' ys news' F' N' o1 olow hn hC₀ hD₀ hCL hDL hCD offC hj
  refine ⟨m', hn, fun h'' hs'' => fin D h'' tk ys news' (F'.change hs'' hCL hC₀) (fun p hp => ?_) o1 olow hj⟩
  refine ⟨hs''.extBut _ _ ?_ (N' p hp).1, (N' p hp).2⟩
  rcases List.mem_cons.mp hp with rfl | hp
  · exact Ne.symm hCD
  · exact offC p hp

theorem block_L {elt iter : Expr} {ifs : List Expr} {x : Str} {px : Pos} {scope : Scope} {cl : List (Str × Addr)} {pos : Pos} {s₂ : Shared} {I : Addr} {fp : List Addr} {n : Nat} {P : Nat → Value → Prop} {St : Nat → Heap → Prop} {S : List (Addr × Obj) → Prop} {news : List (Addr × Obj)}
    {J : Nat → List Value → List (Addr × Obj) → Prop} {RR : Value → Addr → Result → Shared → Prop}
    (W : Walks prog w A I fp [I] n P St) (hsz : n ≤ sizeLine) (hIo : ∀ i h, St i h → ∃ o, h.get? I = some o)
    (hSt : ∀ i h h' o nw, St i h → h.get? I = some o → h'.get? I = some o → (∀ b o, h₀.get? b = some o → h'.get? b = some o) → News h₀ L h' nw → S nw → St i h')
    (hcell : ∀ y ∈ scope.names, y.2 ≠ .cell)
    (hkind : scope.kind = .function) (hx : scope.names.lookup x = some .local) (hst : St 0 s₂.heap) (hfp : ∀ b ∈ fp, b < s₂.heap.objs.size)
    (F : Fr h₀ L s₂.heap m) (N : News h₀ L s₂.heap news) (hIL : L ≠ I) (hI₀ : h₀.get? I = none) (off : ∀ p ∈ news, p.1 ≠ I) (hS : S news)
    (hJ : J 0 [] news) (turn : LpTurn prog w A h₀ L m env elt ifs x scope cl s₂ S P n J)
    (hRR : ∀ D C h tk m' ys news', Fr h₀ L h m → News h₀ L h ((D, lst ys) :: news') → (∀ p ∈ news', p.1 ≠ D) → (∀ p ∈ news, p.1 < D) → h.Ns C m' → h₀.get? C = none → h₀.get? D = none → C ≠ L → D ≠ L → C ≠ D → (∀ p ∈ news', p.1 ≠ C) → J n ys news' → RR (.ref D) C (.ok .next) { s₂ with heap := h, toks := tk }) :
    wpAny (model prog w) A (newList []) (fun acc s₃ => wpAny (model prog w) A (newFunctionEnv scope env.globals cl [] env.qual none .none (some env)) (fun cenv s₄ =>
      codeAny (model prog w) A (.compStart (.ListComp elt [⟨.Name x px, iter, ifs, 0⟩] scope pos) 0 (.ref I) acc { cenv with scope := relabel scope env }) (RR acc cenv.locals) s₄) E s₃) E s₂ := by
  refine wpAny_newObj_type (wpAny_newFunctionEnv hcell (by intro y hy; simp at hy) (fun H3 hns₁ hsb₁ => ?_) hkind)
  dsimp only at hns₁ hsb₁ ⊢
  generalize hH1 : s₂.heap.push { cls := .type "list", dict := none, data := .seq ([] : List Value).toArray } = H1 at hns₁ hsb₁ ⊢
  have z1 : H1.objs.size = s₂.heap.objs.size + 1 := by rw [← hH1, Heap.size_push]
  obtain ⟨D, hD⟩ : ∃ D, D = s₂.heap.objs.size := ⟨_, rfl⟩
  obtain ⟨C, hC⟩ : ∃ C, C = H1.objs.size := ⟨_, rfl⟩
  rw [← hC] at hns₁ hsb₁
  show codeAny _ _ (.compStart _ 0 (.ref I) (.ref s₂.heap.objs.size) (compEnvC scope cl H1.objs.size env)) (RR (.ref s₂.heap.objs.size) H1.objs.size) _
  rw [← hD, ← hC]
  have hDC : D ≠ C := by rw [hD, hC, z1]; exact Nat.ne_of_lt (Nat.lt_succ_self _)
  have below : ∀ b, b < s₂.heap.objs.size → b ≠ C ∧ b ≠ D := fun b hb => ⟨by rw [hC, z1]; exact Nat.ne_of_lt (Nat.lt_succ_of_lt hb), by rw [hD]; exact Nat.ne_of_lt hb⟩
  have notfp : ∀ {b}, s₂.heap.objs.size ≤ b → b ∉ fp := fun hb hm => Nat.not_lt.mpr hb (hfp _ hm)
  have hDf : D ∉ fp := notfp (Nat.le_of_eq hD.symm)
  have hCf : C ∉ fp := notfp (by rw [hC, z1]; exact Nat.le_succ _)
  have hIlt : I < s₂.heap.objs.size := hfp I (W.sub I (.head _))
  obtain ⟨hIC, hID⟩ := below I hIlt
  have old : ∀ b o, s₂.heap.get? b = some o → H3.get? b = some o := fun b o e => hsb₁.extBut b o (below b (Heap.lt_size e)).1 (Heap.get?_push_of_some _ (hH1 ▸ Heap.get?_push_of_some _ e))
  have hacc : H3.get? D = some (lst []) := hsb₁.extBut _ _ hDC (Heap.get?_push_of_some _ (by rw [hD, ← hH1]; exact Heap.get?_push_size _ rfl))
  have hst₁ : St 0 H3 := W.frame _ _ _ hst fun b _ o e => old b o e
  have fresh₀ : ∀ a, s₂.heap.objs.size ≤ a → h₀.get? a = none := fun a ha => by
    cases e : h₀.get? a with
    | none => rfl
    | some o' => exact absurd (Heap.lt_size (F.keep a o' e)) (Nat.not_lt.mpr ha)
  have hlow : ∀ p ∈ news, p.1 < D := fun p hp => by rw [hD]; exact Heap.lt_size (N p hp).1
  have hD₀ : h₀.get? D = none := fresh₀ _ (Nat.le_of_eq hD.symm)
  have hC₀ : h₀.get? C = none := fresh₀ _ (by rw [hC, z1]; exact Nat.le_succ _)
  obtain ⟨hLC, hLD⟩ := below L F.ns.lt
  have off₀ : ∀ p ∈ news, p.1 ≠ I ∧ p.1 ≠ C ∧ p.1 ≠ D := fun p hp => ⟨off p hp, below _ (Heap.lt_size (N p hp).1)⟩
  have loop : ∀ tk, codeAny (model prog w) A (.compLoop (.ListComp elt [⟨.Name x px, iter, ifs, 0⟩] scope pos) 0 (.ref I) (.ref D) (compEnvC scope cl C env)) (RR (.ref D) C) { s₂ with heap := H3, toks := tk } := by
    intro tk0
    refine codeAny_compLoop_tests
      (fun k s' => ∃ h' tk i ys m' nw, s' = { s₂ with heap := h', toks := tk } ∧ i ≤ n ∧ k = n + 1 - i ∧ ys.length ≤ i ∧ St i h' ∧ Fr h₀ L h' m ∧ h'.Ns C m' ∧ News h₀ L h' ((D, lst ys) :: nw) ∧
        (∀ p ∈ nw, p.1 ≠ I ∧ p.1 ≠ C ∧ p.1 ≠ D) ∧ S nw ∧ J i ys nw) ?_ (n + 1)
      ⟨H3, _, 0, [], _, news, rfl, Nat.zero_le _, rfl, Nat.le_refl _, hst₁, F.keeps old, hns₁, fun p hp => ?_, off₀, hS, hJ⟩
    · rintro k s' ⟨h', tk, i, ys, m', nw, rfl, hi, rfl, hyl, hst', F', hn', N', off', hS', hJ'⟩
      by_cases hlt : i < n
      · refine W.item i _ _ _ hlt hst' fun v h₂ tk₂ hPv hst₂ hk₂ => ?_
        have kb : ∀ b o, b ≠ I → h'.get? b = some o → h₂.get? b = some o := fun b o hb e => hk₂ b o (by simpa using hb) e
        refine wpAny_assign_Name (wpAny_storeName_local (lookup_relabel_local hx) (hn'.at' fun o e => kb _ o hIC.symm e) (fun h₃ hn₃ hs₃ => ?_) (by simp [compEnvC, relabel, hkind]))
        have hst₃ : St (i + 1) h₃ := W.frame _ _ _ hst₂ fun b hb o e => hs₃.extBut b o (fun q => hCf (by have q' : b = C := q; rw [← q']; exact hb)) e
        obtain ⟨oI, heI⟩ := hIo _ _ hst₃
        obtain ⟨oC, heC, hoC⟩ := ns_obj hn₃
        have F₃ : Fr h₀ L h₃ m := (fr_but F' hk₂ hIL hI₀).change hs₃ hLC.symm hC₀
        have N₃ : News h₀ L h₃ ((I, oI) :: (C, oC) :: (D, lst ys) :: nw) := by
          refine List.forall_mem_cons.mpr ⟨⟨heI, hIL.symm, hI₀⟩, List.forall_mem_cons.mpr ⟨⟨heC, hLC.symm, hC₀⟩, fun p hp => ?_⟩⟩
          refine ⟨hs₃.extBut _ _ ?_ (kb _ _ ?_ (N' p hp).1), (N' p hp).2⟩
          · rcases List.mem_cons.mp hp with rfl | hp
            · exact hDC
            · exact (off' p hp).2.1
          · rcases List.mem_cons.mp hp with rfl | hp
            · exact hID.symm
            · exact (off' p hp).1
        refine wpAny_mono (turn i v ys nw I oI C oC D _ h₃ _ _ hlt hPv hyl hoC (by simp) F₃ N₃ off' hS' hJ') (fun ok s₄ h₄ => ?_) fun _ _ e => e
        cases ok with
        | true =>
          simp only [if_true] at h₄ ⊢
          refine wpAny_mono h₄ (fun y s₅ h₅ => ?_) fun _ _ e => e
          obtain ⟨h₄, tk₄, nw₄, rfl, F₄, N₄, off₄, hS₄, J₄⟩ := h₅
          have N₄' : News h₀ L h₄ nw₄ := fun p hp => N₄ p (.tail _ (.tail _ (.tail _ hp)))
          have hst₄ : St (i + 1) h₄ := hSt _ _ _ _ _ hst₃ heI (N₄ (I, oI) (.head _)).1 F₄.keep N₄' hS₄
          refine append_at (hsz := by show ys.toArray.size ≤ sizeLine; rw [List.size_toArray]; exact Nat.le_trans (Nat.le_trans hyl hi) hsz) (N₄ (D, lst ys) (.tail _ (.tail _ (.head _)))).1 fun h₅ hs₅ hD₅ => ?_
          refine ⟨n + 1 - (i + 1), by omega, h₅, tk₄, i + 1, ys ++ [y], _, nw₄, rfl, hlt, rfl, by rw [List.length_append, List.length_singleton]; exact Nat.succ_le_succ hyl, W.frame _ _ _ hst₄ fun b hb o e => hs₅.extBut b o (fun q => hDf (q ▸ hb)) e, F₄.change hs₅ hLD.symm hD₀,
            (hoC.ns (N₄ (C, oC) (.tail _ (.head _))).1).sameBut hs₅ hDC.symm, List.forall_mem_cons.mpr ⟨⟨hD₅.trans (congrArg some (lst_snoc ys y)), hLD.symm, hD₀⟩, fun p hp => ⟨hs₅.extBut _ _ (off₄ p hp).2.2 (N₄' p hp).1, (N₄' p hp).2⟩⟩, off₄, hS₄, J₄⟩
        | false =>
          simp only [Bool.false_eq_true, if_false] at h₄ ⊢
          obtain ⟨h₅, tk₄, nw₄, rfl, F₄, N₄, off₄, hS₄, J₄⟩ := h₄
          have N₄' : News h₀ L h₅ nw₄ := fun p hp => N₄ p (.tail _ (.tail _ (.tail _ hp)))
          have hst₄ : St (i + 1) h₅ := hSt _ _ _ _ _ hst₃ heI (N₄ (I, oI) (.head _)).1 F₄.keep N₄' hS₄
          exact ⟨n + 1 - (i + 1), by omega, h₅, tk₄, i + 1, ys, _, nw₄, rfl, hlt, rfl, Nat.le_succ_of_le hyl, hst₄, F₄, hoC.ns (N₄ (C, oC) (.tail _ (.head _))).1, fun p hp => N₄ p (.tail _ (.tail _ hp)), off₄, hS₄, J₄⟩
      · obtain rfl : i = n := Nat.le_antisymm hi (Nat.not_lt.mp hlt)
        refine W.done _ _ _ hst' fun h₂ tk₂ hk₂ => ?_
        have kb : ∀ b o, b ≠ I → h'.get? b = some o → h₂.get? b = some o := fun b o hb e => hk₂ b o (by simpa using hb) e
        exact hRR _ _ h₂ tk₂ _ ys nw (fr_but F' hk₂ hIL hI₀) (news_but N' hk₂ fun p hp => by
          rcases List.mem_cons.mp hp with rfl | hp
          · exact hID.symm
          · exact (off' p hp).1) (fun p hp => (off' p hp).2.2) hlow (hn'.at' fun o e => kb _ o hIC.symm e) hC₀ hD₀ hLC.symm hLD.symm hDC.symm (fun p hp => (off' p hp).2.1) hJ'
    · rcases List.mem_cons.mp hp with rfl | hp
      · exact ⟨hacc, hLD.symm, hD₀⟩
      · exact ⟨old _ _ (N p hp).1, (N p hp).2⟩
  exact codeAny_compStart_list (loop _) (W.self 0 _ _ _ hst₁ (loop _))
theorem ListComp_L {elt iter : Expr} {ifs : List Expr} {x : Str} {px : Pos} {scope : Scope} {cl : List (Str × Addr)} {pos : Pos} {Q : Value → Shared → Prop} (_F₀ : Fr h₀ L s.heap m)
    (hclos : closureFor scope env = pure cl) (hcell : ∀ y ∈ scope.names, y.2 ≠ .cell) (hkind : scope.kind = .function)
    (hnames : ∀ y ∈ scope.names, y.2 = .local → scope.names.lookup y.1 = some .local) (hx : scope.names.lookup x = some .local)
    (h : wpAny (model prog w) A (eval iter env) (fun xv s₁ => CpSrc h₀ L m A (LpTurn prog w A h₀ L m env elt ifs x scope cl s₁) Q xv s₁) E s)
    (hs : ∀ x, foldedSetIterable iter env x = pure x := by intro _; rfl) :
    wpAny (model prog w) A (eval (.ListComp elt [⟨.Name x px, iter, ifs, 0⟩] scope pos) env) Q E s := by
  rw [eval_ListComp]
  refine wpAny_comprehension_free (use := none) rfl hs hclos hkind hnames (wpAny_mono h (fun xv s₁ h₁ => ?_) fun _ _ e => e)
  refine src_block h₁ fun s₂ I fp n P St S news J hp e W hsz hIo hSt hst hfp F N hIL hI₀ off hS h0 turn fin => ?_
  subst e
  refine block_L W hsz hIo hSt hcell hkind hx hst hfp F N hIL hI₀ off hS h0 turn ?_
  intro D C h' tk m' ys news' F' N' o1 olow hn hC₀ hD₀ hCL hDL hCD offC hj
  refine ⟨m', hn, fun h'' hs'' => fin D h'' tk ys news' (F'.change hs'' hCL hC₀) (fun p hp => ?_) o1 olow hj⟩
  refine ⟨hs''.extBut _ _ ?_ (N' p hp).1, (N' p hp).2⟩
  rcases List.mem_cons.mp hp with rfl | hp
  · exact Ne.symm hCD
  · exact offC p hp

/-- an element that is an int, the ledger as it stood -/
def EltI (h₀ : Heap) (L : Addr) (m : Str → Option Value) (s : Shared) (led : List (Addr × Obj)) (e : Int) (y : Value) (s' : Shared) : Prop :=
  ∃ t h' tk', y = .int e t ∧ s' = { s with heap := h', toks := tk' } ∧ Fr h₀ L h' m ∧ News h₀ L h' led
theorem EltI.intro {led all : List (Addr × Obj)} {e e' : Int} {t : Tok} {h' : Heap} {tk' : Nat} (F : Fr h₀ L h' m) (N : News h₀ L h' all) (sub : ∀ p ∈ led, p ∈ all) (he : e' = e) : EltI h₀ L m s led e (.int e' t) { s with heap := h', toks := tk' } :=
  ⟨t, h', tk', by rw [he], rfl, F, fun p hp => N p (sub p hp)⟩
theorem ints_snoc {ys : List Value} {g : Nat → Int} {i : Nat} {t : Tok} (h : IntsAre ys ((List.range i).map g)) : IntsAre (ys ++ [.int (g i) t]) ((List.range (i + 1)).map g) := by
  rw [List.range_succ, List.map_append]; exact h.append (.cons _ _ .nil)

theorem turn_ints_L {elt : Expr} {x : Str} {scope : Scope} {cl : List (Str × Addr)} {S : List (Addr × Obj) → Prop} {P : Nat → Value → Prop} {n : Nat} {news : List (Addr × Obj)} (g : Nat → Int)
    (h : ∀ i v ys I oI C oC D m₂ h tk (E' : Value → Shared → Prop), i < n → P i v → NsObj oC m₂ → m₂ x = some v → IntsAre ys ((List.range i).map g) → Fr h₀ L h m → News h₀ L h ((I, oI) :: (C, oC) :: (D, lst ys) :: news) → (∀ p ∈ news, p.1 ≠ I ∧ p.1 ≠ C ∧ p.1 ≠ D) →
      wpAny (model prog w) A (eval elt (compEnvC scope cl C env)) (EltI h₀ L m s ((I, oI) :: (C, oC) :: (D, lst ys) :: news) (g i)) E' { s with heap := h, toks := tk }) :
    LpTurn prog w A h₀ L m env elt [] x scope cl s S P n (fun i ys nw => nw = news ∧ IntsAre ys ((List.range i).map g)) := by
  rintro i v ys nw I oI C oC D m₂ hh tk E' hi hP hl hoC hx F N off hS ⟨rfl, hI⟩
  refine wpAny_tests_nil ?_
  simp only [if_true]
  refine wpAny_mono (h i v ys I oI C oC D m₂ hh tk E' hi hP hoC hx hI F N off) (fun y s' hy => ?_) fun _ _ e => e
  obtain ⟨t, h', tk', rfl, rfl, F', N'⟩ := hy
  exact ⟨h', tk', _, rfl, F', N', off, hS, rfl, ints_snoc hI⟩
theorem turn_ints_C {elt : Expr} {x : Str} {scope : Scope} {cl : List (Str × Addr)} {S : List (Addr × Obj) → Prop} {P : Nat → Value → Prop} {n : Nat} {news : List (Addr × Obj)} (g : Nat → Int)
    (h : ∀ i v ys I oI C oC c oc D h tk (E' : Value → Shared → Prop), i < n → P i v → oc.data = .cell (some v) → IntsAre ys ((List.range i).map g) → Fr h₀ L h m → News h₀ L h ((I, oI) :: (C, oC) :: (c, oc) :: (D, lst ys) :: news) → (∀ p ∈ news, p.1 ≠ I ∧ p.1 ≠ C ∧ p.1 ≠ c ∧ p.1 ≠ D) →
      wpAny (model prog w) A (eval elt (compEnvC scope ((x, c) :: cl) C env)) (EltI h₀ L m s ((I, oI) :: (C, oC) :: (c, oc) :: (D, lst ys) :: news) (g i)) E' { s with heap := h, toks := tk }) :
    CpTurn prog w A h₀ L m env elt [] x scope cl s S P n (fun i ys nw => nw = news ∧ IntsAre ys ((List.range i).map g)) := by
  rintro i v ys nw I oI C oC c oc D hh tk E' hi hP hl hoc F N off hS ⟨rfl, hI⟩
  refine wpAny_tests_nil ?_
  simp only [if_true]
  refine wpAny_mono (h i v ys I oI C oC c oc D hh tk E' hi hP hoc hI F N off) (fun y s' hy => ?_) fun _ _ e => e
  obtain ⟨t, h', tk', rfl, rfl, F', N'⟩ := hy
  exact ⟨h', tk', _, rfl, F', N', off, hS, rfl, ints_snoc hI⟩

/-- lists of ints on the ledger, named by the items of a list -/
def RowsAt (led : List (Addr × Obj)) (ys : List Value) (ls : List (List Int)) : Prop :=
  ys.length = ls.length ∧ ∀ i, i < ls.length → ∃ a vs k, ys[i]? = some (.ref a) ∧ (a, listOf (List.toArray vs) k) ∈ led ∧ IntsAre vs (ls.getD i [])
theorem RowsAt.nil {led : List (Addr × Obj)} : RowsAt led [] [] := ⟨rfl, fun _ h => absurd h (Nat.not_lt_zero _)⟩
theorem RowsAt.snoc {led led' : List (Addr × Obj)} {ys : List Value} {ls : List (List Int)} {a : Addr} {vs : List Value} {k : Nat} {r : List Int} (h : RowsAt led ys ls) (sub : ∀ p ∈ led, p ∈ led') (hm : (a, listOf (List.toArray vs) k) ∈ led') (hI : IntsAre vs r) : RowsAt led' (ys ++ [.ref a]) (ls ++ [r]) := by
  refine ⟨by rw [List.length_append, List.length_append, h.1]; rfl, fun i hi => ?_⟩
  rw [List.length_append, List.length_singleton] at hi
  by_cases hl : i < ls.length
  · obtain ⟨b, us, j, e, m, q⟩ := h.2 i hl
    refine ⟨b, us, j, ?_, sub _ m, ?_⟩
    · rw [List.getElem?_append_left (by rw [h.1]; exact hl)]; exact e
    · rw [List.getD_eq_getElem?_getD, List.getElem?_append_left hl, ← List.getD_eq_getElem?_getD]; exact q
  · obtain rfl : i = ls.length := by omega
    refine ⟨a, vs, k, ?_, hm, ?_⟩
    · rw [← h.1, List.getElem?_append_right (Nat.le_refl _), Nat.sub_self]; rfl
    · rw [List.getD_eq_getElem?_getD, List.getElem?_append_right (Nat.le_refl _), Nat.sub_self]; exact hI
theorem RowsAt.mono {led led' : List (Addr × Obj)} {ys : List Value} {ls : List (List Int)} (h : RowsAt led ys ls) (sub : ∀ p ∈ led, p ∈ led') : RowsAt led' ys ls :=
  ⟨h.1, fun i hi => let ⟨a, vs, k, e, m, q⟩ := h.2 i hi; ⟨a, vs, k, e, sub _ m, q⟩⟩
/-- what a comprehension of lists keeps between its turns -/
def RowsJ (news : List (Addr × Obj)) (f : Nat → List Int) (i : Nat) (ys : List Value) (nw : List (Addr × Obj)) : Prop :=
  ∃ tl, nw = tl ++ news ∧ (∀ q ∈ news, ∀ p ∈ tl, q.1 < p.1) ∧ RowsAt tl ys ((List.range i).map f)
theorem RowsJ.zero {news : List (Addr × Obj)} {f : Nat → List Int} : RowsJ news f 0 [] news := ⟨[], rfl, ktn_ord0, RowsAt.nil⟩
theorem RowsJ.succ {news tl : List (Addr × Obj)} {f : Nat → List Int} {i : Nat} {ys : List Value} {a : Addr} {vs : List Value} {k : Nat} (h : RowsAt tl ys ((List.range i).map f)) (o : ∀ q ∈ news, ∀ p ∈ tl, q.1 < p.1) (oa : ∀ q ∈ news, q.1 < a) (hI : IntsAre vs (f i)) : RowsJ news f (i + 1) (ys ++ [.ref a]) ((a, listOf (List.toArray vs) k) :: (tl ++ news)) := by
  refine ⟨(a, listOf (List.toArray vs) k) :: tl, rfl, fun q hq p hp => ?_, ?_⟩
  · rcases List.mem_cons.mp hp with rfl | hp
    · exact oa q hq
    · exact o q hq p hp
  · rw [List.range_succ, List.map_append]
    exact h.snoc (fun p hp => .tail _ hp) (.head _) hI
end
end Mine
end

section
open PySem PySem.W PyProof.Rows PySem.Spec PySem.Calls
open PyProof.Rows.LCg
set_option maxRecDepth 100000
set_option maxHeartbeats 1600000
namespace Mine

def figsN (i m : Nat) : List Int := if h : i < 256 then figs ⟨i, h⟩ m else []
def dotThree (i j : Nat) : Int := ((List.range 3).map fun k => (figsN i 3).getD k 0 * (figsN j 3).getD k 0).sum
def tabRow (i : Nat) : List Int := (List.range 8).map fun j => 1 - 2 * (dotThree i j).fmod 2

theorem figs_len : ∀ i : Fin 8, (figsN i.val 3).length = 3 := by decide +kernel
theorem figs_01 : ∀ i : Fin 8, ∀ k : Fin 3, 0 ≤ (figsN i.val 3).getD k.val 0 ∧ (figsN i.val 3).getD k.val 0 ≤ 1 := by decide +kernel
theorem getD_map_range {α : Type} (f : Nat → α) (d : α) {n i : Nat} (h : i < n) : ((List.range n).map f).getD i d = f i := by
  rw [List.getD_eq_getElem?_getD, List.getElem?_map, List.getElem?_range h]; rfl

local macro_rules | `(tactic| k_mem) => `(tactic| first | assumption | exact List.Mem.head _ | (refine' List.Mem.tail _ ?_; k_mem))
local macro_rules | `(tactic| k_all) => `(tactic| first | assumption | exact List.forall_mem_nil _ | (refine' List.forall_mem_cons.mpr ⟨?a, ?b⟩; (case a => k_ne); (case b => k_all)))
local macro_rules | `(tactic| k_steps) => `(tactic| repeat' ((fail_if_success (with_reducible show wpAny _ _ (eval (Expr.ListComp _ _ _ _) _) _ _ _)); (fail_if_success (with_reducible show wpAny _ _ (call (Value.ref _) _) _ _ _)); first | (k_unfold; (try dsimp only)) | (k_end; wrow_close) | walk1 | (dsimp only; walk1) | (leave1; walk_say "STEP leave1"; try dsimp only) | fail "no step"))

local macro_rules | `(tactic| walk_at "subscriptTail") => `(tactic| (k_here; (with_reducible show wpAny _ _ (subscriptTail _ _ (Value.ref _) (Value.int _ _)) _ _ _); (with_unfolding_all refine' item_at ?k1 ?k2 ?k3 ?k4 ?k5 ?_ ?k6; (case k1 => k_asm); (case k2 => k_mem); (case k3 => omega); (case k4 => omega); (case k5 => assumption); (case k6 => with_unfolding_all rfl); k_whole)))
local macro_rules | `(tactic| walk_at "subscriptTail Name Name ref int") => `(tactic| (k_here; (with_reducible show wpAny _ _ (subscriptTail _ _ (Value.ref _) (Value.int _ _)) _ _ _); (with_unfolding_all refine' item_at ?k1 ?k2 ?k3 ?k4 ?k5 ?_ ?k6; (case k1 => k_asm); (case k2 => k_mem); (case k3 => omega); (case k4 => omega); (case k5 => assumption); (case k6 => with_unfolding_all rfl); k_whole)))
local macro_rules | `(tactic| walk_at "subscriptTail Subscript Name ref int") => `(tactic| (k_here; (with_reducible show wpAny _ _ (subscriptTail _ _ (Value.ref _) (Value.int _ _)) _ _ _); (with_unfolding_all refine' item_at ?k1 ?k2 ?k3 ?k4 ?k5 ?_ ?k6; (case k1 => k_asm); (case k2 => k_mem); (case k3 => omega); (case k4 => omega); (case k5 => assumption); (case k6 => with_unfolding_all rfl); k_whole)))
local macro_rules | `(tactic| walk_at "subscriptTail Name Subscript ref int") => `(tactic| (k_here; (with_reducible show wpAny _ _ (subscriptTail _ _ (Value.ref _) (Value.int _ _)) _ _ _); (with_unfolding_all refine' item_at ?k1 ?k2 ?k3 ?k4 ?k5 ?_ ?k6; (case k1 => k_asm); (case k2 => k_mem); (case k3 => omega); (case k4 => omega); (case k5 => assumption); (case k6 => with_unfolding_all rfl); k_whole)))

theorem lawTable (w : World) (c' : Addr) (oc : Obj) (fs : Array Value) (tq : Tok) (hc1 : oc.data = .fields fs) (hc2 : fs[1]? = some (.str (Str.ofString "_int2digits.<locals>.inner") tq)) :
    Says PySem.Challenge.rw_gl0002_01.row.prog (hd.heap_39 w.params) w 40 400 54 [] (fun news => (30, tab30 c') ∈ news ∧ (c', oc) ∈ news)
      (fun r tl => ∃ e vs tl', r = .ref e ∧ tl = (e, lst vs) :: tl' ∧ RowsAt tl' vs ((List.range 8).map tabRow)) := by
  unfold Says
  w_top off
  k_fill
  intro p loose mean mg mb dp un gd cn cs a ccd cl outer A₀ base h₀ L m news s Q E B F X N T' hk ⟨h1, h2⟩ hd hu hret
  refine wpAny_noRaise ?_
  refine wpAny_call ?_
  k_dflt (refine' code_defC ?k1 ?k2 ?k3 ?k4 ?k5 ?kA ?kF ?kK ?k6 ?k7 ?k8 ?k9 ?kB ?kD ?_ ?c2 ?c3 ?c4; (case kA => exact rfl); (case kF => exact rfl); (case kK => assumption); (case k1 => k_asm); (case k2 => k_asm); (case k3 => k_asm); (case k4 => k_asm); (case k5 => k_asm); (case k6 => k_is); (case k7 => k_is); (case k8 => ktr_room); (case k9 => exact BindsTo.of_eq rfl); (case kB => exact rfl); (case kD => decide +kernel); (case c2 => exact rfl); (case c3 => exact rfl); (case c4 => exact rfl); k_whole; intro g' L' h' tk' cells' FG' F' N' Y' B' X' T' l1; k_cells Y'; (try simp only [List.cons_append, List.nil_append] at N'); (try dsimp only); (try k_fold))

  all_goals refine wpAny_noRaise ?_
  rename_i oE dE
  have n1 : ∀ p ∈ news, p.1 ≠ L' + 1 := fun p hp => Nat.ne_of_lt (Nat.lt_succ_of_lt (l1 p hp))
  k_steps
  k_dflt (refine' ListComp_L (by k_asm) ?a1 ?a2 ?a3 ?a4 ?a5 ?_; (case a1 => with_unfolding_all rfl); (case a2 => decide); (case a3 => rfl); (case a4 => decide); (case a5 => rfl))
  k_steps
  rename IsRange _ _ _ _ _ _ _ _ => R1
  rename News _ _ _ _ => N1
  rename Fr _ _ _ _ => F1
  refine CpSrc.range 8 (RowsJ _ (fun i => figsN i 3)) rfl F1 N1 R1 (by decide) (by rfl) (by decide) RowsJ.zero ?_ ?_
  · intro i v ys nw I oI C oC D m₂ h tk E' hi hP hl hoC hx F2 N2 off hS hJ
    obtain ⟨t, rfl⟩ := hP
    rw [Int.zero_add] at hx
    obtain ⟨tl, rfl, ho, hR⟩ := hJ
    have q1 : (30, tab30 c') ∈ tl ++ (L' + 1, oE) :: news := List.mem_append_right _ (.tail _ h1)
    have q2 : (c', oc) ∈ tl ++ (L' + 1, oE) :: news := List.mem_append_right _ (.tail _ h2)
    refine wpAny_tests_nil ?_
    simp only [if_true]
    k_steps
    k_dflt (refine' says_use (lawFigures w ⟨i, by omega⟩ 3 (by decide) _ _ c' oc fs tq hc1 hc2) ?k1 ?k2 ?k3 ?k4 ?k5 ?k6 ?k7 ?k8 ?k9 ?_; (case k1 => k_asm); (case k2 => k_asm); (case k3 => k_asm); (case k4 => k_asm); (case k5 => k_asm); (case k6 => exact rfl); (case k7 => exact ⟨by k_mem, by k_mem⟩); (case k8 => ktr_room); (case k9 => ktr_units); k_whole)
    rintro r3 tl3 h3 tk3 F3 N3 l3 ⟨e3, vs3, k3, rfl, rfl, I3⟩
    refine LpEnd.intro ((e3, listOf vs3.toArray k3) :: (tl ++ _)) F3 N3 ?sub ?off trivial (RowsJ.succ hR ho ?oa (by rw [figsN, dif_pos (by omega)]; exact I3))
    case sub => intro p hp; simp only [List.mem_cons, List.mem_append, List.cons_append, List.nil_append] at hp ⊢; grind
    case off =>
      obtain ⟨x1, x2, x3⟩ : I < e3 ∧ C < e3 ∧ D < e3 := ⟨l3 (I, oI) (by simp) _ (.head _), l3 (C, oC) (by simp) _ (.head _), l3 (D, lst ys) (by simp) _ (.head _)⟩
      exact List.forall_mem_cons.mpr ⟨⟨Nat.ne_of_gt x1, Nat.ne_of_gt x2, Nat.ne_of_gt x3⟩, off⟩
    case oa => exact fun q hq => l3 q (by simp only [List.mem_cons, List.mem_append] at hq ⊢; grind) _ (.head _)
  · intro D h tk ys nw F2 N2 off olow hJ
    obtain ⟨tl, rfl, ho, hR⟩ := hJ
    clear F1 N1 R1
    have hall : ∀ p ∈ (D, lst ys) :: (tl ++ news), p.1 ≠ L' + 1 := List.forall_mem_cons.mpr ⟨fun e => off (L' + 1, oE) (by simp) e.symm, fun p hp => (List.mem_append.mp hp).elim (fun hp => Nat.ne_of_gt (ho (L' + 1, oE) (.head _) p hp)) (n1 p)⟩
    have N3 : News g' L' h ((L' + 1, oE) :: (D, lst ys) :: (tl ++ news)) := kst_newsOf N2 fun p hp => by simp only [List.mem_cons, List.mem_append] at hp ⊢; grind
    clear N2
    k_steps
    k_dflt (refine' ListComp_C (by k_asm) ?a1 ?a2 ?a2' ?a3 ?a4 ?a5 ?_; (case a1 => with_unfolding_all rfl); (case a2 => exact fun _ => rfl); (case a2' => exact fun _ => rfl); (case a3 => rfl); (case a4 => decide); (case a5 => rfl))
    k_steps
    rename News _ _ _ _ => N4
    rename Fr _ _ _ _ => F4
    rename _ = Data.cell (some (Value.ref D)) => dV
    rename Obj => oV
    refine CpSrc.list (RowsJ _ tabRow) rfl F4 N4 (.tail _ (.head _)) (by rw [hR.1]; decide) RowsJ.zero ?_ ?_
    · intro i v ys2 nw I oI C oC c oc2 D2 h2' tk2 E' hi hP hl hoc F5 N5 off5 hS hJ
      obtain ⟨tl2, rfl, ho2, hR2⟩ := hJ
      have hi8 : i < 8 := by rw [hR.1] at hi; simpa using hi
      obtain ⟨a1, vs1, k1, e1, m1, I1⟩ := hR.2 i (by simpa using hi8)
      rw [e1] at hP
      cases hP
      rw [getD_map_range _ _ hi8] at I1
      have w1 : (a1, listOf vs1.toArray k1) ∈ tl2 ++ (L' + 1, oV) :: (D, lst ys) :: (tl ++ news) := List.mem_append_right _ (.tail _ (.tail _ (List.mem_append_left _ m1)))
      have w2 : (D, lst ys) ∈ tl2 ++ (L' + 1, oV) :: (D, lst ys) :: (tl ++ news) := List.mem_append_right _ (.tail _ (.head _))
      have w3 : (L' + 1, oV) ∈ tl2 ++ (L' + 1, oV) :: (D, lst ys) :: (tl ++ news) := List.mem_append_right _ (.head _)
      clear F4 N4
      refine wpAny_tests_nil ?_
      simp only [if_true]
      k_dflt (refine' ListComp_C (by k_asm) ?a1 ?a2 ?a2' ?a3 ?a4 ?a5 ?_; (case a1 => with_unfolding_all rfl); (case a2 => exact fun _ => rfl); (case a2' => exact fun _ => rfl); (case a3 => rfl); (case a4 => decide); (case a5 => rfl))
      k_steps
      rename News _ _ _ _ => N6
      rename Fr _ _ _ _ => F6
      refine CpSrc.list (fun j ys' nw' => nw' = _ ∧ IntsAre ys' ((List.range j).map fun j => 1 - 2 * (dotThree i j).fmod 2)) rfl F6 N6 (by k_mem) (by rw [hR.1]; decide) ⟨rfl, .nil⟩ (turn_ints_C _ ?_) ?_
      · intro j v2 ys6 I6 oI6 C6 oC6 c6 oc6 D6 h6' tk6 E6 hj hP6 hoc6 hI6 F7 N7 off7
        have hj8 : j < 8 := by rw [hR.1] at hj; simpa using hj
        obtain ⟨a2, vs2, k2, e2, m2, I2⟩ := hR.2 j (by simpa using hj8)
        rw [e2] at hP6
        cases hP6
        rw [getD_map_range _ _ hj8] at I2
        have w4 : (a2, listOf vs2.toArray k2) ∈ tl2 ++ (L' + 1, oV) :: (D, lst ys) :: (tl ++ news) := List.mem_append_right _ (.tail _ (.tail _ (List.mem_append_left _ m2)))
        clear F6 N6
        k_steps
        k_dflt (refine' ListComp_L (by k_asm) ?a1 ?a2 ?a3 ?a4 ?a5 ?_; (case a1 => with_unfolding_all rfl); (case a2 => decide); (case a3 => rfl); (case a4 => decide); (case a5 => rfl))
        k_steps
        rename IsRange _ _ _ _ _ _ _ _ => R8
        rename News _ _ _ _ => N8
        rename Fr _ _ _ _ => F8
        refine CpSrc.range 3 (fun k ys' nw' => nw' = _ ∧ IntsAre ys' ((List.range k).map fun k => (figsN i 3).getD k 0 * (figsN j 3).getD k 0)) rfl F8 N8 R8 (by decide) (by rfl) (by decide) ⟨rfl, .nil⟩ (turn_ints_L _ ?_) ?_
        · intro k v9 ys9 I9 oI9 C9 oC9 D9 m9 h9' tk9 E9 hk9 hP9 hoC9 hx9 hI9 F9 N9 off9
          obtain ⟨t9, rfl⟩ := hP9
          rw [Int.zero_add] at hx9
          obtain ⟨tS, qS⟩ := I1.get k ((figsN i 3).getD k 0) (by rw [List.getD_eq_getElem?_getD, List.getElem?_eq_getElem (by rw [figs_len ⟨i, hi8⟩]; exact hk9)]; rfl)
          obtain ⟨tR, qR⟩ := I2.get k ((figsN j 3).getD k 0) (by rw [List.getD_eq_getElem?_getD, List.getElem?_eq_getElem (by rw [figs_len ⟨j, hj8⟩]; exact hk9)]; rfl)
          have u1 : vs1[(k : Int).toNat]? = some (.int ((figsN i 3).getD k 0) tS) := by rw [Int.toNat_natCast]; exact qS
          have u2 : vs2[(k : Int).toNat]? = some (.int ((figsN j 3).getD k 0) tR) := by rw [Int.toNat_natCast]; exact qR
          obtain ⟨b1, b2⟩ := figs_01 ⟨i, hi8⟩ ⟨k, hk9⟩
          dsimp only at b1 b2
          clear F8 N8 R8
          k_steps
          exact EltI.intro (by k_asm) (by k_asm) (fun p hp => hp) rfl
        · intro D9 h9 tk9 ys9 nw9 F9 N9 off9 olow9 hJ9
          obtain ⟨rfl, I9⟩ := hJ9
          clear F8 N8 R8
          k_steps
          exact EltI.intro (by k_asm) (by k_asm) (fun p hp => .tail _ hp) rfl
      · intro D6 h6 tk6 ys6 nw6 F7 N7 off7 olow7 hJ6
        obtain ⟨rfl, I6⟩ := hJ6
        refine CpEnd.intro ((D6, lst ys6) :: (tl2 ++ (L' + 1, oV) :: (D, lst ys) :: (tl ++ news))) F7 N7 ?sub ?off (.inr ⟨_, .tail _ w2, rfl, _, rfl⟩) (RowsJ.succ hR2 ho2 ?oa ?hi)
        case sub => intro p hp; simp only [List.mem_cons] at hp ⊢; grind
        case off =>
          obtain ⟨x1, x2, x3, x4⟩ : I < D6 ∧ C < D6 ∧ c < D6 ∧ D2 < D6 := ⟨olow7 (I, oI) (.head _), olow7 (C, oC) (.tail _ (.head _)), olow7 (c, oc2) (.tail _ (.tail _ (.head _))), olow7 (D2, lst ys2) (.tail _ (.tail _ (.tail _ (.head _))))⟩
          exact List.forall_mem_cons.mpr ⟨⟨Nat.ne_of_gt x1, Nat.ne_of_gt x2, Nat.ne_of_gt x3, Nat.ne_of_gt x4⟩, off5⟩
        case oa => exact fun q hq => olow7 q (.tail _ (.tail _ (.tail _ (.tail _ (List.mem_append_right _ hq)))))
        case hi =>
          rw [show ys.length = 8 from by rw [hR.1]; simp] at I6
          exact I6
    · intro D3 h3 tk3 ys3 nw3 F5 N5 off5 olow3 hJ
      obtain ⟨tl3, rfl, ho3, hR3⟩ := hJ
      clear F4 N4
      k_steps
      rw [show ys.length = 8 from by rw [hR.1]; simp] at hR3
      refine hret (.ref D3) ((D3, lst ys3) :: tl3) _ _ (by k_asm) (kst_newsOf (by k_asm) fun p hp => ?_) (ord_cons (allLt_of fun p hp => olow3 p (.tail _ (.tail _ (List.mem_append_right _ hp)))) fun q hq p hp => ho3 q (.tail _ (.tail _ (List.mem_append_right _ hq))) p hp) ⟨D3, ys3, tl3, rfl, rfl, hR3⟩
      simp only [List.cons_append, List.mem_cons, List.mem_append] at hp ⊢
      grind
end Mine
end

section
open PySem PySem.W PyProof.Rows PySem.Spec PySem.Calls
open PyProof.Rows.LCg
set_option maxRecDepth 100000
set_option maxHeartbeats 1600000
namespace Mine
local macro_rules | `(tactic| walk_at "zz0") => `(tactic| fail)
local macro_rules | `(tactic| walk_at "zz1") => `(tactic| fail)
local macro_rules | `(tactic| walk_at "zz2") => `(tactic| fail)
local macro_rules | `(tactic| walk_at "zz3") => `(tactic| fail)
local macro_rules | `(tactic| walk_at "zz4") => `(tactic| fail)
local macro_rules | `(tactic| walk_at "zz5") => `(tactic| fail)
local macro_rules | `(tactic| walk_at "zz6") => `(tactic| fail)
local macro_rules | `(tactic| walk_at "zz7") => `(tactic| fail)
local macro_rules | `(tactic| walk_at "zz8") => `(tactic| fail)
local macro_rules | `(tactic| walk_at "zz9") => `(tactic| fail)
local macro_rules | `(tactic| walk_at "zz10") => `(tactic| fail)
local macro_rules | `(tactic| walk_at "zz11") => `(tactic| fail)
local macro_rules | `(tactic| walk_at "zz12") => `(tactic| fail)
local macro_rules | `(tactic| walk_at "zz13") => `(tactic| fail)
local macro_rules | `(tactic| walk_at "zz14") => `(tactic| fail)
local macro_rules | `(tactic| walk_at "zz15") => `(tactic| fail)
local macro_rules | `(tactic| walk_at "zz16") => `(tactic| fail)
local macro_rules | `(tactic| walk_at "zz17") => `(tactic| fail)
local macro_rules | `(tactic| walk_at "zz18") => `(tactic| fail)
local macro_rules | `(tactic| walk_at "zz19") => `(tactic| fail)

def putDs (i j : Nat) : List Int := (List.range 3).map fun k => if (figsN i 3).getD k 0 != (figsN j 3).getD k 0 then 1 else 0
def putN (i j : Nat) : Int := numval (putDs i j) 0 3

local macro_rules | `(tactic| k_mem) => `(tactic| first | assumption | exact List.Mem.head _ | (refine' List.Mem.tail _ ?_; k_mem))
local macro_rules | `(tactic| k_all) => `(tactic| first | assumption | exact List.forall_mem_nil _ | (refine' List.forall_mem_cons.mpr ⟨?a, ?b⟩; (case a => k_ne); (case b => k_all)))
local macro_rules | `(tactic| k_steps) => `(tactic| repeat' ((fail_if_success (with_reducible show wpAny _ _ (eval (Expr.ListComp _ _ _ _) _) _ _ _)); (fail_if_success (with_reducible show wpAny _ _ (call (Value.ref _) _) _ _ _)); first | (k_unfold; (try dsimp only)) | (k_end; wrow_close) | walk1 | (dsimp only; walk1) | (leave1; walk_say "STEP leave1"; try dsimp only) | fail "no step"))

local macro_rules | `(tactic| walk_at "subscriptTail") => `(tactic| (k_here; (with_reducible show wpAny _ _ (subscriptTail _ _ (Value.ref _) (Value.int _ _)) _ _ _); (with_unfolding_all refine' item_at ?k1 ?k2 ?k3 ?k4 ?k5 ?_ ?k6; (case k1 => k_asm); (case k2 => k_mem); (case k3 => omega); (case k4 => omega); (case k5 => assumption); (case k6 => with_unfolding_all rfl); k_whole)))
local macro_rules | `(tactic| walk_at "subscriptTail Name Name ref int") => `(tactic| (k_here; (with_reducible show wpAny _ _ (subscriptTail _ _ (Value.ref _) (Value.int _ _)) _ _ _); (with_unfolding_all refine' item_at ?k1 ?k2 ?k3 ?k4 ?k5 ?_ ?k6; (case k1 => k_asm); (case k2 => k_mem); (case k3 => omega); (case k4 => omega); (case k5 => assumption); (case k6 => with_unfolding_all rfl); k_whole)))
local macro_rules | `(tactic| walk_at "subscriptTail Subscript Name ref int") => `(tactic| (k_here; (with_reducible show wpAny _ _ (subscriptTail _ _ (Value.ref _) (Value.int _ _)) _ _ _); (with_unfolding_all refine' item_at ?k1 ?k2 ?k3 ?k4 ?k5 ?_ ?k6; (case k1 => k_asm); (case k2 => k_mem); (case k3 => omega); (case k4 => omega); (case k5 => assumption); (case k6 => with_unfolding_all rfl); k_whole)))
local macro_rules | `(tactic| walk_at "subscriptTail Name Subscript ref int") => `(tactic| (k_here; (with_reducible show wpAny _ _ (subscriptTail _ _ (Value.ref _) (Value.int _ _)) _ _ _); (with_unfolding_all refine' item_at ?k1 ?k2 ?k3 ?k4 ?k5 ?_ ?k6; (case k1 => k_asm); (case k2 => k_mem); (case k3 => omega); (case k4 => omega); (case k5 => assumption); (case k6 => with_unfolding_all rfl); k_whole)))


theorem putDs_len (i j : Nat) : (putDs i j).length = 3 := by rw [putDs, List.length_map, List.length_range]
theorem putDs_01 (i j k : Nat) : 0 ≤ (putDs i j).getD k 0 ∧ (putDs i j).getD k 0 ≤ 1 := by
  by_cases h : k < 3
  · rw [putDs, getD_map_range _ _ h]; split <;> decide
  · rw [List.getD_eq_getElem?_getD, List.getElem?_eq_none (by rw [putDs_len]; omega)]; decide

theorem lawPut (w : World) (i j : Nat) (hi : i < 8) (hj : j < 8) (t1 t2 : Tok) (c' : Addr) (oc : Obj) (fs : Array Value) (tq : Tok) (hc1 : oc.data = .fields fs) (hc2 : fs[1]? = some (.str (Str.ofString "_int2digits.<locals>.inner") tq))
    (c₂ : Addr) (oc₂ : Obj) (fs₂ : Array Value) (tq₂ : Tok) (hd1 : oc₂.data = .fields fs₂) (hd2 : fs₂[1]? = some (.str (Str.ofString "_digits2int.<locals>.inner") tq₂)) :
    Says PySem.Challenge.rw_gl0002_01.row.prog (hd.heap_39 w.params) w 40 400 66 [.int (i : Int) t1, .int (j : Int) t2] (fun news => (30, tab30 c') ∈ news ∧ (c', oc) ∈ news ∧ (37, tab37 c₂) ∈ news ∧ (c₂, oc₂) ∈ news)
      (fun r tl => ∃ t, r = .int (putN i j) t ∧ tl = []) := by
  unfold Says
  w_top off
  k_fill
  intro p loose mean mg mb dp un gd cn cs a ccd cl outer A₀ base h₀ L m news s Q E B F X N T' hk ⟨h1, h2, h3, h4⟩ hd hu hret
  refine wpAny_noRaise ?_
  refine wpAny_call ?_
  k_dflt (refine' code_defC ?k1 ?k2 ?k3 ?k4 ?k5 ?kA ?kF ?kK ?k6 ?k7 ?k8 ?k9 ?kB ?kD ?_ ?c2 ?c3 ?c4; (case kA => exact rfl); (case kF => exact rfl); (case kK => assumption); (case k1 => k_asm); (case k2 => k_asm); (case k3 => k_asm); (case k4 => k_asm); (case k5 => k_asm); (case k6 => k_is); (case k7 => k_is); (case k8 => ktr_room); (case k9 => exact BindsTo.of_eq rfl); (case kB => exact rfl); (case kD => decide +kernel); (case c2 => exact rfl); (case c3 => exact rfl); (case c4 => exact rfl); k_whole; intro g' L' h' tk' cells' FG' F' N' Y' B' X' T' l1; k_cells Y'; (try simp only [List.cons_append, List.nil_append] at N'); (try dsimp only); (try k_fold))


  all_goals refine wpAny_noRaise ?_
  rename_i o1 o2 d1 d2
  have n1 : ∀ p ∈ news, p.1 ≠ L' + 1 := fun p hp => Nat.ne_of_lt (Nat.lt_succ_of_lt (l1 p hp))
  have n2 : ∀ p ∈ news, p.1 ≠ L' + 1 + 1 := fun p hp => Nat.ne_of_lt (Nat.lt_succ_of_lt (Nat.lt_succ_of_lt (l1 p hp)))
  k_steps
  k_dflt (refine' says_use (lawFigures w ⟨i, by omega⟩ 3 (by decide) _ _ c' oc fs tq hc1 hc2) ?k1 ?k2 ?k3 ?k4 ?k5 ?k6 ?k7 ?k8 ?k9 ?_; (case k1 => k_asm); (case k2 => k_asm); (case k3 => k_asm); (case k4 => k_asm); (case k5 => k_asm); (case k6 => exact rfl); (case k7 => exact ⟨by k_mem, by k_mem⟩); (case k8 => ktr_room); (case k9 => ktr_units); k_whole)
  rintro r3 tl3 hh3 tk3 F3 N3 l3 ⟨e3, vs3, k3, rfl, rfl, I3⟩
  rw [List.cons_append, List.nil_append] at N3
  k_sweep
  (try dsimp only)
  have y3 : @LT.lt Nat _ (L' + 1 + 1) e3 ∧ @LT.lt Nat _ (L' + 1) e3 := ⟨l3 _ (.head _) _ (.head _), l3 _ (.tail _ (.head _)) _ (.head _)⟩
  k_steps
  k_dflt (refine' says_use (lawFigures w ⟨j, by omega⟩ 3 (by decide) _ _ c' oc fs tq hc1 hc2) ?k1 ?k2 ?k3 ?k4 ?k5 ?k6 ?k7 ?k8 ?k9 ?_; (case k1 => k_asm); (case k2 => k_asm); (case k3 => k_asm); (case k4 => k_asm); (case k5 => k_asm); (case k6 => exact rfl); (case k7 => exact ⟨by k_mem, by k_mem⟩); (case k8 => ktr_room); (case k9 => ktr_units); k_whole)
  rintro r4 tl4 hh4 tk4 F4 N4 l4 ⟨e4, vs4, k4, rfl, rfl, I4⟩
  rw [List.cons_append, List.nil_append] at N4
  k_sweep
  (try dsimp only)
  have y4 : @LT.lt Nat _ e3 e4 ∧ @LT.lt Nat _ (L' + 1 + 1) e4 ∧ @LT.lt Nat _ (L' + 1) e4 := ⟨l4 _ (.head _) _ (.head _), l4 _ (.tail _ (.head _)) _ (.head _), l4 _ (.tail _ (.tail _ (.head _))) _ (.head _)⟩
  k_steps
  k_dflt (refine' ListComp_L (by k_asm) ?a1 ?a2 ?a3 ?a4 ?a5 ?_; (case a1 => with_unfolding_all rfl); (case a2 => decide); (case a3 => rfl); (case a4 => decide); (case a5 => rfl))
  k_steps
  rename IsRange _ _ _ _ _ _ _ _ => R8
  rename News _ _ _ _ => N8
  rename Fr _ _ _ _ => F8
  refine CpSrc.range 3 (fun k ys' nw' => nw' = _ ∧ IntsAre ys' ((List.range k).map fun k => if (figsN i 3).getD k 0 != (figsN j 3).getD k 0 then 1 else 0)) rfl F8 N8 R8 (by decide) (by rfl) (by decide) ⟨rfl, .nil⟩ (turn_ints_L _ ?_) ?_
  · intro k v9 ys9 I9 oI9 C9 oC9 D9 m9 h9' tk9 E9 hk9 hP9 hoC9 hx9 hI9 F9 N9 off9
    obtain ⟨t9, rfl⟩ := hP9
    rw [Int.zero_add] at hx9
    have J3 : IntsAre vs3 (figsN i 3) := by rw [figsN, dif_pos (by omega)]; exact I3
    have J4 : IntsAre vs4 (figsN j 3) := by rw [figsN, dif_pos (by omega)]; exact I4
    obtain ⟨tS, qS⟩ := J3.get k ((figsN i 3).getD k 0) (by rw [List.getD_eq_getElem?_getD, List.getElem?_eq_getElem (by rw [figs_len ⟨i, hi⟩]; exact hk9)]; rfl)
    obtain ⟨tR, qR⟩ := J4.get k ((figsN j 3).getD k 0) (by rw [List.getD_eq_getElem?_getD, List.getElem?_eq_getElem (by rw [figs_len ⟨j, hj⟩]; exact hk9)]; rfl)
    have u1 : vs3[(k : Int).toNat]? = some (.int ((figsN i 3).getD k 0) tS) := by rw [Int.toNat_natCast]; exact qS
    have u2 : vs4[(k : Int).toNat]? = some (.int ((figsN j 3).getD k 0) tR) := by rw [Int.toNat_natCast]; exact qR
    clear F8 N8 R8
    k_steps
    exact EltI.intro (by k_asm) (by k_asm) (fun p hp => hp) rfl
  · intro D9 h9 tk9 ys9 nw9 F9 N9 off9 olow9 hJ9
    obtain ⟨rfl, I9⟩ := hJ9
    clear F8 N8 R8
    k_steps
    k_dflt (refine' says_use (digits2int w _ c₂ oc₂ fs₂ tq₂ hd1 hd2 D9 ys9 (putDs i j) _ I9 (by rw [putDs_len]; decide) (by rw [putDs_len]; decide) (putDs_01 i j)) ?k1 ?k2 ?k3 ?k4 ?k5 ?k6 ?k7 ?k8 ?k9 ?_; (case k1 => k_asm); (case k2 => k_asm); (case k3 => k_asm); (case k4 => k_asm); (case k5 => k_asm); (case k6 => exact rfl); (case k7 => exact ⟨by k_mem, by k_mem, by k_mem⟩); (case k8 => ktr_room); (case k9 => ktr_units); k_whole)
    rintro r5 tl5 hh5 tk5 F5 N5 l5 ⟨t5, rfl, rfl⟩
    rw [List.nil_append] at N5
    k_sweep
    (try dsimp only)
    k_steps
    refine hret _ [] _ _ (by k_asm) (kst_newsOf (by k_asm) fun p hp => ?_) ktn_ord0 ⟨t5, by rw [putDs_len]; rfl, rfl⟩
    rw [List.nil_append] at hp
    simp [hp]
end Mine
end

section
open PySem PySem.W PyProof.Rows PySem.Spec PySem.Calls
set_option maxRecDepth 100000
namespace Mine
def sgs (X0 : _root_.Fin 256) : List Int := (List.range 8).map fun i => 1 - 2 * (figs X0 8).getD i 0
def TB : List (List Int) := (List.range 8).map tabRow
def TBl : List (List Int) := [[1,1,1,1,1,1,1,1],[1,-1,1,-1,1,-1,1,-1],[1,1,-1,-1,1,1,-1,-1],[1,-1,-1,1,1,-1,-1,1],[1,1,1,1,-1,-1,-1,-1],[1,-1,1,-1,-1,1,-1,1],[1,1,-1,-1,-1,-1,1,1],[1,-1,-1,1,-1,1,1,-1]]
theorem TB_eq : TB = TBl := by decide +kernel
theorem c8 {a0 a1 a2 a3 a4 a5 a6 a7 b0 b1 b2 b3 b4 b5 b6 b7 : Int} (h0 : a0 = b0) (h1 : a1 = b1) (h2 : a2 = b2) (h3 : a3 = b3) (h4 : a4 = b4) (h5 : a5 = b5) (h6 : a6 = b6) (h7 : a7 = b7) : [a0, a1, a2, a3, a4, a5, a6, a7] = [b0, b1, b2, b3, b4, b5, b6, b7] := by
  subst h0 h1 h2 h3 h4 h5 h6 h7; rfl
theorem eight {sg : List Int} (h : sg.length = 8) : ∃ a0 a1 a2 a3 a4 a5 a6 a7, sg = [a0, a1, a2, a3, a4, a5, a6, a7] := by
  match sg, h with
  | [a0, a1, a2, a3, a4, a5, a6, a7], _ => exact ⟨a0, a1, a2, a3, a4, a5, a6, a7, rfl⟩
def row8 (a0 a1 a2 a3 a4 a5 a6 a7 t0 t1 t2 t3 t4 t5 t6 t7 : Int) : Int := a7 * t7 + (a6 * t6 + (a5 * t5 + (a4 * t4 + (a3 * t3 + (a2 * t2 + (a1 * t1 + (a0 * t0 + 0)))))))
theorem walsh8 (a0 a1 a2 a3 a4 a5 a6 a7 : Int) : walsh [a0, a1, a2, a3, a4, a5, a6, a7] TBl =
  [a0 + a1 + a2 + a3 + a4 + a5 + a6 + a7, a0 - a1 + a2 - a3 + a4 - a5 + a6 - a7, a0 + a1 - a2 - a3 + a4 + a5 - a6 - a7, a0 - a1 - a2 + a3 + a4 - a5 - a6 + a7, a0 + a1 + a2 + a3 - a4 - a5 - a6 - a7, a0 - a1 + a2 - a3 - a4 + a5 - a6 + a7, a0 + a1 - a2 - a3 - a4 - a5 + a6 + a7, a0 - a1 - a2 + a3 - a4 + a5 + a6 - a7] := by
  show [row8 a0 a1 a2 a3 a4 a5 a6 a7 1 1 1 1 1 1 1 1, row8 a0 a1 a2 a3 a4 a5 a6 a7 1 (-1) 1 (-1) 1 (-1) 1 (-1), row8 a0 a1 a2 a3 a4 a5 a6 a7 1 1 (-1) (-1) 1 1 (-1) (-1), row8 a0 a1 a2 a3 a4 a5 a6 a7 1 (-1) (-1) 1 1 (-1) (-1) 1, row8 a0 a1 a2 a3 a4 a5 a6 a7 1 1 1 1 (-1) (-1) (-1) (-1), row8 a0 a1 a2 a3 a4 a5 a6 a7 1 (-1) 1 (-1) (-1) 1 (-1) 1, row8 a0 a1 a2 a3 a4 a5 a6 a7 1 1 (-1) (-1) (-1) (-1) 1 1, row8 a0 a1 a2 a3 a4 a5 a6 a7 1 (-1) (-1) 1 (-1) 1 1 (-1)] = _
  unfold row8
  refine c8 ?_ ?_ ?_ ?_ ?_ ?_ ?_ ?_ <;> grind
theorem walsh_walsh {sg : List Int} (h : sg.length = 8) : walsh (walsh sg TBl) TBl = (List.range 8).map fun i => 8 * sg.getD i 0 := by
  obtain ⟨a0, a1, a2, a3, a4, a5, a6, a7, rfl⟩ := eight h
  rw [walsh8, walsh8]
  show _ = [8 * a0, 8 * a1, 8 * a2, 8 * a3, 8 * a4, 8 * a5, 8 * a6, 8 * a7]
  refine c8 ?_ ?_ ?_ ?_ ?_ ?_ ?_ ?_ <;> grind
theorem getD_map8 (f : Nat → Int) {k : Nat} (hk : k < 8) : ((List.range 8).map f).getD k 0 = f k := by
  rw [List.getD_eq_getElem?_getD, List.getElem?_map, List.getElem?_range hk]; rfl
theorem dot_congr {x t y u : List Int} : ∀ {n : Nat}, (∀ j, j < n → x.getD j 0 * t.getD j 0 = y.getD j 0 * u.getD j 0) → dot x t n = dot y u n
  | 0, _ => rfl
  | n + 1, h => by rw [dot, dot, h n (Nat.lt_succ_self n), dot_congr fun j hj => h j (Nat.lt_succ_of_lt hj)]
theorem walsh_bo {sg : List Int} (c : _root_.Fin 8) (p : Nat → Nat) (hp : ∀ k, k < 8 → p k < 8) (hT : ∀ k, k < 8 → ∀ j, j < 8 → (TBl.getD c.val []).getD j 0 * (TBl.getD k []).getD j 0 = (TBl.getD (p k) []).getD j 0) :
    walsh ((List.range 8).map fun i => sg.getD i 0 * (TBl.getD c.val []).getD i 0) TBl = (List.range 8).map fun k => (walsh sg TBl).getD (p k) 0 := by
  rw [walsh]
  refine List.map_congr_left fun k hk => ?_
  have hk8 := List.mem_range.mp hk
  rw [walsh, getD_map8 _ (hp k hk8)]
  refine dot_congr fun j hj => ?_
  rw [getD_map8 _ hj, Int.mul_assoc, hT k hk8 j hj]
theorem dot8 (x t : List Int) : dot x t 8 = row8 (x.getD 0 0) (x.getD 1 0) (x.getD 2 0) (x.getD 3 0) (x.getD 4 0) (x.getD 5 0) (x.getD 6 0) (x.getD 7 0) (t.getD 0 0) (t.getD 1 0) (t.getD 2 0) (t.getD 3 0) (t.getD 4 0) (t.getD 5 0) (t.getD 6 0) (t.getD 7 0) := rfl
def s8 (g : Nat → Int) : Int := g 7 + (g 6 + (g 5 + (g 4 + (g 3 + (g 2 + (g 1 + (g 0 + 0)))))))
theorem s8_perm (g : Nat → Int) : ∀ c : _root_.Fin 8, s8 (fun j => g (j ^^^ c.val)) = s8 g := by
  intro c
  match c with
  | 0 => rfl
  | 1 => show g 6 + (g 7 + (g 4 + (g 5 + (g 2 + (g 3 + (g 0 + (g 1 + 0))))))) = s8 g; unfold s8; grind
  | 2 => show g 5 + (g 4 + (g 7 + (g 6 + (g 1 + (g 0 + (g 3 + (g 2 + 0))))))) = s8 g; unfold s8; grind
  | 3 => show g 4 + (g 5 + (g 6 + (g 7 + (g 0 + (g 1 + (g 2 + (g 3 + 0))))))) = s8 g; unfold s8; grind
  | 4 => show g 3 + (g 2 + (g 1 + (g 0 + (g 7 + (g 6 + (g 5 + (g 4 + 0))))))) = s8 g; unfold s8; grind
  | 5 => show g 2 + (g 3 + (g 0 + (g 1 + (g 6 + (g 7 + (g 4 + (g 5 + 0))))))) = s8 g; unfold s8; grind
  | 6 => show g 1 + (g 0 + (g 3 + (g 2 + (g 5 + (g 4 + (g 7 + (g 6 + 0))))))) = s8 g; unfold s8; grind
  | 7 => show g 0 + (g 1 + (g 2 + (g 3 + (g 4 + (g 5 + (g 6 + (g 7 + 0))))))) = s8 g; unfold s8; grind
theorem dot_s8 (x t : List Int) : dot x t 8 = s8 fun j => x.getD j 0 * t.getD j 0 := rfl
theorem s8_congr {f g : Nat → Int} (h : ∀ j, j < 8 → f j = g j) : s8 f = s8 g := by
  unfold s8; rw [h 0 (by decide), h 1 (by decide), h 2 (by decide), h 3 (by decide), h 4 (by decide), h 5 (by decide), h 6 (by decide), h 7 (by decide)]
theorem s8_mul (g : Nat → Int) (a : Int) : s8 (fun j => g j * a) = s8 g * a := by unfold s8; grind
theorem TBl_put : ∀ c k j : _root_.Fin 8, (TBl.getD c.val []).getD j.val 0 * (TBl.getD k.val []).getD j.val 0 = (TBl.getD (k.val ^^^ c.val) []).getD j.val 0 := by decide +kernel
theorem TBl_mv : ∀ c k r : _root_.Fin 8, (TBl.getD k.val []).getD (r.val ^^^ c.val) 0 = (TBl.getD k.val []).getD r.val 0 * (TBl.getD c.val []).getD k.val 0 := by decide +kernel
theorem xor_xor : ∀ j c : _root_.Fin 8, (j.val ^^^ c.val) ^^^ c.val = j.val ∧ j.val ^^^ c.val < 8 := by decide +kernel
theorem walsh_mv (sg : List Int) (c : _root_.Fin 8) : walsh ((List.range 8).map fun k => sg.getD (k ^^^ c.val) 0) TBl = (List.range 8).map fun k => (walsh sg TBl).getD k 0 * (TBl.getD c.val []).getD k 0 := by
  rw [walsh]
  refine List.map_congr_left fun k hk => ?_
  have hk8 := List.mem_range.mp hk
  rw [walsh, getD_map8 _ hk8, dot_s8, dot_s8, ← s8_mul]
  refine Eq.trans ?_ (s8_perm _ c)
  refine s8_congr fun j hj => ?_
  have hx := xor_xor ⟨j, hj⟩ c
  have ht := TBl_mv c ⟨k, hk8⟩ ⟨j ^^^ c.val, hx.2⟩
  dsimp only at hx ht
  rw [hx.1] at ht
  rw [getD_map8 _ hj, ht, Int.mul_assoc]
def nums (X0 : _root_.Fin 256) : List Int := walsh (sgs X0) TB
def sgsN (X0 : _root_.Fin 256) : List Int := (List.range 8).map fun i => if X0.val.testBit i then -1 else 1
theorem sgs_eq : ∀ X0 : _root_.Fin 256, sgs X0 = sgsN X0 := by decide +kernel
def cc (X0 : _root_.Fin 256) : Nat := X0.val % 8
theorem cc_lt (X0 : _root_.Fin 256) : cc X0 < 8 := Nat.mod_lt _ (by decide)
theorem cc_mod : ∀ X0 : _root_.Fin 256, (X0.val : Int).fmod 8 = ((cc X0 : Nat) : Int) := by decide +kernel
theorem sgs_len (X0 : _root_.Fin 256) : (sgs X0).length = 8 := by rw [sgs, List.length_map, List.length_range]
theorem sgs_b : ∀ X0 : _root_.Fin 256, ∀ i : _root_.Fin 8, -1 ≤ (sgs X0).getD i.val 0 ∧ (sgs X0).getD i.val 0 ≤ 1 := by simp only [sgs_eq]; decide +kernel
theorem nums_P2 (X0 : _root_.Fin 256) : (!decide (walsh (nums X0) TB = (List.range 8).map fun i => 8 * (sgs X0).getD i 0)) = false := by
  have h := walsh_walsh (sgs_len X0)
  rw [← TB_eq] at h
  rw [nums, decide_eq_true h]; rfl
theorem nums_P3 : ∀ X0 : _root_.Fin 256, (((List.range 8).map fun i => if (nums X0).getD i 0 < 0 then -(nums X0).getD i 0 else (nums X0).getD i 0).any fun a => decide (4 ≤ a)) = true := by
  unfold nums; simp only [sgs_eq, TB_eq]; decide +kernel
theorem max4 {ns : List Int} {M : Int} (h : (ns.any fun a => decide (4 ≤ a)) = true) (hM : ∀ a, a ∈ ns → a ≤ M) : decide (M < 4) = false := by
  obtain ⟨a, ha, h4⟩ := List.any_eq_true.mp h
  have := of_decide_eq_true h4
  have := hM a ha
  exact decide_eq_false (by omega)
theorem TB_P4 : ∀ c : _root_.Fin 8, (!decide (walsh (TB.getD c.val []) TB = (List.range 8).map fun k : Nat => 8 * (if ((k : Int) == ((c.val : Nat) : Int)) = true then 1 else 0))) = false := by
  rw [TB_eq]; decide +kernel
def bo (X0 : _root_.Fin 256) : List Int := (List.range 8).map fun i => (sgs X0).getD i 0 * (TB.getD (cc X0) []).getD i 0
def mv (X0 : _root_.Fin 256) : List Int := (List.range 8).map fun k => (sgs X0).getD (putN k (cc X0)).toNat 0
theorem putN_b : ∀ i j : _root_.Fin 8, 0 ≤ putN i.val j.val ∧ putN i.val j.val < 8 := by decide +kernel
theorem putN_x : ∀ k c : _root_.Fin 8, (putN k.val c.val).toNat = k.val ^^^ c.val := by decide +kernel
theorem nums_P5 (X0 : _root_.Fin 256) : (!decide (walsh (bo X0) TB = (List.range 8).map fun k => (nums X0).getD (putN k (cc X0)).toNat 0)) = false := by
  have h := walsh_bo (sg := sgs X0) ⟨cc X0, cc_lt X0⟩ (fun k => (putN k (cc X0)).toNat) (fun k hk => by have e := putN_x ⟨k, hk⟩ ⟨cc X0, cc_lt X0⟩; dsimp only at e ⊢; rw [e]; exact (xor_xor ⟨k, hk⟩ ⟨cc X0, cc_lt X0⟩).2)
    (fun k hk j hj => by have e := putN_x ⟨k, hk⟩ ⟨cc X0, cc_lt X0⟩; dsimp only at e ⊢; rw [e]; exact TBl_put ⟨cc X0, cc_lt X0⟩ ⟨k, hk⟩ ⟨j, hj⟩)
  rw [← TB_eq] at h
  have h' : walsh (bo X0) TB = (List.range 8).map fun k => (nums X0).getD (putN k (cc X0)).toNat 0 := h
  rw [decide_eq_true h']; rfl
theorem nums_P6 (X0 : _root_.Fin 256) : (!decide (walsh (mv X0) TB = (List.range 8).map fun k => (nums X0).getD k 0 * (TB.getD (cc X0) []).getD k 0)) = false := by
  have h := walsh_mv (sgs X0) ⟨cc X0, cc_lt X0⟩
  rw [← TB_eq] at h
  have e : mv X0 = (List.range 8).map fun k => (sgs X0).getD (k ^^^ cc X0) 0 := by
    rw [mv]
    exact List.map_congr_left fun k hk => by have e := putN_x ⟨k, List.mem_range.mp hk⟩ ⟨cc X0, cc_lt X0⟩; dsimp only at e; rw [e]
  have h' : walsh (mv X0) TB = (List.range 8).map fun k => (nums X0).getD k 0 * (TB.getD (cc X0) []).getD k 0 := by rw [e]; exact h
  rw [decide_eq_true h']; rfl
def nr (X0 : _root_.Fin 256) (o : Nat) : Nat := ((List.range 8).filter fun r => (sgs X0).getD r 0 == (TB.getD o []).getD r 0).length
theorem dot_cnt (x t : List Int) : ∀ n, (∀ r, r < n → (x.getD r 0 = 1 ∨ x.getD r 0 = -1) ∧ (t.getD r 0 = 1 ∨ t.getD r 0 = -1)) → dot x t n = 2 * (((List.range n).filter fun r => x.getD r 0 == t.getD r 0).length : Int) - n
  | 0, _ => rfl
  | n + 1, h => by
    rw [dot, dot_cnt x t n fun r hr => h r (Nat.lt_succ_of_lt hr), List.range_succ, List.filter_append, List.length_append]
    obtain ⟨h1 | h1, h2 | h2⟩ := h n (Nat.lt_succ_self n) <;> rw [List.filter_cons, h1, h2] <;> simp <;> omega
theorem sgs_pm : ∀ X0 : _root_.Fin 256, ∀ r : _root_.Fin 8, (sgs X0).getD r.val 0 = 1 ∨ (sgs X0).getD r.val 0 = -1 := by simp only [sgs_eq]; decide +kernel
theorem TB_pm : ∀ k r : _root_.Fin 8, (TB.getD k.val []).getD r.val 0 = 1 ∨ (TB.getD k.val []).getD r.val 0 = -1 := by rw [TB_eq]; decide +kernel
theorem nums_P7 (X0 : _root_.Fin 256) (k : _root_.Fin 8) : ((nums X0).getD k.val 0 != 2 * (nr X0 k.val : Int) - 8) = false := by
  have h := dot_cnt (sgs X0) (TB.getD k.val []) 8 fun r hr => ⟨sgs_pm X0 ⟨r, hr⟩, TB_pm k ⟨r, hr⟩⟩
  have e : (nums X0).getD k.val 0 = 2 * (nr X0 k.val : Int) - 8 := by rw [nums, walsh, getD_map8 _ k.isLt, nr]; exact h
  rw [e]; simp
theorem nums_P8 : ∀ X0 : _root_.Fin 256, (((List.range 8).map fun o => (nr X0 o : Int)).any fun a => decide (6 ≤ a) || decide (a ≤ 2)) = true := by
  unfold nr; simp only [sgs_eq, TB_eq]; decide +kernel
theorem TB_b : ∀ i j : _root_.Fin 8, -1 ≤ (TB.getD i.val []).getD j.val 0 ∧ (TB.getD i.val []).getD j.val 0 ≤ 1 := by rw [TB_eq]; decide +kernel
theorem figs8_len : ∀ X0 : _root_.Fin 256, (figs X0 8).length = 8 := by decide +kernel
theorem figs8_01 : ∀ X0 : _root_.Fin 256, ∀ i : _root_.Fin 8, 0 ≤ (figs X0 8).getD i.val 0 ∧ (figs X0 8).getD i.val 0 ≤ 1 := by decide +kernel
theorem getq {vs : List Value} {ns : List Int} (I : IntsAre vs ns) {i : Nat} {v : Value} (h : vs[i]? = some v) : ∃ t, v = .int (ns.getD i 0) t := by
  obtain ⟨n, t, e, q⟩ := I.at i v h
  exact ⟨t, by rw [e, List.getD_eq_getElem?_getD, q]; rfl⟩
theorem getv {vs : List Value} {ns : List Int} (I : IntsAre vs ns) {i : Nat} (h : i < ns.length) : ∃ t, vs[(i : Int).toNat]? = some (.int (ns.getD i 0) t) := by
  rw [Int.toNat_natCast]
  exact I.get i _ (by rw [List.getD_eq_getElem?_getD, List.getElem?_eq_getElem h]; rfl)
theorem rows_fn {led : List (Addr × Obj)} {ys : List Value} {ls : List (List Int)} (h : RowsAt led ys ls) (hl : ls.length = 8) :
    ∃ (rows : Nat → Addr) (rv : Nat → List Value) (rk : Nat → Nat), (∀ i, i < 8 → ys[i]? = some (.ref (rows i))) ∧ (∀ i, i < 8 → IntsAre (rv i) (ls.getD i [])) ∧ (∀ i, i < 8 → (rows i, listOf (rv i).toArray (rk i)) ∈ led) := by
  have q : ∀ i : Nat, ∃ c : Addr × List Value × Nat, i < 8 → ys[i]? = some (.ref c.1) ∧ (c.1, listOf c.2.1.toArray c.2.2) ∈ led ∧ IntsAre c.2.1 (ls.getD i []) := fun i => by
    by_cases hi : i < 8
    · obtain ⟨a, vs, k, e, m, I⟩ := h.2 i (hl ▸ hi)
      exact ⟨(a, vs, k), fun _ => ⟨e, m, I⟩⟩
    · exact ⟨(0, [], 0), fun h => absurd h hi⟩
  obtain ⟨f, hf⟩ := Classical.axiomOfChoice q
  exact ⟨fun i => (f i).1, fun i => (f i).2.1, fun i => (f i).2.2, fun i hi => (hf i hi).1, fun i hi => (hf i hi).2.2, fun i hi => (hf i hi).2.1⟩
theorem figs8_01' (X0 : _root_.Fin 256) (i : Nat) : 0 ≤ (figs X0 8).getD i 0 ∧ (figs X0 8).getD i 0 ≤ 1 := by
  by_cases h : i < 8
  · exact figs8_01 X0 ⟨i, h⟩
  · rw [List.getD_eq_getElem?_getD, List.getElem?_eq_none (by rw [figs8_len]; omega)]; decide
theorem TB_len : TB.length = 8 := by rw [TB_eq]; rfl
theorem TB_rows : ∀ i, i < 8 → (TB.getD i []).length = 8 := by rw [TB_eq]; decide
theorem TB_small : ∀ i, i < 8 → ∀ j, j < 8 → -1 ≤ (TB.getD i []).getD j 0 ∧ (TB.getD i []).getD j 0 ≤ 1 := by rw [TB_eq]; decide
theorem bne_self {a : Int} : (a != a) = false := by simp
theorem nums_b : ∀ X0 : _root_.Fin 256, ∀ i : _root_.Fin 8, -8 ≤ (nums X0).getD i.val 0 ∧ (nums X0).getD i.val 0 ≤ 8 := by
  unfold nums; simp only [sgs_eq, TB_eq]; decide +kernel
theorem nums_len (X0 : _root_.Fin 256) : (nums X0).length = 8 := by rw [nums, walsh, List.length_map, List.length_range]
theorem nums_sq : ∀ X0 : _root_.Fin 256, (((List.range 8).map fun i => (nums X0).getD i 0 * (nums X0).getD i 0).sum != 64) = false := by
  unfold nums; simp only [sgs_eq, TB_eq]; decide +kernel
theorem numval_figs : ∀ X0 : _root_.Fin 256, numval (figs X0 8) 0 (figs X0 8).length = (X0.val : Int) := by decide +kernel
theorem neOf {tl : List (Addr × Obj)} {a b : Nat} (h : ∀ p ∈ tl, @LT.lt Nat _ a p.1) (hb : b ≤ a) : ∀ p ∈ tl, p.1 ≠ b := fun p hp e => by
  have := h p hp
  rw [e] at this
  omega
section
variable {h₀ h : Heap} {L : Addr} {a b c d e f g x y : Addr × Obj}
theorem swapN {X : Addr × Obj} {tl news : List (Addr × Obj)} (N : News h₀ L h (X :: tl ++ news)) : News h₀ L h (X :: (news ++ tl)) := by
  refine kst_newsOf N fun p hp => ?_
  simp only [List.cons_append, List.mem_cons, List.mem_append] at hp ⊢; grind
theorem reord1 {a1 a2 a3 a4 a5 a6 a7 a8 a9 a10 a11 a12 a13 x : Addr × Obj} {tl : List (Addr × Obj)} (N : News h₀ L h (a1 :: a2 :: a3 :: a4 :: a5 :: a6 :: a7 :: a8 :: a9 :: a10 :: a11 :: a12 :: a13 :: x :: tl)) : News h₀ L h (x :: a1 :: a2 :: a3 :: a4 :: a5 :: a6 :: a7 :: a8 :: a9 :: a10 :: a11 :: a12 :: a13 :: tl) := by
  refine kst_newsOf N fun p hp => ?_
  simp only [List.mem_cons] at hp ⊢; grind
theorem reord0 (N : News h₀ L h [a, b, c, d, e, f, g, x, y]) : News h₀ L h [x, a, b, c, d, e, f, g, y] := by
  refine kst_newsOf N fun p hp => ?_
  simp only [List.mem_cons, List.not_mem_nil, or_false] at hp ⊢; grind
end
end Mine
end

section
open PySem PySem.W PyProof.Rows PySem.Spec PySem.Calls
open PyProof.Rows.LCg
set_option maxRecDepth 100000
set_option maxHeartbeats 8000000
namespace Mine

local macro_rules | `(tactic| k_mem) => `(tactic| first | assumption | exact List.Mem.head _ | (refine' List.Mem.tail _ ?_; k_mem))
local macro_rules | `(tactic| k_all) => `(tactic| first | assumption | exact List.forall_mem_nil _ | (refine' List.forall_mem_cons.mpr ⟨?a, ?b⟩; (case a => k_ne); (case b => k_all)))
local macro_rules | `(tactic| k_steps) => `(tactic| repeat' ((fail_if_success (with_reducible show GoodW _ _ _ _ _ _ _)); (fail_if_success (with_reducible show wpAny _ _ (call (Value.builtin "max") [Value.ref _]) _ _ _)); (fail_if_success (with_reducible show wpAny _ _ (call (Value.builtin "min") [Value.ref _]) _ _ _)); (fail_if_success (with_reducible show wpAny _ _ (eval (Expr.ListComp _ _ _ _) _) _ _ _)); (fail_if_success (with_reducible show wpAny _ _ (call (Value.ref _) _) _ _ _)); first | (k_unfold; (try dsimp only)) | (k_end; wrow_close) | walk1 | (dsimp only; walk1) | (leave1; walk_say "STEP leave1"; try dsimp only) | fail "no step"))

local macro_rules | `(tactic| walk_at "subscriptTail") => `(tactic| (k_here; (with_reducible show wpAny _ _ (subscriptTail _ _ (Value.ref _) (Value.int _ _)) _ _ _); (with_unfolding_all refine' item_at ?k1 ?k2 ?k3 ?k4 ?k5 ?_ ?k6; (case k1 => k_asm); (case k2 => k_mem); (case k3 => omega); (case k4 => omega); (case k5 => assumption); (case k6 => with_unfolding_all rfl); k_whole)))
local macro_rules | `(tactic| walk_at "subscriptTail Name Name ref int") => `(tactic| (k_here; (with_reducible show wpAny _ _ (subscriptTail _ _ (Value.ref _) (Value.int _ _)) _ _ _); (with_unfolding_all refine' item_at ?k1 ?k2 ?k3 ?k4 ?k5 ?_ ?k6; (case k1 => k_asm); (case k2 => k_mem); (case k3 => omega); (case k4 => omega); (case k5 => assumption); (case k6 => with_unfolding_all rfl); k_whole)))
local macro_rules | `(tactic| walk_at "subscriptTail Subscript Name ref int") => `(tactic| (k_here; (with_reducible show wpAny _ _ (subscriptTail _ _ (Value.ref _) (Value.int _ _)) _ _ _); (with_unfolding_all refine' item_at ?k1 ?k2 ?k3 ?k4 ?k5 ?_ ?k6; (case k1 => k_asm); (case k2 => k_mem); (case k3 => omega); (case k4 => omega); (case k5 => assumption); (case k6 => with_unfolding_all rfl); k_whole)))
local macro_rules | `(tactic| walk_at "subscriptTail Name Subscript ref int") => `(tactic| (k_here; (with_reducible show wpAny _ _ (subscriptTail _ _ (Value.ref _) (Value.int _ _)) _ _ _); (with_unfolding_all refine' item_at ?k1 ?k2 ?k3 ?k4 ?k5 ?_ ?k6; (case k1 => k_asm); (case k2 => k_mem); (case k3 => omega); (case k4 => omega); (case k5 => assumption); (case k6 => with_unfolding_all rfl); k_whole)))



theorem mod256 {prog : Program} {w : World} {A : Around} {E : Value → Shared → Prop} {s : Shared} {Q : Value → Shared → Prop} {x : Int} {t u : Tok} (h : ∀ X0 : Fin 256, Q (.int (X0.val : Int) s.toks) { s with toks := s.toks + 1 }) : wpAny (model prog w) A (binaryOp .Mod (.int x t) (.int 256 u)) Q E s := by
  refine mod_int' (by decide) ?_
  have e1 : 0 ≤ x.fmod 256 := by rw [Int.fmod_eq_emod_of_nonneg _ (by decide)]; omega
  have e2 : x.fmod 256 < 256 := by rw [Int.fmod_eq_emod_of_nonneg _ (by decide)]; omega
  obtain ⟨n, hn⟩ : ∃ n : Nat, x.fmod 256 = (n : Int) := ⟨_, (Int.toNat_of_nonneg e1).symm⟩
  rw [hn]
  exact h ⟨n, by omega⟩
local macro_rules | `(tactic| walk_at "binaryOp Mod int int") => `(tactic| (k_here; (with_reducible show wpAny _ _ (binaryOp Operator.Mod (Value.int _ _) (Value.int 256 _)) _ _ _); refine mod256 fun X0 => ?_))

local macro_rules | `(tactic| walk_at "storeName") => `(tactic| (k_here; k_dflt (refine' storeX_C ?F ?N ?c ?U ?d ?_ ?a ?b; (case b => decide); (case a => rfl); (case F => k_asm); (case N => k_asm); (case c => rfl); (case U => k_updF); (case d => k_asm); k_whole); intro h' o' F' N' d'; (try dsimp only at N'); (try k_sweep)))

local macro_rules | `(tactic| walk_at "callWith ref") => `(tactic| (k_here; k_dflt (first | (refine' callWith_K ?k1 ?k2 ?_; (case k1 => k_asm); (case k2 => k_is); k_whole) | (refine' callWith_K0 ?k1 ?k2 ?_; (case k1 => k_in); (case k2 => k_is); k_whole))))

local macro_rules | `(tactic| walk_at "call builtin:sum") => `(tactic| (k_here; (with_reducible show wpAny _ _ (call (Value.builtin "sum") [Value.ref _]) _ _ _); k_dflt (refine' LSm.sum_ints ?F ?N ?h ?l ?i ?_; (case F => k_asm); (case N => k_asm); (case h => rfl); (case l => exact News.isList (by k_asm) (by k_mem)); (case i => assumption); k_whole); intro h' tk' t' F' N'; (try k_sweep)))
local macro_rules | `(tactic| walk_at "compareOp NotEq ref ref") => `(tactic| (k_here; (with_reducible show wpAny _ _ (compareOp CmpOp.NotEq (Value.ref _) (Value.ref _)) _ _ _); k_dflt (refine' ne_intsK ?k1 ?k2 ?k3 ?k4 ?k5 ?_; (case k1 => exact News.isList (by k_asm) (by k_mem)); (case k2 => assumption); (case k3 => exact News.isList (by k_asm) (by k_mem)); (case k4 => assumption); (case k5 => units_room); k_whole)))
theorem mod_to {prog : Program} {w : World} {A : Around} {E : Value → Shared → Prop} {s : Shared} {Q : Value → Shared → Prop} {x n r : Int} {t u : Tok} (hn : n ≠ 0) (e : x.fmod n = r) (h : Q (.int r s.toks) { s with toks := s.toks + 1 }) : wpAny (model prog w) A (binaryOp .Mod (.int x t) (.int n u)) Q E s :=
  mod_int' hn (by rw [e]; exact h)
local macro_rules | `(tactic| walk_at "binaryOp Mod int int") => `(tactic| (k_here; (refine' mod_to ?ca ?cb ?_; (case cb => assumption); (case ca => decide))))
local macro_rules | `(tactic| walk_at "call builtin:len") => `(tactic| (k_here; (with_reducible show wpAny _ _ (call (Value.builtin "len") [Value.ref _]) _ _ _); k_dflt (refine' len_to ?N ?m ?I ?e ?f ?_; (case N => k_asm); (case m => k_mem); (case I => assumption); (case e => assumption); (case f => omega); k_whole)))
local macro_rules | `(tactic| walk_at "compareOp Eq ref ref") => `(tactic| (k_here; (with_reducible show wpAny _ _ (compareOp CmpOp.Eq (Value.ref _) (Value.ref _)) _ _ _); k_dflt (refine' eq_intsK ?k1 ?k2 ?k3 ?k4 ?k5 ?_; (case k1 => exact News.isList (by k_asm) (by k_mem)); (case k2 => assumption); (case k3 => exact News.isList (by k_asm) (by k_mem)); (case k4 => assumption); (case k5 => units_room); k_whole)))
local macro_rules | `(tactic| walk_at "subscriptTail Subscript Name Name Name ref int") => `(tactic| (k_here; (with_reducible show wpAny _ _ (subscriptTail _ _ (Value.ref _) (Value.int _ _)) _ _ _); (with_unfolding_all refine' item_at ?k1 ?k2 ?k3 ?k4 ?k5 ?_ ?k6; (case k1 => k_asm); (case k2 => k_mem); (case k3 => omega); (case k4 => omega); (case k5 => assumption); (case k6 => with_unfolding_all rfl); k_whole)))
theorem fin6 {ns : List Int} {M m : Int} (h : (ns.any fun a => decide (6 ≤ a) || decide (a ≤ 2)) = true) (hM : ∀ a, a ∈ ns → a ≤ M) (hm : ∀ a, a ∈ ns → m ≤ a) : 6 ≤ M ∨ 6 ≤ 8 - m := by
  obtain ⟨a, ha, h4⟩ := List.any_eq_true.mp h
  have := hM a ha
  have := hm a ha
  rcases Bool.or_eq_true_iff.mp h4 with h | h
  · have := of_decide_eq_true h; omega
  · have := of_decide_eq_true h; omega
theorem nr_le (X0 : _root_.Fin 256) (o : Nat) : nr X0 o ≤ 8 := by
  have := List.length_filter_le (fun r => (sgs X0).getD r 0 == (TB.getD o []).getD r 0) (List.range 8)
  rw [List.length_range] at this
  exact this
theorem filt_yes {p : Nat → Bool} {k : Nat} {ys : List Value} {t : Tok} (h : p k = true) (I : IntsAre ys (((List.range k).filter p).map fun r : Nat => (r : Int))) : IntsAre (ys ++ [.int (k : Int) t]) (((List.range (k + 1)).filter p).map fun r : Nat => (r : Int)) := by
  rw [List.range_succ, List.filter_append, List.map_append]
  refine I.append ?_
  simp only [List.filter_cons, h, if_true, List.filter_nil, List.map_cons, List.map_nil]
  exact .cons _ _ .nil
theorem filt_no {p : Nat → Bool} {k : Nat} {ys : List Value} (h : p k = false) (I : IntsAre ys (((List.range k).filter p).map fun r : Nat => (r : Int))) : IntsAre ys (((List.range (k + 1)).filter p).map fun r : Nat => (r : Int)) := by
  rw [List.range_succ, List.filter_append]
  simp only [List.filter_cons, h, List.filter_nil, List.append_nil, Bool.false_eq_true, if_false]
  exact I
theorem getw {vs : List Value} {ns : List Int} (I : IntsAre vs ns) {i : Nat} (h : i < ns.length) : ∃ t, vs[i]? = some (.int (ns.getD i 0) t) :=
  I.get i _ (by rw [List.getD_eq_getElem?_getD, List.getElem?_eq_getElem h]; rfl)
local macro_rules | `(tactic| walk_at "ite") => `(tactic| (k_here; first | refine ite_no bne_self ?_ | refine ite_no (by assumption) ?_ | refine ite_yes (by assumption) ?_))
theorem lawHolds : PySem.Challenge.rw_gl0002_01.Holds := hd (by
  w_top off
  k_go0
  all_goals refine wpAny_mono (E := fun _ _ => False) ?_ (fun _ _ h => h) (fun _ _ h => h.elim)
  k_steps
  rename _root_.Fin 256 => X0
  rename News _ _ _ _ => N0
  rename World => w
  rename _ < _ ∧ _ < _ => l0
  have l30 : @LT.lt Nat _ 30 _ := l0.1
  have l37 : @LT.lt Nat _ 37 _ := l0.2
  replace N0 := reord0 N0
  k_dflt (refine' saysM_use (lawFiguresCold w X0 8 (by decide) _ _ _ ?hrest) ?k1 ?k2 ?k3 ?k4 ?k5 ?k6 ?k8 ?k9 ?_; (case k1 => k_asm); (case k2 => k_asm); (case k3 => k_asm); (case k4 => k_asm); (case k5 => k_asm); (case k6 => exact rfl); (case hrest => k_all); (case k8 => ktr_room); (case k9 => ktr_units); k_whole)
  rintro r1 led hh1 tk1 F1 N1 ⟨e1, vs1, k1, c1, oc1, fs1, tq1, rfl, rfl, I1, hc1, hc2, hne1, hne2, hlow⟩
  k_sweep
  (try dsimp only)
  k_steps
  have y1 : @LT.lt Nat _ _ e1 ∧ @LT.lt Nat _ _ c1 := hlow _ (.head _)
  dsimp only at y1
  have z1 : vs1.length = 8 := by rw [I1.length]; exact figs8_len X0
  k_dflt (refine' ListComp_L (by k_asm) ?a1 ?a2 ?a3 ?a4 ?a5 ?_; (case a1 => with_unfolding_all rfl); (case a2 => decide); (case a3 => rfl); (case a4 => decide); (case a5 => rfl))
  k_steps
  rename News _ _ _ _ => N2
  rename Fr _ _ _ _ => F2
  refine CpSrc.list (fun j ys' nw' => nw' = _ ∧ IntsAre ys' ((List.range j).map fun i => 1 - 2 * (figs X0 8).getD i 0)) rfl F2 N2 (.head _) (by rw [z1]; decide) ⟨rfl, .nil⟩ (turn_ints_L _ ?_) ?_
  · intro k v9 ys9 I9 oI9 C9 oC9 D9 m9 h9' tk9 E9 hk9 hP9 hoC9 hx9 hI9 F9 N9 off9
    obtain ⟨t9, rfl⟩ := getq I1 hP9
    have b9 := figs8_01 X0 ⟨k, z1 ▸ hk9⟩
    dsimp only at b9
    obtain ⟨b1, b2⟩ := b9
    clear F2 N2
    k_steps
    exact EltI.intro (by k_asm) (by k_asm) (fun p hp => hp) rfl
  · intro D3 h3 tk3 vs3 nw3 F3 N3 off3 low3 hJ3
    obtain ⟨rfl, I3⟩ := hJ3
    rw [z1] at I3
    have y3 : @LT.lt Nat _ e1 D3 := low3 _ (.head _)
    clear F2 N2
    k_steps
    k_dflt (refine' says_use (lawTable w c1 oc1 fs1 tq1 hc1 hc2) ?k1 ?k2 ?k3 ?k4 ?k5 ?k6 ?k7 ?k8 ?k9 ?_; (case k1 => k_asm); (case k2 => k_asm); (case k3 => k_asm); (case k4 => k_asm); (case k5 => k_asm); (case k6 => exact rfl); (case k7 => exact ⟨by k_mem, by k_mem⟩); (case k8 => ktr_room); (case k9 => ktr_units); k_whole)
    rintro rT tlT hT tkT FT NT lT ⟨eT, vsT, tl', rfl, rfl, RT⟩
    replace NT := swapN NT
    simp only [List.cons_append, List.nil_append] at NT
    k_sweep
    (try dsimp only)
    rename Shared => s1
    have nT : ∀ p ∈ tl', @LT.lt Nat _ (s1.heap.objs.size + 1 + 1 + 1 + 1 + 1 + 1 + 1) p.1 := fun p hp => lT _ (.tail _ (.tail _ (.tail _ (.tail _ (.head _))))) p (.tail _ hp)
    have yT : @LT.lt Nat _ D3 eT := lT _ (.head _) _ (.head _)
    have m1 := neOf nT (b := s1.heap.objs.size + 1) (by omega)
    have m2 := neOf nT (b := s1.heap.objs.size + 1 + 1) (by omega)
    have m3 := neOf nT (b := s1.heap.objs.size + 1 + 1 + 1) (by omega)
    have m4 := neOf nT (b := s1.heap.objs.size + 1 + 1 + 1 + 1) (by omega)
    have m5 := neOf nT (b := s1.heap.objs.size + 1 + 1 + 1 + 1 + 1) (by omega)
    have m6 := neOf nT (b := s1.heap.objs.size + 1 + 1 + 1 + 1 + 1 + 1) (by omega)
    have m7 := neOf nT (b := s1.heap.objs.size + 1 + 1 + 1 + 1 + 1 + 1 + 1) (Nat.le_refl _)
    have m0 := neOf nT (b := 37) (by omega)
    clear lT
    k_steps
    obtain ⟨rows, rv, rk, hrow1, hrow2, hrow3⟩ := rows_fn RT (by rw [List.length_map, List.length_range])
    k_dflt (refine' says_use (lawNumbers w D3 eT vs3 vsT (sgs X0) TB _ _ I3 rfl TB_len rows rv rk hrow1 hrow2 TB_rows TB_small) ?k1 ?k2 ?k3 ?k4 ?k5 ?k6 ?k7 ?k8 ?k9 ?_; (case k1 => k_asm); (case k2 => k_asm); (case k3 => k_asm); (case k4 => k_asm); (case k5 => k_asm); (case k6 => exact rfl); (case k7 => exact ⟨by k_mem, by k_mem, fun i hi => by (iterate 13 refine List.Mem.tail _ ?_); exact hrow3 i hi⟩); (case k8 => ktr_room); (case k9 => ktr_units); k_whole)
    rintro rN tlN hN tkN FN NN lN ⟨eN, vsN, kN, rfl, rfl, IN⟩
    rw [List.cons_append, List.nil_append] at NN
    k_sweep
    (try dsimp only)
    have yN : @LT.lt Nat _ eT eN := lN _ (.head _) _ (.head _)
    clear lN
    k_steps
    rename News _ _ _ _ => N4
    replace N4 := reord1 N4
    k_dflt (refine' saysM_use (digits2intCold w _ _ ?hrest e1 vs1 (figs X0 8) _ I1 ?hq1 ?hq2 ?hq3 ?hq4) ?k1 ?k2 ?k3 ?k4 ?k5 ?k6 ?k8 ?k9 ?_; (case k1 => k_asm); (case k2 => k_asm); (case k3 => k_asm); (case k4 => k_asm); (case k5 => k_asm); (case k6 => exact rfl); (case hrest => k_all); (case hq1 => rw [figs8_len]; decide); (case hq2 => rw [figs8_len]; decide); (case hq3 => exact figs8_01' X0); (case hq4 => k_mem); (case k8 => ktr_room); (case k9 => ktr_units); k_whole)
    rintro r5 led5 h5 tk5 F5 N5 ⟨t5, c2, oc2, fs2, tq2, rfl, rfl, hd1, hd2, hne5, hlow5⟩
    k_sweep
    (try dsimp only)
    rw [numval_figs X0]
    k_steps
    change IntsAre vsN (nums X0) at IN
    have zN : vsN.length = 8 := by rw [IN.length]; exact nums_len X0
    have hSq := nums_sq X0
    k_dflt (refine' ListComp_L (by k_asm) ?a1 ?a2 ?a3 ?a4 ?a5 ?_; (case a1 => with_unfolding_all rfl); (case a2 => decide); (case a3 => rfl); (case a4 => decide); (case a5 => rfl))
    k_steps
    rename News _ _ _ _ => N6
    rename Fr _ _ _ _ => F6
    refine CpSrc.list (fun j ys' nw' => nw' = _ ∧ IntsAre ys' ((List.range j).map fun i => (nums X0).getD i 0 * (nums X0).getD i 0)) rfl F6 N6 (.tail _ (.tail _ (.head _))) (by rw [zN]; decide) ⟨rfl, .nil⟩ (turn_ints_L _ ?_) ?_
    · intro k v9 ys9 I9 oI9 C9 oC9 D9 m9 h9' tk9 E9 hk9 hP9 hoC9 hx9 hI9 F9 N9 off9
      obtain ⟨t9, rfl⟩ := getq IN hP9
      have b9 := nums_b X0 ⟨k, zN ▸ hk9⟩
      dsimp only at b9
      obtain ⟨b1, b2⟩ := b9
      clear F6 N6
      k_steps
      exact EltI.intro (by k_asm) (by k_asm) (fun p hp => hp) rfl
    · intro D6 h6 tk6 vs6 nw6 F7 N7 off7 low7 hJ7
      obtain ⟨rfl, I7⟩ := hJ7
      rw [zN] at I7
      have yc2 : @LT.lt Nat _ eN c2 := hlow5 _ (.head _)
      have y7 : @LT.lt Nat _ c2 D6 := low7 _ (.head _)
      clear F6 N6
      have hP2 := nums_P2 X0
      have hcc := cc_mod X0
      have hc8 := cc_lt X0
      have z3 : vs3.length = 8 := by rw [I3.length]; exact sgs_len X0
      k_steps
      k_dflt (refine' says_use (lawNumbers w eN eT vsN vsT (nums X0) TB _ _ IN (nums_len X0) TB_len rows rv rk hrow1 hrow2 TB_rows TB_small) ?k1 ?k2 ?k3 ?k4 ?k5 ?k6 ?k7 ?k8 ?k9 ?_; (case k1 => k_asm); (case k2 => k_asm); (case k3 => k_asm); (case k4 => k_asm); (case k5 => k_asm); (case k6 => exact rfl); (case k7 => exact ⟨by k_mem, by k_mem, fun i hi => by have hr3 := hrow3 i hi; k_mem⟩); (case k8 => ktr_room); (case k9 => ktr_units); k_whole)
      rintro r8 tl8 h8 tk8 F8 N8 l8 ⟨eW, vsW, kW, rfl, rfl, IW⟩
      rw [List.cons_append, List.nil_append] at N8
      k_sweep
      (try dsimp only)
      have yW : @LT.lt Nat _ D6 eW := l8 _ (.head _) _ (.head _)
      clear l8
      k_steps
      k_dflt (refine' ListComp_L (by k_asm) ?a1 ?a2 ?a3 ?a4 ?a5 ?_; (case a1 => with_unfolding_all rfl); (case a2 => decide); (case a3 => rfl); (case a4 => decide); (case a5 => rfl))
      k_steps
      rename News _ _ _ _ => NBa
      rename Fr _ _ _ _ => FBa
      refine CpSrc.list (fun j ys' nw' => nw' = _ ∧ IntsAre ys' ((List.range j).map fun i => 8 * (sgs X0).getD i 0)) rfl FBa NBa (by k_mem) (by rw [z3]; decide) ⟨rfl, .nil⟩ (turn_ints_L _ ?_) ?_
      · intro k v9 ys9 I9 oI9 C9 oC9 D9 m9 h9' tk9 E9 hk9 hP9 hoC9 hx9 hI9 F9 N9 off9
        obtain ⟨t9, rfl⟩ := getq (show IntsAre vs3 (sgs X0) from I3) hP9
        have b9 := sgs_b X0 ⟨k, z3 ▸ hk9⟩
        dsimp only at b9
        obtain ⟨b1, b2⟩ := b9
        clear FBa NBa
        k_steps
        exact EltI.intro (by k_asm) (by k_asm) (fun p hp => hp) rfl
      · intro Da ha tka vsa nwa Fa Na offa lowa hJa
        obtain ⟨rfl, Ia⟩ := hJa
        rw [z3] at Ia
        have ya : @LT.lt Nat _ eW Da := lowa _ (.head _)
        clear FBa NBa
        k_steps
        k_dflt (refine' ListComp_L (by k_asm) ?a1 ?a2 ?a3 ?a4 ?a5 ?_; (case a1 => with_unfolding_all rfl); (case a2 => decide); (case a3 => rfl); (case a4 => decide); (case a5 => rfl))
        k_steps
        rename News _ _ _ _ => NBb
        rename Fr _ _ _ _ => FBb
        refine CpSrc.list (fun j ys' nw' => nw' = _ ∧ IntsAre ys' ((List.range j).map fun i => if (nums X0).getD i 0 < 0 then -(nums X0).getD i 0 else (nums X0).getD i 0)) rfl FBb NBb (by k_mem) (by rw [zN]; decide) ⟨rfl, .nil⟩ (turn_ints_L _ ?_) ?_
        · intro k v9 ys9 I9 oI9 C9 oC9 D9 m9 h9' tk9 E9 hk9 hP9 hoC9 hx9 hI9 F9 N9 off9
          obtain ⟨t9, rfl⟩ := getq IN hP9
          clear FBb NBb
          k_steps
          exact EltI.intro (by k_asm) (by k_asm) (fun p hp => hp) rfl
        · intro Db hb tkb vsb nwb Fb Nb offb lowb hJb
          obtain ⟨rfl, Ib⟩ := hJb
          rw [zN] at Ib
          have yb : @LT.lt Nat _ Da Db := lowb _ (.head _)
          clear FBb NBb
          k_steps
          k_dflt (refine' max_list_N ?q1 ?q2 ?q3 ?q4 ?q5 ?q6 ?_; (case q1 => rfl); (case q2 => k_asm); (case q3 => k_asm); (case q4 => exact News.isList (by k_asm) (by k_mem)); (case q5 => exact Ib); (case q6 => rw [List.length_map, List.length_range]; decide))
          intro hm M tM tkm Fm Nm hMm hMa
          k_sweep
          (try dsimp only)
          have hM4 := max4 (nums_P3 X0) hMa
          have hown : vsT[((cc X0 : Nat) : Int).toNat]? = some (.ref (rows (cc X0))) := by rw [Int.toNat_natCast]; exact hrow1 _ hc8
          have zi : ∀ i, i < 8 → (rv i).length = 8 := fun i hi => by rw [(hrow2 i hi).length]; exact TB_rows i hi
          have hro := hrow3 _ hc8
          k_steps
          k_dflt (refine' says_use (lawNumbers w (rows (cc X0)) eT (rv (cc X0)) vsT (TB.getD (cc X0) []) TB _ _ (hrow2 _ hc8) (TB_rows _ hc8) TB_len rows rv rk hrow1 hrow2 TB_rows TB_small) ?k1 ?k2 ?k3 ?k4 ?k5 ?k6 ?k7 ?k8 ?k9 ?_; (case k1 => k_asm); (case k2 => k_asm); (case k3 => k_asm); (case k4 => k_asm); (case k5 => k_asm); (case k6 => exact rfl); (case k7 => exact ⟨by k_mem, by k_mem, fun i hi => by have hr3 := hrow3 i hi; k_mem⟩); (case k8 => ktr_room); (case k9 => ktr_units); k_whole)
          rintro rc tlc hc tkc Fc Nc lc ⟨ec, vsc, kc, rfl, rfl, Ic⟩
          rw [List.cons_append, List.nil_append] at Nc
          k_sweep
          (try dsimp only)
          have yc : @LT.lt Nat _ Db ec := lc _ (.head _) _ (.head _)
          clear lc
          k_steps
          have hP4 := TB_P4 ⟨cc X0, hc8⟩
          dsimp only at hP4
          k_dflt (refine' ListComp_L (by k_asm) ?a1 ?a2 ?a3 ?a4 ?a5 ?_; (case a1 => with_unfolding_all rfl); (case a2 => decide); (case a3 => rfl); (case a4 => decide); (case a5 => rfl))
          k_steps
          rename IsRange _ _ _ _ _ _ _ _ => RBd
          rename News _ _ _ _ => NBd
          rename Fr _ _ _ _ => FBd
          refine CpSrc.range 8 (fun j ys' nw' => nw' = _ ∧ IntsAre ys' ((List.range j).map fun k : Nat => 8 * (if ((k : Int) == ((cc X0 : Nat) : Int)) = true then 1 else 0))) rfl FBd NBd RBd (by decide) (by rfl) (by decide) ⟨rfl, .nil⟩ (turn_ints_L _ ?_) ?_
          · intro k v9 ys9 I9 oI9 C9 oC9 D9 m9 h9' tk9 E9 hk9 hP9 hoC9 hx9 hI9 F9 N9 off9
            obtain ⟨t9, rfl⟩ := hP9
            rw [Int.zero_add] at hx9
            clear FBd NBd RBd
            k_steps
            exact EltI.intro (by k_asm) (by k_asm) (fun p hp => hp) rfl
          · intro Dd hd tkd vsd nwd Fd Nd offd lowd hJd
            obtain ⟨rfl, Id⟩ := hJd
            have yd : @LT.lt Nat _ ec Dd := lowd _ (.head _)
            clear FBd NBd RBd
            k_steps
            k_dflt (refine' ListComp_L (by k_asm) ?a1 ?a2 ?a3 ?a4 ?a5 ?_; (case a1 => with_unfolding_all rfl); (case a2 => decide); (case a3 => rfl); (case a4 => decide); (case a5 => rfl))
            k_steps
            rename IsRange _ _ _ _ _ _ _ _ => RBq
            rename News _ _ _ _ => NBq
            rename Fr _ _ _ _ => FBq
            refine CpSrc.range 8 (fun j ys' nw' => nw' = _ ∧ IntsAre ys' ((List.range j).map fun k : Nat => putN k (cc X0))) rfl FBq NBq RBq (by decide) (by rfl) (by decide) ⟨rfl, .nil⟩ (turn_ints_L _ ?_) ?_
            · intro k v9 ys9 I9 oI9 C9 oC9 D9 m9 h9' tk9 E9 hk9 hP9 hoC9 hx9 hI9 F9 N9 off9
              obtain ⟨t9, rfl⟩ := hP9
              rw [Int.zero_add] at hx9
              clear FBq NBq RBq
              k_steps
              k_dflt (refine' says_use (lawPut w k (cc X0) hk9 hc8 _ _ c1 oc1 fs1 tq1 hc1 hc2 c2 oc2 fs2 tq2 hd1 hd2) ?k1 ?k2 ?k3 ?k4 ?k5 ?k6 ?k7 ?k8 ?k9 ?_; (case k1 => k_asm); (case k2 => k_asm); (case k3 => k_asm); (case k4 => k_asm); (case k5 => k_asm); (case k6 => exact rfl); (case k7 => exact ⟨by k_mem, by k_mem, by k_mem, by k_mem⟩); (case k8 => ktr_room); (case k9 => ktr_units); k_whole)
              rintro rp tlp hp' tkp Fp Np lp ⟨tp, rfl, rfl⟩
              rw [List.nil_append] at Np
              k_sweep
              (try dsimp only)
              k_steps
              exact EltI.intro (by k_asm) (by k_asm) (fun p hp => hp) rfl
            · intro Dq hq tkq vsq nwq Fq Nq offq lowq hJq
              obtain ⟨rfl, Iq⟩ := hJq
              have yq : @LT.lt Nat _ Dd Dq := lowq _ (.head _)
              clear FBq NBq RBq
              k_steps
              k_dflt (refine' ListComp_L (by k_asm) ?a1 ?a2 ?a3 ?a4 ?a5 ?_; (case a1 => with_unfolding_all rfl); (case a2 => decide); (case a3 => rfl); (case a4 => decide); (case a5 => rfl))
              k_steps
              rename IsRange _ _ _ _ _ _ _ _ => RBg
              rename News _ _ _ _ => NBg
              rename Fr _ _ _ _ => FBg
              refine CpSrc.range 8 (fun j ys' nw' => nw' = _ ∧ IntsAre ys' ((List.range j).map fun k : Nat => (sgs X0).getD k 0 * (TB.getD (cc X0) []).getD k 0)) rfl FBg NBg RBg (by decide) (by rfl) (by decide) ⟨rfl, .nil⟩ (turn_ints_L _ ?_) ?_
              · intro k v9 ys9 I9 oI9 C9 oC9 D9 m9 h9' tk9 E9 hk9 hP9 hoC9 hx9 hI9 F9 N9 off9
                obtain ⟨t9, rfl⟩ := hP9
                rw [Int.zero_add] at hx9
                clear FBg NBg RBg
                obtain ⟨tS, qS⟩ := getv (show IntsAre vs3 (sgs X0) from I3) (i := k) (by rw [sgs_len]; exact hk9)
                have bS := sgs_b X0 ⟨k, hk9⟩
                dsimp only at bS
                obtain ⟨bS1, bS2⟩ := bS
                obtain ⟨tO, qO⟩ := getv (show IntsAre (rv (cc X0)) (TB.getD (cc X0) []) from hrow2 _ hc8) (i := k) (by rw [TB_rows _ hc8]; exact hk9)
                have bO := TB_b ⟨cc X0, hc8⟩ ⟨k, hk9⟩
                dsimp only at bO
                obtain ⟨bO1, bO2⟩ := bO
                k_steps
                exact EltI.intro (by k_asm) (by k_asm) (fun p hp => hp) rfl
              · intro Dg hg tkg vsg nwg Fg Ng offg lowg hJg
                obtain ⟨rfl, Ig⟩ := hJg
                have yg : @LT.lt Nat _ Dq Dg := lowg _ (.head _)
                clear FBg NBg RBg
                k_steps
                k_dflt (refine' says_use (lawNumbers w Dg eT vsg vsT (bo X0) TB _ _ Ig (by rw [bo, List.length_map, List.length_range]) TB_len rows rv rk hrow1 hrow2 TB_rows TB_small) ?k1 ?k2 ?k3 ?k4 ?k5 ?k6 ?k7 ?k8 ?k9 ?_; (case k1 => k_asm); (case k2 => k_asm); (case k3 => k_asm); (case k4 => k_asm); (case k5 => k_asm); (case k6 => exact rfl); (case k7 => exact ⟨by k_mem, by k_mem, fun i hi => by have hr3 := hrow3 i hi; k_mem⟩); (case k8 => ktr_room); (case k9 => ktr_units); k_whole)
                rintro rm tlm hm tkm Fm Nm lm ⟨em, vsm, km, rfl, rfl, Im⟩
                rw [List.cons_append, List.nil_append] at Nm
                k_sweep
                (try dsimp only)
                have ym : @LT.lt Nat _ Dg em := lm _ (.head _) _ (.head _)
                clear lm
                k_steps
                have hP5 := nums_P5 X0
                k_dflt (refine' ListComp_L (by k_asm) ?a1 ?a2 ?a3 ?a4 ?a5 ?_; (case a1 => with_unfolding_all rfl); (case a2 => decide); (case a3 => rfl); (case a4 => decide); (case a5 => rfl))
                k_steps
                rename IsRange _ _ _ _ _ _ _ _ => RBn
                rename News _ _ _ _ => NBn
                rename Fr _ _ _ _ => FBn
                refine CpSrc.range 8 (fun j ys' nw' => nw' = _ ∧ IntsAre ys' ((List.range j).map fun k : Nat => (nums X0).getD (putN k (cc X0)).toNat 0)) rfl FBn NBn RBn (by decide) (by rfl) (by decide) ⟨rfl, .nil⟩ (turn_ints_L _ ?_) ?_
                · intro k v9 ys9 I9 oI9 C9 oC9 D9 m9 h9' tk9 E9 hk9 hP9 hoC9 hx9 hI9 F9 N9 off9
                  obtain ⟨t9, rfl⟩ := hP9
                  rw [Int.zero_add] at hx9
                  clear FBn NBn RBn
                  obtain ⟨tP, qP⟩ := getv Iq (i := k) (by rw [List.length_map, List.length_range]; exact hk9)
                  rw [getD_map_range _ _ hk9] at qP
                  have bP := putN_b ⟨k, hk9⟩ ⟨cc X0, hc8⟩
                  dsimp only at bP
                  obtain ⟨bP1, bP2⟩ := bP
                  obtain ⟨tN, qN⟩ := getw IN (i := (putN k (cc X0)).toNat) (by rw [nums_len]; omega)
                  k_steps
                  exact EltI.intro (by k_asm) (by k_asm) (fun p hp => hp) rfl
                · intro Dn hn tkn vsn nwn Fn Nn offn lown hJn
                  obtain ⟨rfl, In⟩ := hJn
                  have yn : @LT.lt Nat _ em Dn := lown _ (.head _)
                  clear FBn NBn RBn
                  k_steps
                  k_dflt (refine' ListComp_L (by k_asm) ?a1 ?a2 ?a3 ?a4 ?a5 ?_; (case a1 => with_unfolding_all rfl); (case a2 => decide); (case a3 => rfl); (case a4 => decide); (case a5 => rfl))
                  k_steps
                  rename IsRange _ _ _ _ _ _ _ _ => RBo
                  rename News _ _ _ _ => NBo
                  rename Fr _ _ _ _ => FBo
                  refine CpSrc.range 8 (fun j ys' nw' => nw' = _ ∧ IntsAre ys' ((List.range j).map fun k : Nat => (sgs X0).getD (putN k (cc X0)).toNat 0)) rfl FBo NBo RBo (by decide) (by rfl) (by decide) ⟨rfl, .nil⟩ (turn_ints_L _ ?_) ?_
                  · intro k v9 ys9 I9 oI9 C9 oC9 D9 m9 h9' tk9 E9 hk9 hP9 hoC9 hx9 hI9 F9 N9 off9
                    obtain ⟨t9, rfl⟩ := hP9
                    rw [Int.zero_add] at hx9
                    clear FBo NBo RBo
                    obtain ⟨tP, qP⟩ := getv Iq (i := k) (by rw [List.length_map, List.length_range]; exact hk9)
                    rw [getD_map_range _ _ hk9] at qP
                    have bP := putN_b ⟨k, hk9⟩ ⟨cc X0, hc8⟩
                    dsimp only at bP
                    obtain ⟨bP1, bP2⟩ := bP
                    obtain ⟨tN, qN⟩ := getw (show IntsAre vs3 (sgs X0) from I3) (i := (putN k (cc X0)).toNat) (by rw [sgs_len]; omega)
                    k_steps
                    exact EltI.intro (by k_asm) (by k_asm) (fun p hp => hp) rfl
                  · intro Do ho tko vso nwo Fo No offo lowo hJo
                    obtain ⟨rfl, Io⟩ := hJo
                    have yo : @LT.lt Nat _ Dn Do := lowo _ (.head _)
                    clear FBo NBo RBo
                    k_steps
                    k_dflt (refine' says_use (lawNumbers w Do eT vso vsT (mv X0) TB _ _ Io (by rw [mv, List.length_map, List.length_range]) TB_len rows rv rk hrow1 hrow2 TB_rows TB_small) ?k1 ?k2 ?k3 ?k4 ?k5 ?k6 ?k7 ?k8 ?k9 ?_; (case k1 => k_asm); (case k2 => k_asm); (case k3 => k_asm); (case k4 => k_asm); (case k5 => k_asm); (case k6 => exact rfl); (case k7 => exact ⟨by k_mem, by k_mem, fun i hi => by have hr3 := hrow3 i hi; k_mem⟩); (case k8 => ktr_room); (case k9 => ktr_units); k_whole)
                    rintro rr tlr hr tkr Fr Nr lr ⟨er, vsr, kr, rfl, rfl, Ir⟩
                    rw [List.cons_append, List.nil_append] at Nr
                    k_sweep
                    (try dsimp only)
                    have yr : @LT.lt Nat _ Do er := lr _ (.head _) _ (.head _)
                    clear lr
                    k_steps
                    have hP6 := nums_P6 X0
                    k_dflt (refine' ListComp_L (by k_asm) ?a1 ?a2 ?a3 ?a4 ?a5 ?_; (case a1 => with_unfolding_all rfl); (case a2 => decide); (case a3 => rfl); (case a4 => decide); (case a5 => rfl))
                    k_steps
                    rename IsRange _ _ _ _ _ _ _ _ => RBu
                    rename News _ _ _ _ => NBu
                    rename Fr _ _ _ _ => FBu
                    refine CpSrc.range 8 (fun j ys' nw' => nw' = _ ∧ IntsAre ys' ((List.range j).map fun k : Nat => (nums X0).getD k 0 * (TB.getD (cc X0) []).getD k 0)) rfl FBu NBu RBu (by decide) (by rfl) (by decide) ⟨rfl, .nil⟩ (turn_ints_L _ ?_) ?_
                    · intro k v9 ys9 I9 oI9 C9 oC9 D9 m9 h9' tk9 E9 hk9 hP9 hoC9 hx9 hI9 F9 N9 off9
                      obtain ⟨t9, rfl⟩ := hP9
                      rw [Int.zero_add] at hx9
                      clear FBu NBu RBu
                      obtain ⟨tN, qN⟩ := getv IN (i := k) (by rw [nums_len]; exact hk9)
                      have bN := nums_b X0 ⟨k, hk9⟩
                      dsimp only at bN
                      obtain ⟨bN1, bN2⟩ := bN
                      obtain ⟨tO, qO⟩ := getv (show IntsAre (rv (cc X0)) (TB.getD (cc X0) []) from hrow2 _ hc8) (i := k) (by rw [TB_rows _ hc8]; exact hk9)
                      have bO := TB_b ⟨cc X0, hc8⟩ ⟨k, hk9⟩
                      dsimp only at bO
                      obtain ⟨bO1, bO2⟩ := bO
                      k_steps
                      exact EltI.intro (by k_asm) (by k_asm) (fun p hp => hp) rfl
                    · intro Du hu tku vsu nwu Fu Nu offu lowu hJu
                      obtain ⟨rfl, Iu⟩ := hJu
                      have yu : @LT.lt Nat _ er Du := lowu _ (.head _)
                      clear FBu NBu RBu
                      k_steps
                      k_dflt (refine' ListComp_C (by k_asm) ?a1 ?a2 ?a2' ?a3 ?a4 ?a5 ?_; (case a1 => with_unfolding_all rfl); (case a2 => exact fun _ => rfl); (case a2' => exact fun _ => rfl); (case a3 => rfl); (case a4 => decide); (case a5 => rfl))
                      k_steps
                      rename IsRange _ _ _ _ _ _ _ _ => RBv
                      rename News _ _ _ _ => NBv
                      rename Fr _ _ _ _ => FBv
                      refine CpSrc.range 8 (fun j ys' nw' => nw' = _ ∧ IntsAre ys' ((List.range j).map fun k : Nat => (nr X0 k : Int))) rfl FBv NBv RBv (by decide) (by rfl) (by decide) ⟨rfl, .nil⟩ (turn_ints_C _ ?_) ?_
                      · intro o v9 ys9 I9 oI9 C9 oC9 c9 oc9 D9 h9' tk9 E9 ho9 hP9 hoc9 hI9 F9 N9 off9
                        obtain ⟨t9, rfl⟩ := hP9
                        rw [Int.zero_add] at hoc9
                        have hrow := hrow1 o ho9
                        have hrow' : vsT[((o : Nat) : Int).toNat]? = some (.ref (rows o)) := by rw [Int.toNat_natCast]; exact hrow
                        have hr3 := hrow3 o ho9
                        have hnr : nr X0 o ≤ 8 := nr_le X0 o
                        clear FBv NBv RBv
                        k_steps
                        k_dflt (refine' ListComp_L (by k_asm) ?a1 ?a2 ?a3 ?a4 ?a5 ?_; (case a1 => with_unfolding_all rfl); (case a2 => decide); (case a3 => rfl); (case a4 => decide); (case a5 => rfl))
                        k_steps
                        rename IsRange _ _ _ _ _ _ _ _ => RBw
                        rename News _ _ _ _ => NBw
                        rename Fr _ _ _ _ => FBw
                        refine CpSrc.range 8 (fun j ys' nw' => nw' = _ ∧ IntsAre ys' (((List.range j).filter fun r => (sgs X0).getD r 0 == (TB.getD o []).getD r 0).map fun r : Nat => (r : Int))) rfl FBw NBw RBw (by decide) (by rfl) (by decide) ⟨rfl, .nil⟩ ?_ ?_
                        · intro k v8 ys8 nw8 I8 oI8 C8 oC8 D8 m8 h8' tk8 E8 hk9 hP8 hl8 hoC8 hx8 F8 N8 off8 hS8 hJ8
                          obtain ⟨rfl, hI8⟩ := hJ8
                          obtain ⟨t8, rfl⟩ := hP8
                          rw [Int.zero_add] at hx8
                          clear FBw NBw RBw
                          obtain ⟨tS, qS⟩ := getv (show IntsAre vs3 (sgs X0) from I3) (i := k) (by rw [sgs_len]; exact hk9)
                          obtain ⟨tO, qO⟩ := getv (show IntsAre (rv o) (TB.getD o []) from hrow2 _ ho9) (i := k) (by rw [TB_rows _ ho9]; exact hk9)
                          refine wpAny_tests_one ?_
                          k_steps
                          · exact LpEnd.intro _ (by k_asm) (by k_asm) (fun p hp => hp) off8 hS8 ⟨rfl, filt_yes (beq_iff_eq.mpr (by assumption)) hI8⟩
                          · exact LpEnd.intro _ (by k_asm) (by k_asm) (fun p hp => hp) off8 hS8 ⟨rfl, filt_no (beq_eq_false_iff_ne.mpr (by assumption)) hI8⟩
                        · intro Dw hw tkw vsw nww Fw Nw offw loww hJw
                          obtain ⟨rfl, Iw⟩ := hJw
                          have hlen : (((List.range 8).filter fun r => (sgs X0).getD r 0 == (TB.getD o []).getD r 0).map fun r : Nat => (r : Int)).length = nr X0 o := by rw [List.length_map]; rfl
                          clear FBw NBw RBw
                          k_steps
                          exact EltI.intro (by k_asm) (by k_asm) (fun p hp => .tail _ hp) rfl
                      · intro Dv hv tkv vsv nwv Fv Nv offv lowv hJv
                        obtain ⟨rfl, Iv⟩ := hJv
                        have yv : @LT.lt Nat _ Du Dv := lowv _ (.head _)
                        have hnil : IntsAre [] [] := .nil
                        clear FBv NBv RBv
                        k_steps
                        k_dflt (refine' ListComp_L (by k_asm) ?a1 ?a2 ?a3 ?a4 ?a5 ?_; (case a1 => with_unfolding_all rfl); (case a2 => decide); (case a3 => rfl); (case a4 => decide); (case a5 => rfl))
                        k_steps
                        rename IsRange _ _ _ _ _ _ _ _ => RBx
                        rename News _ _ _ _ => NBx
                        rename Fr _ _ _ _ => FBx
                        refine CpSrc.range 8 (fun j ys' nw' => nw' = _ ∧ ys' = []) rfl FBx NBx RBx (by decide) (by rfl) (by decide) ⟨rfl, rfl⟩ ?_ ?_
                        · intro k v8 ys8 nw8 I8 oI8 C8 oC8 D8 m8 h8' tk8 E8 hk9 hP8 hl8 hoC8 hx8 F8 N8 off8 hS8 hJ8
                          obtain ⟨rfl, rfl⟩ := hJ8
                          obtain ⟨t8, rfl⟩ := hP8
                          rw [Int.zero_add] at hx8
                          clear FBx NBx RBx
                          obtain ⟨tN, qN⟩ := getv IN (i := k) (by rw [nums_len]; exact hk9)
                          obtain ⟨tV, qV⟩ := getv Iv (i := k) (by rw [List.length_map, List.length_range]; exact hk9)
                          rw [getD_map_range _ _ hk9] at qV
                          have hnr : nr X0 k ≤ 8 := nr_le X0 k
                          have hP7 := nums_P7 X0 ⟨k, hk9⟩
                          dsimp only at hP7
                          refine wpAny_tests_one ?_
                          k_steps
                          exact LpEnd.intro _ (by k_asm) (by k_asm) (fun p hp => hp) off8 hS8 ⟨rfl, rfl⟩
                        · intro Dx hx tkx vsx nwx Fx Nx offx lowx hJx
                          obtain ⟨rfl, rfl⟩ := hJx
                          have yx : @LT.lt Nat _ Dv Dx := lowx _ (.head _)
                          clear FBx NBx RBx
                          k_steps
                          k_dflt (refine' max_list_N ?r1 ?r2 ?r3 ?r4 ?r5 ?r6 ?_; (case r1 => rfl); (case r2 => k_asm); (case r3 => k_asm); (case r4 => exact News.isList (by k_asm) (by k_mem)); (case r5 => exact Iv); (case r6 => rw [List.length_map, List.length_range]; decide))
                          intro hz1 M1 tM1 tkz1 Fz1 Nz1 hM1m hM1a
                          k_sweep
                          (try dsimp only)
                          k_steps
                          k_dflt (refine' min_list_N ?s1 ?s2 ?s3 ?s4 ?s5 ?s6 ?_; (case s1 => rfl); (case s2 => k_asm); (case s3 => k_asm); (case s4 => exact News.isList (by k_asm) (by k_mem)); (case s5 => exact Iv); (case s6 => rw [List.length_map, List.length_range]; decide))
                          intro hz2 M2 tM2 tkz2 Fz2 Nz2 hM2m hM2a
                          k_sweep
                          (try dsimp only)
                          have hfin := fin6 (nums_P8 X0) hM1a hM2a
                          k_steps
                          (try dsimp only)
                          refine goodW_bool (by assumption) (by assumption) (raisesW_false ?w1) ?w2
                          · wrow_none_raised
                          · wrow_post)
end Mine
end

theorem PySem.Challenge.cw_gl0002_01_holds : PySem.Challenge.rw_gl0002_01.Holds := by
  exact Mine.lawHolds
