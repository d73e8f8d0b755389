import PyProof.Rows.All
import Wide.All
import OpenK.AllK
import Wide.FinOn
import PySem.Challenge.RW_gl0002_02
set_option Elab.async false
section
open PySem PySem.W PyProof.Rows PySem.Spec PySem.Calls
set_option maxRecDepth 100000
set_option maxHeartbeats 8000000
namespace Mine

structure EmptyD (prog : Program) (w : World) (d : Addr) (o : Obj) : Prop where
  ne : (d == sysModules) = false
  it : o.IsDictOf (intKind prog w) []

abbrev tupO (vs : List Value) : Obj := { cls := .type "tuple", data := .seq vs.toArray }

/-- a contract of a def of the text: what the call wants of the ledger, what it lays onto it -/
def Says (prog : Program) (K : Frag) (w : World) (d u : Nat) (f : Addr) (vs : List Value) (Pre : List (Addr × Obj) → Prop) (Post : Value → List (Addr × Obj) → Prop) : Prop :=
  ∀ (p : Program) (loose : List Str) (mean : ExcName → Option Value) (mg mb : Str → Option Value)
    (dp un : Nat) (gd : Option (List Code)) (cn : Str) (cs : Scope) (a : Addr) (ccd : Value) (cl : List (Str × Addr)) (outer : List Env) (A₀ : Around) (base h₀ : Heap) (L : Addr) (m : Str → Option Value) (news : List (Addr × Obj)) (s : Shared) (Q E : Value → Shared → Prop),
    Below A₀ base outer h₀ → Fr h₀ L s.heap m → K.In h₀ → News h₀ L s.heap news → Top p loose mean mg mb h₀ → cs.kind = .function → Pre news → dp + d < recursionLimit → un + u < cLine →
    (∀ r tl h' tk', Fr h₀ L h' m → News h₀ L h' (tl ++ news) → (∀ q ∈ news, ∀ p ∈ tl, q.1 < p.1) → Post r tl → Q r { s with heap := h', toks := tk' }) →
    wpAny (model prog w) (ktrTop dp un gd cn cs L a ccd cl outer) (call (.ref f) vs) Q E s

theorem says_use {prog : Program} {K : Frag} {w : World} {d u : Nat} {f : Addr} {vs : List Value} {Pre : List (Addr × Obj) → Prop} {Post : Value → List (Addr × Obj) → Prop} (C : Says prog K w d u f vs Pre Post)
    {p : Program} {loose : List Str} {mean : ExcName → Option Value} {mg mb : Str → Option Value}
    {dp un : Nat} {gd : Option (List Code)} {cn : Str} {cs : Scope} {a : Addr} {ccd : Value} {cl : List (Str × Addr)} {outer : List Env} {A₀ : Around} {base h₀ : Heap} {L : Addr} {m : Str → Option Value} {news : List (Addr × Obj)} {s : Shared} {Q E : Value → Shared → Prop}
    (B : Below A₀ base outer h₀) (F : Fr h₀ L s.heap m) (X : K.In h₀) (N : News h₀ L s.heap news) (T : Top p loose mean mg mb h₀) (hk : cs.kind = .function) (hp : Pre news) (hd : dp + d < recursionLimit) (hu : un + u < cLine)
    (ret : ∀ r tl h' tk', Fr h₀ L h' m → News h₀ L h' (tl ++ news) → (∀ q ∈ news, ∀ p ∈ tl, q.1 < p.1) → Post r tl → Q r { s with heap := h', toks := tk' }) :
    wpAny (model prog w) (ktrTop dp un gd cn cs L a ccd cl outer) (call (.ref f) vs) Q E s :=
  C p loose mean mg mb dp un gd cn cs a ccd cl outer A₀ base h₀ L m news s Q E B F X N T hk hp hd hu ret

theorem ord_cons {a : Addr} {o : Obj} {tl news : List (Addr × Obj)} (h : AllLt a news) (k : ∀ q ∈ news, ∀ p ∈ tl, q.1 < p.1) : ∀ q ∈ news, ∀ p ∈ (a, o) :: tl, q.1 < p.1 := by
  intro q hq p hp
  rcases List.mem_cons.mp hp with rfl | hp
  · exact ktn_ltOf h q hq
  · exact k q hq p hp

section
variable {prog : Program} {w : World} {A : Around} {s : Shared} {cn : Str} {cs : Scope} {L a d : Addr} {ccd : Value} {h₀ : Heap} {m : Str → Option Value} {news : List (Addr × Obj)} {o : Obj}
theorem For_items_empty {Q : Flow → Shared → Prop} {xk xv x : Str} {pk pv pt pos apos cpos px : Pos} {x1} {body : List Stmt}
    (hh : A.handled = none) (F : Fr h₀ L s.heap m) (N : News h₀ L s.heap news) (hm : (d, o) ∈ news) (D : EmptyD prog w d o) (hv : m x = some (.ref d))
    (hQ : ∀ h' tk, Fr h₀ L h' m → News h₀ L h' news → Q .next { s with heap := h', toks := tk })
    (hxk : (envOf cn cs L a ccd).kindOf xk = some .local := by rfl) (hxv : (envOf cn cs L a ccd).kindOf xv = some .local := by rfl)
    (hx : (envOf cn cs L a ccd).kindOf x = some .local := by rfl) (hk : cs.kind = .function := by rfl)
    (hline : (apos.endLine == cpos.line) = true := by rfl) (hdb : (x == ("__debug__" : Str)) = false := by decide) :
    wpAny (model prog w) A (exec (.For (.Tuple [.Name xk pk, .Name xv pv] x1 pt) (.Call (.Attribute (.Name x px) "items" apos) [] [] cpos) body [] pos) (envOf cn cs L a ccd)) Q (fun _ _ => False) s := by
  obtain ⟨es, ep, c1, c2, c3, c4, c5⟩ := D.it
  obtain ⟨n1, n2, n3⟩ := N _ hm
  refine wpAny_For_items_locals (knd := intKind prog w) (kvs := []) (ep := ep) hh hxk hxv ?_ n2 D.ne ⟨o, es, n1, c1, c2, c3, c4, c5⟩ F.ns ?_ hline (fun Q' h => ld F hv h hk hx hdb) (fun i m' => i = 0 ∧ m' = m) ⟨rfl, rfl⟩ ?_ ?_
  · show (cs.kind == .class || (cs.kind == .module && L != mainGlobals)) = false; rw [hk]; rfl
  · rfl
  · intro i k v key m₁ s₁ e; simp at e
  · rintro h' tk m' hn ⟨_, rfl⟩ hk'
    refine hQ h' tk ⟨hn, fun b o e => ?_, F.above⟩ fun p hp => ⟨hk' _ _ (N p hp).2.1 (N p hp).1, (N p hp).2⟩
    exact hk' _ _ (fun q => by subst q; exact absurd (Heap.lt_size e) (Nat.not_lt.mpr F.above)) (F.keep _ _ e)
end

/-- the end of a turn of my loops -/
def TurnEnd {σ : Type} (h₀ : Heap) (L : Addr) (Led : σ → List (Addr × Obj)) (ps : σ → List (Str × Value)) (x : Str) (stored : List Str) (m₀ : Str → Option Value) (P : σ → Prop) (I : Addr) (own : List (Addr × Obj)) (s₁ s₂ : Shared) : Prop :=
  ∃ c h' tk m' news', s₂ = { s₁ with heap := h', toks := tk } ∧ Fr h₀ L h' m' ∧ News h₀ L h' news' ∧ (∀ p ∈ own, p ∈ news') ∧ (∀ p ∈ Led c, p ∈ news') ∧ (∀ p ∈ Led c, p.1 ≠ I) ∧
    (∀ p ∈ ps c, m' p.1 = some p.2) ∧ (∀ z, z ≠ x → (∀ p ∈ ps c, z ≠ p.1) → stored.contains z = false → m' z = m₀ z) ∧ P c
def TurnPost {σ : Type} (h₀ : Heap) (L : Addr) (Led : σ → List (Addr × Obj)) (ps : σ → List (Str × Value)) (x : Str) (stored : List Str) (m₀ : Str → Option Value) (P : σ → Prop) (I : Addr) (own : List (Addr × Obj)) (s₁ : Shared) (Q : Flow → Shared → Prop) (f : Flow) (s₂ : Shared) : Prop :=
  match f with
  | .ret v => Q (.ret v) s₂
  | .brk => Q .next s₂
  | _ => TurnEnd h₀ L Led ps x stored m₀ P I own s₁ s₂

theorem TurnEnd.intro {σ : Type} {h₀ : Heap} {L : Addr} {Led : σ → List (Addr × Obj)} {ps : σ → List (Str × Value)} {x : Str} {stored : List Str} {m₀ : Str → Option Value} {P : σ → Prop} {I : Addr} {own : List (Addr × Obj)} {s₁ : Shared} (c : σ) {h' : Heap} {tk : Nat} {m' : Str → Option Value} {news' : List (Addr × Obj)}
    (F : Fr h₀ L h' m') (N : News h₀ L h' news') (ho : ∀ p ∈ own, p ∈ news') (hl : ∀ p ∈ Led c, p ∈ news') (hne : ∀ p ∈ Led c, p.1 ≠ I)
    (hk : ∀ p ∈ ps c, m' p.1 = some p.2) (hr : ∀ z, z ≠ x → (∀ p ∈ ps c, z ≠ p.1) → stored.contains z = false → m' z = m₀ z) (hp : P c) : TurnEnd h₀ L Led ps x stored m₀ P I own s₁ { s₁ with heap := h', toks := tk } :=
  ⟨c, h', tk, m', news', rfl, F, N, ho, hl, hne, hk, hr, hp⟩

section
variable {prog : Program} {w : World} {A : Around} {E : Value → Shared → Prop} {s : Shared} {env : Env} {h₀ : Heap} {x : Str} {body : List Stmt} {Q : Flow → Shared → Prop}

end

/-- an item of a list on the ledger, at a place that is not written -/
theorem item_at {prog : Program} {w : World} {A : Around} {E : Value → Shared → Prop} {s : Shared} {h₀ : Heap} {L : Addr} {news : List (Addr × Obj)} {value slice : PySem.Expr} {l : Addr} {vs : List Value} {n : Nat} {k : Int} {u : Tok} {v : Value} {Q : Value → Shared → Prop}
    (N : News h₀ L s.heap news) (hm : (l, listOf vs.toArray n) ∈ news) (h0 : 0 ≤ k) (hhi : k < 2 ^ 63) (hx : vs[k.toNat]? = some v) (h : Q v s)
    (hs : subscripted slice false (.ref l) (.int k u) = operate [.ref l, .int k u] (getItem (.ref l) (.int k u)) := by with_unfolding_all rfl) :
    wpAny (model prog w) A (subscriptTail value slice (.ref l) (.int k u)) Q E s :=
  tail_any (News.isList N hm).typeIs slot_list_getitem.lookup (wpAny_getItem_list (News.isList N hm) h0 hhi (by simpa using hx) h) hs
end Mine
end

section
open PySem PySem.W PyProof.Rows
set_option maxRecDepth 100000
set_option maxHeartbeats 8000000
namespace Mine
open_top hd for PySem.Challenge.rw_gl0002_02
end Mine
end

section
open PySem PySem.W PyProof.Rows PySem.Spec PySem.Calls
set_option maxRecDepth 100000
set_option maxHeartbeats 8000000
namespace Mine

local macro_rules | `(tactic| k_mem) => `(tactic| first | assumption | exact List.Mem.head _ | (refine' List.Mem.tail _ ?_; k_mem))
local macro_rules | `(tactic| walk_at "exec For Tuple Call cons nil") => `(tactic| (k_here; k_dflt (refine' For_items_empty ?k1 ?k2 ?k3 ?k4 ?k5 ?k6 ?_; (case k1 => exact rfl); (case k2 => k_asm); (case k3 => k_asm); (case k6 => exact rfl); (case k5 => first | assumption | exact EmptyD.mk (by assumption) (by assumption)); (case k4 => k_mem); k_whole); intro h' tk' F' N'; (try k_sweep); (try dsimp only)))

theorem addCallers (w : World) (x y : Addr) (ox oy : Obj) (ex : EmptyD PySem.Challenge.rw_gl0002_02.row.prog w x ox) (ey : EmptyD PySem.Challenge.rw_gl0002_02.row.prog w y oy) :
    Says PySem.Challenge.rw_gl0002_02.row.prog (hd.heap_39 w.params) w 3 20 28 [.ref x, .ref y] (fun news => (x, ox) ∈ news ∧ (y, oy) ∈ news) (fun r tl => ∃ d o, r = .ref d ∧ tl = [(d, o)] ∧ EmptyD PySem.Challenge.rw_gl0002_02.row.prog w d o) := by
  unfold Says
  w_top off
  k_fill
  intro p loose mean mg mb dp un gd cn cs a ccd cl outer A₀ base h₀ L m news s Q E B F X N T hk ⟨hx, hy⟩ hd hu hret
  refine wpAny_noRaise ?_
  refine wpAny_call ?_
  k_dflt ktr_enter
  all_goals refine wpAny_noRaise ?_
  k_steps
  exact hret _ [_] _ _ (by k_asm) (by k_asm) (ktn_ord1 (allLt_of (by assumption))) ⟨_, _, rfl, rfl, ⟨by assumption, by assumption⟩⟩

local macro_rules | `(tactic| walk_at "call ref") => `(tactic| (k_here; k_dflt (refine' says_use (addCallers _ _ _ _ _ ?e1 ?e2) ?k1 ?k2 ?k3 ?k4 ?k5 ?k6 ?k7 ?k8 ?k9 ?_; (case k1 => k_asm); (case k2 => k_asm); (case k3 => k_asm); (case k4 => k_asm); (case k5 => k_asm); (case k6 => first | assumption | exact rfl); (case e1 => assumption); (case e2 => assumption); (case k7 => exact ⟨by k_mem, by k_mem⟩); (case k8 => ktr_room); (case k9 => ktr_units); k_whole); intro r' tl' h' tk' F' N' l' hp'; obtain ⟨d', o', hr', htl', D'⟩ := hp'; subst hr' htl'; (try simp only [List.cons_append, List.nil_append] at N'); (try k_sweep); (try dsimp only)))

theorem addFuncStats (w : World) (x y dx dy : Addr) (ox oy : Obj) (ex : EmptyD PySem.Challenge.rw_gl0002_02.row.prog w dx ox) (ey : EmptyD PySem.Challenge.rw_gl0002_02.row.prog w dy oy) (a b c d a' b' c' d' : Int) (t1 t2 t3 t4 t5 t6 t7 t8 : Tok) :
    Says PySem.Challenge.rw_gl0002_02.row.prog (hd.heap_39 w.params) w 5 40 21 [.ref x, .ref y] (fun news => (x, tupO [.int a t1, .int b t2, .int c t3, .int d t4, .ref dx]) ∈ news ∧ (dx, ox) ∈ news ∧ (y, tupO [.int a' t5, .int b' t6, .int c' t7, .int d' t8, .ref dy]) ∈ news ∧ (dy, oy) ∈ news)
      (fun r tl => ∃ e d₁ o t1' t2' t3' t4', r = .ref e ∧ tl = [(e, tupO [.int (a' + a) t1', .int (b' + b) t2', .int (c' + c) t3', .int (d' + d) t4', .ref d₁]), (d₁, o)] ∧ EmptyD PySem.Challenge.rw_gl0002_02.row.prog w d₁ o) := by
  unfold Says
  w_top off
  k_fill
  intro p loose mean mg mb dp un gd cn cs a ccd cl outer A₀ base h₀ L m news s Q E B F X N T hk ⟨hx, hdx, hy, hdy⟩ hd hu hret
  refine wpAny_noRaise ?_
  refine wpAny_call ?_
  k_dflt ktr_enter
  all_goals refine wpAny_noRaise ?_
  k_steps
  rename EmptyD _ _ _ _ => D1
  exact hret _ [_, _] _ _ (by k_asm) (by k_asm) (ord_cons (And.right (by assumption)) (by assumption)) ⟨_, _, _, _, _, _, _, rfl, rfl, D1⟩

end Mine
end

section
open PySem PySem.W PyProof.Rows PySem.Spec PySem.Calls
set_option maxRecDepth 100000
set_option maxHeartbeats 800000
namespace Mine
local macro_rules | `(tactic| walk_at "zz0") => `(tactic| fail)
local macro_rules | `(tactic| walk_at "zz1") => `(tactic| fail)
local macro_rules | `(tactic| walk_at "zz2") => `(tactic| fail)
local macro_rules | `(tactic| walk_at "zz3") => `(tactic| fail)
local macro_rules | `(tactic| walk_at "zz4") => `(tactic| fail)
local macro_rules | `(tactic| walk_at "zz5") => `(tactic| fail)
local macro_rules | `(tactic| walk_at "zz6") => `(tactic| fail)
local macro_rules | `(tactic| walk_at "zz7") => `(tactic| fail)
local macro_rules | `(tactic| walk_at "zz8") => `(tactic| fail)
local macro_rules | `(tactic| walk_at "zz9") => `(tactic| fail)
local macro_rules | `(tactic| walk_at "zz10") => `(tactic| fail)
local macro_rules | `(tactic| walk_at "zz11") => `(tactic| fail)
local macro_rules | `(tactic| walk_at "zz12") => `(tactic| fail)
local macro_rules | `(tactic| walk_at "zz13") => `(tactic| fail)
local macro_rules | `(tactic| walk_at "zz14") => `(tactic| fail)
local macro_rules | `(tactic| walk_at "zz15") => `(tactic| fail)
local macro_rules | `(tactic| walk_at "zz16") => `(tactic| fail)
local macro_rules | `(tactic| walk_at "zz17") => `(tactic| fail)
local macro_rules | `(tactic| walk_at "zz18") => `(tactic| fail)
local macro_rules | `(tactic| walk_at "zz19") => `(tactic| fail)

section
variable {prog : Program} {w : World} {A : Around} {E : Value → Shared → Prop} {s : Shared} {Q : Value → Shared → Prop} {a n r : Int} {t u : Tok}
theorem shr_to (hn : 0 ≤ n) (e : a.fdiv (2 ^ n.toNat) = r) (h : Q (.int r s.toks) { s with toks := s.toks + 1 }) : wpAny (model prog w) A (binaryOp .RShift (.int a t) (.int n u)) Q E s :=
  rshift_int hn (by rw [e]; exact h)
theorem mul_to (hm : IntMulOk a n) (e : a * n = r) (h : Q (.int r s.toks) { s with toks := s.toks + 1 }) : wpAny (model prog w) A (binaryOp .Mult (.int a t) (.int n u)) Q E s :=
  PyProof.Rows.mul_int (by rw [e]; exact h) hm
theorem shl_to (hn : 0 ≤ n) (hn2 : n ≤ 1000000) (ha : a.natAbs < 2 ^ 64) (e : a * 2 ^ n.toNat = r) (h : Q (.int r s.toks) { s with toks := s.toks + 1 }) : wpAny (model prog w) A (binaryOp .LShift (.int a t) (.int n u)) Q E s :=
  lshift_int_small hn hn2 ha (by rw [e]; exact h)
theorem xor_to (e : Builtin.bitXor a n = r) (h : Q (.int r s.toks) { s with toks := s.toks + 1 }) : wpAny (model prog w) A (binaryOp .BitXor (.int a t) (.int n u)) Q E s :=
  xor_int (by rw [e]; exact h)
end
theorem ite_yes {c : Bool} {P Q : Prop} (h : c = true) (p : P) : if c = true then P else Q := by rw [if_pos h]; exact p
theorem ite_no {c : Bool} {P Q : Prop} (h : c = false) (q : Q) : if c = true then P else Q := by rw [if_neg (by rw [h]; exact Bool.false_ne_true)]; exact q

theorem bits_lo : ∀ x : Fin 256, ∀ s : Fin 5, ∀ j : Fin 8, j.val < s.val → ((x.val : Int) % 2 ^ s.val) / 2 ^ j.val % 2 = (x.val : Int) / 2 ^ j.val % 2 := by decide +kernel
theorem bits_hi : ∀ x : Fin 256, ∀ s : Fin 5, ∀ j : Fin 8, ((x.val : Int) / 2 ^ s.val) / 2 ^ j.val % 2 = (x.val : Int) / 2 ^ (s.val + j.val) % 2 := by decide +kernel
theorem bits_xor : ∀ x : Fin 256, ∀ s : Fin 5, Builtin.bitXor (x.val : Int) ((x.val : Int) / 2 ^ s.val * 2 ^ s.val) = (x.val : Int) % 2 ^ s.val := by decide +kernel
theorem bits_b : ∀ x : Fin 256, ∀ s : Fin 5, ∀ k : Fin 9, (x.val : Int) < 2 ^ k.val → s.val ≤ k.val → (x.val : Int) / 2 ^ s.val < 2 ^ (k.val - s.val) ∧ 0 ≤ (x.val : Int) / 2 ^ s.val ∧ (x.val : Int) % 2 ^ s.val < 2 ^ s.val ∧ 0 ≤ (x.val : Int) % 2 ^ s.val := by decide +kernel

local macro_rules | `(tactic| k_mem) => `(tactic| first | assumption | exact List.Mem.head _ | (refine' List.Mem.tail _ ?_; k_mem))
local macro_rules | `(tactic| k_all) => `(tactic| assumption)
local macro_rules | `(tactic| k_steps) => `(tactic| repeat' ((fail_if_success (with_reducible show wpAny _ _ (pyIter (Value.ref _)) (fun it s₂ => LoopAtV _ _ _ _ _ _ _ _ _ it s₂) _ _)); (fail_if_success (with_reducible show wpAny _ _ (call (Value.ref _) _) _ _ _)); first | (k_unfold; (try dsimp only)) | (k_end; wrow_close) | walk1 | (dsimp only; walk1) | (leave1; walk_say "STEP leave1"; try dsimp only) | fail "no step"))
local macro_rules | `(tactic| walk_at "eval Name") => `(tactic| (k_here; (with_reducible show wpAny _ _ (eval (Expr.Name _ _) (envX _ _ _ _ _ _)) _ _ _); k_dflt (refine' nameX_F ?N ?c ?m ?d ?_ ?a ?b; (case a => rfl); (case b => rfl); (case N => k_asm); (case c => rfl); (case m => k_mem); (case d => k_asm); k_whole)))
local macro_rules | `(tactic| walk_at "ite") => `(tactic| (k_here; first | refine ite_yes (by simp only [beq_iff_eq, bne_iff_ne, decide_eq_true_eq]; omega) ?_ | refine ite_no (by simp only [beq_eq_false_iff_ne, bne_eq_false_iff_eq, decide_eq_false_iff_not]; omega) ?_))
local macro_rules | `(tactic| walk_at "binaryOp RShift int int") => `(tactic| (k_here; k_dflt ((refine' shr_to ?ca ?cb ?_); (case ca => first | decide | omega); (case cb => assumption))))
local macro_rules | `(tactic| walk_at "binaryOp LShift int int") => `(tactic| (k_here; k_dflt ((refine' shl_to ?ca ?cc ?cd ?cb ?_); (case ca => first | decide | omega); (case cc => omega); (case cd => omega); (case cb => exact rfl))))
local macro_rules | `(tactic| walk_at "binaryOp Mult int int") => `(tactic| (k_here; k_dflt ((refine' mul_to ?ca ?cb ?_); (case ca => mul_fits); (case cb => assumption))))
local macro_rules | `(tactic| walk_at "binaryOp BitXor int int") => `(tactic| (k_here; k_dflt ((refine' xor_to ?cb ?_); (case cb => assumption))))
local macro_rules | `(tactic| walk_at "callWith ref") => `(tactic| (k_here; k_dflt (refine' callWith_F ?k1 ?_; (case k1 => exact FnAt.of (by k_asm) (by k_mem)); k_whole)))
local macro_rules | `(tactic| walk_at "FnAt") => `(tactic| (k_dflt (exact FnAt.of (by k_asm) (by k_mem))))

def innerOf (p : Program) (x : Str) : Option Stmt :=
  (p.main.body.find? fun st => match st with | .FunctionDef n .. => n == x | _ => false).bind fun st => match st with
    | .FunctionDef _ _ body .. => body.find? fun st => match st with | .FunctionDef .. => true | _ => false
    | _ => none
def IsInner (p : Program) (x : Str) (name : Str) (params : Arguments) (body : List Stmt) (scope : Scope) : Prop :=
  ∃ pos, innerOf p x = some (.FunctionDef name params body [] none [] scope none name pos)

/-- _int2digits' inner: it writes x's figures by two into the places lo .. hi - 1 of the list at D -/
def InnerSays (prog : Program) (K : Frag) (w : World) (f D : Addr) (rest : List (Addr × Obj)) (k : Nat) : Prop :=
  ∀ (p : Program) (loose : List Str) (mean : ExcName → Option Value) (mg mb : Str → Option Value)
    (dp un : Nat) (gd : Option (List Code)) (cn : Str) (cs : Scope) (a : Addr) (ccd : Value) (cl : List (Str × Addr)) (outer : List Env) (A₀ : Around) (base h₀ : Heap) (L : Addr) (m : Str → Option Value) (s : Shared) (Q E : Value → Shared → Prop)
    (vs : List Value) (ns : List Int) (n lo hi : Nat) (x : Int) (tx tl th : Tok),
    Below A₀ base outer h₀ → Fr h₀ L s.heap m → K.In h₀ → News h₀ L s.heap ((D, listOf vs.toArray n) :: rest) → Top p loose mean mg mb h₀ → cs.kind = .function → IntsAre vs ns →
    lo + k = hi → 0 < k → hi ≤ ns.length → ns.length ≤ 8 → 0 ≤ x → x < 2 ^ k → dp + 2 * k + 2 < recursionLimit → un + 20 * k + 40 < cLine →
    (∀ (vs' : List Value) (ns' : List Int) (h' : Heap) (tk' : Nat), Fr h₀ L h' m → News h₀ L h' ((D, listOf vs'.toArray n) :: rest) → IntsAre vs' ns' → ns'.length = ns.length →
      (∀ i, ns'.getD i 0 = if lo ≤ i ∧ i < hi then x / 2 ^ (i - lo) % 2 else ns.getD i 0) → Q .none { s with heap := h', toks := tk' }) →
    wpAny (model prog w) (ktrTop dp un gd cn cs L a ccd cl outer) (call (.ref f) [.int x tx, .int (lo : Int) tl, .int (hi : Int) th]) Q E s
theorem inner_use {prog : Program} {K : Frag} {w : World} {f D : Addr} {rest : List (Addr × Obj)} {k : Nat} (C : InnerSays prog K w f D rest k)
    {p : Program} {loose : List Str} {mean : ExcName → Option Value} {mg mb : Str → Option Value}
    {dp un : Nat} {gd : Option (List Code)} {cn : Str} {cs : Scope} {a : Addr} {ccd : Value} {cl : List (Str × Addr)} {outer : List Env} {A₀ : Around} {base h₀ : Heap} {L : Addr} {m : Str → Option Value} {s : Shared} {Q E : Value → Shared → Prop}
    {vs : List Value} {ns : List Int} {n lo hi : Nat} {x : Int} {tx tl th : Tok}
    (B : Below A₀ base outer h₀) (F : Fr h₀ L s.heap m) (X : K.In h₀) (N : News h₀ L s.heap ((D, listOf vs.toArray n) :: rest)) (T : Top p loose mean mg mb h₀) (hk : cs.kind = .function) (hI : IntsAre vs ns)
    (h1 : lo + k = hi) (h2 : 0 < k) (h3 : hi ≤ ns.length) (h4 : ns.length ≤ 8) (h5 : 0 ≤ x) (h6 : x < 2 ^ k) (h7 : dp + 2 * k + 2 < recursionLimit) (h8 : un + 20 * k + 40 < cLine)
    (ret : ∀ (vs' : List Value) (ns' : List Int) (h' : Heap) (tk' : Nat), Fr h₀ L h' m → News h₀ L h' ((D, listOf vs'.toArray n) :: rest) → IntsAre vs' ns' → ns'.length = ns.length →
      (∀ i, ns'.getD i 0 = if lo ≤ i ∧ i < hi then x / 2 ^ (i - lo) % 2 else ns.getD i 0) → Q .none { s with heap := h', toks := tk' }) :
    wpAny (model prog w) (ktrTop dp un gd cn cs L a ccd cl outer) (call (.ref f) [.int x tx, .int (lo : Int) tl, .int (hi : Int) th]) Q E s :=
  C p loose mean mg mb dp un gd cn cs a ccd cl outer A₀ base h₀ L m s Q E vs ns n lo hi x tx tl th B F X N T hk hI h1 h2 h3 h4 h5 h6 h7 h8 ret

theorem innerSays (w : World) (name qual : Str) (params : Arguments) (body : List Stmt) (scope : Scope) (h : IsInner PySem.Challenge.rw_gl0002_02.row.prog (Str.ofString "_int2digits") name params body scope)
    (f D cA cI cN c' : Addr) (oA oI oN oc : Obj) (doc pm ctv : Value) (tN tq : Tok) (fs : Array Value) (rest : List (Addr × Obj))
    (hf : (f, fnMade name qual params body scope [(Str.ofString "n", cN), (Str.ofString "inner", cI), (Str.ofString "a_digits", cA)] doc pm c' ctv) ∈ rest)
    (hc : (c', oc) ∈ rest) (hc1 : oc.data = .fields fs) (hc2 : fs[1]? = some (.str qual tq))
    (hA : (cA, oA) ∈ rest) (hA' : oA.data = .cell (some (.ref D))) (hI : (cI, oI) ∈ rest) (hI' : oI.data = .cell (some (.ref f))) (hN : (cN, oN) ∈ rest) (hN' : oN.data = .cell (some (.int 1 tN)))
    (hD : ∀ p ∈ rest, p.1 ≠ D) : ∀ k, InnerSays PySem.Challenge.rw_gl0002_02.row.prog (hd.heap_39 w.params) w f D rest k := by
  w_top off
  k_fill
  obtain ⟨pos, h⟩ := h
  conv at h => lhs; whnf
  cases h
  intro k
  induction k using Nat.strongRecOn with
  | ind k IH =>
  unfold InnerSays
  intro p loose mean mg mb dp un gd cn cs a ccd cl outer A₀ base h₀ L m s Q E vs ns n lo hi x tx tl th B F X N T hk hints hlh hk0 hhv hv8 hx0 hxk hd hu hret
  refine wpAny_noRaise ?_
  refine wpAny_call ?_
  k_dflt (refine' code_nest ?k1 ?k2 ?k3 ?k4 ?k5 ?kA ?kF ?kK ?k6 ?k7 ?k8 ?k9 ?kB ?_ ?c2 ?c3 ?c4 ?c5; (case kA => exact rfl); (case kF => exact rfl); (case kK => assumption); (case k1 => k_asm); (case k2 => k_asm); (case k3 => k_asm); (case k4 => k_asm); (case k5 => k_asm); (case k6 => k_mem); (case k7 => exact codeRec_news (by k_asm) (by k_mem) (by assumption) (by assumption)); (case k8 => ktr_room); (case k9 => exact BindsTo.of_eq rfl); (case c5 => decide); (case kB => exact locs rfl); (case c2 => exact rfl); (case c3 => exact rfl); (case c4 => exact rfl); k_whole; intro g' L' h' FG' F' N' B' X' T'; (try dsimp only); (try k_lift B'); (try k_fold))
  all_goals refine wpAny_noRaise ?_
  have h256 : x < 256 := Int.lt_of_lt_of_le hxk (by
    have : (2 : Int) ^ k ≤ 2 ^ 8 := by exact_mod_cast Nat.pow_le_pow_right (by decide : 0 < 2) (by omega : k ≤ 8)
    exact this)
  obtain ⟨X0, rfl⟩ : ∃ X : Fin 256, x = (X.val : Int) := ⟨⟨x.toNat, by omega⟩, by simp; omega⟩
  by_cases hk1 : k = 1
  · have e1 : (lo : Int) + 1 = (hi : Int) := by omega
    k_steps
    rename IntsAre _ _ => hi1
    refine hret _ _ _ _ (by k_asm) (by k_asm) hi1 (by simp) fun i => ?_
    rw [Int.toNat_natCast, List.getD_eq_getElem?_getD, List.getElem?_set]
    subst hk1
    by_cases hil : lo = i
    · subst hil
      rw [if_pos rfl, if_pos (by omega), if_pos (by omega)]
      simp; omega
    · rw [if_neg hil, if_neg (by omega), List.getD_eq_getElem?_getD]
  · have e1 : (lo : Int) + 1 ≠ (hi : Int) := by omega
    obtain ⟨hsb1, hsb2, hsb3, hsb4⟩ := bits_b X0 ⟨k / 2, by omega⟩ ⟨k, by omega⟩ hxk (by show k / 2 ≤ k; omega)
    dsimp only at hsb1 hsb2 hsb3 hsb4
    have eM : ((lo : Int) + (hi : Int)).fdiv (2 ^ (1 : Int).toNat) = ((lo + k / 2 : Nat) : Int) := by
      rw [show (2 : Int) ^ (1 : Int).toNat = 2 from rfl, Int.fdiv_eq_ediv_of_nonneg _ (by decide)]; omega
    have eS : (((lo + k / 2 : Nat) : Int) - (lo : Int)) * 1 = ((k / 2 : Nat) : Int) := by omega
    have eU : (X0.val : Int).fdiv (2 ^ ((k / 2 : Nat) : Int).toNat) = (X0.val : Int) / 2 ^ (k / 2) := by
      rw [Int.toNat_natCast, Int.fdiv_eq_ediv_of_nonneg _ (by exact_mod_cast Nat.zero_le _)]
    have eX : Builtin.bitXor (X0.val : Int) ((X0.val : Int) / 2 ^ (k / 2) * 2 ^ ((k / 2 : Nat) : Int).toNat) = (X0.val : Int) % 2 ^ (k / 2) := by
      rw [Int.toNat_natCast]; exact bits_xor X0 ⟨k / 2, by omega⟩
    have hub : (X0.val : Int) / 2 ^ (k / 2) < 256 := Int.lt_of_le_of_lt (Int.ediv_le_self _ (by omega)) h256
    generalize hup : (X0.val : Int) / 2 ^ (k / 2) = up at *
    generalize hlw : (X0.val : Int) % 2 ^ (k / 2) = lw at *
    k_steps
    k_dflt (refine' inner_use (IH (k / 2) (by omega)) ?k1 ?k2 ?k3 ?k4 ?k5 ?k6 ?k7 rfl (by omega) (by omega) hv8 hsb4 hsb3 ?k8 ?k9 ?_; (case k1 => k_asm); (case k2 => k_asm); (case k3 => k_asm); (case k4 => k_asm); (case k5 => k_asm); (case k6 => exact rfl); (case k7 => assumption); (case k8 => ktr_room); (case k9 => ktr_units); k_whole)
    intro vs1 ns1 h1 tk1 F1 N1 I1 l1 q1
    k_sweep
    (try dsimp only)
    k_steps
    k_dflt (refine' inner_use (lo := lo + k / 2) (hi := hi) (ns := ns1) (IH (k - k / 2) (by omega)) ?k1 ?k2 ?k3 ?k4 ?k5 ?k6 ?k7 (by omega) (by omega) (by omega) (by omega) hsb2 hsb1 ?k8 ?k9 ?_; (case k1 => k_asm); (case k2 => k_asm); (case k3 => k_asm); (case k4 => k_asm); (case k5 => k_asm); (case k6 => exact rfl); (case k7 => assumption); (case k8 => ktr_room); (case k9 => ktr_units); k_whole)
    intro vs2 ns2 h2 tk2 F2 N2 I2 l2 q2
    k_sweep
    (try dsimp only)
    k_steps
    refine hret _ _ _ _ (by k_asm) (by k_asm) I2 (by omega) fun i => ?_
    rw [q2 i, q1 i]
    by_cases hi1 : lo + k / 2 ≤ i ∧ i < hi
    · rw [if_pos hi1, if_pos (by omega), ← hup]
      have := bits_hi X0 ⟨k / 2, by omega⟩ ⟨i - (lo + k / 2), by omega⟩
      dsimp only at this
      rw [this, show k / 2 + (i - (lo + k / 2)) = i - lo from by omega]
    · rw [if_neg hi1]
      by_cases hi2 : lo ≤ i ∧ i < lo + k / 2
      · rw [if_pos hi2, if_pos (by omega), ← hlw]
        exact bits_lo X0 ⟨k / 2, by omega⟩ ⟨i - lo, by omega⟩ (by show i - lo < k / 2; omega)
      · rw [if_neg hi2, if_neg (by omega)]
end Mine
end

section
open PySem PySem.W PyProof.Rows PySem.Spec PySem.Calls
set_option maxRecDepth 100000
set_option maxHeartbeats 800000
namespace Mine

theorem codeHd_mk {h : Heap} {c P : Addr} {vs : Array Value} {d : Option Addr} {sl : Array (Option Value)} {file : Str} {tf : Tok} {flags : Int} {tg : Tok} {inF : Bool} {text : Int} {tt : Tok} (e : h.get? c = some ⟨.type "code", d, .fields vs, sl⟩)
    (a : vs[11]? = some (.ref P)) (a' : vs.getD 11 .none = .ref P) (b : vs.getD 18 .none = .str file tf) (f : vs.getD 7 .none = .int flags tg) (g : vs.getD 9 .none = .bool inF) (i : vs.getD 10 .none = .int text tt) (n : c ≠ P) : CodeHd h c P :=
  ⟨_, vs, file, tf, flags, tg, inF, text, tt, e, rfl, rfl, a, a', b, f, g, i, n⟩
theorem codeHd34 (w : World) : ∀ (h : Heap) (X : (hd.heap_39 w.params).In h) (q : PySem.Challenge.rw_gl0002_02 = PySem.Challenge.rw_gl0002_02), CodeHd h 34 30 := by
  w_top off
  k_fill
  intro h X _
  refine' codeHd_mk (X 34 _ ?e) ?a ?a' ?b ?f ?g ?i ?n
  case e => k_is
  case n => decide
  case a => exact rfl
  case a' => exact rfl
  case b => exact rfl
  case f => exact rfl
  case g => exact rfl
  case i => exact rfl
theorem codeHd41 (w : World) : ∀ (h : Heap) (X : (hd.heap_39 w.params).In h) (q : PySem.Challenge.rw_gl0002_02 = PySem.Challenge.rw_gl0002_02), CodeHd h 41 37 := by
  w_top off
  k_fill
  intro h X _
  refine' codeHd_mk (X 41 _ ?e) ?a ?a' ?b ?f ?g ?i ?n
  case e => k_is
  case n => decide
  case a => exact rfl
  case a' => exact rfl
  case b => exact rfl
  case f => exact rfl
  case g => exact rfl
  case i => exact rfl

theorem bl_facts : ∀ x : Fin 256, Builtin.Int.intBits (x.val : Int) ≤ 8 ∧ (x.val : Int) < 2 ^ Builtin.Int.intBits (x.val : Int) ∧ ((x.val : Int) = 0 ↔ Builtin.Int.intBits (x.val : Int) = 0) := by decide +kernel
def digs (x : Fin 256) : List Int := (List.range (Builtin.Int.intBits (x.val : Int))).map fun i => (x.val : Int) / 2 ^ i % 2
abbrev tab30 (c' : Addr) : Obj := tabObj #[rawInt 23, rawInt 4, .ref c']

theorem news_swap {h₀ h : Heap} {L : Addr} {a b : Addr × Obj} {r : List (Addr × Obj)} (N : News h₀ L h (a :: b :: r)) : News h₀ L h (b :: a :: r) := fun p hp => N p (by
  rcases List.mem_cons.mp hp with rfl | hp
  · exact .tail _ (.head _)
  · rcases List.mem_cons.mp hp with rfl | hp
    · exact .head _
    · exact .tail _ (.tail _ hp))
theorem ext_getD {l l' : List Int} (h : l.length = l'.length) (e : ∀ i, i < l.length → l.getD i 0 = l'.getD i 0) : l = l' := by
  refine List.ext_getElem h fun i h1 h2 => ?_
  have := e i h1
  rw [List.getD_eq_getElem?_getD, List.getD_eq_getElem?_getD, List.getElem?_eq_getElem h1, List.getElem?_eq_getElem h2] at this
  exact this
theorem len_to {prog : Program} {w : World} {A : Around} {E : Value → Shared → Prop} {s : Shared} {h₀ : Heap} {L : Addr} {news : List (Addr × Obj)} {D : Addr} {vs : List Value} {ns : List Int} {c k : Nat} {Q : Value → Shared → Prop} (N : News h₀ L s.heap news) (hm : (D, listOf vs.toArray c) ∈ news) (hI : IntsAre vs ns) (e : ns.length = k) (hf : k < 2 ^ 62) (h : Q (.int (k : Nat) (s.toks + 1)) { s with toks := s.toks + 1 + 1 }) :
    wpAny (model prog w) A (call (.builtin "len") [.ref D]) Q E s :=
  KM.len_K N hm (by rw [List.size_toArray, hI.length, e]) hf h

section
variable {prog : Program} {w : World} {A : Around} {E : Value → Shared → Prop} {s : Shared} {Q : Value → Shared → Prop} {a n r : Int} {t u : Tok}
theorem fdv_to (hb : n ≠ 0) (e : a.fdiv n = r) (hp : Builtin.divisionGoesByPylong a n = false) (h : Q (.int r s.toks) { s with toks := s.toks + 1 }) : wpAny (model prog w) A (binaryOp .FloorDiv (.int a t) (.int n u)) Q E s :=
  floordiv_int hb (by rw [e]; exact h) (.inl hp)
theorem rep_to {h₀ : Heap} {L : Addr} {m : Str → Option Value} {news : List (Addr × Obj)} {l : Addr} {k c : Nat} {z : Int} {tz : Tok} (F : Fr h₀ L s.heap m) (N : News h₀ L s.heap news) (hm : (l, listOf #[.int z tz] c) ∈ news) (hk : k ≤ 8)
    (h : ∀ D vs h', Fr h₀ L h' m → News h₀ L h' ((D, listOf vs.toArray 0) :: news) → (∀ p ∈ news, p.1 < D) → IntsAre vs (List.replicate k z) → Q (.ref D) { s with heap := h' }) : wpAny (model prog w) A (binaryOp .Mult (.ref l) (.int (k : Int) u)) Q E s := by
  refine KM.mul (vs := [.int z tz]) (ns := [z]) F N (News.isList N hm) (.cons _ _ .nil) (by omega) (by omega) (by simp; omega) (fun D h' F' N' l1 i1 _ _ _ _ _ => ?_)
  rw [Int.toNat_natCast] at N' i1
  rw [krep_flat] at i1
  exact h D _ h' F' N' l1 i1
end

local macro_rules | `(tactic| k_mem) => `(tactic| first | assumption | exact List.Mem.head _ | (refine' List.Mem.tail _ ?_; k_mem))
local macro_rules | `(tactic| k_all) => `(tactic| first | assumption | exact List.forall_mem_nil _ | (refine' List.forall_mem_cons.mpr ⟨?a, ?b⟩; (case a => k_ne); (case b => k_all)))
local macro_rules | `(tactic| k_steps) => `(tactic| repeat' ((fail_if_success (with_reducible show wpAny _ _ (pyIter (Value.ref _)) (fun it s₂ => LoopAtV _ _ _ _ _ _ _ _ _ it s₂) _ _)); (fail_if_success (with_reducible show wpAny _ _ (call (Value.ref _) _) _ _ _)); first | (k_unfold; (try dsimp only)) | (k_end; wrow_close) | walk1 | (dsimp only; walk1) | (leave1; walk_say "STEP leave1"; try dsimp only) | fail "no step"))
local macro_rules | `(tactic| walk_at "ite") => `(tactic| (k_here; first | refine ite_yes (by simp only [beq_iff_eq, bne_iff_ne, decide_eq_true_eq]; omega) ?_ | refine ite_no (by simp only [beq_eq_false_iff_ne, bne_eq_false_iff_eq, decide_eq_false_iff_not]; omega) ?_))
local macro_rules | `(tactic| walk_at "binaryOp FloorDiv int int") => `(tactic| (k_here; k_dflt ((refine' fdv_to ?ca ?cb ?cc ?_); (case cb => assumption); (case ca => decide); (case cc => exact PyProof.noPylong_small (by omega)))))
local macro_rules | `(tactic| walk_at "binaryOp Mult ref int") => `(tactic| (k_here; k_dflt ((refine' rep_to ?F ?N ?m ?k ?_); (case F => k_asm); (case N => k_asm); (case m => k_mem); (case k => omega); k_whole); intro D' vs' h' F' N' l1 i1; (try k_lt l1); (try k_sweep)))

local macro_rules | `(tactic| walk_at "call builtin:len") => `(tactic| (k_here; (with_reducible show wpAny _ _ (call (Value.builtin "len") [Value.ref _]) _ _ _); k_dflt (refine' len_to ?N ?m ?I ?e ?f ?_; (case N => k_asm); (case m => k_mem); (case I => assumption); (case e => exact List.length_replicate); (case f => omega); k_whole)))

theorem int2digits (w : World) (X0 : Fin 256) (tx tn : Tok) (c' : Addr) (oc : Obj) (fs : Array Value) (tq : Tok) (hc1 : oc.data = .fields fs) (hc2 : fs[1]? = some (.str (Str.ofString "_int2digits.<locals>.inner") tq)) :
    Says PySem.Challenge.rw_gl0002_02.row.prog (hd.heap_39 w.params) w 25 300 35 [.int (X0.val : Int) tx, .int 1 tn] (fun news => (30, tab30 c') ∈ news ∧ (c', oc) ∈ news)
      (fun r tl => ∃ e vs, r = .ref e ∧ tl = [(e, listOf vs.toArray 0)] ∧ IntsAre vs (digs X0)) := by
  unfold Says
  w_top off
  k_fill
  intro p loose mean mg mb dp un gd cn cs a ccd cl outer A₀ base h₀ L m news s Q E B F X N T' hk ⟨h1, h2⟩ hd hu hret
  refine wpAny_noRaise ?_
  refine wpAny_call ?_
  obtain ⟨b1, b2, b3⟩ := bl_facts X0
  obtain ⟨kb, hkb⟩ : ∃ kb, kb = Builtin.Int.intBits (X0.val : Int) := ⟨_, rfl⟩
  have eb : ((Builtin.Int.intBits (X0.val : Int) : Int) + 1 - 1).fdiv 1 = (kb : Int) := by rw [Int.fdiv_one]; omega
  have eb1 := b1
  rw [← hkb] at b1 b2 b3
  k_dflt (refine' code_defC ?k1 ?k2 ?k3 ?k4 ?k5 ?kA ?kF ?kK ?k6 ?k7 ?k8 ?k9 ?kB ?kD ?_ ?c2 ?c3 ?c4; (case kA => exact rfl); (case kF => exact rfl); (case kK => assumption); (case k1 => k_asm); (case k2 => k_asm); (case k3 => k_asm); (case k4 => k_asm); (case k5 => k_asm); (case k6 => k_is); (case k7 => k_is); (case k8 => ktr_room); (case k9 => exact BindsTo.of_eq rfl); (case kB => exact rfl); (case kD => decide +kernel); (case c2 => exact rfl); (case c3 => exact rfl); (case c4 => exact rfl); k_whole; intro g' L' h' tk' cells' FG' F' N' Y' B' X' T' l1; k_cells Y'; (try simp only [List.cons_append, List.nil_append] at N'); (try dsimp only); (try k_fold))
  all_goals refine wpAny_noRaise ?_
  have CH := codeHd34 w _ X' rfl
  have n1 : ∀ p ∈ news, p.1 ≠ L' + 1 := fun p hp => Nat.ne_of_lt (Nat.lt_succ_of_lt (l1 p hp))
  have n2 : ∀ p ∈ news, p.1 ≠ L' + 1 + 1 := fun p hp => Nat.ne_of_lt (Nat.lt_succ_of_lt (Nat.lt_succ_of_lt (l1 p hp)))
  have n3 : ∀ p ∈ news, p.1 ≠ L' + 1 + 1 + 1 := fun p hp => Nat.ne_of_lt (Nat.lt_succ_of_lt (Nat.lt_succ_of_lt (Nat.lt_succ_of_lt (l1 p hp))))
  k_steps
  · rename_i q1 q2 q3 d1 d2 d3 l hA lA D vs hB hI lB hC oA dA f ct dc hE tk2 lE hG oI FF NN dI hne
    have nD : ∀ p ∈ news, p.1 ≠ D := fun p hp => Nat.ne_of_lt (ktn_ltOf lB.2.2.2.2 p hp)
    k_dflt (refine' inner_use (lo := 0) (hi := kb) (innerSays w _ _ _ _ _ ?isin f D (L' + 1 + 1) (L' + 1 + 1 + 1) (L' + 1) c' oA oI _ oc dc _ ct tn tq fs _ (.head _) ?mc hc1 ?hq ?mA dA ?mI dI ?mN d3 ?mD kb) ?k1 ?k2 ?k3 (news_swap NN) ?k5 ?k6 hI (Nat.zero_add _) (by omega) (by simp) (by simp; omega) (by omega) b2 ?k8 ?k9 ?_; (case k1 => k_asm); (case k2 => k_asm); (case k3 => k_asm); (case k5 => k_asm); (case k6 => exact rfl); (case k8 => ktr_room); (case k9 => ktr_units); (case isin => exact ⟨_, rfl⟩); (case mc => k_mem); (case hq => exact hc2); (case mA => k_mem); (case mI => k_mem); (case mN => k_mem); (case mD => k_all); k_whole)
    intro vs1 ns1 h1 tk1 F1 N1 I1 l1 q1
    k_sweep
    (try dsimp only)
    k_steps
    refine hret (.ref D) [(D, listOf vs1.toArray 0)] _ _ (by k_asm) (kst_newsOf (by k_asm) fun p hp => ?_) (ktn_ord1 lB.2.2.2.2) ⟨D, vs1, rfl, rfl, ?_⟩
    · simp only [List.cons_append, List.nil_append, List.mem_cons] at hp ⊢
      rcases hp with hp | hp <;> simp [hp]
    · have : ns1 = digs X0 := ext_getD (by rw [l1, digs, List.length_replicate, List.length_map, List.length_range, hkb]) fun i hi => by
        rw [l1, List.length_replicate] at hi
        rw [q1 i, if_pos ⟨Nat.zero_le _, hi⟩, Nat.sub_zero, digs, ← hkb, List.getD_eq_getElem?_getD, List.getElem?_map, List.getElem?_range hi]
        rfl
      rw [← this]; exact I1
  · rename_i q1 q2 q3 d1 d2 d3 l hA lA D vs hB hI lB hC oA dA f ct dc hE tk2 lE hG oI FF NN dI hne kF kN kT kX
    have h0 : kb = 0 := b3.mp hne
    refine hret (.ref D) [(D, listOf vs.toArray 0)] _ _ (by k_asm) (kst_newsOf kN fun p hp => ?_) (ktn_ord1 lB.2.2.2.2) ⟨D, vs, rfl, rfl, ?_⟩
    · simp only [List.cons_append, List.nil_append, List.mem_cons] at hp ⊢
      rcases hp with hp | hp <;> simp [hp]
    · rw [digs, ← hkb, h0]
      rw [h0] at hI
      exact hI
end Mine
end

section
open PySem PySem.W PyProof.Rows PySem.Spec PySem.Calls
set_option maxRecDepth 100000
set_option maxHeartbeats 800000
namespace Mine
local macro_rules | `(tactic| walk_at "zz0") => `(tactic| fail)
local macro_rules | `(tactic| walk_at "zz1") => `(tactic| fail)
local macro_rules | `(tactic| walk_at "zz2") => `(tactic| fail)
local macro_rules | `(tactic| walk_at "zz3") => `(tactic| fail)
local macro_rules | `(tactic| walk_at "zz4") => `(tactic| fail)
local macro_rules | `(tactic| walk_at "zz5") => `(tactic| fail)
local macro_rules | `(tactic| walk_at "zz6") => `(tactic| fail)
local macro_rules | `(tactic| walk_at "zz7") => `(tactic| fail)
local macro_rules | `(tactic| walk_at "zz8") => `(tactic| fail)
local macro_rules | `(tactic| walk_at "zz9") => `(tactic| fail)
local macro_rules | `(tactic| walk_at "zz10") => `(tactic| fail)
local macro_rules | `(tactic| walk_at "zz11") => `(tactic| fail)
local macro_rules | `(tactic| walk_at "zz12") => `(tactic| fail)
local macro_rules | `(tactic| walk_at "zz13") => `(tactic| fail)
local macro_rules | `(tactic| walk_at "zz14") => `(tactic| fail)
local macro_rules | `(tactic| walk_at "zz15") => `(tactic| fail)
local macro_rules | `(tactic| walk_at "zz16") => `(tactic| fail)
local macro_rules | `(tactic| walk_at "zz17") => `(tactic| fail)
local macro_rules | `(tactic| walk_at "zz18") => `(tactic| fail)
local macro_rules | `(tactic| walk_at "zz19") => `(tactic| fail)

theorem news_rot3 {h₀ h : Heap} {L : Addr} {a b c : Addr × Obj} {r : List (Addr × Obj)} (N : News h₀ L h (a :: b :: c :: r)) : News h₀ L h (c :: a :: b :: r) := fun p hp => N p (by
  simp only [List.mem_cons] at hp ⊢
  rcases hp with hp | hp | hp | hp <;> simp [hp])

/-- a contract of a def that turns something of the ledger (the table of a code object) -/
def SaysM (prog : Program) (K : Frag) (w : World) (d u : Nat) (f : Addr) (vs : List Value) (news : List (Addr × Obj)) (Post : Value → List (Addr × Obj) → Prop) : Prop :=
  ∀ (p : Program) (loose : List Str) (mean : ExcName → Option Value) (mg mb : Str → Option Value)
    (dp un : Nat) (gd : Option (List Code)) (cn : Str) (cs : Scope) (a : Addr) (ccd : Value) (cl : List (Str × Addr)) (outer : List Env) (A₀ : Around) (base h₀ : Heap) (L : Addr) (m : Str → Option Value) (s : Shared) (Q E : Value → Shared → Prop),
    Below A₀ base outer h₀ → Fr h₀ L s.heap m → K.In h₀ → News h₀ L s.heap news → Top p loose mean mg mb h₀ → cs.kind = .function → dp + d < recursionLimit → un + u < cLine →
    (∀ r led h' tk', Fr h₀ L h' m → News h₀ L h' led → Post r led → Q r { s with heap := h', toks := tk' }) →
    wpAny (model prog w) (ktrTop dp un gd cn cs L a ccd cl outer) (call (.ref f) vs) Q E s

theorem saysM_use {prog : Program} {K : Frag} {w : World} {d u : Nat} {f : Addr} {vs : List Value} {news : List (Addr × Obj)} {Post : Value → List (Addr × Obj) → Prop} (C : SaysM prog K w d u f vs news Post)
    {p : Program} {loose : List Str} {mean : ExcName → Option Value} {mg mb : Str → Option Value}
    {dp un : Nat} {gd : Option (List Code)} {cn : Str} {cs : Scope} {a : Addr} {ccd : Value} {cl : List (Str × Addr)} {outer : List Env} {A₀ : Around} {base h₀ : Heap} {L : Addr} {m : Str → Option Value} {s : Shared} {Q E : Value → Shared → Prop}
    (B : Below A₀ base outer h₀) (F : Fr h₀ L s.heap m) (X : K.In h₀) (N : News h₀ L s.heap news) (T : Top p loose mean mg mb h₀) (hk : cs.kind = .function) (hd : dp + d < recursionLimit) (hu : un + u < cLine)
    (ret : ∀ r led h' tk', Fr h₀ L h' m → News h₀ L h' led → Post r led → Q r { s with heap := h', toks := tk' }) :
    wpAny (model prog w) (ktrTop dp un gd cn cs L a ccd cl outer) (call (.ref f) vs) Q E s :=
  C p loose mean mg mb dp un gd cn cs a ccd cl outer A₀ base h₀ L m s Q E B F X N T hk hd hu ret

local macro_rules | `(tactic| k_mem) => `(tactic| first | assumption | exact List.Mem.head _ | (refine' List.Mem.tail _ ?_; k_mem))
local macro_rules | `(tactic| k_all) => `(tactic| first | assumption | exact List.forall_mem_nil _ | (refine' List.forall_mem_cons.mpr ⟨?a, ?b⟩; (case a => k_ne); (case b => k_all)))
local macro_rules | `(tactic| k_steps) => `(tactic| repeat' ((fail_if_success (with_reducible show wpAny _ _ (pyIter (Value.ref _)) (fun it s₂ => LoopAtV _ _ _ _ _ _ _ _ _ it s₂) _ _)); (fail_if_success (with_reducible show wpAny _ _ (call (Value.ref _) _) _ _ _)); first | (k_unfold; (try dsimp only)) | (k_end; wrow_close) | walk1 | (dsimp only; walk1) | (leave1; walk_say "STEP leave1"; try dsimp only) | fail "no step"))
local macro_rules | `(tactic| walk_at "ite") => `(tactic| (k_here; first | refine ite_yes (by simp only [beq_iff_eq, bne_iff_ne, decide_eq_true_eq]; omega) ?_ | refine ite_no (by simp only [beq_eq_false_iff_ne, bne_eq_false_iff_eq, decide_eq_false_iff_not]; omega) ?_))
local macro_rules | `(tactic| walk_at "binaryOp FloorDiv int int") => `(tactic| (k_here; k_dflt ((refine' fdv_to ?ca ?cb ?cc ?_); (case cb => assumption); (case ca => decide); (case cc => exact PyProof.noPylong_small (by omega)))))
local macro_rules | `(tactic| walk_at "binaryOp Mult ref int") => `(tactic| (k_here; k_dflt ((refine' rep_to ?F ?N ?m ?k ?_); (case F => k_asm); (case N => k_asm); (case m => k_mem); (case k => omega); k_whole); intro D' vs' h' F' N' l1 i1; (try k_lt l1); (try k_sweep)))

local macro_rules | `(tactic| walk_at "call builtin:len") => `(tactic| (k_here; (with_reducible show wpAny _ _ (call (Value.builtin "len") [Value.ref _]) _ _ _); k_dflt (refine' len_to ?N ?m ?I ?e ?f ?_; (case N => k_asm); (case m => k_mem); (case I => assumption); (case e => exact List.length_replicate); (case f => omega); k_whole)))

theorem int2digitsCold (w : World) (X0 : Fin 256) (tx tn : Tok) (rest : List (Addr × Obj)) (hrest : ∀ p ∈ rest, p.1 ≠ 30) :
    SaysM PySem.Challenge.rw_gl0002_02.row.prog (hd.heap_39 w.params) w 25 300 35 [.int (X0.val : Int) tx, .int 1 tn] ((30, tabObj #[]) :: rest)
      (fun r led => ∃ e vs c' oc fs tq, r = .ref e ∧ led = (e, listOf vs.toArray 0) :: (c', oc) :: (30, tab30 c') :: rest ∧ IntsAre vs (digs X0) ∧ oc.data = .fields fs ∧ fs[1]? = some (.str (Str.ofString "_int2digits.<locals>.inner") tq) ∧
        e ≠ 30 ∧ c' ≠ 30 ∧ (∀ p ∈ rest, p.1 < e ∧ p.1 < c')) := by
  unfold SaysM
  w_top off
  k_fill
  intro p loose mean mg mb dp un gd cn cs a ccd cl outer A₀ base h₀ L m s Q E B F X N T' hk hd hu hret
  refine wpAny_noRaise ?_
  refine wpAny_call ?_
  obtain ⟨b1, b2, b3⟩ := bl_facts X0
  obtain ⟨kb, hkb⟩ : ∃ kb, kb = Builtin.Int.intBits (X0.val : Int) := ⟨_, rfl⟩
  have eb : ((Builtin.Int.intBits (X0.val : Int) : Int) + 1 - 1).fdiv 1 = (kb : Int) := by rw [Int.fdiv_one]; omega
  have eb1 := b1
  rw [← hkb] at b1 b2 b3
  k_dflt (refine' code_defC ?k1 ?k2 ?k3 ?k4 ?k5 ?kA ?kF ?kK ?k6 ?k7 ?k8 ?k9 ?kB ?kD ?_ ?c2 ?c3 ?c4; (case kA => exact rfl); (case kF => exact rfl); (case kK => assumption); (case k1 => k_asm); (case k2 => k_asm); (case k3 => k_asm); (case k4 => k_asm); (case k5 => k_asm); (case k6 => k_is); (case k7 => k_is); (case k8 => ktr_room); (case k9 => exact BindsTo.of_eq rfl); (case kB => exact rfl); (case kD => decide +kernel); (case c2 => exact rfl); (case c3 => exact rfl); (case c4 => exact rfl); k_whole; intro g' L' h' tk' cells' FG' F' N' Y' B' X' T' l1; k_cells Y'; (try simp only [List.cons_append, List.nil_append] at N'); (try dsimp only); (try k_fold))
  all_goals refine wpAny_noRaise ?_
  have CH := codeHd34 w _ X' rfl
  have h30 := ltN (l1 _ (.head _))
  dsimp only at h30
  have n1 : ∀ p ∈ rest, p.1 ≠ L' + 1 := fun p hp => Nat.ne_of_lt (Nat.lt_succ_of_lt (l1 p (.tail _ hp)))
  have n2 : ∀ p ∈ rest, p.1 ≠ L' + 1 + 1 := fun p hp => Nat.ne_of_lt (Nat.lt_succ_of_lt (Nat.lt_succ_of_lt (l1 p (.tail _ hp))))
  have n3 : ∀ p ∈ rest, p.1 ≠ L' + 1 + 1 + 1 := fun p hp => Nat.ne_of_lt (Nat.lt_succ_of_lt (Nat.lt_succ_of_lt (Nat.lt_succ_of_lt (l1 p (.tail _ hp)))))
  k_steps
  · rename_i q1 q2 q3 d1 d2 d3 l hA lA D vs hB hI lB hC oA dA f c' oc fs tq ct dc hE tk2 hc1 hc2 lE lF hG oI FF NN dI hne
    have nD : ∀ p ∈ rest, p.1 ≠ D := fun p hp => Nat.ne_of_lt (ktn_ltOf lB.2.2.2.2.2 p hp)
    simp only [Array.empty_append] at NN
    k_dflt (refine' inner_use (lo := 0) (hi := kb) (innerSays w _ _ _ _ _ ?isin f D (L' + 1 + 1) (L' + 1 + 1 + 1) (L' + 1) c' oA oI _ oc dc _ ct tn tq fs _ (.head _) ?mc hc1 ?hq ?mA dA ?mI dI ?mN d3 ?mD kb) ?k1 ?k2 ?k3 (news_rot3 NN) ?k5 ?k6 hI (Nat.zero_add _) (by omega) (by simp) (by simp; omega) (by omega) b2 ?k8 ?k9 ?_; (case k1 => k_asm); (case k2 => k_asm); (case k3 => k_asm); (case k5 => k_asm); (case k6 => exact rfl); (case k8 => ktr_room); (case k9 => ktr_units); (case isin => exact ⟨_, rfl⟩); (case mc => k_mem); (case hq => exact hc2); (case mA => k_mem); (case mI => k_mem); (case mN => k_mem); (case mD => k_all); k_whole)
    intro vs1 ns1 h1 tk1 F1 N1 I1 l1 q1
    k_sweep
    (try dsimp only)
    k_steps
    refine hret (.ref D) _ _ _ (by k_asm) (kst_newsOf (by k_asm) fun p hp => ?_) ⟨D, vs1, c', oc, fs, tq, rfl, rfl, ?_, hc1, hc2, ?_, ?_, ?_⟩
    · simp only [List.mem_cons] at hp ⊢
      rcases hp with hp | hp | hp | hp <;> simp [hp]
    · have : ns1 = digs X0 := ext_getD (by rw [l1, digs, List.length_replicate, List.length_map, List.length_range, hkb]) fun i hi => by
        rw [l1, List.length_replicate] at hi
        rw [q1 i, if_pos ⟨Nat.zero_le _, hi⟩, Nat.sub_zero, digs, ← hkb, List.getD_eq_getElem?_getD, List.getElem?_map, List.getElem?_range hi]
        rfl
      rw [← this]; exact I1
    · exact Nat.ne_of_gt lB.2.2.2.2.1
    · exact Nat.ne_of_gt lE.2.2.2.2.2.1
    · exact fun p hp => ⟨ktn_ltOf lB.2.2.2.2.2 p hp, ktn_ltOf lE.2.2.2.2.2.2 p hp⟩
  · rename_i q1 q2 q3 d1 d2 d3 l hA lA D vs hB hI lB hC oA dA f c' oc fs tq ct dc hE tk2 hc1 hc2 lE lF hG oI FF NN dI hne kF kN kT kX
    have h0 : kb = 0 := b3.mp hne
    simp only [Array.empty_append] at kN
    refine hret (.ref D) _ _ _ (by k_asm) (kst_newsOf kN fun p hp => ?_) ⟨D, vs, c', oc, fs, tq, rfl, rfl, ?_, hc1, hc2, ?_, ?_, ?_⟩
    · simp only [List.mem_cons] at hp ⊢
      rcases hp with hp | hp | hp | hp <;> simp [hp]
    · rw [digs, ← hkb, h0]
      rw [h0] at hI
      exact hI
    · exact Nat.ne_of_gt lB.2.2.2.2.1
    · exact Nat.ne_of_gt lE.2.2.2.2.2.1
    · exact fun p hp => ⟨ktn_ltOf lB.2.2.2.2.2 p hp, ktn_ltOf lE.2.2.2.2.2.2 p hp⟩
end Mine
end

section
open PySem PySem.W PyProof.Rows PySem.Spec PySem.Calls
set_option maxRecDepth 100000
set_option maxHeartbeats 800000
namespace Mine

def numval (ds : List Int) : Nat → Nat → Int
  | _, 0 => 0
  | lo, k + 1 => ds.getD lo 0 + 2 * numval ds (lo + 1) k
theorem numval_add (ds : List Int) (b : Nat) : ∀ (a lo : Nat), numval ds lo (a + b) = numval ds lo a + 2 ^ a * numval ds (lo + a) b
  | 0, lo => by simp [numval]
  | a + 1, lo => by
    rw [show a + 1 + b = (a + b) + 1 from by omega, numval, numval, numval_add ds b a (lo + 1), show lo + 1 + a = lo + (a + 1) from by omega, Int.pow_succ, Int.mul_add, Int.mul_comm ((2 : Int) ^ a) 2, Int.mul_assoc, Int.add_assoc]
theorem numval_bound (ds : List Int) (h : ∀ i, 0 ≤ ds.getD i 0 ∧ ds.getD i 0 ≤ 1) : ∀ k lo, 0 ≤ numval ds lo k ∧ numval ds lo k < 2 ^ k
  | 0, lo => by simp [numval]
  | k + 1, lo => by
    have := numval_bound ds h k (lo + 1)
    have := h lo
    rw [numval, Int.pow_succ]; omega

local macro_rules | `(tactic| k_mem) => `(tactic| first | assumption | exact List.Mem.head _ | (refine' List.Mem.tail _ ?_; k_mem))
local macro_rules | `(tactic| k_all) => `(tactic| assumption)
local macro_rules | `(tactic| k_steps) => `(tactic| repeat' ((fail_if_success (with_reducible show wpAny _ _ (pyIter (Value.ref _)) (fun it s₂ => LoopAtV _ _ _ _ _ _ _ _ _ it s₂) _ _)); (fail_if_success (with_reducible show wpAny _ _ (call (Value.ref _) _) _ _ _)); first | (k_unfold; (try dsimp only)) | (k_end; wrow_close) | walk1 | (dsimp only; walk1) | (leave1; walk_say "STEP leave1"; try dsimp only) | fail "no step"))
local macro_rules | `(tactic| walk_at "eval Name") => `(tactic| (k_here; (with_reducible show wpAny _ _ (eval (Expr.Name _ _) (envX _ _ _ _ _ _)) _ _ _); k_dflt (refine' nameX_F ?N ?c ?m ?d ?_ ?a ?b; (case a => rfl); (case b => rfl); (case N => k_asm); (case c => rfl); (case m => k_mem); (case d => k_asm); k_whole)))
local macro_rules | `(tactic| walk_at "ite") => `(tactic| (k_here; first | refine ite_yes (by simp only [beq_iff_eq, bne_iff_ne, decide_eq_true_eq]; omega) ?_ | refine ite_no (by simp only [beq_eq_false_iff_ne, bne_eq_false_iff_eq, decide_eq_false_iff_not]; omega) ?_))
local macro_rules | `(tactic| walk_at "binaryOp RShift int int") => `(tactic| (k_here; k_dflt ((refine' shr_to ?ca ?cb ?_); (case ca => first | decide | omega); (case cb => assumption))))
local macro_rules | `(tactic| walk_at "binaryOp LShift int int") => `(tactic| (k_here; k_dflt ((refine' shl_to ?ca ?cc ?cd ?cb ?_); (case ca => first | decide | omega); (case cc => omega); (case cd => omega); (case cb => exact rfl))))
local macro_rules | `(tactic| walk_at "binaryOp Mult int int") => `(tactic| (k_here; k_dflt ((refine' mul_to ?ca ?cb ?_); (case ca => mul_fits); (case cb => assumption))))
local macro_rules | `(tactic| walk_at "binaryOp BitXor int int") => `(tactic| (k_here; k_dflt ((refine' xor_to ?cb ?_); (case cb => assumption))))
local macro_rules | `(tactic| walk_at "callWith ref") => `(tactic| (k_here; k_dflt (refine' callWith_F ?k1 ?_; (case k1 => exact FnAt.of (by k_asm) (by k_mem)); k_whole)))
local macro_rules | `(tactic| walk_at "FnAt") => `(tactic| (k_dflt (exact FnAt.of (by k_asm) (by k_mem))))


local macro_rules | `(tactic| walk_at "subscriptTail") => `(tactic| (k_here; (with_reducible show wpAny _ _ (subscriptTail _ _ (Value.ref _) (Value.int _ _)) _ _ _); (with_unfolding_all refine' item_at ?k1 ?k2 ?k3 ?k4 ?k5 ?_ ?k6; (case k1 => k_asm); (case k2 => k_mem); (case k3 => omega); (case k4 => omega); (case k5 => assumption); (case k6 => with_unfolding_all rfl); k_whole)))

theorem inner2Says (w : World) (name qual : Str) (params : Arguments) (body : List Stmt) (scope : Scope) (h : IsInner PySem.Challenge.rw_gl0002_02.row.prog (Str.ofString "_digits2int") name params body scope)
    (f D cA cI cN c' : Addr) (oA oI oN oc : Obj) (doc pm ctv : Value) (tN tq : Tok) (fs : Array Value) (vs : List Value) (ds : List Int) (n : Nat) (hints : IntsAre vs ds) (hv8 : ds.length ≤ 8) (hds : ∀ i, 0 ≤ ds.getD i 0 ∧ ds.getD i 0 ≤ 1)
    (hc1 : oc.data = .fields fs) (hc2 : fs[1]? = some (.str qual tq))
    (hA' : oA.data = .cell (some (.ref D))) (hI' : oI.data = .cell (some (.ref f))) (hN' : oN.data = .cell (some (.int 1 tN))) : ∀ (k lo hi : Nat) (tl th : Tok), lo + k = hi → 0 < k → hi ≤ ds.length →
    Says PySem.Challenge.rw_gl0002_02.row.prog (hd.heap_39 w.params) w (2 * k + 2) (20 * k + 40) f [.int (lo : Int) tl, .int (hi : Int) th]
      (fun rest => (f, fnMade name qual params body scope [(Str.ofString "n", cN), (Str.ofString "inner", cI), (Str.ofString "digits", cA)] doc pm c' ctv) ∈ rest ∧ (c', oc) ∈ rest ∧ (cA, oA) ∈ rest ∧ (cI, oI) ∈ rest ∧ (cN, oN) ∈ rest ∧ (D, listOf vs.toArray n) ∈ rest)
      (fun r tl => ∃ t, r = .int (numval ds lo k) t ∧ tl = []) := by
  w_top off
  k_fill
  obtain ⟨pos, h⟩ := h
  conv at h => lhs; whnf
  cases h
  intro k
  induction k using Nat.strongRecOn with
  | ind k IH =>
  intro lo hi tl th hlh hk0 hhv
  unfold Says
  intro p loose mean mg mb dp un gd cn cs a ccd cl outer A₀ base h₀ L m rest s Q E B F X N T hk ⟨hf, hc, hA, hI, hN, hD⟩ hd hu hret
  refine wpAny_noRaise ?_
  refine wpAny_call ?_
  k_dflt (refine' code_nest ?k1 ?k2 ?k3 ?k4 ?k5 ?kA ?kF ?kK ?k6 ?k7 ?k8 ?k9 ?kB ?_ ?c2 ?c3 ?c4 ?c5; (case kA => exact rfl); (case kF => exact rfl); (case kK => assumption); (case k1 => k_asm); (case k2 => k_asm); (case k3 => k_asm); (case k4 => k_asm); (case k5 => k_asm); (case k6 => k_mem); (case k7 => exact codeRec_news (by k_asm) (by k_mem) (by assumption) (by assumption)); (case k8 => ktr_room); (case k9 => exact BindsTo.of_eq rfl); (case c5 => decide); (case kB => exact locs rfl); (case c2 => exact rfl); (case c3 => exact rfl); (case c4 => exact rfl); k_whole; intro g' L' h' FG' F' N' B' X' T'; (try dsimp only); (try k_lift B'); (try k_fold))
  all_goals refine wpAny_noRaise ?_
  by_cases hk1 : k = 1
  · have e1 : (lo : Int) + 1 = (hi : Int) := by omega
    obtain ⟨tS, qS⟩ := hints.get lo (ds.getD lo 0) (by rw [List.getD_eq_getElem?_getD, List.getElem?_eq_getElem (by omega)]; rfl)
    have q2 : vs[(lo : Int).toNat]? = some (.int (ds.getD lo 0) tS) := by rw [Int.toNat_natCast]; exact qS
    k_steps
    subst hk1
    exact hret _ [] _ _ (by k_asm) (by k_asm) ktn_ord0 ⟨tS, by simp [numval], rfl⟩
  · have e1 : (lo : Int) + 1 ≠ (hi : Int) := by omega
    have eM : ((lo : Int) + (hi : Int)).fdiv (2 ^ (1 : Int).toNat) = ((lo + k / 2 : Nat) : Int) := by
      rw [show (2 : Int) ^ (1 : Int).toNat = 2 from rfl, Int.fdiv_eq_ediv_of_nonneg _ (by decide)]; omega
    have eS : (((lo + k / 2 : Nat) : Int) - (lo : Int)) * 1 = ((k / 2 : Nat) : Int) := by omega
    have hb1 := numval_bound ds hds (k - k / 2) (lo + k / 2)
    have hb2 : numval ds (lo + k / 2) (k - k / 2) < 256 := Int.lt_of_lt_of_le hb1.2 (by
      have : (2 : Int) ^ (k - k / 2) ≤ 2 ^ 8 := by exact_mod_cast Nat.pow_le_pow_right (by decide : 0 < 2) (by omega : k - k / 2 ≤ 8)
      exact this)
    have hb3 := hb1.1
    k_steps
    k_dflt (refine' says_use (IH (k - k / 2) (by omega) (lo + k / 2) hi _ _ (by omega) (by omega) (by omega)) ?k1 ?k2 ?k3 ?k4 ?k5 ?k6 ?k7 ?k8 ?k9 ?_; (case k1 => k_asm); (case k2 => k_asm); (case k3 => k_asm); (case k4 => k_asm); (case k5 => k_asm); (case k6 => exact rfl); (case k7 => exact ⟨by k_mem, by k_mem, by k_mem, by k_mem, by k_mem, by k_mem⟩); (case k8 => ktr_room); (case k9 => ktr_units); k_whole)
    rintro r1 tl1 h1 tk1 F1 N1 l1 ⟨t1, rfl, rfl⟩
    rw [List.nil_append] at N1
    k_sweep
    (try dsimp only)
    k_steps
    k_dflt (refine' says_use (IH (k / 2) (by omega) lo (lo + k / 2) _ _ (by omega) (by omega) (by omega)) ?k1 ?k2 ?k3 ?k4 ?k5 ?k6 ?k7 ?k8 ?k9 ?_; (case k1 => k_asm); (case k2 => k_asm); (case k3 => k_asm); (case k4 => k_asm); (case k5 => k_asm); (case k6 => exact rfl); (case k7 => exact ⟨by k_mem, by k_mem, by k_mem, by k_mem, by k_mem, by k_mem⟩); (case k8 => ktr_room); (case k9 => ktr_units); k_whole)
    rintro r2 tl2 h2 tk2 F2 N2 l2 ⟨t2, rfl, rfl⟩
    rw [List.nil_append] at N2
    k_sweep
    (try dsimp only)
    k_steps
    refine hret _ [] _ _ (by k_asm) (by k_asm) ktn_ord0 ⟨tk2, congrArg (Value.int · tk2) ?_, rfl⟩
    rw [Int.toNat_natCast]
    have := numval_add ds (k - k / 2) (k / 2) lo
    rw [show k / 2 + (k - k / 2) = k from by omega] at this
    rw [this, Int.mul_comm, Int.add_comm]
end Mine
end

section
open PySem PySem.W PyProof.Rows PySem.Spec PySem.Calls
set_option maxRecDepth 100000
set_option maxHeartbeats 800000
namespace Mine
local macro_rules | `(tactic| walk_at "zz0") => `(tactic| fail)
local macro_rules | `(tactic| walk_at "zz1") => `(tactic| fail)
local macro_rules | `(tactic| walk_at "zz2") => `(tactic| fail)
local macro_rules | `(tactic| walk_at "zz3") => `(tactic| fail)
local macro_rules | `(tactic| walk_at "zz4") => `(tactic| fail)
local macro_rules | `(tactic| walk_at "zz5") => `(tactic| fail)
local macro_rules | `(tactic| walk_at "zz6") => `(tactic| fail)
local macro_rules | `(tactic| walk_at "zz7") => `(tactic| fail)
local macro_rules | `(tactic| walk_at "zz8") => `(tactic| fail)
local macro_rules | `(tactic| walk_at "zz9") => `(tactic| fail)
local macro_rules | `(tactic| walk_at "zz10") => `(tactic| fail)
local macro_rules | `(tactic| walk_at "zz11") => `(tactic| fail)
local macro_rules | `(tactic| walk_at "zz12") => `(tactic| fail)
local macro_rules | `(tactic| walk_at "zz13") => `(tactic| fail)
local macro_rules | `(tactic| walk_at "zz14") => `(tactic| fail)
local macro_rules | `(tactic| walk_at "zz15") => `(tactic| fail)
local macro_rules | `(tactic| walk_at "zz16") => `(tactic| fail)
local macro_rules | `(tactic| walk_at "zz17") => `(tactic| fail)
local macro_rules | `(tactic| walk_at "zz18") => `(tactic| fail)
local macro_rules | `(tactic| walk_at "zz19") => `(tactic| fail)

abbrev tab37 (c' : Addr) : Obj := tabObj #[rawInt 38, rawInt 4, .ref c']

theorem truthy_yes {prog : Program} {w : World} {A : Around} {E : Value → Shared → Prop} {s : Shared} {h₀ : Heap} {L : Addr} {news : List (Addr × Obj)} {D : Addr} {vs : List Value} {ns : List Int} {c : Nat} {Q : Bool → Shared → Prop} (N : News h₀ L s.heap news) (hm : (D, listOf vs.toArray c) ∈ news) (hI : IntsAre vs ns) (h0 : 0 < ns.length) (hf : ns.length < 2 ^ 62) (h : ∀ tk, Q true { s with toks := tk }) :
    wpAny (model prog w) A (truthy (.ref D)) Q E s := by
  have e : vs.toArray.size = ns.length := by rw [List.size_toArray, hI.length]
  refine wpAny_truthy_list (News.isList N hm) (by rw [e]; omega) ?_
  have q : (!vs.toArray.isEmpty) = true := by
    cases vs with
    | nil => simp at e; omega
    | cons _ _ => rfl
  rw [q]
  exact h _

local macro_rules | `(tactic| k_mem) => `(tactic| first | assumption | exact List.Mem.head _ | (refine' List.Mem.tail _ ?_; k_mem))
local macro_rules | `(tactic| k_all) => `(tactic| first | assumption | exact List.forall_mem_nil _ | (refine' List.forall_mem_cons.mpr ⟨?a, ?b⟩; (case a => k_ne); (case b => k_all)))
local macro_rules | `(tactic| k_steps) => `(tactic| repeat' ((fail_if_success (with_reducible show wpAny _ _ (pyIter (Value.ref _)) (fun it s₂ => LoopAtV _ _ _ _ _ _ _ _ _ it s₂) _ _)); (fail_if_success (with_reducible show wpAny _ _ (call (Value.ref _) _) _ _ _)); first | (k_unfold; (try dsimp only)) | (k_end; wrow_close) | walk1 | (dsimp only; walk1) | (leave1; walk_say "STEP leave1"; try dsimp only) | fail "no step"))
local macro_rules | `(tactic| walk_at "ite") => `(tactic| (k_here; first | refine ite_yes (by simp only [beq_iff_eq, bne_iff_ne, decide_eq_true_eq]; omega) ?_ | refine ite_no (by simp only [beq_eq_false_iff_ne, bne_eq_false_iff_eq, decide_eq_false_iff_not]; omega) ?_))
local macro_rules | `(tactic| walk_at "binaryOp FloorDiv int int") => `(tactic| (k_here; k_dflt ((refine' fdv_to ?ca ?cb ?cc ?_); (case cb => assumption); (case ca => decide); (case cc => exact PyProof.noPylong_small (by omega)))))
local macro_rules | `(tactic| walk_at "binaryOp Mult ref int") => `(tactic| (k_here; k_dflt ((refine' rep_to ?F ?N ?m ?k ?_); (case F => k_asm); (case N => k_asm); (case m => k_mem); (case k => omega); k_whole); intro D' vs' h' F' N' l1 i1; (try k_lt l1); (try k_sweep)))

local macro_rules | `(tactic| walk_at "call builtin:len") => `(tactic| (k_here; (with_reducible show wpAny _ _ (call (Value.builtin "len") [Value.ref _]) _ _ _); k_dflt (refine' len_to ?N ?m ?I ?e ?f ?_; (case N => k_asm); (case m => k_mem); (case I => assumption); (case e => exact rfl); (case f => omega); k_whole)))


local macro_rules | `(tactic| walk_at "truthy ref") => `(tactic| (k_here; k_dflt (refine' truthy_yes ?N ?m ?I ?e ?f ?_; (case N => k_asm); (case m => k_mem); (case I => assumption); (case e => assumption); (case f => omega); k_whole); intro _))

theorem digits2int (w : World) (tn : Tok) (c' : Addr) (oc : Obj) (fs : Array Value) (tq : Tok) (hc1 : oc.data = .fields fs) (hc2 : fs[1]? = some (.str (Str.ofString "_digits2int.<locals>.inner") tq))
    (D : Addr) (vs : List Value) (ds : List Int) (n : Nat) (hints : IntsAre vs ds) (hv8 : ds.length ≤ 8) (hv0 : 0 < ds.length) (hds : ∀ i, 0 ≤ ds.getD i 0 ∧ ds.getD i 0 ≤ 1) :
    Says PySem.Challenge.rw_gl0002_02.row.prog (hd.heap_39 w.params) w 25 300 42 [.ref D, .int 1 tn] (fun news => (37, tab37 c') ∈ news ∧ (c', oc) ∈ news ∧ (D, listOf vs.toArray n) ∈ news)
      (fun r tl => ∃ t, r = .int (numval ds 0 ds.length) t ∧ tl = []) := by
  unfold Says
  w_top off
  k_fill
  intro p loose mean mg mb dp un gd cn cs a ccd cl outer A₀ base h₀ L m news s Q E B F X N T' hk ⟨h1, h2, h3⟩ hd hu hret
  refine wpAny_noRaise ?_
  refine wpAny_call ?_
  k_dflt (refine' code_defC ?k1 ?k2 ?k3 ?k4 ?k5 ?kA ?kF ?kK ?k6 ?k7 ?k8 ?k9 ?kB ?kD ?_ ?c2 ?c3 ?c4; (case kA => exact rfl); (case kF => exact rfl); (case kK => assumption); (case k1 => k_asm); (case k2 => k_asm); (case k3 => k_asm); (case k4 => k_asm); (case k5 => k_asm); (case k6 => k_is); (case k7 => k_is); (case k8 => ktr_room); (case k9 => exact BindsTo.of_eq rfl); (case kB => exact rfl); (case kD => decide +kernel); (case c2 => exact rfl); (case c3 => exact rfl); (case c4 => exact rfl); k_whole; intro g' L' h' tk' cells' FG' F' N' Y' B' X' T' l1; k_cells Y'; (try simp only [List.cons_append, List.nil_append] at N'); (try dsimp only); (try k_fold))
  all_goals refine wpAny_noRaise ?_
  have CH := codeHd41 w _ X' rfl
  have n1 : ∀ p ∈ news, p.1 ≠ L' + 1 := fun p hp => Nat.ne_of_lt (Nat.lt_succ_of_lt (l1 p hp))
  have n2 : ∀ p ∈ news, p.1 ≠ L' + 1 + 1 := fun p hp => Nat.ne_of_lt (Nat.lt_succ_of_lt (Nat.lt_succ_of_lt (l1 p hp)))
  have n3 : ∀ p ∈ news, p.1 ≠ L' + 1 + 1 + 1 := fun p hp => Nat.ne_of_lt (Nat.lt_succ_of_lt (Nat.lt_succ_of_lt (Nat.lt_succ_of_lt (l1 p hp))))
  k_steps
  rename_i q1 q2 q3 d1 d2 d3 f ct dc hE tk2 lE hG oI FF NN dI tk3
  k_dflt (refine' says_use (inner2Says w _ _ _ _ _ ?isin f D (L' + 1) (L' + 1 + 1 + 1) (L' + 1 + 1) c' _ oI _ oc dc _ ct tn tq fs vs ds n hints hv8 hds hc1 ?hq ?dA dI ?dN ds.length 0 ds.length _ _ (Nat.zero_add _) hv0 (Nat.le_refl _)) ?k1 ?k2 ?k3 ?k4 ?k5 ?k6 ?k7 ?k8 ?k9 ?_; (case k1 => k_asm); (case k2 => k_asm); (case k3 => k_asm); (case k4 => k_asm); (case k5 => k_asm); (case k6 => exact rfl); (case k7 => refine' ⟨?m1, ?m2, ?m3, ?m4, ?m5, ?m6⟩; (case m1 => exact .head _); (case m2 => k_mem); (case m3 => k_mem); (case m4 => k_mem); (case m5 => k_mem); (case m6 => k_mem)); (case isin => exact ⟨_, rfl⟩); (case hq => exact hc2); (case dA => exact d3); (case dN => exact d2); (case k8 => ktr_room); (case k9 => ktr_units); k_whole)
  rintro r1 tl1 h1 tk1 F1 N1 l1 ⟨t1, rfl, rfl⟩
  rw [List.nil_append] at N1
  k_sweep
  (try dsimp only)
  k_steps
  refine hret _ [] _ _ (by k_asm) (kst_newsOf (by k_asm) fun p hp => ?_) ktn_ord0 ⟨t1, rfl, rfl⟩
  rw [List.nil_append] at hp
  simp [hp]
end Mine
end

section
open PySem PySem.W PyProof.Rows PySem.Spec PySem.Calls
set_option maxRecDepth 100000
set_option maxHeartbeats 800000
namespace Mine

local macro_rules | `(tactic| k_mem) => `(tactic| first | assumption | exact List.Mem.head _ | (refine' List.Mem.tail _ ?_; k_mem))
local macro_rules | `(tactic| k_all) => `(tactic| first | assumption | exact List.forall_mem_nil _ | (refine' List.forall_mem_cons.mpr ⟨?a, ?b⟩; (case a => k_ne); (case b => k_all)))
local macro_rules | `(tactic| k_steps) => `(tactic| repeat' ((fail_if_success (with_reducible show wpAny _ _ (pyIter (Value.ref _)) (fun it s₂ => LoopAtV _ _ _ _ _ _ _ _ _ it s₂) _ _)); (fail_if_success (with_reducible show wpAny _ _ (call (Value.ref _) _) _ _ _)); first | (k_unfold; (try dsimp only)) | (k_end; wrow_close) | walk1 | (dsimp only; walk1) | (leave1; walk_say "STEP leave1"; try dsimp only) | fail "no step"))
local macro_rules | `(tactic| walk_at "ite") => `(tactic| (k_here; first | refine ite_yes (by simp only [beq_iff_eq, bne_iff_ne, decide_eq_true_eq]; omega) ?_ | refine ite_no (by simp only [beq_eq_false_iff_ne, bne_eq_false_iff_eq, decide_eq_false_iff_not]; omega) ?_))
local macro_rules | `(tactic| walk_at "binaryOp FloorDiv int int") => `(tactic| (k_here; k_dflt ((refine' fdv_to ?ca ?cb ?cc ?_); (case cb => assumption); (case ca => decide); (case cc => exact PyProof.noPylong_small (by omega)))))
local macro_rules | `(tactic| walk_at "binaryOp Mult ref int") => `(tactic| (k_here; k_dflt ((refine' rep_to ?F ?N ?m ?k ?_); (case F => k_asm); (case N => k_asm); (case m => k_mem); (case k => omega); k_whole); intro D' vs' h' F' N' l1 i1; (try k_lt l1); (try k_sweep)))

local macro_rules | `(tactic| walk_at "call builtin:len") => `(tactic| (k_here; (with_reducible show wpAny _ _ (call (Value.builtin "len") [Value.ref _]) _ _ _); k_dflt (refine' len_to ?N ?m ?I ?e ?f ?_; (case N => k_asm); (case m => k_mem); (case I => assumption); (case e => exact rfl); (case f => omega); k_whole)))


local macro_rules | `(tactic| walk_at "truthy ref") => `(tactic| (k_here; k_dflt (refine' truthy_yes ?N ?m ?I ?e ?f ?_; (case N => k_asm); (case m => k_mem); (case I => assumption); (case e => assumption); (case f => omega); k_whole); intro _))

theorem digits2intCold (w : World) (tn : Tok) (rest : List (Addr × Obj)) (hrest : ∀ p ∈ rest, p.1 ≠ 37)
    (D : Addr) (vs : List Value) (ds : List Int) (n : Nat) (hints : IntsAre vs ds) (hv8 : ds.length ≤ 8) (hv0 : 0 < ds.length) (hds : ∀ i, 0 ≤ ds.getD i 0 ∧ ds.getD i 0 ≤ 1) (h3 : (D, listOf vs.toArray n) ∈ rest) :
    SaysM PySem.Challenge.rw_gl0002_02.row.prog (hd.heap_39 w.params) w 25 300 42 [.ref D, .int 1 tn] ((37, tabObj #[]) :: rest)
      (fun r led => ∃ t c' oc fs tq, r = .int (numval ds 0 ds.length) t ∧ led = (c', oc) :: (37, tab37 c') :: rest ∧ oc.data = .fields fs ∧ fs[1]? = some (.str (Str.ofString "_digits2int.<locals>.inner") tq) ∧
        c' ≠ 37 ∧ (∀ p ∈ rest, p.1 < c')) := by
  unfold SaysM
  w_top off
  k_fill
  intro p loose mean mg mb dp un gd cn cs a ccd cl outer A₀ base h₀ L m s Q E B F X N T' hk hd hu hret
  refine wpAny_noRaise ?_
  refine wpAny_call ?_
  k_dflt (refine' code_defC ?k1 ?k2 ?k3 ?k4 ?k5 ?kA ?kF ?kK ?k6 ?k7 ?k8 ?k9 ?kB ?kD ?_ ?c2 ?c3 ?c4; (case kA => exact rfl); (case kF => exact rfl); (case kK => assumption); (case k1 => k_asm); (case k2 => k_asm); (case k3 => k_asm); (case k4 => k_asm); (case k5 => k_asm); (case k6 => k_is); (case k7 => k_is); (case k8 => ktr_room); (case k9 => exact BindsTo.of_eq rfl); (case kB => exact rfl); (case kD => decide +kernel); (case c2 => exact rfl); (case c3 => exact rfl); (case c4 => exact rfl); k_whole; intro g' L' h' tk' cells' FG' F' N' Y' B' X' T' l1; k_cells Y'; (try simp only [List.cons_append, List.nil_append] at N'); (try dsimp only); (try k_fold))
  all_goals refine wpAny_noRaise ?_
  have CH := codeHd41 w _ X' rfl
  have h37 := ltN (l1 _ (.head _))
  dsimp only at h37
  have n1 : ∀ p ∈ rest, p.1 ≠ L' + 1 := fun p hp => Nat.ne_of_lt (Nat.lt_succ_of_lt (l1 p (.tail _ hp)))
  have n2 : ∀ p ∈ rest, p.1 ≠ L' + 1 + 1 := fun p hp => Nat.ne_of_lt (Nat.lt_succ_of_lt (Nat.lt_succ_of_lt (l1 p (.tail _ hp))))
  have n3 : ∀ p ∈ rest, p.1 ≠ L' + 1 + 1 + 1 := fun p hp => Nat.ne_of_lt (Nat.lt_succ_of_lt (Nat.lt_succ_of_lt (Nat.lt_succ_of_lt (l1 p (.tail _ hp)))))
  k_steps
  rename_i q1 q2 q3 d1 d2 d3 f c' oc fs tq ct dc hE tk2 hc1 hc2 lE lF hG oI FF NN dI tk3
  simp only [Array.empty_append] at NN
  k_dflt (refine' says_use (inner2Says w _ _ _ _ _ ?isin f D (L' + 1) (L' + 1 + 1 + 1) (L' + 1 + 1) c' _ oI _ oc dc _ ct tn tq fs vs ds n hints hv8 hds hc1 ?hq ?dA dI ?dN ds.length 0 ds.length _ _ (Nat.zero_add _) hv0 (Nat.le_refl _)) ?k1 ?k2 ?k3 ?k4 ?k5 ?k6 ?k7 ?k8 ?k9 ?_; (case k1 => k_asm); (case k2 => k_asm); (case k3 => k_asm); (case k4 => k_asm); (case k5 => k_asm); (case k6 => exact rfl); (case k7 => refine' ⟨?m1, ?m2, ?m3, ?m4, ?m5, ?m6⟩; (case m1 => exact .head _); (case m2 => k_mem); (case m3 => k_mem); (case m4 => k_mem); (case m5 => k_mem); (case m6 => k_mem)); (case isin => exact ⟨_, rfl⟩); (case hq => exact hc2); (case dA => exact d3); (case dN => exact d2); (case k8 => ktr_room); (case k9 => ktr_units); k_whole)
  rintro r1 tl1 h1 tk1 F1 N1 l1 ⟨t1, rfl, rfl⟩
  rw [List.nil_append] at N1
  k_sweep
  (try dsimp only)
  k_steps
  refine hret _ _ _ _ (by k_asm) (kst_newsOf (by k_asm) fun p hp => ?_) ⟨t1, c', oc, fs, tq, rfl, rfl, hc1, hc2, Nat.ne_of_gt lE.2.2.2.1, fun p hp => ktn_ltOf lE.2.2.2.2 p hp⟩
  simp only [List.mem_cons] at hp ⊢
  rcases hp with hp | hp | hp <;> simp [hp]
end Mine
end

section
open PySem PySem.W PyProof.Rows PySem.Spec PySem.Calls
open PyProof.Rows.LCg
set_option maxRecDepth 100000
set_option maxHeartbeats 1600000
namespace Mine

/-- the end of a turn of a comprehension whose name is a cell -/
def CpEnd (h₀ : Heap) (L : Addr) (m : Str → Option Value) (s₁ : Shared) (I : Addr) (oI : Obj) (C : Addr) (oC : Obj) (c : Addr) (oc : Obj) (D : Addr) (oD : Obj) (S : List (Addr × Obj) → Prop) (rest : List (Addr × Obj) → Prop) (s₂ : Shared) : Prop :=
  ∃ h' tk nw', s₂ = { s₁ with heap := h', toks := tk } ∧ Fr h₀ L h' m ∧ News h₀ L h' ((I, oI) :: (C, oC) :: (c, oc) :: (D, oD) :: nw') ∧ (∀ p ∈ nw', p.1 ≠ I ∧ p.1 ≠ C ∧ p.1 ≠ c ∧ p.1 ≠ D) ∧ S nw' ∧ rest nw'
theorem CpEnd.intro {h₀ : Heap} {L : Addr} {m : Str → Option Value} {s₁ : Shared} {I : Addr} {oI : Obj} {C : Addr} {oC : Obj} {c : Addr} {oc : Obj} {D : Addr} {oD : Obj} {S : List (Addr × Obj) → Prop} {rest : List (Addr × Obj) → Prop} {h' : Heap} {tk : Nat} {all : List (Addr × Obj)} (nw' : List (Addr × Obj))
    (F : Fr h₀ L h' m) (N : News h₀ L h' all) (sub : ∀ p ∈ (I, oI) :: (C, oC) :: (c, oc) :: (D, oD) :: nw', p ∈ all) (off : ∀ p ∈ nw', p.1 ≠ I ∧ p.1 ≠ C ∧ p.1 ≠ c ∧ p.1 ≠ D) (hS : S nw') (r : rest nw') :
    CpEnd h₀ L m s₁ I oI C oC c oc D oD S rest { s₁ with heap := h', toks := tk } := ⟨h', tk, nw', rfl, F, fun p hp => N p (sub p hp), off, hS, r⟩

theorem newFunctionEnv_comp {M : Model} {A : Around} {E : Value → Shared → Prop} {s : Shared} {scope : Scope} {globals : Addr} {cl : List (Str × Addr)} {qual : Str} {env : Env} {Q : Env → Shared → Prop}
    (h : Q { scope := scope, locals := s.heap.objs.size, globals := globals, cells := cellsFrom (s.heap.objs.size + 1) scope.names cl, qual := qual, func := none, code := env.code, frame := env.frame, builtins := env.builtins } { s with heap := pushCells (s.heap.push { cls := .type "dict", data := .dict #[] }) scope.names }) :
    wpAny M A (newFunctionEnv scope globals cl [] qual none .none (some env)) Q E s := by
  simp only [newFunctionEnv, Option.isSome_some, if_true]
  refine wpAny_bind (wpAny_alloc ?_)
  refine wpAny_bind (wpAny_layCells _ (fun name kind cells => by cases hkc : kind == NameKind.cell <;> simp [hkc]) _ _ _ _ ?_)
  rw [show ({ s with heap := s.heap.push { cls := .type "dict", data := .dict #[] } } : Shared).heap.objs.size = s.heap.objs.size + 1 from Heap.size_push ..]
  exact wpAny_bind (wpAny_pure (wpAny_pure h))

theorem lookup_relabel_cell {env : Env} : ∀ {names : List (Str × NameKind)} {x : Str}, names.lookup x = some .cell →
    (names.map fun (n, k) => if (k == NameKind.free && env.scope.kind == .function && env.kindOf n == some .cell) then (n, NameKind.cell) else (n, k)).lookup x = some .cell
  | [], _, h => by simp at h
  | (n, k) :: r, x, h => by
    have ih := @lookup_relabel_cell env r x
    show List.lookup x ((if (k == NameKind.free && env.scope.kind == .function && env.kindOf n == some .cell) = true then (n, NameKind.cell) else (n, k)) :: _) = _
    cases hx : x == n with
    | true =>
      simp only [List.lookup_cons, hx] at h
      cases h
      simp [List.lookup_cons, hx]
    | false =>
      simp only [List.lookup_cons, hx] at h
      by_cases hc : (k == NameKind.free && env.scope.kind == .function && env.kindOf n == some .cell) = true
      · rw [if_pos hc]; simp only [List.lookup_cons, hx]; exact ih h
      · rw [if_neg hc]; simp only [List.lookup_cons, hx]; exact ih h

section
variable {prog : Program} {w : World} {A : Around} {E : Value → Shared → Prop} {s : Shared} {h₀ : Heap} {L : Addr} {m : Str → Option Value} {env : Env}

/-- what a turn of a comprehension whose name is a cell must show -/
def CpTurn (prog : Program) (w : World) (A : Around) (h₀ : Heap) (L : Addr) (m : Str → Option Value) (env : Env) (elt : Expr) (ifs : List Expr) (x : Str) (scope : Scope) (cl : List (Str × Addr)) (s : Shared) (S : List (Addr × Obj) → Prop) (P : Nat → Value → Prop) (n : Nat)
    (J : Nat → List Value → List (Addr × Obj) → Prop) : Prop :=
  ∀ i v ys nw I oI C oC c oc D h tk (E' : Value → Shared → Prop), i < n → P i v → ys.length ≤ i → oc.data = .cell (some v) → Fr h₀ L h m → News h₀ L h ((I, oI) :: (C, oC) :: (c, oc) :: (D, lst ys) :: nw) → (∀ p ∈ nw, p.1 ≠ I ∧ p.1 ≠ C ∧ p.1 ≠ c ∧ p.1 ≠ D) → S nw → J i ys nw →
    wpAny (model prog w) A (forIn ifs true fun t r => if r = true then do let ok ← isTrue t (compEnvC scope ((x, c) :: cl) C env) (eval t (compEnvC scope ((x, c) :: cl) C env)); pure (ForInStep.yield ok) else pure (ForInStep.yield r)) (fun ok s' => if ok = true then
        wpAny (model prog w) A (eval elt (compEnvC scope ((x, c) :: cl) C env)) (fun y s'' => CpEnd h₀ L m { s with heap := h, toks := tk } I oI C oC c oc D (lst ys) S (J (i + 1) (ys ++ [y])) s'') E' s'
      else CpEnd h₀ L m { s with heap := h, toks := tk } I oI C oC c oc D (lst ys) S (J (i + 1) ys) s') E' { s with heap := h, toks := tk }
/-- the end of a turn of a comprehension whose name is local -/
def LpEnd (h₀ : Heap) (L : Addr) (m : Str → Option Value) (s₁ : Shared) (I : Addr) (oI : Obj) (C : Addr) (oC : Obj) (D : Addr) (oD : Obj) (S : List (Addr × Obj) → Prop) (rest : List (Addr × Obj) → Prop) (s₂ : Shared) : Prop :=
  ∃ h' tk nw', s₂ = { s₁ with heap := h', toks := tk } ∧ Fr h₀ L h' m ∧ News h₀ L h' ((I, oI) :: (C, oC) :: (D, oD) :: nw') ∧ (∀ p ∈ nw', p.1 ≠ I ∧ p.1 ≠ C ∧ p.1 ≠ D) ∧ S nw' ∧ rest nw'
theorem LpEnd.intro {h₀ : Heap} {L : Addr} {m : Str → Option Value} {s₁ : Shared} {I : Addr} {oI : Obj} {C : Addr} {oC : Obj} {D : Addr} {oD : Obj} {S : List (Addr × Obj) → Prop} {rest : List (Addr × Obj) → Prop} {h' : Heap} {tk : Nat} {all : List (Addr × Obj)} (nw' : List (Addr × Obj))
    (F : Fr h₀ L h' m) (N : News h₀ L h' all) (sub : ∀ p ∈ (I, oI) :: (C, oC) :: (D, oD) :: nw', p ∈ all) (off : ∀ p ∈ nw', p.1 ≠ I ∧ p.1 ≠ C ∧ p.1 ≠ D) (hS : S nw') (r : rest nw') :
    LpEnd h₀ L m s₁ I oI C oC D oD S rest { s₁ with heap := h', toks := tk } := ⟨h', tk, nw', rfl, F, fun p hp => N p (sub p hp), off, hS, r⟩

/-- what a turn of a comprehension whose name is local must show -/
def LpTurn (prog : Program) (w : World) (A : Around) (h₀ : Heap) (L : Addr) (m : Str → Option Value) (env : Env) (elt : Expr) (ifs : List Expr) (x : Str) (scope : Scope) (cl : List (Str × Addr)) (s : Shared) (S : List (Addr × Obj) → Prop) (P : Nat → Value → Prop) (n : Nat)
    (J : Nat → List Value → List (Addr × Obj) → Prop) : Prop :=
  ∀ i v ys nw I oI C oC D m₂ h tk (E' : Value → Shared → Prop), i < n → P i v → ys.length ≤ i → NsObj oC m₂ → m₂ x = some v → Fr h₀ L h m → News h₀ L h ((I, oI) :: (C, oC) :: (D, lst ys) :: nw) → (∀ p ∈ nw, p.1 ≠ I ∧ p.1 ≠ C ∧ p.1 ≠ D) → S nw → J i ys nw →
    wpAny (model prog w) A (forIn ifs true fun t r => if r = true then do let ok ← isTrue t (compEnvC scope cl C env) (eval t (compEnvC scope cl C env)); pure (ForInStep.yield ok) else pure (ForInStep.yield r)) (fun ok s' => if ok = true then
        wpAny (model prog w) A (eval elt (compEnvC scope cl C env)) (fun y s'' => LpEnd h₀ L m { s with heap := h, toks := tk } I oI C oC D (lst ys) S (J (i + 1) (ys ++ [y])) s'') E' s'
      else LpEnd h₀ L m { s with heap := h, toks := tk } I oI C oC D (lst ys) S (J (i + 1) ys) s') E' { s with heap := h, toks := tk }
theorem block_C {elt iter : Expr} {ifs : List Expr} {x : Str} {px : Pos} {scope : Scope} {cl : List (Str × Addr)} {pos : Pos} {s₂ : Shared} {I : Addr} {fp : List Addr} {n : Nat} {P : Nat → Value → Prop} {St : Nat → Heap → Prop} {S : List (Addr × Obj) → Prop} {news : List (Addr × Obj)}
    {J : Nat → List Value → List (Addr × Obj) → Prop} {RR : Value → Addr → Result → Shared → Prop}
    (W : Walks prog w A I fp [I] n P St) (hsz : n ≤ sizeLine) (hIo : ∀ i h, St i h → ∃ o, h.get? I = some o)
    (hSt : ∀ i h h' o nw, St i h → h.get? I = some o → h'.get? I = some o → (∀ b o, h₀.get? b = some o → h'.get? b = some o) → News h₀ L h' nw → S nw → St i h')
    (hcf : ∀ k, cellsFrom k scope.names cl = (x, k) :: cl) (hpc : ∀ h, pushCells h scope.names = h.push { cls := .type "cell", data := .cell none })
    (hkind : scope.kind = .function) (hx : scope.names.lookup x = some .cell) (hst : St 0 s₂.heap) (hfp : ∀ b ∈ fp, b < s₂.heap.objs.size)
    (F : Fr h₀ L s₂.heap m) (N : News h₀ L s₂.heap news) (hIL : L ≠ I) (hI₀ : h₀.get? I = none) (off : ∀ p ∈ news, p.1 ≠ I) (hS : S news)
    (hJ : J 0 [] news) (turn : CpTurn prog w A h₀ L m env elt ifs x scope cl s₂ S P n J)
    (hRR : ∀ D C h tk m' ys news', Fr h₀ L h m → News h₀ L h ((D, lst ys) :: news') → (∀ p ∈ news', p.1 ≠ D) → (∀ p ∈ news, p.1 < D) → h.Ns C m' → h₀.get? C = none → h₀.get? D = none → C ≠ L → D ≠ L → C ≠ D → (∀ p ∈ news', p.1 ≠ C) → J n ys news' → RR (.ref D) C (.ok .next) { s₂ with heap := h, toks := tk }) :
    wpAny (model prog w) A (newList []) (fun acc s₃ => wpAny (model prog w) A (newFunctionEnv scope env.globals cl [] env.qual none .none (some env)) (fun cenv s₄ =>
      codeAny (model prog w) A (.compStart (.ListComp elt [⟨.Name x px, iter, ifs, 0⟩] scope pos) 0 (.ref I) acc { cenv with scope := relabel scope env }) (RR acc cenv.locals) s₄) E s₃) E s₂ := by
  refine wpAny_newObj_type (newFunctionEnv_comp ?_)
  dsimp only
  rw [hcf, hpc]
  generalize hH1 : s₂.heap.push { cls := .type "list", dict := none, data := .seq ([] : List Value).toArray } = H1
  have z1 : H1.objs.size = s₂.heap.objs.size + 1 := by rw [← hH1, Heap.size_push]
  generalize hH2 : H1.push { cls := .type "dict", data := .dict #[] } = H2
  have z2 : H2.objs.size = H1.objs.size + 1 := by rw [← hH2, Heap.size_push]
  rw [← z2]
  generalize hH3 : H2.push { cls := .type "cell", data := .cell none } = H3
  obtain ⟨D, hD⟩ : ∃ D, D = s₂.heap.objs.size := ⟨_, rfl⟩
  obtain ⟨C, hC⟩ : ∃ C, C = H1.objs.size := ⟨_, rfl⟩
  obtain ⟨c, hc⟩ : ∃ c, c = H2.objs.size := ⟨_, rfl⟩
  rw [← hD, ← hC, ← hc]
  have hDC : D ≠ C := by rw [hD, hC, z1]; exact Nat.ne_of_lt (Nat.lt_succ_self _)
  have hDc : D ≠ c := by rw [hD, hc, z2, z1]; exact Nat.ne_of_lt (Nat.lt_succ_of_lt (Nat.lt_succ_self _))
  have hCc : C ≠ c := by rw [hC, hc, z2]; exact Nat.ne_of_lt (Nat.lt_succ_self _)
  have below : ∀ b, b < s₂.heap.objs.size → b ≠ C ∧ b ≠ c ∧ b ≠ D := fun b hb => ⟨by rw [hC, z1]; exact Nat.ne_of_lt (Nat.lt_succ_of_lt hb), by rw [hc, z2, z1]; exact Nat.ne_of_lt (Nat.lt_succ_of_lt (Nat.lt_succ_of_lt hb)), by rw [hD]; exact Nat.ne_of_lt hb⟩
  have notfp : ∀ {b}, s₂.heap.objs.size ≤ b → b ∉ fp := fun hb hm => Nat.not_lt.mpr hb (hfp _ hm)
  have hDf : D ∉ fp := notfp (Nat.le_of_eq hD.symm)
  have hCf : C ∉ fp := notfp (by rw [hC, z1]; exact Nat.le_succ _)
  have hcf' : c ∉ fp := notfp (by rw [hc, z2, z1]; exact Nat.le_trans (Nat.le_succ _) (Nat.le_succ _))
  have hIlt : I < s₂.heap.objs.size := hfp I (W.sub I (.head _))
  obtain ⟨hIC, hIc, hID⟩ := below I hIlt
  have old : ∀ b o, s₂.heap.get? b = some o → H3.get? b = some o := fun b o e => by rw [← hH3]; exact Heap.get?_push_of_some _ (hH2 ▸ Heap.get?_push_of_some _ (hH1 ▸ Heap.get?_push_of_some _ e))
  have hacc : H3.get? D = some (lst []) := by rw [← hH3]; exact Heap.get?_push_of_some _ (hH2 ▸ Heap.get?_push_of_some _ (by rw [hD, ← hH1]; exact Heap.get?_push_size _ rfl))
  have hnsC : H3.Ns C (fun _ => none) := by rw [← hH3, ← hH2, hC]; exact (Heap.Ns.new H1 (.type "dict")).push _
  have hcell : H3.IsCell c none := by rw [← hH3, hc]; exact ⟨_, Heap.get?_push_size _ rfl, rfl⟩
  have hst₁ : St 0 H3 := W.frame _ _ _ hst fun b _ o e => old b o e
  have fresh₀ : ∀ a, s₂.heap.objs.size ≤ a → h₀.get? a = none := fun a ha => by
    cases e : h₀.get? a with
    | none => rfl
    | some o' => exact absurd (Heap.lt_size (F.keep a o' e)) (Nat.not_lt.mpr ha)
  have hlow : ∀ p ∈ news, p.1 < D := fun p hp => by rw [hD]; exact Heap.lt_size (N p hp).1
  have hD₀ : h₀.get? D = none := fresh₀ _ (Nat.le_of_eq hD.symm)
  have hC₀ : h₀.get? C = none := fresh₀ _ (by rw [hC, z1]; exact Nat.le_succ _)
  have hc₀ : h₀.get? c = none := fresh₀ _ (by rw [hc, z2, z1]; exact Nat.le_trans (Nat.le_succ _) (Nat.le_succ _))
  obtain ⟨hLC, hLc, hLD⟩ := below L F.ns.lt
  have off₀ : ∀ p ∈ news, p.1 ≠ I ∧ p.1 ≠ C ∧ p.1 ≠ c ∧ p.1 ≠ D := fun p hp => ⟨off p hp, below _ (Heap.lt_size (N p hp).1)⟩
  have loop : ∀ tk, codeAny (model prog w) A (.compLoop (.ListComp elt [⟨.Name x px, iter, ifs, 0⟩] scope pos) 0 (.ref I) (.ref D) (compEnvC scope ((x, c) :: cl) C env)) (RR (.ref D) C) { s₂ with heap := H3, toks := tk } := by
    intro tk0
    refine codeAny_compLoop_tests
      (fun k s' => ∃ h' tk i ys m' nw v₀, s' = { s₂ with heap := h', toks := tk } ∧ i ≤ n ∧ k = n + 1 - i ∧ ys.length ≤ i ∧ St i h' ∧ Fr h₀ L h' m ∧ h'.Ns C m' ∧ h'.IsCell c v₀ ∧ News h₀ L h' ((D, lst ys) :: nw) ∧
        (∀ p ∈ nw, p.1 ≠ I ∧ p.1 ≠ C ∧ p.1 ≠ c ∧ p.1 ≠ D) ∧ S nw ∧ J i ys nw) ?_ (n + 1)
      ⟨H3, _, 0, [], _, news, _, rfl, Nat.zero_le _, rfl, Nat.le_refl _, hst₁, F.keeps old, hnsC, hcell, fun p hp => ?_, off₀, hS, hJ⟩
    · rintro k s' ⟨h', tk, i, ys, m', nw, v₀, rfl, hi, rfl, hyl, hst', F', hn', hcl', N', off', hS', hJ'⟩
      by_cases hlt : i < n
      · refine W.item i _ _ _ hlt hst' fun v h₂ tk₂ hPv hst₂ hk₂ => ?_
        have kb : ∀ b o, b ≠ I → h'.get? b = some o → h₂.get? b = some o := fun b o hb e => hk₂ b o (by simpa using hb) e
        refine wpAny_assign_Name (wpAny_storeName_cell (c := c) (by simp [compEnvC, relabel, hkind]) (lookup_relabel_cell hx) (by simp [compEnvC]) (let ⟨o, e, d⟩ := hcl'; ⟨o, kb _ _ hIc.symm e, d⟩) fun h₃ hc₃ hs₃ => ?_)
        have hst₃ : St (i + 1) h₃ := W.frame _ _ _ hst₂ fun b hb o e => hs₃.extBut b o (fun q => hcf' (q ▸ hb)) e
        obtain ⟨oI, heI⟩ := hIo _ _ hst₃
        obtain ⟨oC, heC, hoC⟩ := ns_obj ((hn'.at' fun o e => kb _ o hIC.symm e).sameBut hs₃ hCc)
        obtain ⟨oc, hec, hoc⟩ := hc₃
        have F₃ : Fr h₀ L h₃ m := (fr_but F' hk₂ hIL hI₀).change hs₃ hLc.symm hc₀
        have N₃ : News h₀ L h₃ ((I, oI) :: (C, oC) :: (c, oc) :: (D, lst ys) :: nw) := by
          refine List.forall_mem_cons.mpr ⟨⟨heI, hIL.symm, hI₀⟩, List.forall_mem_cons.mpr ⟨⟨heC, hLC.symm, hC₀⟩, List.forall_mem_cons.mpr ⟨⟨hec, hLc.symm, hc₀⟩, fun p hp => ?_⟩⟩⟩
          refine ⟨hs₃.extBut _ _ ?_ (kb _ _ ?_ (N' p hp).1), (N' p hp).2⟩
          · rcases List.mem_cons.mp hp with rfl | hp
            · exact hDc
            · exact (off' p hp).2.2.1
          · rcases List.mem_cons.mp hp with rfl | hp
            · exact hID.symm
            · exact (off' p hp).1
        refine wpAny_mono (turn i v ys nw I oI C oC c oc D h₃ tk₂ _ hlt hPv hyl hoc F₃ N₃ off' hS' hJ') (fun ok s₄ h₄ => ?_) fun _ _ e => e
        cases ok with
        | true =>
          simp only [if_true] at h₄ ⊢
          refine wpAny_mono h₄ (fun y s₅ h₅ => ?_) fun _ _ e => e
          obtain ⟨h₄, tk₄, nw₄, rfl, F₄, N₄, off₄, hS₄, J₄⟩ := h₅
          have N₄' : News h₀ L h₄ nw₄ := fun p hp => N₄ p (.tail _ (.tail _ (.tail _ (.tail _ hp))))
          have hst₄ : St (i + 1) h₄ := hSt _ _ _ _ _ hst₃ heI (N₄ (I, oI) (.head _)).1 F₄.keep N₄' hS₄
          refine append_at (hsz := by show ys.toArray.size ≤ sizeLine; rw [List.size_toArray]; exact Nat.le_trans (Nat.le_trans hyl hi) hsz) (N₄ (D, lst ys) (.tail _ (.tail _ (.tail _ (.head _))))).1 fun h₅ hs₅ hD₅ => ?_
          refine ⟨n + 1 - (i + 1), by omega, h₅, tk₄, i + 1, ys ++ [y], _, nw₄, some v, rfl, hlt, rfl, by rw [List.length_append, List.length_singleton]; exact Nat.succ_le_succ hyl, W.frame _ _ _ hst₄ fun b hb o e => hs₅.extBut b o (fun q => hDf (q ▸ hb)) e, F₄.change hs₅ hLD.symm hD₀,
            (hoC.ns (N₄ (C, oC) (.tail _ (.head _))).1).sameBut hs₅ hDC.symm, ⟨oc, hs₅.extBut _ _ hDc.symm (N₄ (c, oc) (.tail _ (.tail _ (.head _)))).1, hoc⟩, List.forall_mem_cons.mpr ⟨⟨hD₅.trans (congrArg some (lst_snoc ys y)), hLD.symm, hD₀⟩, fun p hp => ⟨hs₅.extBut _ _ (off₄ p hp).2.2.2 (N₄' p hp).1, (N₄' p hp).2⟩⟩, off₄, hS₄, J₄⟩
        | false =>
          simp only [Bool.false_eq_true, if_false] at h₄ ⊢
          obtain ⟨h₅, tk₄, nw₄, rfl, F₄, N₄, off₄, hS₄, J₄⟩ := h₄
          have N₄' : News h₀ L h₅ nw₄ := fun p hp => N₄ p (.tail _ (.tail _ (.tail _ (.tail _ hp))))
          have hst₄ : St (i + 1) h₅ := hSt _ _ _ _ _ hst₃ heI (N₄ (I, oI) (.head _)).1 F₄.keep N₄' hS₄
          exact ⟨n + 1 - (i + 1), by omega, h₅, tk₄, i + 1, ys, _, nw₄, some v, rfl, hlt, rfl, Nat.le_succ_of_le hyl, hst₄, F₄, hoC.ns (N₄ (C, oC) (.tail _ (.head _))).1, ⟨oc, (N₄ (c, oc) (.tail _ (.tail _ (.head _)))).1, hoc⟩, fun p hp => N₄ p (.tail _ (.tail _ (.tail _ hp))), off₄, hS₄, J₄⟩
      · obtain rfl : i = n := Nat.le_antisymm hi (Nat.not_lt.mp hlt)
        refine W.done _ _ _ hst' fun h₂ tk₂ hk₂ => ?_
        have kb : ∀ b o, b ≠ I → h'.get? b = some o → h₂.get? b = some o := fun b o hb e => hk₂ b o (by simpa using hb) e
        exact hRR _ _ h₂ tk₂ _ ys nw (fr_but F' hk₂ hIL hI₀) (news_but N' hk₂ fun p hp => by
          rcases List.mem_cons.mp hp with rfl | hp
          · exact hID.symm
          · exact (off' p hp).1) (fun p hp => (off' p hp).2.2.2) hlow (hn'.at' fun o e => kb _ o hIC.symm e) hC₀ hD₀ hLC.symm hLD.symm hDC.symm (fun p hp => (off' p hp).2.1) hJ'
    · rcases List.mem_cons.mp hp with rfl | hp
      · exact ⟨hacc, hLD.symm, hD₀⟩
      · exact ⟨old _ _ (N p hp).1, (N p hp).2⟩
  exact codeAny_compStart_list (loop _) (W.self 0 _ _ _ hst₁ (loop _))

/-- the iterable of a comprehension: a list of the ledger, or a range; the turns by an invariant -/
def CpSrc (h₀ : Heap) (L : Addr) (m : Str → Option Value) (A : Around) (Turn : (List (Addr × Obj) → Prop) → (Nat → Value → Prop) → Nat → (Nat → List Value → List (Addr × Obj) → Prop) → Prop) (Fin : Value → Shared → Prop) (xv : Value) (s₁ : Shared) : Prop :=
  (∃ ax vs k news J, xv = .ref ax ∧ A.handled = none ∧ Fr h₀ L s₁.heap m ∧ News h₀ L s₁.heap news ∧ (ax, listOf (List.toArray vs) k) ∈ news ∧ vs.length ≤ sizeLine ∧ J 0 [] news ∧ Turn (SrcAt h₀ ax vs.toArray) (fun i v => vs[i]? = some v) vs.length J ∧
    ∀ D h tk ys nw, Fr h₀ L h m → News h₀ L h ((D, lst ys) :: nw) → (∀ p ∈ nw, p.1 ≠ D) → (∀ p ∈ news, p.1 < D) → J vs.length ys nw → Fin (.ref D) { s₁ with heap := h, toks := tk }) ∨
  (∃ r a b t u v n news J, xv = .ref r ∧ A.handled = none ∧ Fr h₀ L s₁.heap m ∧ News h₀ L s₁.heap news ∧ IsRange s₁.heap r a b 1 t u v ∧ Builtin.Range.small a b 1 = true ∧ Builtin.Range.rangeSize a b 1 = ((n : Nat) : Int) ∧ n ≤ sizeLine ∧ J 0 [] news ∧ Turn (fun _ => True) (fun i v => ∃ t, v = .int (a + (i : Int)) t) n J ∧
    ∀ D h tk ys nw, Fr h₀ L h m → News h₀ L h ((D, lst ys) :: nw) → (∀ p ∈ nw, p.1 ≠ D) → (∀ p ∈ news, p.1 < D) → J n ys nw → Fin (.ref D) { s₁ with heap := h, toks := tk })

theorem CpSrc.list {Turn : (List (Addr × Obj) → Prop) → (Nat → Value → Prop) → Nat → (Nat → List Value → List (Addr × Obj) → Prop) → Prop} {Fin : Value → Shared → Prop} {s₁ : Shared} {ax : Addr} {vs : List Value} {k : Nat} {news : List (Addr × Obj)} (J : Nat → List Value → List (Addr × Obj) → Prop)
    (hh : A.handled = none) (F : Fr h₀ L s₁.heap m) (N : News h₀ L s₁.heap news) (hm : (ax, listOf (List.toArray vs) k) ∈ news) (hsz : vs.length ≤ sizeLine) (h0 : J 0 [] news) (turn : Turn (SrcAt h₀ ax vs.toArray) (fun i v => vs[i]? = some v) vs.length J)
    (fin : ∀ D h tk ys nw, Fr h₀ L h m → News h₀ L h ((D, lst ys) :: nw) → (∀ p ∈ nw, p.1 ≠ D) → (∀ p ∈ news, p.1 < D) → J vs.length ys nw → Fin (.ref D) { s₁ with heap := h, toks := tk }) : CpSrc h₀ L m A Turn Fin (.ref ax) s₁ :=
  .inl ⟨ax, vs, k, news, J, rfl, hh, F, N, hm, hsz, h0, turn, fin⟩
theorem CpSrc.range {Turn : (List (Addr × Obj) → Prop) → (Nat → Value → Prop) → Nat → (Nat → List Value → List (Addr × Obj) → Prop) → Prop} {Fin : Value → Shared → Prop} {s₁ : Shared} {r : Addr} {a b : Int} {t u v : Tok} (n : Nat) {news : List (Addr × Obj)} (J : Nat → List Value → List (Addr × Obj) → Prop)
    (hh : A.handled = none) (F : Fr h₀ L s₁.heap m) (N : News h₀ L s₁.heap news) (hr : IsRange s₁.heap r a b 1 t u v) (hsm : Builtin.Range.small a b 1 = true) (hn : Builtin.Range.rangeSize a b 1 = ((n : Nat) : Int)) (hsz : n ≤ sizeLine) (h0 : J 0 [] news) (turn : Turn (fun _ => True) (fun i v => ∃ t, v = .int (a + (i : Int)) t) n J)
    (fin : ∀ D h tk ys nw, Fr h₀ L h m → News h₀ L h ((D, lst ys) :: nw) → (∀ p ∈ nw, p.1 ≠ D) → (∀ p ∈ news, p.1 < D) → J n ys nw → Fin (.ref D) { s₁ with heap := h, toks := tk }) : CpSrc h₀ L m A Turn Fin (.ref r) s₁ :=
  .inr ⟨r, a, b, t, u, v, n, news, J, rfl, hh, F, N, hr, hsm, hn, hsz, h0, turn, fin⟩

/-- from an iterable to the block of a comprehension: both kinds of sources, for any rule of the block -/
theorem src_block {Turn : (List (Addr × Obj) → Prop) → (Nat → Value → Prop) → Nat → (Nat → List Value → List (Addr × Obj) → Prop) → Prop} {Fin : Value → Shared → Prop} {xv : Value} {s₁ : Shared} {K : Value → Shared → Prop} (h : CpSrc h₀ L m A Turn Fin xv s₁)
    (blk : ∀ (s₂ : Shared) (I : Addr) (fp : List Addr) (n : Nat) (P : Nat → Value → Prop) (St : Nat → Heap → Prop) (S : List (Addr × Obj) → Prop) (news : List (Addr × Obj)) (J : Nat → List Value → List (Addr × Obj) → Prop) (hp : Heap), s₂ = { s₁ with heap := hp } →
      Walks prog w A I fp [I] n P St → n ≤ sizeLine → (∀ i h, St i h → ∃ o, h.get? I = some o) →
      (∀ i h h' o nw, St i h → h.get? I = some o → h'.get? I = some o → (∀ b o, h₀.get? b = some o → h'.get? b = some o) → News h₀ L h' nw → S nw → St i h') → St 0 s₂.heap → (∀ b ∈ fp, b < s₂.heap.objs.size) →
      Fr h₀ L s₂.heap m → News h₀ L s₂.heap news → L ≠ I → h₀.get? I = none → (∀ p ∈ news, p.1 ≠ I) → S news → J 0 [] news → Turn S P n J →
      (∀ D h tk ys nw, Fr h₀ L h m → News h₀ L h ((D, lst ys) :: nw) → (∀ p ∈ nw, p.1 ≠ D) → (∀ p ∈ news, p.1 < D) → J n ys nw → Fin (.ref D) { s₁ with heap := h, toks := tk }) → K (.ref I) s₂) :
    wpAny (model prog w) A (pyIter xv) K E s₁ := by
  rcases h with ⟨ax, vs, k, news, J, rfl, hh, F, N, hm, hsz, h0, turn, fin⟩ | ⟨r, a, b, t, u, v, n, news, J, rfl, hh, F, N, hr, hsm, hn, hsz, h0, turn, fin⟩
  · have hl : s₁.heap.IsList ax vs.toArray := News.isList N hm
    have hlt : ax < s₁.heap.objs.size := by obtain ⟨_, e, _⟩ := hl; exact Heap.lt_size e
    refine wpAny_pyIter_list hl ?_
    have up : ∀ b o, s₁.heap.get? b = some o → (s₁.heap.push { cls := .type "list_iterator", data := .fields #[.ref ax, .int 0 0] }).get? b = some o := fun b o e => Heap.get?_push_of_some _ e
    have W := Walks.list (prog := prog) (w := w) hh s₁.heap.objs.size ax (Nat.ne_of_lt hlt) vs.toArray
    have e1 : vs.toArray.size = vs.length := by simp
    rw [e1] at W
    refine blk _ s₁.heap.objs.size _ vs.length (fun i v => vs[i]? = some v) _ (SrcAt h₀ ax vs.toArray) news J _ rfl (?_ : Walks prog w A s₁.heap.objs.size [s₁.heap.objs.size, ax] [s₁.heap.objs.size] vs.length (fun i v => vs[i]? = some v) _) hsz (fun i h st => by obtain ⟨o, e, _⟩ := st.1; exact ⟨o, e⟩) list_st ⟨⟨_, Heap.get?_push_size _ rfl, rfl, rfl⟩, hl.push _⟩ (fun b hb => ?_)
      (F.keeps up) (N.grown up) (Nat.ne_of_lt F.ns.lt) (next_is_new F) (fun p hp => Nat.ne_of_lt (Heap.lt_size (N p hp).1)) (.inr ⟨_, hm, rfl, _, rfl⟩) h0 turn fin
    · simpa using W
    · show b < (s₁.heap.push _).objs.size
      rw [Heap.size_push]
      rcases List.mem_cons.mp hb with rfl | hb
      · exact Nat.lt_succ_self _
      · rw [List.mem_singleton.mp hb]; exact Nat.lt_succ_of_lt hlt
  · refine wpAny_pyIter_range hr hsm ?_
    refine blk _ s₁.heap.objs.size _ n _ _ (fun _ => True) news J _ rfl (range_walks hh a n) hsz (fun i h st => ⟨_, st⟩) range_st (by show IsRangeIter _ _ _ _ _; rw [hn]; simpa using Heap.get?_push_size _ rfl) (fun b hb => ?_)
      (F.keeps fun _ _ e => Heap.get?_push_of_some _ e) (N.grown fun _ _ e => Heap.get?_push_of_some _ e) (Nat.ne_of_lt F.ns.lt) (next_is_new F) (fun p hp => Nat.ne_of_lt (Heap.lt_size (N p hp).1)) trivial h0 turn fin
    rw [List.mem_singleton.mp hb]
    show s₁.heap.objs.size < (s₁.heap.push _).objs.size
    rw [Heap.size_push]; exact Nat.lt_succ_self _

theorem ListComp_C {elt iter : Expr} {ifs : List Expr} {x : Str} {px : Pos} {scope : Scope} {cl : List (Str × Addr)} {pos : Pos} {Q : Value → Shared → Prop} (_F₀ : Fr h₀ L s.heap m)
    (hclos : closureFor scope env = pure cl) (hcf : ∀ k, cellsFrom k scope.names cl = (x, k) :: cl) (hpc : ∀ h, pushCells h scope.names = h.push { cls := .type "cell", data := .cell none }) (hkind : scope.kind = .function)
    (hnames : ∀ y ∈ scope.names, y.2 = .local → scope.names.lookup y.1 = some .local) (hx : scope.names.lookup x = some .cell)
    (h : wpAny (model prog w) A (eval iter env) (fun xv s₁ => CpSrc h₀ L m A (CpTurn prog w A h₀ L m env elt ifs x scope cl s₁) Q xv s₁) E s)
    (hs : ∀ x, foldedSetIterable iter env x = pure x := by intro _; rfl) :
    wpAny (model prog w) A (eval (.ListComp elt [⟨.Name x px, iter, ifs, 0⟩] scope pos) env) Q E s := by
  rw [eval_ListComp]
  refine wpAny_comprehension_free (use := none) rfl hs hclos hkind hnames (wpAny_mono h (fun xv s₁ h₁ => ?_) fun _ _ e => e)
  refine src_block h₁ fun s₂ I fp n P St S news J hp e W hsz hIo hSt hst hfp F N hIL hI₀ off hS h0 turn fin => ?_
  subst e
  refine block_C W hsz hIo hSt hcf hpc hkind hx hst hfp F N hIL hI₀ off hS h0 turn ?_
  intro D C h' tk m' ys news' F' N' o1 olow hn hC₀ hD₀ hCL hDL hCD offC hj
  refine ⟨m', hn, fun h'' hs'' => fin D h'' tk ys news' (F'.change hs'' hCL hC₀) (fun p hp => ?_) o1 olow hj⟩
  refine ⟨hs''.extBut _ _ ?_ (N' p hp).1, (N' p hp).2⟩
  rcases List.mem_cons.mp hp with rfl | hp
  · exact Ne.symm hCD
  · exact offC p hp

theorem block_L {elt iter : Expr} {ifs : List Expr} {x : Str} {px : Pos} {scope : Scope} {cl : List (Str × Addr)} {pos : Pos} {s₂ : Shared} {I : Addr} {fp : List Addr} {n : Nat} {P : Nat → Value → Prop} {St : Nat → Heap → Prop} {S : List (Addr × Obj) → Prop} {news : List (Addr × Obj)}
    {J : Nat → List Value → List (Addr × Obj) → Prop} {RR : Value → Addr → Result → Shared → Prop}
    (W : Walks prog w A I fp [I] n P St) (hsz : n ≤ sizeLine) (hIo : ∀ i h, St i h → ∃ o, h.get? I = some o)
    (hSt : ∀ i h h' o nw, St i h → h.get? I = some o → h'.get? I = some o → (∀ b o, h₀.get? b = some o → h'.get? b = some o) → News h₀ L h' nw → S nw → St i h')
    (hcell : ∀ y ∈ scope.names, y.2 ≠ .cell)
    (hkind : scope.kind = .function) (hx : scope.names.lookup x = some .local) (hst : St 0 s₂.heap) (hfp : ∀ b ∈ fp, b < s₂.heap.objs.size)
    (F : Fr h₀ L s₂.heap m) (N : News h₀ L s₂.heap news) (hIL : L ≠ I) (hI₀ : h₀.get? I = none) (off : ∀ p ∈ news, p.1 ≠ I) (hS : S news)
    (hJ : J 0 [] news) (turn : LpTurn prog w A h₀ L m env elt ifs x scope cl s₂ S P n J)
    (hRR : ∀ D C h tk m' ys news', Fr h₀ L h m → News h₀ L h ((D, lst ys) :: news') → (∀ p ∈ news', p.1 ≠ D) → (∀ p ∈ news, p.1 < D) → h.Ns C m' → h₀.get? C = none → h₀.get? D = none → C ≠ L → D ≠ L → C ≠ D → (∀ p ∈ news', p.1 ≠ C) → J n ys news' → RR (.ref D) C (.ok .next) { s₂ with heap := h, toks := tk }) :
    wpAny (model prog w) A (newList []) (fun acc s₃ => wpAny (model prog w) A (newFunctionEnv scope env.globals cl [] env.qual none .none (some env)) (fun cenv s₄ =>
      codeAny (model prog w) A (.compStart (.ListComp elt [⟨.Name x px, iter, ifs, 0⟩] scope pos) 0 (.ref I) acc { cenv with scope := relabel scope env }) (RR acc cenv.locals) s₄) E s₃) E s₂ := by
  refine wpAny_newObj_type (wpAny_newFunctionEnv hcell (by intro y hy; simp at hy) (fun H3 hns₁ hsb₁ => ?_) hkind)
  dsimp only at hns₁ hsb₁ ⊢
  generalize hH1 : s₂.heap.push { cls := .type "list", dict := none, data := .seq ([] : List Value).toArray } = H1 at hns₁ hsb₁ ⊢
  have z1 : H1.objs.size = s₂.heap.objs.size + 1 := by rw [← hH1, Heap.size_push]
  obtain ⟨D, hD⟩ : ∃ D, D = s₂.heap.objs.size := ⟨_, rfl⟩
  obtain ⟨C, hC⟩ : ∃ C, C = H1.objs.size := ⟨_, rfl⟩
  rw [← hC] at hns₁ hsb₁
  show codeAny _ _ (.compStart _ 0 (.ref I) (.ref s₂.heap.objs.size) (compEnvC scope cl H1.objs.size env)) (RR (.ref s₂.heap.objs.size) H1.objs.size) _
  rw [← hD, ← hC]
  have hDC : D ≠ C := by rw [hD, hC, z1]; exact Nat.ne_of_lt (Nat.lt_succ_self _)
  have below : ∀ b, b < s₂.heap.objs.size → b ≠ C ∧ b ≠ D := fun b hb => ⟨by rw [hC, z1]; exact Nat.ne_of_lt (Nat.lt_succ_of_lt hb), by rw [hD]; exact Nat.ne_of_lt hb⟩
  have notfp : ∀ {b}, s₂.heap.objs.size ≤ b → b ∉ fp := fun hb hm => Nat.not_lt.mpr hb (hfp _ hm)
  have hDf : D ∉ fp := notfp (Nat.le_of_eq hD.symm)
  have hCf : C ∉ fp := notfp (by rw [hC, z1]; exact Nat.le_succ _)
  have hIlt : I < s₂.heap.objs.size := hfp I (W.sub I (.head _))
  obtain ⟨hIC, hID⟩ := below I hIlt
  have old : ∀ b o, s₂.heap.get? b = some o → H3.get? b = some o := fun b o e => hsb₁.extBut b o (below b (Heap.lt_size e)).1 (Heap.get?_push_of_some _ (hH1 ▸ Heap.get?_push_of_some _ e))
  have hacc : H3.get? D = some (lst []) := hsb₁.extBut _ _ hDC (Heap.get?_push_of_some _ (by rw [hD, ← hH1]; exact Heap.get?_push_size _ rfl))
  have hst₁ : St 0 H3 := W.frame _ _ _ hst fun b _ o e => old b o e
  have fresh₀ : ∀ a, s₂.heap.objs.size ≤ a → h₀.get? a = none := fun a ha => by
    cases e : h₀.get? a with
    | none => rfl
    | some o' => exact absurd (Heap.lt_size (F.keep a o' e)) (Nat.not_lt.mpr ha)
  have hlow : ∀ p ∈ news, p.1 < D := fun p hp => by rw [hD]; exact Heap.lt_size (N p hp).1
  have hD₀ : h₀.get? D = none := fresh₀ _ (Nat.le_of_eq hD.symm)
  have hC₀ : h₀.get? C = none := fresh₀ _ (by rw [hC, z1]; exact Nat.le_succ _)
  obtain ⟨hLC, hLD⟩ := below L F.ns.lt
  have off₀ : ∀ p ∈ news, p.1 ≠ I ∧ p.1 ≠ C ∧ p.1 ≠ D := fun p hp => ⟨off p hp, below _ (Heap.lt_size (N p hp).1)⟩
  have loop : ∀ tk, codeAny (model prog w) A (.compLoop (.ListComp elt [⟨.Name x px, iter, ifs, 0⟩] scope pos) 0 (.ref I) (.ref D) (compEnvC scope cl C env)) (RR (.ref D) C) { s₂ with heap := H3, toks := tk } := by
    intro tk0
    refine codeAny_compLoop_tests
      (fun k s' => ∃ h' tk i ys m' nw, s' = { s₂ with heap := h', toks := tk } ∧ i ≤ n ∧ k = n + 1 - i ∧ ys.length ≤ i ∧ St i h' ∧ Fr h₀ L h' m ∧ h'.Ns C m' ∧ News h₀ L h' ((D, lst ys) :: nw) ∧
        (∀ p ∈ nw, p.1 ≠ I ∧ p.1 ≠ C ∧ p.1 ≠ D) ∧ S nw ∧ J i ys nw) ?_ (n + 1)
      ⟨H3, _, 0, [], _, news, rfl, Nat.zero_le _, rfl, Nat.le_refl _, hst₁, F.keeps old, hns₁, fun p hp => ?_, off₀, hS, hJ⟩
    · rintro k s' ⟨h', tk, i, ys, m', nw, rfl, hi, rfl, hyl, hst', F', hn', N', off', hS', hJ'⟩
      by_cases hlt : i < n
      · refine W.item i _ _ _ hlt hst' fun v h₂ tk₂ hPv hst₂ hk₂ => ?_
        have kb : ∀ b o, b ≠ I → h'.get? b = some o → h₂.get? b = some o := fun b o hb e => hk₂ b o (by simpa using hb) e
        refine wpAny_assign_Name (wpAny_storeName_local (lookup_relabel_local hx) (hn'.at' fun o e => kb _ o hIC.symm e) (fun h₃ hn₃ hs₃ => ?_) (by simp [compEnvC, relabel, hkind]))
        have hst₃ : St (i + 1) h₃ := W.frame _ _ _ hst₂ fun b hb o e => hs₃.extBut b o (fun q => hCf (by have q' : b = C := q; rw [← q']; exact hb)) e
        obtain ⟨oI, heI⟩ := hIo _ _ hst₃
        obtain ⟨oC, heC, hoC⟩ := ns_obj hn₃
        have F₃ : Fr h₀ L h₃ m := (fr_but F' hk₂ hIL hI₀).change hs₃ hLC.symm hC₀
        have N₃ : News h₀ L h₃ ((I, oI) :: (C, oC) :: (D, lst ys) :: nw) := by
          refine List.forall_mem_cons.mpr ⟨⟨heI, hIL.symm, hI₀⟩, List.forall_mem_cons.mpr ⟨⟨heC, hLC.symm, hC₀⟩, fun p hp => ?_⟩⟩
          refine ⟨hs₃.extBut _ _ ?_ (kb _ _ ?_ (N' p hp).1), (N' p hp).2⟩
          · rcases List.mem_cons.mp hp with rfl | hp
            · exact hDC
            · exact (off' p hp).2.1
          · rcases List.mem_cons.mp hp with rfl | hp
            · exact hID.symm
            · exact (off' p hp).1
        refine wpAny_mono (turn i v ys nw I oI C oC D _ h₃ _ _ hlt hPv hyl hoC (by simp) F₃ N₃ off' hS' hJ') (fun ok s₄ h₄ => ?_) fun _ _ e => e
        cases ok with
        | true =>
          simp only [if_true] at h₄ ⊢
          refine wpAny_mono h₄ (fun y s₅ h₅ => ?_) fun _ _ e => e
          obtain ⟨h₄, tk₄, nw₄, rfl, F₄, N₄, off₄, hS₄, J₄⟩ := h₅
          have N₄' : News h₀ L h₄ nw₄ := fun p hp => N₄ p (.tail _ (.tail _ (.tail _ hp)))
          have hst₄ : St (i + 1) h₄ := hSt _ _ _ _ _ hst₃ heI (N₄ (I, oI) (.head _)).1 F₄.keep N₄' hS₄
          refine append_at (hsz := by show ys.toArray.size ≤ sizeLine; rw [List.size_toArray]; exact Nat.le_trans (Nat.le_trans hyl hi) hsz) (N₄ (D, lst ys) (.tail _ (.tail _ (.head _)))).1 fun h₅ hs₅ hD₅ => ?_
          refine ⟨n + 1 - (i + 1), by omega, h₅, tk₄, i + 1, ys ++ [y], _, nw₄, rfl, hlt, rfl, by rw [List.length_append, List.length_singleton]; exact Nat.succ_le_succ hyl, W.frame _ _ _ hst₄ fun b hb o e => hs₅.extBut b o (fun q => hDf (q ▸ hb)) e, F₄.change hs₅ hLD.symm hD₀,
            (hoC.ns (N₄ (C, oC) (.tail _ (.head _))).1).sameBut hs₅ hDC.symm, List.forall_mem_cons.mpr ⟨⟨hD₅.trans (congrArg some (lst_snoc ys y)), hLD.symm, hD₀⟩, fun p hp => ⟨hs₅.extBut _ _ (off₄ p hp).2.2 (N₄' p hp).1, (N₄' p hp).2⟩⟩, off₄, hS₄, J₄⟩
        | false =>
          simp only [Bool.false_eq_true, if_false] at h₄ ⊢
          obtain ⟨h₅, tk₄, nw₄, rfl, F₄, N₄, off₄, hS₄, J₄⟩ := h₄
          have N₄' : News h₀ L h₅ nw₄ := fun p hp => N₄ p (.tail _ (.tail _ (.tail _ hp)))
          have hst₄ : St (i + 1) h₅ := hSt _ _ _ _ _ hst₃ heI (N₄ (I, oI) (.head _)).1 F₄.keep N₄' hS₄
          exact ⟨n + 1 - (i + 1), by omega, h₅, tk₄, i + 1, ys, _, nw₄, rfl, hlt, rfl, Nat.le_succ_of_le hyl, hst₄, F₄, hoC.ns (N₄ (C, oC) (.tail _ (.head _))).1, fun p hp => N₄ p (.tail _ (.tail _ hp)), off₄, hS₄, J₄⟩
      · obtain rfl : i = n := Nat.le_antisymm hi (Nat.not_lt.mp hlt)
        refine W.done _ _ _ hst' fun h₂ tk₂ hk₂ => ?_
        have kb : ∀ b o, b ≠ I → h'.get? b = some o → h₂.get? b = some o := fun b o hb e => hk₂ b o (by simpa using hb) e
        exact hRR _ _ h₂ tk₂ _ ys nw (fr_but F' hk₂ hIL hI₀) (news_but N' hk₂ fun p hp => by
          rcases List.mem_cons.mp hp with rfl | hp
          · exact hID.symm
          · exact (off' p hp).1) (fun p hp => (off' p hp).2.2) hlow (hn'.at' fun o e => kb _ o hIC.symm e) hC₀ hD₀ hLC.symm hLD.symm hDC.symm (fun p hp => (off' p hp).2.1) hJ'
    · rcases List.mem_cons.mp hp with rfl | hp
      · exact ⟨hacc, hLD.symm, hD₀⟩
      · exact ⟨old _ _ (N p hp).1, (N p hp).2⟩
  exact codeAny_compStart_list (loop _) (W.self 0 _ _ _ hst₁ (loop _))
theorem ListComp_L {elt iter : Expr} {ifs : List Expr} {x : Str} {px : Pos} {scope : Scope} {cl : List (Str × Addr)} {pos : Pos} {Q : Value → Shared → Prop} (_F₀ : Fr h₀ L s.heap m)
    (hclos : closureFor scope env = pure cl) (hcell : ∀ y ∈ scope.names, y.2 ≠ .cell) (hkind : scope.kind = .function)
    (hnames : ∀ y ∈ scope.names, y.2 = .local → scope.names.lookup y.1 = some .local) (hx : scope.names.lookup x = some .local)
    (h : wpAny (model prog w) A (eval iter env) (fun xv s₁ => CpSrc h₀ L m A (LpTurn prog w A h₀ L m env elt ifs x scope cl s₁) Q xv s₁) E s)
    (hs : ∀ x, foldedSetIterable iter env x = pure x := by intro _; rfl) :
    wpAny (model prog w) A (eval (.ListComp elt [⟨.Name x px, iter, ifs, 0⟩] scope pos) env) Q E s := by
  rw [eval_ListComp]
  refine wpAny_comprehension_free (use := none) rfl hs hclos hkind hnames (wpAny_mono h (fun xv s₁ h₁ => ?_) fun _ _ e => e)
  refine src_block h₁ fun s₂ I fp n P St S news J hp e W hsz hIo hSt hst hfp F N hIL hI₀ off hS h0 turn fin => ?_
  subst e
  refine block_L W hsz hIo hSt hcell hkind hx hst hfp F N hIL hI₀ off hS h0 turn ?_
  intro D C h' tk m' ys news' F' N' o1 olow hn hC₀ hD₀ hCL hDL hCD offC hj
  refine ⟨m', hn, fun h'' hs'' => fin D h'' tk ys news' (F'.change hs'' hCL hC₀) (fun p hp => ?_) o1 olow hj⟩
  refine ⟨hs''.extBut _ _ ?_ (N' p hp).1, (N' p hp).2⟩
  rcases List.mem_cons.mp hp with rfl | hp
  · exact Ne.symm hCD
  · exact offC p hp

/-- an element that is an int, the ledger as it stood -/
def EltI (h₀ : Heap) (L : Addr) (m : Str → Option Value) (s : Shared) (led : List (Addr × Obj)) (e : Int) (y : Value) (s' : Shared) : Prop :=
  ∃ t h' tk', y = .int e t ∧ s' = { s with heap := h', toks := tk' } ∧ Fr h₀ L h' m ∧ News h₀ L h' led
theorem EltI.intro {led all : List (Addr × Obj)} {e e' : Int} {t : Tok} {h' : Heap} {tk' : Nat} (F : Fr h₀ L h' m) (N : News h₀ L h' all) (sub : ∀ p ∈ led, p ∈ all) (he : e' = e) : EltI h₀ L m s led e (.int e' t) { s with heap := h', toks := tk' } :=
  ⟨t, h', tk', by rw [he], rfl, F, fun p hp => N p (sub p hp)⟩
theorem ints_snoc {ys : List Value} {g : Nat → Int} {i : Nat} {t : Tok} (h : IntsAre ys ((List.range i).map g)) : IntsAre (ys ++ [.int (g i) t]) ((List.range (i + 1)).map g) := by
  rw [List.range_succ, List.map_append]; exact h.append (.cons _ _ .nil)

theorem turn_ints_L {elt : Expr} {x : Str} {scope : Scope} {cl : List (Str × Addr)} {S : List (Addr × Obj) → Prop} {P : Nat → Value → Prop} {n : Nat} {news : List (Addr × Obj)} (g : Nat → Int)
    (h : ∀ i v ys I oI C oC D m₂ h tk (E' : Value → Shared → Prop), i < n → P i v → NsObj oC m₂ → m₂ x = some v → IntsAre ys ((List.range i).map g) → Fr h₀ L h m → News h₀ L h ((I, oI) :: (C, oC) :: (D, lst ys) :: news) → (∀ p ∈ news, p.1 ≠ I ∧ p.1 ≠ C ∧ p.1 ≠ D) →
      wpAny (model prog w) A (eval elt (compEnvC scope cl C env)) (EltI h₀ L m s ((I, oI) :: (C, oC) :: (D, lst ys) :: news) (g i)) E' { s with heap := h, toks := tk }) :
    LpTurn prog w A h₀ L m env elt [] x scope cl s S P n (fun i ys nw => nw = news ∧ IntsAre ys ((List.range i).map g)) := by
  rintro i v ys nw I oI C oC D m₂ hh tk E' hi hP hl hoC hx F N off hS ⟨rfl, hI⟩
  refine wpAny_tests_nil ?_
  simp only [if_true]
  refine wpAny_mono (h i v ys I oI C oC D m₂ hh tk E' hi hP hoC hx hI F N off) (fun y s' hy => ?_) fun _ _ e => e
  obtain ⟨t, h', tk', rfl, rfl, F', N'⟩ := hy
  exact ⟨h', tk', _, rfl, F', N', off, hS, rfl, ints_snoc hI⟩
theorem turn_ints_C {elt : Expr} {x : Str} {scope : Scope} {cl : List (Str × Addr)} {S : List (Addr × Obj) → Prop} {P : Nat → Value → Prop} {n : Nat} {news : List (Addr × Obj)} (g : Nat → Int)
    (h : ∀ i v ys I oI C oC c oc D h tk (E' : Value → Shared → Prop), i < n → P i v → oc.data = .cell (some v) → IntsAre ys ((List.range i).map g) → Fr h₀ L h m → News h₀ L h ((I, oI) :: (C, oC) :: (c, oc) :: (D, lst ys) :: news) → (∀ p ∈ news, p.1 ≠ I ∧ p.1 ≠ C ∧ p.1 ≠ c ∧ p.1 ≠ D) →
      wpAny (model prog w) A (eval elt (compEnvC scope ((x, c) :: cl) C env)) (EltI h₀ L m s ((I, oI) :: (C, oC) :: (c, oc) :: (D, lst ys) :: news) (g i)) E' { s with heap := h, toks := tk }) :
    CpTurn prog w A h₀ L m env elt [] x scope cl s S P n (fun i ys nw => nw = news ∧ IntsAre ys ((List.range i).map g)) := by
  rintro i v ys nw I oI C oC c oc D hh tk E' hi hP hl hoc F N off hS ⟨rfl, hI⟩
  refine wpAny_tests_nil ?_
  simp only [if_true]
  refine wpAny_mono (h i v ys I oI C oC c oc D hh tk E' hi hP hoc hI F N off) (fun y s' hy => ?_) fun _ _ e => e
  obtain ⟨t, h', tk', rfl, rfl, F', N'⟩ := hy
  exact ⟨h', tk', _, rfl, F', N', off, hS, rfl, ints_snoc hI⟩

/-- lists of ints on the ledger, named by the items of a list -/
def RowsAt (led : List (Addr × Obj)) (ys : List Value) (ls : List (List Int)) : Prop :=
  ys.length = ls.length ∧ ∀ i, i < ls.length → ∃ a vs k, ys[i]? = some (.ref a) ∧ (a, listOf (List.toArray vs) k) ∈ led ∧ IntsAre vs (ls.getD i [])
theorem RowsAt.nil {led : List (Addr × Obj)} : RowsAt led [] [] := ⟨rfl, fun _ h => absurd h (Nat.not_lt_zero _)⟩
theorem RowsAt.snoc {led led' : List (Addr × Obj)} {ys : List Value} {ls : List (List Int)} {a : Addr} {vs : List Value} {k : Nat} {r : List Int} (h : RowsAt led ys ls) (sub : ∀ p ∈ led, p ∈ led') (hm : (a, listOf (List.toArray vs) k) ∈ led') (hI : IntsAre vs r) : RowsAt led' (ys ++ [.ref a]) (ls ++ [r]) := by
  refine ⟨by rw [List.length_append, List.length_append, h.1]; rfl, fun i hi => ?_⟩
  rw [List.length_append, List.length_singleton] at hi
  by_cases hl : i < ls.length
  · obtain ⟨b, us, j, e, m, q⟩ := h.2 i hl
    refine ⟨b, us, j, ?_, sub _ m, ?_⟩
    · rw [List.getElem?_append_left (by rw [h.1]; exact hl)]; exact e
    · rw [List.getD_eq_getElem?_getD, List.getElem?_append_left hl, ← List.getD_eq_getElem?_getD]; exact q
  · obtain rfl : i = ls.length := by omega
    refine ⟨a, vs, k, ?_, hm, ?_⟩
    · rw [← h.1, List.getElem?_append_right (Nat.le_refl _), Nat.sub_self]; rfl
    · rw [List.getD_eq_getElem?_getD, List.getElem?_append_right (Nat.le_refl _), Nat.sub_self]; exact hI
end
end Mine
end

section
open PySem PySem.W PyProof.Rows PySem.Spec PySem.Calls
open PyProof.Rows.LCg
set_option maxRecDepth 100000
set_option maxHeartbeats 1600000
namespace Mine
section
variable {prog : Program} {w : World} {A : Around} {E : Value → Shared → Prop} {s : Shared} {h₀ : Heap} {L : Addr} {m : Str → Option Value} {env : Env}

def EnEnd (h₀ : Heap) (L : Addr) (m : Str → Option Value) (s : Shared) (led : List (Addr × Obj)) (r : Prop) (s₂ : Shared) : Prop :=
  ∃ h' tk, s₂ = { s with heap := h', toks := tk } ∧ Fr h₀ L h' m ∧ News h₀ L h' led ∧ r
theorem EnEnd.intro {led all : List (Addr × Obj)} {r : Prop} {h' : Heap} {tk : Nat} (F : Fr h₀ L h' m) (N : News h₀ L h' all) (sub : ∀ p ∈ led, p ∈ all) (hr : r) : EnEnd h₀ L m s led r { s with heap := h', toks := tk } :=
  ⟨h', tk, rfl, F, fun p hp => N p (sub p hp), hr⟩

/-- a turn of a comprehension over enumerate of a list, with one test: it lays nothing that stays -/
def EnTurn (prog : Program) (w : World) (A : Around) (h₀ : Heap) (L : Addr) (m : Str → Option Value) (env : Env) (elt c : Expr) (a b : Str) (scope : Scope) (cl : List (Str × Addr)) (s : Shared) (news : List (Addr × Obj)) (vs : List Value) (J : Nat → List Value → Prop) : Prop :=
  ∀ i x t ys e oE it oT C oC D m₂ h tk (E' : Value → Shared → Prop), i < vs.length → vs[i]? = some x → NsObj oC m₂ → m₂ a = some (.int (i : Int) t) → m₂ b = some x → Fr h₀ L h m → News h₀ L h ((e, oE) :: (it, oT) :: (C, oC) :: (D, lst ys) :: news) → J i ys →
    wpAny (model prog w) A (isTrue c (compEnvC scope cl C env) (eval c (compEnvC scope cl C env))) (fun ok s' => if ok = true then
        wpAny (model prog w) A (eval elt (compEnvC scope cl C env)) (fun y s'' => EnEnd h₀ L m { s with heap := h, toks := tk } ((e, oE) :: (it, oT) :: (C, oC) :: (D, lst ys) :: news) (J (i + 1) (ys ++ [y])) s'') E' s'
      else EnEnd h₀ L m { s with heap := h, toks := tk } ((e, oE) :: (it, oT) :: (C, oC) :: (D, lst ys) :: news) (J (i + 1) ys) s') E' { s with heap := h, toks := tk }

theorem block_E {elt iter c : Expr} {a b : Str} {pa pb tp : Pos} {kk : Nat} {scope : Scope} {cl : List (Str × Addr)} {pos : Pos} {s₂ : Shared} {e it l : Addr} {vs : List Value} {k : Nat} {news : List (Addr × Obj)}
    {J : Nat → List Value → Prop} {RR : Value → Addr → Result → Shared → Prop}
    (hh : A.handled = none) (hei : e ≠ it) (hle : l ≠ e) (hli : l ≠ it) (hsz : vs.length ≤ sizeLine) (he : IsEnum s₂.heap e it 0 .none) (hit : s₂.heap.IsListIter it l 0) (hm : (l, listOf vs.toArray k) ∈ news)
    (hcell : ∀ y ∈ scope.names, y.2 ≠ .cell) (hkind : scope.kind = .function) (hxa : scope.names.lookup a = some .local) (hxb : scope.names.lookup b = some .local) (hab : ¬ a = b)
    (F : Fr h₀ L s₂.heap m) (N : News h₀ L s₂.heap news) (hLe : L ≠ e) (hLi : L ≠ it) (he₀ : h₀.get? e = none) (hi₀ : h₀.get? it = none) (off : ∀ p ∈ news, p.1 ≠ e ∧ p.1 ≠ it)
    (hJ : J 0 []) (turn : EnTurn prog w A h₀ L m env elt c a b scope cl s₂ news vs J)
    (hRR : ∀ D C h tk m' ys, Fr h₀ L h m → News h₀ L h ((D, lst ys) :: news) → (∀ p ∈ news, p.1 < D) → h.Ns C m' → h₀.get? C = none → h₀.get? D = none → C ≠ L → D ≠ L → C ≠ D → (∀ p ∈ news, p.1 ≠ C) → J vs.length ys → RR (.ref D) C (.ok .next) { s₂ with heap := h, toks := tk }) :
    wpAny (model prog w) A (newList []) (fun acc s₃ => wpAny (model prog w) A (newFunctionEnv scope env.globals cl [] env.qual none .none (some env)) (fun cenv s₄ =>
      codeAny (model prog w) A (.compStart (.ListComp elt [⟨.Tuple [.Name a pa, .Name b pb] kk tp, iter, [c], 0⟩] scope pos) 0 (.ref e) acc { cenv with scope := relabel scope env }) (RR acc cenv.locals) s₄) E s₃) E s₂ := by
  refine wpAny_newObj_type (wpAny_newFunctionEnv hcell (by intro y hy; simp at hy) (fun H3 hns₁ hsb₁ => ?_) hkind)
  dsimp only at hns₁ hsb₁ ⊢
  generalize hH1 : s₂.heap.push { cls := .type "list", dict := none, data := .seq ([] : List Value).toArray } = H1 at hns₁ hsb₁ ⊢
  have z1 : H1.objs.size = s₂.heap.objs.size + 1 := by rw [← hH1, Heap.size_push]
  obtain ⟨D, hD⟩ : ∃ D, D = s₂.heap.objs.size := ⟨_, rfl⟩
  obtain ⟨C, hC⟩ : ∃ C, C = H1.objs.size := ⟨_, rfl⟩
  rw [← hC] at hns₁ hsb₁
  show codeAny _ _ (.compStart _ 0 (.ref e) (.ref s₂.heap.objs.size) (compEnvC scope cl H1.objs.size env)) (RR (.ref s₂.heap.objs.size) H1.objs.size) _
  rw [← hD, ← hC]
  have hDC : D ≠ C := by rw [hD, hC, z1]; exact Nat.ne_of_lt (Nat.lt_succ_self _)
  have below : ∀ b, b < s₂.heap.objs.size → b ≠ C ∧ b ≠ D := fun b hb => ⟨by rw [hC, z1]; exact Nat.ne_of_lt (Nat.lt_succ_of_lt hb), by rw [hD]; exact Nat.ne_of_lt hb⟩
  obtain ⟨heC, heD⟩ := below e (Heap.lt_size he)
  obtain ⟨hiC, hiD⟩ := below it (by obtain ⟨_, x, _⟩ := hit; exact Heap.lt_size x)
  have hl : s₂.heap.IsList l vs.toArray := News.isList N hm
  obtain ⟨hlC, hlD⟩ := below l (by obtain ⟨_, x, _⟩ := hl; exact Heap.lt_size x)
  have old : ∀ b o, s₂.heap.get? b = some o → H3.get? b = some o := fun b o e => hsb₁.extBut b o (below b (Heap.lt_size e)).1 (Heap.get?_push_of_some _ (hH1 ▸ Heap.get?_push_of_some _ e))
  have hacc : H3.get? D = some (lst []) := hsb₁.extBut _ _ hDC (Heap.get?_push_of_some _ (by rw [hD, ← hH1]; exact Heap.get?_push_size _ rfl))
  have fresh₀ : ∀ a, s₂.heap.objs.size ≤ a → h₀.get? a = none := fun a ha => by
    cases e : h₀.get? a with
    | none => rfl
    | some o' => exact absurd (Heap.lt_size (F.keep a o' e)) (Nat.not_lt.mpr ha)
  have hlow : ∀ p ∈ news, p.1 < D := fun p hp => by rw [hD]; exact Heap.lt_size (N p hp).1
  have hD₀ : h₀.get? D = none := fresh₀ _ (Nat.le_of_eq hD.symm)
  have hC₀ : h₀.get? C = none := fresh₀ _ (by rw [hC, z1]; exact Nat.le_succ _)
  obtain ⟨hLC, hLD⟩ := below L F.ns.lt
  have offC : ∀ p ∈ news, p.1 ≠ C := fun p hp => (below _ (Heap.lt_size (N p hp).1)).1
  have offD : ∀ p ∈ news, p.1 ≠ D := fun p hp => (below _ (Heap.lt_size (N p hp).1)).2
  have W := WalksT.enumerate (prog := prog) (w := w) (A := A) hh e it l hei hle hli vs.toArray
  have hlen : vs.toArray.size = vs.length := by simp
  have loop : ∀ tk, codeAny (model prog w) A (.compLoop (.ListComp elt [⟨.Tuple [.Name a pa, .Name b pb] kk tp, iter, [c], 0⟩] scope pos) 0 (.ref e) (.ref D) (compEnvC scope cl C env)) (RR (.ref D) C) { s₂ with heap := H3, toks := tk } := by
    intro tk0
    refine kct_loop
      (fun k' s' => ∃ h' tk i ys m', s' = { s₂ with heap := h', toks := tk } ∧ i ≤ vs.length ∧ k' = vs.length + 1 - i ∧ ys.length ≤ i ∧ (∃ o, IsEnum h' e it i o) ∧ h'.IsListIter it l i ∧ Fr h₀ L h' m ∧ h'.Ns C m' ∧ News h₀ L h' ((D, lst ys) :: news) ∧ J i ys) ?_ (vs.length + 1)
      ⟨H3, _, 0, [], _, rfl, Nat.zero_le _, rfl, Nat.le_refl _, ⟨.none, old _ _ he⟩, hit.at fun o x => old _ _ x, F.keeps old, hns₁, fun p hp => ?_, hJ⟩
    · rintro k' s' ⟨h', tk, i, ys, m', rfl, hi, rfl, hyl, ⟨o, he'⟩, hit', F', hn', N', hJ'⟩
      have hl' : h'.IsList l vs.toArray := News.isList N' (.tail _ hm)
      have kept : ∀ (h₂ : Heap), (∀ b o, b ∉ [e, it] → h'.get? b = some o → h₂.get? b = some o) → Fr h₀ L h₂ m ∧ News h₀ L h₂ ((D, lst ys) :: news) ∧ h₂.Ns C m' := fun h₂ hk => by
        have kb : ∀ b o, b ≠ e → b ≠ it → h'.get? b = some o → h₂.get? b = some o := fun b o h1 h2 x => hk b o (by simp [h1, h2]) x
        refine ⟨⟨F'.ns.at' fun o x => kb _ o hLe hLi x, fun b o x => kb b o (fun q => by rw [q, he₀] at x; cases x) (fun q => by rw [q, hi₀] at x; cases x) (F'.keep b o x), F'.above⟩, fun p hp => ⟨kb _ _ ?_ ?_ (N' p hp).1, (N' p hp).2⟩, hn'.at' fun o x => kb _ o heC.symm hiC.symm x⟩
        · rcases List.mem_cons.mp hp with rfl | hp
          · exact heD.symm
          · exact (off p hp).1
        · rcases List.mem_cons.mp hp with rfl | hp
          · exact hiD.symm
          · exact (off p hp).2
      by_cases hlt : i < vs.length
      · refine W.item i _ _ _ (by rw [hlen]; exact hlt) ⟨⟨o, he'⟩, hit', hl'⟩ fun T vals h₂ tk₂ hP _ hT hM hk₂ => ?_
        obtain ⟨t, x, hx, rfl⟩ := hP
        have hx' : vs[i]? = some x := by simpa using hx
        refine W.go _ _ _ i T _ _ _ hM fun h₃ hst₃ hk₃ => ?_
        have hT₃ : h₃.IsTuple T #[.int i t, x] := hT.at fun o y => hk₃ T o (W.apart i T _ hM) y
        obtain ⟨F₃, N₃, hn₃⟩ := kept h₃ fun b o hb y => hk₃ b o hb (hk₂ b o hb y)
        refine kcp_assign (env := compEnvC scope cl C env) hh hT₃ (lookup_relabel_local hxa) (lookup_relabel_local hxb) (by simp [compEnvC, relabel, hkind]) hn₃ fun h₄ tk₄ hn₄ hs₄ => ?_
        obtain ⟨⟨o₃, he₃⟩, hit₃, _⟩ := hst₃
        have he₄ : IsEnum h₄ e it ((i + 1 : Nat) : Int) o₃ := hs₄ _ _ heC he₃
        have hit₄ : h₄.IsListIter it l (i + 1) := hit₃.at fun o y => hs₄ _ o hiC y
        obtain ⟨oE, hE, hE'⟩ : ∃ oE : Obj, h₄.get? e = some oE ∧ ∀ h : Heap, h.get? e = some oE → ∃ o, IsEnum h e it ((i + 1 : Nat) : Int) o := ⟨_, he₄, fun h y => ⟨_, y⟩⟩
        obtain ⟨oT, hTo, hT'⟩ : ∃ oT : Obj, h₄.get? it = some oT ∧ ∀ h : Heap, h.get? it = some oT → h.IsListIter it l (i + 1) := by
          obtain ⟨oT, y1, y2⟩ := id hit₄
          exact ⟨oT, y1, fun h y => ⟨oT, y, y2⟩⟩
        obtain ⟨oC, hCo, hoC⟩ := ns_obj hn₄
        have F₄ : Fr h₀ L h₄ m := ⟨F₃.ns.at' fun o y => hs₄ _ o hLC y, fun b o y => hs₄ b o (fun q => by have q2 : b = C := q; rw [q2, hC₀] at y; cases y) (F₃.keep b o y), F₃.above⟩
        have N₄ : News h₀ L h₄ ((e, oE) :: (it, oT) :: (C, oC) :: (D, lst ys) :: news) := by
          refine List.forall_mem_cons.mpr ⟨⟨hE, hLe.symm, he₀⟩, List.forall_mem_cons.mpr ⟨⟨hTo, hLi.symm, hi₀⟩, List.forall_mem_cons.mpr ⟨⟨hCo, hLC.symm, hC₀⟩, fun p hp => ⟨hs₄ _ _ ?_ (N₃ p hp).1, (N₃ p hp).2⟩⟩⟩⟩
          rcases List.mem_cons.mp hp with rfl | hp
          · exact hDC
          · exact offC p hp
        refine wpAny_mono (turn i x t ys e oE it oT C oC D _ h₄ _ _ hlt hx' hoC (by simp [hab]) (by simp) F₄ N₄ hJ') (fun ok s₄ h₄' => ?_) fun _ _ y => y
        cases ok with
        | true =>
          simp only [if_true] at h₄' ⊢
          refine wpAny_mono h₄' (fun y s₅ h₅ => ?_) fun _ _ y => y
          obtain ⟨h₅, tk₅, rfl, F₅, N₅, J₅⟩ := h₅
          refine append_at (hsz := by show ys.toArray.size ≤ sizeLine; rw [List.size_toArray]; exact Nat.le_trans (Nat.le_trans hyl hi) hsz) (N₅ (D, lst ys) (.tail _ (.tail _ (.tail _ (.head _))))).1 fun h₆ hs₆ hD₆ => ?_
          refine ⟨vs.length + 1 - (i + 1), by omega, h₆, tk₅, i + 1, ys ++ [y], _, rfl, hlt, rfl, by rw [List.length_append, List.length_singleton]; exact Nat.succ_le_succ hyl, hE' h₆ (hs₆.extBut _ _ heD (N₅ (e, oE) (.head _)).1), hT' h₆ (hs₆.extBut _ _ hiD (N₅ (it, oT) (.tail _ (.head _))).1), F₅.change hs₆ hLD.symm hD₀,
            (hoC.ns (N₅ (C, oC) (.tail _ (.tail _ (.head _)))).1).sameBut hs₆ hDC.symm, List.forall_mem_cons.mpr ⟨⟨hD₆.trans (congrArg some (lst_snoc ys y)), hLD.symm, hD₀⟩, fun p hp => ⟨hs₆.extBut _ _ (offD p hp) (N₅ p (.tail _ (.tail _ (.tail _ (.tail _ hp))))).1, (N₅ p (.tail _ (.tail _ (.tail _ (.tail _ hp))))).2⟩⟩, J₅⟩
        | false =>
          simp only [Bool.false_eq_true, if_false] at h₄' ⊢
          obtain ⟨h₅, tk₅, rfl, F₅, N₅, J₅⟩ := h₄'
          exact ⟨vs.length + 1 - (i + 1), by omega, h₅, tk₅, i + 1, ys, _, rfl, hlt, rfl, Nat.le_succ_of_le hyl, hE' h₅ (N₅ (e, oE) (.head _)).1, hT' h₅ (N₅ (it, oT) (.tail _ (.head _))).1, F₅, hoC.ns (N₅ (C, oC) (.tail _ (.tail _ (.head _)))).1, fun p hp => N₅ p (.tail _ (.tail _ (.tail _ hp))), J₅⟩
      · obtain rfl : i = vs.length := Nat.le_antisymm hi (Nat.not_lt.mp hlt)
        refine W.done _ _ _ (by rw [hlen]; exact ⟨⟨o, he'⟩, hit', hl'⟩) fun h₂ tk₂ hk₂ => ?_
        obtain ⟨F₂, N₂, hn₂⟩ := kept h₂ hk₂
        exact hRR _ _ h₂ tk₂ _ ys F₂ N₂ hlow hn₂ hC₀ hD₀ hLC.symm hLD.symm hDC.symm offC hJ'
    · rcases List.mem_cons.mp hp with rfl | hp
      · exact ⟨hacc, hLD.symm, hD₀⟩
      · exact ⟨old _ _ (N p hp).1, (N p hp).2⟩
  exact codeAny_compStart_list (loop _) (W.self 0 _ _ _ ⟨⟨.none, old _ _ he⟩, hit.at fun o x => old _ _ x, hl.at fun o x => old _ _ x⟩ (loop _))

/-- the iterable of such a comprehension -/
def EnSrc (prog : Program) (w : World) (A : Around) (h₀ : Heap) (L : Addr) (m : Str → Option Value) (env : Env) (elt c : Expr) (a b : Str) (scope : Scope) (cl : List (Str × Addr)) (Fin : Value → Shared → Prop) (xv : Value) (s₁ : Shared) : Prop :=
  ∃ (e it l : Addr) (vs : List Value) (k : Nat) (news : List (Addr × Obj)) (J : Nat → List Value → Prop), xv = .ref e ∧ A.handled = none ∧ e ≠ it ∧ l ≠ e ∧ l ≠ it ∧ vs.length ≤ sizeLine ∧ IsEnum s₁.heap e it 0 .none ∧ s₁.heap.IsListIter it l 0 ∧ (l, listOf vs.toArray k) ∈ news ∧
    Fr h₀ L s₁.heap m ∧ News h₀ L s₁.heap news ∧ L ≠ e ∧ L ≠ it ∧ h₀.get? e = none ∧ h₀.get? it = none ∧ (∀ p ∈ news, p.1 ≠ e ∧ p.1 ≠ it) ∧ J 0 [] ∧ EnTurn prog w A h₀ L m env elt c a b scope cl s₁ news vs J ∧
    ∀ D h tk ys, Fr h₀ L h m → News h₀ L h ((D, lst ys) :: news) → (∀ p ∈ news, p.1 < D) → J vs.length ys → Fin (.ref D) { s₁ with heap := h, toks := tk }

theorem call_enum {elt c : Expr} {a b : Str} {scope : Scope} {cl : List (Str × Addr)} {Fin : Value → Shared → Prop} {l : Addr} {vs : List Value} {k : Nat} {news : List (Addr × Obj)} (J : Nat → List Value → Prop)
    (hh : A.handled = none) (F : Fr h₀ L s.heap m) (N : News h₀ L s.heap news) (hm : (l, listOf vs.toArray k) ∈ news) (hsz : vs.length ≤ sizeLine) (h0 : J 0 [])
    (turn : ∀ hp, EnTurn prog w A h₀ L m env elt c a b scope cl { s with heap := hp } news vs J)
    (fin : ∀ D h tk ys, Fr h₀ L h m → News h₀ L h ((D, lst ys) :: news) → (∀ p ∈ news, p.1 < D) → J vs.length ys → Fin (.ref D) { s with heap := h, toks := tk }) :
    wpAny (model prog w) A (call (.type "enumerate") [.ref l]) (fun xv s₁ => EnSrc prog w A h₀ L m env elt c a b scope cl Fin xv s₁) E s := by
  have hl : s.heap.IsList l vs.toArray := News.isList N hm
  have hlt : l < s.heap.objs.size := by obtain ⟨_, e, _⟩ := hl; exact Heap.lt_size e
  have fresh₀ : ∀ a, s.heap.objs.size ≤ a → h₀.get? a = none := fun a ha => by
    cases e : h₀.get? a with
    | none => rfl
    | some o' => exact absurd (Heap.lt_size (F.keep a o' e)) (Nat.not_lt.mpr ha)
  refine call_enumerate_list hl fun h' hE hI hsz' hk => ?_
  refine ⟨s.heap.objs.size + 1, s.heap.objs.size, l, vs, k, news, J, rfl, hh, Nat.succ_ne_self _, Nat.ne_of_lt (Nat.lt_succ_of_lt hlt), Nat.ne_of_lt hlt, hsz, hE, hI, hm, F.keeps hk, N.grown hk, Nat.ne_of_lt (Nat.lt_succ_of_lt F.ns.lt), Nat.ne_of_lt F.ns.lt,
    fresh₀ _ (Nat.le_succ _), fresh₀ _ (Nat.le_refl _), fun p hp => ⟨Nat.ne_of_lt (Nat.lt_succ_of_lt (Heap.lt_size (N p hp).1)), Nat.ne_of_lt (Heap.lt_size (N p hp).1)⟩, h0, turn _, fin⟩

theorem ListComp_E {elt iter c : Expr} {a b : Str} {pa pb tp : Pos} {kk : Nat} {scope : Scope} {cl : List (Str × Addr)} {pos : Pos} {Q : Value → Shared → Prop} (_F₀ : Fr h₀ L s.heap m)
    (hclos : closureFor scope env = pure cl) (hcell : ∀ y ∈ scope.names, y.2 ≠ .cell) (hkind : scope.kind = .function)
    (hnames : ∀ y ∈ scope.names, y.2 = .local → scope.names.lookup y.1 = some .local) (hxa : scope.names.lookup a = some .local) (hxb : scope.names.lookup b = some .local) (hab : ¬ a = b)
    (h : wpAny (model prog w) A (eval iter env) (fun xv s₁ => EnSrc prog w A h₀ L m env elt c a b scope cl Q xv s₁) E s)
    (hs : ∀ x, foldedSetIterable iter env x = pure x := by intro _; rfl) :
    wpAny (model prog w) A (eval (.ListComp elt [⟨.Tuple [.Name a pa, .Name b pb] kk tp, iter, [c], 0⟩] scope pos) env) Q E s := by
  rw [eval_ListComp]
  refine wpAny_comprehension_free (use := none) rfl hs hclos hkind hnames (wpAny_mono h (fun xv s₁ h₁ => ?_) fun _ _ e => e)
  obtain ⟨e, it, l, vs, k, news, J, rfl, hh, hei, hle, hli, hsz, he, hit, hm, F, N, hLe, hLi, he₀, hi₀, off, h0, turn, fin⟩ := h₁
  refine wpAny_pyIter_enum he ?_
  refine block_E hh hei hle hli hsz he hit hm hcell hkind hxa hxb hab F N hLe hLi he₀ hi₀ off h0 turn ?_
  intro D C h' tk m' ys F' N' olow hn hC₀ hD₀ hCL hDL hCD offC hj
  refine ⟨m', hn, fun h'' hs'' => fin D h'' tk ys (F'.change hs'' hCL hC₀) (fun p hp => ?_) olow hj⟩
  refine ⟨hs''.extBut _ _ ?_ (N' p hp).1, (N' p hp).2⟩
  rcases List.mem_cons.mp hp with rfl | hp
  · exact Ne.symm hCD
  · exact offC p hp
end
end Mine
end

section
open PySem PySem.W PyProof.Rows PySem.Spec PySem.Calls
open PyProof.Rows.LCg
set_option maxRecDepth 100000
set_option maxHeartbeats 1600000
namespace Mine
section
variable {prog : Program} {w : World} {A : Around} {E : Value → Shared → Prop} {s : Shared} {env : Env} {h₀ : Heap} {x : Str} {px : Pos} {body : List Stmt} {Q : Flow → Shared → Prop}

/-- a for over a range whose name is a cell: the name's store is left to the turn -/
theorem crng_loop {σ : Type} {r : Addr} {a₀ b₀ : Int} {t₀ u₀ v₀ : Tok} {n : Nat} {m₀ : Str → Option Value} (Led : σ → List (Addr × Obj)) (ps : σ → List (Str × Value)) (stored : List Str) (P : Nat → σ → Prop) (c₀ : σ)
    (hh : A.handled = none) (hr : IsRange s.heap r a₀ b₀ 1 t₀ u₀ v₀) (hsmall : Builtin.Range.small a₀ b₀ 1 = true) (hn : Builtin.Range.rangeSize a₀ b₀ 1 = (n : Int))
    (F : Fr h₀ env.locals s.heap m₀) (N : News h₀ env.locals s.heap (Led c₀)) (hk : ∀ p ∈ ps c₀, m₀ p.1 = some p.2) (hp : P 0 c₀)
    (turn : ∀ I i t c (u : Str → Option Value) h tk own, i < n → P i c → (∀ p ∈ Led c, p.1 ≠ I) → (∃ o, (I, o) ∈ own) → (∀ p ∈ own, p.1 = I) →
      Fr h₀ env.locals h (fun y => if y = x then u y else kstB (fun z => if stored.contains z then u z else m₀ z) (ps c) y) → News h₀ env.locals h (Led c ++ own) →
      wpAny (model prog w) A (assign (.Name x px) env (.int (a₀ + (i : Int)) t)) (fun _ s₃ => wpAny (model prog w) A (execs body env) (TurnPost h₀ env.locals Led ps x stored m₀ (P (i + 1)) I own { s with heap := h, toks := tk } Q) E s₃) E { s with heap := h, toks := tk })
    (done : ∀ c (u : Str → Option Value) h tk, P n c → Fr h₀ env.locals h (fun y => if y = x then u y else kstB (fun z => if stored.contains z then u z else m₀ z) (ps c) y) → News h₀ env.locals h (Led c) → Q .next { s with heap := h, toks := tk }) :
    wpAny (model prog w) A (pyIter (.ref r)) (fun it s₂ => TurnsAt prog w A h₀ env (.Name x px) body Q E it s₂) E s := by
  refine wpAny_pyIter_range hr hsmall ?_
  have W := Walks.range (prog := prog) (w := w) (A := A) hh s.heap.objs.size a₀ 1 n
  have hI₀ : h₀.get? s.heap.objs.size = none := next_is_new F
  have T := KTurns.ofWalks (target := .Name x px) W (fun i v s Q E _ h => wpAny_pure h)
  let J : Nat → (Str → Option Value) → List (Addr × Obj) → Prop := fun i m nx => ∃ c, nx = Led c ∧ (∀ p ∈ ps c, m p.1 = some p.2) ∧ (∀ z, z ≠ x → (∀ p ∈ ps c, z ≠ p.1) → stored.contains z = false → m z = m₀ z) ∧ P i c
  refine ⟨s.heap.objs.size, _, _, n, _, _, _, m₀, Led c₀, J, rfl, T, ?_, ?_, ?_, ?_, F.push _, fun p hp => ⟨Heap.get?_push_of_some _ (N p hp).1, (N p hp).2⟩, ⟨c₀, rfl, hk, fun _ _ _ _ => rfl, hp⟩, ?_, ?_⟩
  · intro hm
    exact absurd F.ns.lt ((List.mem_singleton.mp hm) ▸ Nat.lt_irrefl _)
  · intro b hb; rw [List.mem_singleton.mp hb]; exact hI₀
  · intro p hp hI
    exact absurd (Heap.lt_size (N p hp).1) ((List.mem_singleton.mp hI) ▸ Nat.lt_irrefl _)
  · show IsRangeIter _ _ _ _ _; rw [hn]; simpa using Heap.get?_push_size _ rfl
  · rintro i v m₁ nx hh' tk' own hin ⟨t, rfl⟩ ⟨c, rfl, h1, h2, hp'⟩ hoff hown hget hall hst' F₁ N₁
    have hI : hh'.get? s.heap.objs.size = some _ := hst'
    have hmem : ∃ o, (s.heap.objs.size, o) ∈ own := ⟨_, hall s.heap.objs.size (.head _) hI₀ _ hI⟩
    have hne : ∀ p ∈ Led c, p.1 ≠ s.heap.objs.size := fun p hp e => hoff p hp (e ▸ .head _)
    have N₂ : News h₀ env.locals hh' (Led c ++ own) := fun p hp => N₁ p ((List.mem_append.mp hp).elim (fun h => List.mem_append.mpr (.inr h)) fun h => List.mem_append.mpr (.inl h))
    have e1 : a₀ + (i : Int) * 1 = a₀ + (i : Int) := by omega
    rw [e1]
    refine wpAny_mono (turn _ i t c m₁ hh' tk' own hin hp' hne hmem (fun p hp => List.mem_singleton.mp (hown p hp)) (kst_frOut h1 h2 F₁) N₂) (fun _ s₃ h₃ => wpAny_mono h₃ (fun f s₂ p => ?_) fun _ _ e => e) fun _ _ e => e
    have fin : TurnEnd h₀ env.locals Led ps x stored m₀ (P (i + 1)) s.heap.objs.size own { s with heap := hh', toks := tk' } s₂ → ∃ h' tk m' news', s₂ = { s with heap := h', toks := tk } ∧ Fr h₀ env.locals h' m' ∧ News h₀ env.locals h' (own ++ news') ∧ (∀ p ∈ news', p.1 ∉ [s.heap.objs.size]) ∧ J (i + 1) m' news' := by
      rintro ⟨c', h', tk, m', news', e, F', N', ho', hl', hne', hk', hr', hp''⟩
      exact ⟨h', tk, m', Led c', e, F', fun p hp => N' p ((List.mem_append.mp hp).elim (ho' p) (hl' p)), fun p hp hq => hne' p hp (List.mem_singleton.mp hq), c', rfl, hk', hr', hp''⟩
    cases f with
    | ret v => exact p
    | brk => exact p
    | next => obtain ⟨h', tk, m', news', e, r⟩ := fin p; exact ⟨rfl, h', tk, m', news', e, r⟩
    | cont => obtain ⟨h', tk, m', news', e, r⟩ := fin p; exact ⟨rfl, h', tk, m', news', e, r⟩
  · rintro h' tk m' news' F' N' _ ⟨c, rfl, h1, h2, hp'⟩
    exact done c m' h' tk hp' (kst_frOut h1 h2 F') N'
end
end Mine
end

section
open PySem PySem.W PyProof.Rows PySem.Spec PySem.Calls
open PyProof.Rows.LCg
set_option maxRecDepth 100000
set_option maxHeartbeats 1600000
namespace Mine
local macro_rules | `(tactic| walk_at "zz0") => `(tactic| fail)
local macro_rules | `(tactic| walk_at "zz1") => `(tactic| fail)
local macro_rules | `(tactic| walk_at "zz2") => `(tactic| fail)
local macro_rules | `(tactic| walk_at "zz3") => `(tactic| fail)
local macro_rules | `(tactic| walk_at "zz4") => `(tactic| fail)
local macro_rules | `(tactic| walk_at "zz5") => `(tactic| fail)
local macro_rules | `(tactic| walk_at "zz6") => `(tactic| fail)
local macro_rules | `(tactic| walk_at "zz7") => `(tactic| fail)
local macro_rules | `(tactic| walk_at "zz8") => `(tactic| fail)
local macro_rules | `(tactic| walk_at "zz9") => `(tactic| fail)
local macro_rules | `(tactic| walk_at "zz10") => `(tactic| fail)
local macro_rules | `(tactic| walk_at "zz11") => `(tactic| fail)
local macro_rules | `(tactic| walk_at "zz12") => `(tactic| fail)
local macro_rules | `(tactic| walk_at "zz13") => `(tactic| fail)
local macro_rules | `(tactic| walk_at "zz14") => `(tactic| fail)
local macro_rules | `(tactic| walk_at "zz15") => `(tactic| fail)
local macro_rules | `(tactic| walk_at "zz16") => `(tactic| fail)
local macro_rules | `(tactic| walk_at "zz17") => `(tactic| fail)
local macro_rules | `(tactic| walk_at "zz18") => `(tactic| fail)
local macro_rules | `(tactic| walk_at "zz19") => `(tactic| fail)

local macro_rules | `(tactic| k_mem) => `(tactic| first | assumption | exact List.Mem.head _ | (refine' List.Mem.tail _ ?_; k_mem))
local macro_rules | `(tactic| k_all) => `(tactic| first | assumption | exact List.forall_mem_nil _ | (refine' List.forall_mem_cons.mpr ⟨?a, ?b⟩; (case a => k_ne); (case b => k_all)))
local macro_rules | `(tactic| k_steps) => `(tactic| repeat' ((fail_if_success (with_reducible show wpAny _ _ (eval (Expr.ListComp _ _ _ _) _) _ _ _)); (fail_if_success (with_reducible show wpAny _ _ (call (Value.type "enumerate") _) _ _ _)); (fail_if_success (with_reducible show wpAny _ _ (call (Value.ref _) _) _ _ _)); first | (k_unfold; (try dsimp only)) | (k_end; wrow_close) | walk1 | (dsimp only; walk1) | (leave1; walk_say "STEP leave1"; try dsimp only) | fail "no step"))

def thgN (X0 : _root_.Fin 256) (n : Nat) : List Int := ((List.range n).filter fun i => (digs X0).getD i 0 == 1).map fun i : Nat => (i : Int)
def thg (X0 : _root_.Fin 256) : List Int := thgN X0 (digs X0).length
theorem thgN_yes {X0 : _root_.Fin 256} {k : Nat} {ys : List Value} {t : Tok} (h : (digs X0).getD k 0 = 1) (I : IntsAre ys (thgN X0 k)) : IntsAre (ys ++ [.int (k : Int) t]) (thgN X0 (k + 1)) := by
  rw [thgN, List.range_succ, List.filter_append, List.map_append]
  refine I.append ?_
  simp only [List.filter_cons, h, beq_self_eq_true, if_true, List.filter_nil, List.map_cons, List.map_nil]
  exact .cons _ _ .nil
theorem thgN_no {X0 : _root_.Fin 256} {k : Nat} {ys : List Value} (h : ¬ (digs X0).getD k 0 = 1) (I : IntsAre ys (thgN X0 k)) : IntsAre ys (thgN X0 (k + 1)) := by
  rw [thgN, List.range_succ, List.filter_append]
  simp only [List.filter_cons, beq_iff_eq, h, List.filter_nil, List.append_nil, if_false]
  exact I
theorem getq {vs : List Value} {ns : List Int} (I : IntsAre vs ns) {i : Nat} {v : Value} (h : vs[i]? = some v) : ∃ t, v = .int (ns.getD i 0) t := by
  obtain ⟨n, t, e, q⟩ := I.at i v h
  exact ⟨t, by rw [e, List.getD_eq_getElem?_getD, q]; rfl⟩
theorem digs_le : ∀ X0 : _root_.Fin 256, (digs X0).length ≤ 8 := by decide +kernel

theorem lawThings (w : World) (X0 : _root_.Fin 256) (tx : Tok) (c' : Addr) (oc : Obj) (fs : Array Value) (tq : Tok) (hc1 : oc.data = .fields fs) (hc2 : fs[1]? = some (.str (Str.ofString "_int2digits.<locals>.inner") tq)) :
    Says PySem.Challenge.rw_gl0002_02.row.prog (hd.heap_39 w.params) w 30 340 47 [.int (X0.val : Int) tx] (fun news => (30, tab30 c') ∈ news ∧ (c', oc) ∈ news)
      (fun r tl => ∃ e vs, r = .ref e ∧ tl = [(e, lst vs)] ∧ IntsAre vs (thg X0)) := by
  unfold Says
  w_top off
  k_fill
  intro p loose mean mg mb dp un gd cn cs a ccd cl outer A₀ base h₀ L m news s Q E B F X N T' hk ⟨h1, h2⟩ hd hu hret
  refine wpAny_noRaise ?_
  refine wpAny_call ?_
  k_dflt ktr_enter
  all_goals refine wpAny_noRaise ?_
  k_steps
  k_dflt (refine' ListComp_E (by k_asm) ?a1 ?a2 ?a3 ?a4 ?a5 ?a6 ?a7 ?_; (case a1 => with_unfolding_all rfl); (case a2 => decide); (case a3 => rfl); (case a4 => decide); (case a5 => rfl); (case a6 => rfl); (case a7 => decide))
  k_steps
  k_dflt (refine' says_use (int2digits w X0 _ _ c' oc fs tq hc1 hc2) ?k1 ?k2 ?k3 ?k4 ?k5 ?k6 ?k7 ?k8 ?k9 ?_; (case k1 => k_asm); (case k2 => k_asm); (case k3 => k_asm); (case k4 => k_asm); (case k5 => k_asm); (case k6 => exact rfl); (case k7 => exact ⟨by k_mem, by k_mem⟩); (case k8 => ktr_room); (case k9 => ktr_units); k_whole)
  rintro r3 tl3 hh3 tk3 F3 N3 l3 ⟨e3, vs3, rfl, rfl, I3⟩
  rw [List.cons_append, List.nil_append] at N3
  k_sweep
  (try dsimp only)
  k_steps
  have z3 : vs3.length = (digs X0).length := I3.length
  have z4 := digs_le X0
  refine call_enum (fun i ys => IntsAre ys (thgN X0 i)) rfl (by k_asm) (by k_asm) (.head _) (by rw [z3]; exact Nat.le_trans z4 (by decide)) .nil (fun hp => ?_) ?_
  · intro i x t ys e oE it oT C oC D m2 h tk E' hi hx hoC hma hmb F4 N4 hJ
    obtain ⟨t9, rfl⟩ := getq I3 hx
    k_steps
    · exact EnEnd.intro (by k_asm) (by k_asm) (fun p hp => hp) (thgN_yes (by assumption) hJ)
    · exact EnEnd.intro (by k_asm) (by k_asm) (fun p hp => hp) (thgN_no (by assumption) hJ)
  · intro D h tk ys F5 N5 low5 hJ
    rw [z3] at hJ
    k_steps
    refine hret (.ref D) [(D, lst ys)] _ _ (by k_asm) (kst_newsOf (by k_asm) fun p hp => ?_) (fun q hq p hp => by rw [List.mem_singleton.mp hp]; exact low5 q (.tail _ hq)) ⟨D, ys, rfl, rfl, hJ⟩
    simp only [List.cons_append, List.nil_append, List.mem_cons] at hp ⊢
    rcases hp with hp | hp <;> simp [hp]

theorem lawThingsCold (w : World) (X0 : _root_.Fin 256) (tx : Tok) (rest : List (Addr × Obj)) (hrest : ∀ p ∈ rest, p.1 ≠ 30) :
    SaysM PySem.Challenge.rw_gl0002_02.row.prog (hd.heap_39 w.params) w 30 340 47 [.int (X0.val : Int) tx] ((30, tabObj #[]) :: rest)
      (fun r led => ∃ e vs c' oc fs tq, r = .ref e ∧ led = (e, lst vs) :: (c', oc) :: (30, tab30 c') :: rest ∧ IntsAre vs (thg X0) ∧ oc.data = .fields fs ∧ fs[1]? = some (.str (Str.ofString "_int2digits.<locals>.inner") tq) ∧
        e ≠ 30 ∧ c' ≠ 30 ∧ c' < e ∧ (∀ p ∈ rest, p.1 < e ∧ p.1 < c')) := by
  unfold SaysM
  w_top off
  k_fill
  intro p loose mean mg mb dp un gd cn cs a ccd cl outer A₀ base h₀ L m s Q E B F X N T' hk hd hu hret
  refine wpAny_noRaise ?_
  refine wpAny_call ?_
  k_dflt ktr_enter
  all_goals refine wpAny_noRaise ?_
  k_steps
  k_dflt (refine' ListComp_E (by k_asm) ?a1 ?a2 ?a3 ?a4 ?a5 ?a6 ?a7 ?_; (case a1 => with_unfolding_all rfl); (case a2 => decide); (case a3 => rfl); (case a4 => decide); (case a5 => rfl); (case a6 => rfl); (case a7 => decide))
  k_steps
  k_dflt (refine' saysM_use (int2digitsCold w X0 _ _ rest hrest) ?k1 ?k2 ?k3 ?k4 ?k5 ?k6 ?k8 ?k9 ?_; (case k1 => k_asm); (case k2 => k_asm); (case k3 => k_asm); (case k4 => k_asm); (case k5 => k_asm); (case k6 => exact rfl); (case k8 => ktr_room); (case k9 => ktr_units); k_whole)
  rintro r1 led hh1 tk1 F1 N1 ⟨e1, vs1, c', oc, fs, tq, rfl, rfl, I1, hc1, hc2, hne1, hne2, hlow⟩
  k_sweep
  (try dsimp only)
  k_steps
  have z3 : vs1.length = (digs X0).length := I1.length
  have z4 := digs_le X0
  refine call_enum (fun i ys => IntsAre ys (thgN X0 i)) rfl (by k_asm) (by k_asm) (.head _) (by rw [z3]; exact Nat.le_trans z4 (by decide)) .nil (fun hp => ?_) ?_
  · intro i x t ys e oE it oT C oC D m2 h tk E' hi hx hoC hma hmb F4 N4 hJ
    obtain ⟨t9, rfl⟩ := getq I1 hx
    k_steps
    · exact EnEnd.intro (by k_asm) (by k_asm) (fun p hp => hp) (thgN_yes (by assumption) hJ)
    · exact EnEnd.intro (by k_asm) (by k_asm) (fun p hp => hp) (thgN_no (by assumption) hJ)
  · intro D h tk ys F5 N5 low5 hJ
    rw [z3] at hJ
    k_steps
    refine hret (.ref D) ((D, lst ys) :: (c', oc) :: (30, tab30 c') :: rest) _ _ (by k_asm) (kst_newsOf (by k_asm) fun p hp => ?_) ⟨D, ys, c', oc, fs, tq, rfl, rfl, hJ, hc1, hc2, Nat.ne_of_gt (low5 _ (.tail _ (.tail _ (.head _)))), hne2, low5 _ (.tail _ (.head _)), fun p hp => ⟨low5 p (.tail _ (.tail _ (.tail _ hp))), (hlow p hp).2⟩⟩
    simp only [List.mem_cons] at hp ⊢
    rcases hp with hp | hp | hp | hp <;> simp [hp]
end Mine
end

section
open PySem PySem.W PyProof.Rows PySem.Spec PySem.Calls
open PyProof.Rows.LCg
set_option maxRecDepth 100000
set_option maxHeartbeats 1600000
namespace Mine

local macro_rules | `(tactic| k_mem) => `(tactic| first | assumption | exact List.Mem.head _ | (refine' List.Mem.tail _ ?_; k_mem))
local macro_rules | `(tactic| k_all) => `(tactic| first | assumption | exact List.forall_mem_nil _ | (refine' List.forall_mem_cons.mpr ⟨?a, ?b⟩; (case a => k_ne); (case b => k_all)))
local macro_rules | `(tactic| k_steps) => `(tactic| repeat' ((fail_if_success (with_reducible show wpAny _ _ (pyIter (Value.ref _)) (fun it s₂ => TurnsAt _ _ _ _ _ _ _ _ _ it s₂) _ _)); (fail_if_success (with_reducible show wpAny _ _ (pyIter (Value.ref _)) (fun it s₂ => LoopAtV _ _ _ _ _ _ _ _ _ it s₂) _ _)); (fail_if_success (with_reducible show wpAny _ _ (call (Value.ref _) _) _ _ _)); (fail_if_success (with_reducible show wpAny _ _ (eval (Expr.ListComp _ _ _ _) _) _ _ _)); first | (k_unfold; (try dsimp only)) | (k_end; wrow_close) | walk1 | (dsimp only; walk1) | (leave1; walk_say "STEP leave1"; try dsimp only) | fail "no step"))
local macro_rules | `(tactic| walk_at "exec For Name Call cons nil") => `(tactic| (k_here; (rename Fr _ _ _ _ => lF'); first | (with_unfolding_all refine' For_invVF lF' ?k1 ?k2 ?_; (case k1 => decide); (case k2 => exact rfl); k_whole) | (k_dflt (refine' For_turns lF' ?_))))

local macro_rules | `(tactic| walk_at "subscriptTail") => `(tactic| (k_here; (with_reducible show wpAny _ _ (subscriptTail _ _ (Value.ref _) (Value.int _ _)) _ _ _); (with_unfolding_all refine' item_at ?k1 ?k2 ?k3 ?k4 ?k5 ?_ ?k6; (case k1 => k_asm); (case k2 => k_mem); (case k3 => omega); (case k4 => omega); (case k5 => first | with_reducible assumption | assumption); (case k6 => with_unfolding_all rfl); k_whole)))
local macro_rules | `(tactic| walk_at "subscriptTail Name Name ref int") => `(tactic| (k_here; (with_reducible show wpAny _ _ (subscriptTail _ _ (Value.ref _) (Value.int _ _)) _ _ _); (with_unfolding_all refine' item_at ?k1 ?k2 ?k3 ?k4 ?k5 ?_ ?k6; (case k1 => k_asm); (case k2 => k_mem); (case k3 => omega); (case k4 => omega); (case k5 => first | with_reducible assumption | assumption); (case k6 => with_unfolding_all rfl); k_whole)))
local macro_rules | `(tactic| walk_at "subscriptTail Subscript Name ref int") => `(tactic| (k_here; (with_reducible show wpAny _ _ (subscriptTail _ _ (Value.ref _) (Value.int _ _)) _ _ _); (with_unfolding_all refine' item_at ?k1 ?k2 ?k3 ?k4 ?k5 ?_ ?k6; (case k1 => k_asm); (case k2 => k_mem); (case k3 => omega); (case k4 => omega); (case k5 => first | with_reducible assumption | assumption); (case k6 => with_unfolding_all rfl); k_whole)))
local macro_rules | `(tactic| walk_at "subscriptTail Name Subscript ref int") => `(tactic| (k_here; (with_reducible show wpAny _ _ (subscriptTail _ _ (Value.ref _) (Value.int _ _)) _ _ _); (with_unfolding_all refine' item_at ?k1 ?k2 ?k3 ?k4 ?k5 ?_ ?k6; (case k1 => k_asm); (case k2 => k_mem); (case k3 => omega); (case k4 => omega); (case k5 => first | with_reducible assumption | assumption); (case k6 => with_unfolding_all rfl); k_whole)))
local macro_rules | `(tactic| walk_at "storeName") => `(tactic| (k_here; k_dflt (refine' storeX_C ?F ?N ?c ?U ?d ?_ ?a ?b; (case b => decide); (case a => rfl); (case F => k_asm); (case N => k_asm); (case c => rfl); (case U => k_updF); (case d => k_asm); k_whole); intro h' o' F' N' d'; (try dsimp only at N'); (try k_sweep)))
local macro_rules | `(tactic| walk_at "callWith ref") => `(tactic| (k_here; k_dflt (first | (refine' callWith_K ?k1 ?k2 ?_; (case k1 => k_asm); (case k2 => k_is); k_whole) | (refine' callWith_K0 ?k1 ?k2 ?_; (case k1 => k_in); (case k2 => k_is); k_whole))))
local macro_rules | `(tactic| walk_at "compareOp Eq ref ref") => `(tactic| (k_here; (with_reducible show wpAny _ _ (compareOp CmpOp.Eq (Value.ref _) (Value.ref _)) _ _ _); k_dflt (refine' eq_intsK ?k1 ?k2 ?k3 ?k4 ?k5 ?_; (case k1 => exact News.isList (by k_asm) (by k_mem)); (case k2 => assumption); (case k3 => exact News.isList (by k_asm) (by k_mem)); (case k4 => assumption); (case k5 => units_room); k_whole)))
local macro_rules | `(tactic| walk_at "subscriptTail Subscript Name Name Name ref int") => `(tactic| (k_here; (with_reducible show wpAny _ _ (subscriptTail _ _ (Value.ref _) (Value.int _ _)) _ _ _); (with_unfolding_all refine' item_at ?k1 ?k2 ?k3 ?k4 ?k5 ?_ ?k6; (case k1 => k_asm); (case k2 => k_mem); (case k3 => omega); (case k4 => omega); (case k5 => first | with_reducible assumption | assumption); (case k6 => with_unfolding_all rfl); k_whole)))
local macro_rules | `(tactic| walk_at "ite") => `(tactic| (k_here; first | refine ite_no (by assumption) ?_ | refine ite_yes (by assumption) ?_))
local macro_rules | `(tactic| walk_at "call builtin:len") => `(tactic| (k_here; (with_reducible show wpAny _ _ (call (Value.builtin "len") [Value.ref _]) _ _ _); k_dflt (refine' len_to ?N ?m ?I ?e ?f ?_; (case N => k_asm); (case m => k_mem); (case I => assumption); (case e => exact rfl); (case f => omega); k_whole)))
local macro_rules | `(tactic| walk_at "compareOp NotIn int ref") => `(tactic| (k_here; (with_reducible show wpAny _ _ (compareOp CmpOp.NotIn (Value.int _ _) (Value.ref _)) _ _ _); k_dflt (refine' notin_list_ints ?k1 ?k2 ?_; (case k1 => exact News.isList (by k_asm) (by k_mem)); (case k2 => assumption); k_whole)))
local macro_rules | `(tactic| walk_at "binaryOp Pow int int") => `(tactic| (k_here; k_dflt (refine' pow_int_small ?a ?b ?c ?_; (case a => omega); (case b => omega); (case c => decide); k_whole)))

local macro_rules | `(tactic| walk_at "call ref") => `(tactic| (k_here; k_dflt (refine' says_use (addFuncStats _ _ _ _ _ _ _ ?e1 ?e2 _ _ _ _ _ _ _ _ _ _ _ _ _ _ _ _) ?k1 ?k2 ?k3 ?k4 ?k5 ?k6 ?k7 ?k8 ?k9 ?_; (case k1 => k_asm); (case k2 => k_asm); (case k3 => k_asm); (case k4 => k_asm); (case k5 => k_asm); (case k6 => first | assumption | exact rfl); (case k7 => refine' ⟨?m1, ?m2, ?m3, ?m4⟩; (case m1 => k_mem); (case m2 => k_mem); (case m3 => k_mem); (case m4 => k_mem)); (case e1 => first | assumption | exact EmptyD.mk (by assumption) (by assumption)); (case e2 => first | assumption | exact EmptyD.mk (by assumption) (by assumption)); (case k8 => ktr_room); (case k9 => ktr_units); k_whole); intro r' tl' h' tk' F' N' l' hp'; obtain ⟨e', d', o', t1', t2', t3', t4', hr', htl', D'⟩ := hp'; subst hr' htl'; (try simp only [List.cons_append, List.nil_append] at N'); (try k_sweep); (try dsimp only)))
def th (i : Nat) : List Int := if h : i < 256 then thg ⟨i, h⟩ else []
def thl : List (List Int) := [[], [0], [1], [0, 1], [2], [0, 2], [1, 2], [0, 1, 2]]
theorem th_eq : ∀ i : _root_.Fin 8, th i.val = thl.getD i.val [] := by decide +kernel
def out (j l : Nat) : List Int := (th j).filter fun t => !((th l).any (· == t))
def subs (j l : Nat) : Bool := decide (out j l = [])
def sgn (b : Bool) (j l : Nat) : Int := if b = true then 1 - 2 * (((th l).length : Int) - ((th j).length : Int)).fmod 2 else 1
def acc (sg : List Int) (b : Bool) (l : Nat) : Nat → Int
  | 0 => 0
  | j + 1 => if subs j l = true then sg.getD j 0 * sgn b j l + acc sg b l j else acc sg b l j
def cnt (l : Nat) : Nat → Int
  | 0 => 0
  | j + 1 => if subs j l = true then 1 + cnt l j else cnt l j
def told (sg : List Int) (b : Bool) : List Int := (List.range 8).map fun l => acc sg b l (l + 1)
theorem take_yes {ts : List Int} {q : Int → Bool} {k : Nat} (hk : k < ts.length) (h : q (ts.getD k 0) = true) {ys : List Value} {t : Tok} (I : IntsAre ys ((ts.take k).filter q)) : IntsAre (ys ++ [.int (ts.getD k 0) t]) ((ts.take (k + 1)).filter q) := by
  rw [List.take_succ, List.getElem?_eq_getElem hk, List.filter_append]
  have e : ts.getD k 0 = ts[k] := by rw [List.getD_eq_getElem?_getD, List.getElem?_eq_getElem hk]; rfl
  rw [e] at h ⊢
  refine I.append ?_
  simp only [Option.toList_some, List.filter_cons, h, if_true, List.filter_nil]
  exact .cons _ _ .nil
theorem take_no {ts : List Int} {q : Int → Bool} {k : Nat} (hk : k < ts.length) (h : ¬ q (ts.getD k 0) = true) {ys : List Value} (I : IntsAre ys ((ts.take k).filter q)) : IntsAre ys ((ts.take (k + 1)).filter q) := by
  rw [List.take_succ, List.getElem?_eq_getElem hk, List.filter_append]
  have e : ts.getD k 0 = ts[k] := by rw [List.getD_eq_getElem?_getD, List.getElem?_eq_getElem hk]; rfl
  rw [e] at h
  rw [Bool.not_eq_true] at h
  simp only [Option.toList_some, List.filter_cons, h, List.filter_nil, List.append_nil, Bool.false_eq_true, if_false]
  exact I
theorem getq' {vs : List Value} {ns : List Int} (I : IntsAre vs ns) {i : Nat} (h : i < ns.length) : ∃ t, vs[i]? = some (.int (ns.getD i 0) t) :=
  I.get i _ (by rw [List.getD_eq_getElem?_getD, List.getElem?_eq_getElem h]; rfl)
theorem cnt_pow : ∀ l : _root_.Fin 8, (cnt l.val (l.val + 1) != 2 ^ (th l.val).length) = false := by decide +kernel
theorem th_len : ∀ l : _root_.Fin 8, (th l.val).length ≤ 3 := by decide +kernel

theorem lawTold (w : World) (S T : Addr) (sv tv : List Value) (sg : List Int) (kS kT : Nat) (b : Bool)
    (hS : IntsAre sv sg) (hSl : sg.length = 8) (rows : Nat → Addr) (rv : Nat → List Value) (rk : Nat → Nat)
    (hT : ∀ i, i < 8 → tv[i]? = some (.ref (rows i))) (hR : ∀ i, i < 8 → IntsAre (rv i) (th i)) :
    Says PySem.Challenge.rw_gl0002_02.row.prog (hd.heap_39 w.params) w 20 150 52 [.ref S, .ref T, .bool b] (fun news => (S, listOf sv.toArray kS) ∈ news ∧ (T, listOf tv.toArray kT) ∈ news ∧ ∀ i, i < 8 → (rows i, listOf (rv i).toArray (rk i)) ∈ news)
      (fun r tl => ∃ e vs k, r = .ref e ∧ tl = [(e, listOf vs.toArray k)] ∧ IntsAre vs (told sg b)) := by
  unfold Says
  w_top off
  k_fill
  intro p loose mean mg mb dp un gd cn cs a ccd cl outer A₀ base h₀ L m news s Q E B F X N T' hk ⟨h1, h2, h3⟩ hd hu hret
  refine wpAny_noRaise ?_
  refine wpAny_call ?_
  k_dflt (refine' code_defC ?k1 ?k2 ?k3 ?k4 ?k5 ?kA ?kF ?kK ?k6 ?k7 ?k8 ?k9 ?kB ?kD ?_ ?c2 ?c3 ?c4; (case kA => exact rfl); (case kF => exact rfl); (case kK => assumption); (case k1 => k_asm); (case k2 => k_asm); (case k3 => k_asm); (case k4 => k_asm); (case k5 => k_asm); (case k6 => k_is); (case k7 => k_is); (case k8 => ktr_room); (case k9 => exact BindsTo.of_eq rfl); (case kB => exact rfl); (case kD => decide +kernel); (case c2 => exact rfl); (case c3 => exact rfl); (case c4 => exact rfl); k_whole; intro g' L' h' tk' cells' FG' F' N' Y' B' X' T' l1; k_cells Y'; (try simp only [List.cons_append, List.nil_append] at N'); (try dsimp only); (try k_fold))
  all_goals refine wpAny_noRaise ?_
  rename_i o1 o2 d1 d2
  replace d2 : o2.data = .cell (some (.ref T)) := d2
  replace d1 : o1.data = .cell none := d1
  have n1 : ∀ p ∈ news, p.1 ≠ L' + 1 := fun p hp => Nat.ne_of_lt (Nat.lt_succ_of_lt (l1 p hp))
  have n2 : ∀ p ∈ news, p.1 ≠ L' + 1 + 1 := fun p hp => Nat.ne_of_lt (Nat.lt_succ_of_lt (Nat.lt_succ_of_lt (l1 p hp)))
  k_steps
  rename IsRange _ _ _ _ _ _ _ _ => R1
  rename News _ _ _ _ => N1
  rename Fr _ _ _ _ => F1
  rename_i lf _ hlow _ _ _ _ _ _ _ _ _
  refine crng_loop (n := 8) (σ := List Value × Nat × Obj) (fun c => (lf, listOf c.1.toArray c.2.1) :: (L' + 1 + 1, c.2.2) :: (L' + 1, o2) :: news) (fun _ => []) [Str.ofString "whole", Str.ofString "inner", Str.ofString "sign"] (fun i c => IntsAre c.1 ((List.range i).map fun l => acc sg b l (l + 1)) ∧ ∃ v, c.2.2.data = .cell v) ([], 0, o1) rfl R1 (by decide) (by rfl) F1 N1 (fun _ h => nomatch h) ⟨.nil, _, d1⟩ ?_ ?_
  · rintro I i t ⟨c1, c2, oL⟩ u h tk own hi ⟨hP, vL, dL⟩ hne ho hown F2 N2
    dsimp only at hP dL
    clear R1 N1 F1
    have hlI : lf ≠ I := hne _ (.head _)
    have hLI : L' + 1 + 1 ≠ I := hne _ (.tail _ (.head _))
    have hMI : L' + 1 ≠ I := hne _ (.tail _ (.tail _ (.head _)))
    have hall : ∀ p ∈ news ++ own, p.1 ≠ lf := fun p hp => (List.mem_append.mp hp).elim (fun h => Nat.ne_of_lt (ktn_ltOf hlow.2.2 p h)) fun h => by rw [hown p h]; exact hlI.symm
    have hal1 : ∀ p ∈ news ++ own, p.1 ≠ L' + 1 := fun p hp => (List.mem_append.mp hp).elim (n1 p) fun h => by rw [hown p h]; exact hMI.symm
    have hal2 : ∀ p ∈ news ++ own, p.1 ≠ L' + 1 + 1 := fun p hp => (List.mem_append.mp hp).elim (n2 p) fun h => by rw [hown p h]; exact hLI.symm
    have q1 : tv[(i : Int).toNat]? = some (.ref (rows i)) := by rw [Int.toNat_natCast]; exact hT i hi
    have hsm : Builtin.Range.small 0 ((i : Int) + 1) 1 = true := (by decide : ∀ i : _root_.Fin 8, Builtin.Range.small 0 ((i.val : Int) + 1) 1 = true) ⟨i, hi⟩
    have hsz : Builtin.Range.rangeSize 0 ((i : Int) + 1) 1 = ((i + 1 : Nat) : Int) := (by decide : ∀ i : _root_.Fin 8, Builtin.Range.rangeSize 0 ((i.val : Int) + 1) 1 = ((i.val + 1 : Nat) : Int)) ⟨i, hi⟩
    simp only [List.cons_append] at N2
    rw [Int.zero_add]
    k_steps
    rename IsRange _ _ _ _ _ _ _ _ => R1
    rename News _ _ _ _ => N1
    rename Fr _ _ _ _ => F1
    rename_i _ oN dN _ dA _ dO hsys _ _ hid _ lB wA _ lA _ _ _ _ _ _ _ _ _
    refine crng_loop (n := i + 1) (σ := Addr × Obj × Addr × Obj) (fun c => (c.1, c.2.1) :: (c.2.2.1, c.2.2.2) :: (lf, listOf c1.toArray c2) :: (L' + 1 + 1, oN) :: (L' + 1, o2) :: (news ++ own)) (fun c => [(Str.ofString "whole", .ref c.1)]) [Str.ofString "sign"]
      (fun j c => EmptyD PySem.Challenge.rw_gl0002_02.row.prog w c.2.2.1 c.2.2.2 ∧ lf < c.1 ∧ lf < c.2.2.1 ∧ ∃ t1 t2 t3 t4, c.2.1 = tupO [.int (acc sg b i j) t1, .int (cnt i j) t2, .int 0 t3, .int 0 t4, .ref c.2.2.1]) (_, _, _, _) rfl R1 hsm hsz F1 N1 (List.forall_mem_singleton.mpr rfl) ⟨EmptyD.mk hsys hid, lA.2.1, lB.1, _, _, _, _, rfl⟩ ?_ ?_
    · rintro I' j t' ⟨e, oe, d, od⟩ u' h tk own' hj ⟨hD, hlt1, hlt2, t1, t2, t3, t4, he⟩ hne' ⟨oI, ho'⟩ hown' F3 N3
      dsimp only at hD he hlt1 hlt2 N3
      subst he
      clear R1 N1 F1
      have hj8 : j < 8 := by omega
      have hn1 : e ≠ I' := hne' _ (.head _)
      have hn2 : d ≠ I' := hne' _ (.tail _ (.head _))
      obtain ⟨tS, qS⟩ := getq' hS (i := j) (by omega)
      have q2 : sv[(j : Int).toNat]? = some (.int (sg.getD j 0) tS) := by rw [Int.toNat_natCast]; exact qS
      have q3 : tv[(j : Int).toNat]? = some (.ref (rows j)) := by rw [Int.toNat_natCast]; exact hT j hj8
      have hS' : (S, listOf sv.toArray kS) ∈ (news ++ own) ++ own' := List.mem_append_left _ (List.mem_append_left _ h1)
      have hT' : (T, listOf tv.toArray kT) ∈ (news ++ own) ++ own' := List.mem_append_left _ (List.mem_append_left _ h2)
      have hRi : (rows i, listOf (rv i).toArray (rk i)) ∈ (news ++ own) ++ own' := List.mem_append_left _ (List.mem_append_left _ (h3 i hi))
      have hRj : (rows j, listOf (rv j).toArray (rk j)) ∈ (news ++ own) ++ own' := List.mem_append_left _ (List.mem_append_left _ (h3 j hj8))
      have Ii := hR i hi
      have Ij := hR j hj8
      have li := th_len ⟨i, hi⟩
      have lj := th_len ⟨j, hj8⟩
      dsimp only at li lj
      have zj : (rv j).length = (th j).length := Ij.length
      have hnil : IntsAre [] [] := .nil
      simp only [List.cons_append] at N3
      rw [Int.zero_add]
      k_steps
      k_dflt (refine' ListComp_L (by k_asm) ?a1 ?a2 ?a3 ?a4 ?a5 ?_; (case a1 => with_unfolding_all rfl); (case a2 => decide); (case a3 => rfl); (case a4 => decide); (case a5 => rfl))
      k_steps
      rename News _ _ _ _ => N6
      rename Fr _ _ _ _ => F6
      refine CpSrc.list (fun k ys' nw' => nw' = _ ∧ IntsAre ys' (((th j).take k).filter fun t => !((th i).any (· == t)))) rfl F6 N6 (by k_mem) (by rw [zj]; exact Nat.le_trans lj (by decide)) ⟨rfl, .nil⟩ ?_ ?_
      · intro k v8 ys8 nw8 I8 oI8 C8 oC8 D8 m8 h8' tk8 E8 hk9 hP8 hl8 hoC8 hx8 F8 N8 off8 hS8 hJ8
        obtain ⟨rfl, hI8⟩ := hJ8
        obtain ⟨t8, rfl⟩ := getq Ij hP8
        clear F6 N6
        refine wpAny_tests_one ?_
        k_steps
        · rename_i ha
          exact LpEnd.intro _ (by k_asm) (by k_asm) (fun p hp => hp) off8 hS8 ⟨rfl, take_no (zj ▸ hk9) (fun h => by have h' : (!((th i).any fun x => x == (th j).getD k 0)) = true := h; rw [ha] at h'; exact absurd h' (by decide)) hI8⟩
        · rename_i ha
          exact LpEnd.intro _ (by k_asm) (by k_asm) (fun p hp => hp) off8 hS8 ⟨rfl, take_yes (q := fun t => !((th i).any (· == t))) (zj ▸ hk9) (by show (!((th i).any fun x => x == (th j).getD k 0)) = true; rw [ha]; rfl) hI8⟩
      · intro D6 h6 tk6 vs6 nw6 F7 N7 off7 low7 hJ7
        obtain ⟨rfl, I7⟩ := hJ7
        rw [zj, List.take_length] at I7
        change IntsAre vs6 (out j i) at I7
        clear F6 N6
        k_steps
        · rename b = true => hb0
          rename decide (out j i = []) = true => hsub
          k_dflt (refine' says_use (addFuncStats _ _ _ _ _ _ _ ?e1a ?e2a _ _ _ _ _ _ _ _ _ _ _ _ _ _ _ _) ?k1a ?k2a ?k3a ?k4a ?k5a ?k6a ?k7a ?k8a ?k9a ?_; (case k1a => k_asm); (case k2a => k_asm); (case k3a => k_asm); (case k4a => k_asm); (case k5a => k_asm); (case k6a => exact rfl); (case k7a => refine' ⟨?m1, ?m2, ?m3, ?m4⟩; (case m1 => k_mem); (case m2 => k_mem); (case m3 => k_mem); (case m4 => k_mem)); (case e1a => first | assumption | exact EmptyD.mk (by assumption) (by assumption)); (case e2a => first | assumption | exact EmptyD.mk (by assumption) (by assumption)); (case k8a => ktr_room); (case k9a => ktr_units); k_whole)
          rintro r5 tl5 hh5 tk5 F5 N5 l5 ⟨e5, d5, o5, s1, s2, s3, s4, rfl, rfl, D5⟩
          simp only [List.cons_append, List.nil_append] at N5
          have g1 : lf < e5 ∧ lf < d5 := ⟨l5 (lf, listOf c1.toArray c2) (by simp) _ (.head _), l5 (lf, listOf c1.toArray c2) (by simp) _ (.tail _ (.head _))⟩
          have g2 : I' < e5 ∧ I' < d5 := ⟨l5 (I', oI) (by simp [ho']) _ (.head _), l5 (I', oI) (by simp [ho']) _ (.tail _ (.head _))⟩
          clear l5
          k_sweep
          (try dsimp only)
          k_steps
          rename News _ _ _ _ => NN
          rename Fr _ _ _ _ => FF
          have ha : sg.getD j 0 * (1 - 2 * (((th i).length : Int) - ((th j).length : Int)).fmod 2) + acc sg b i j = acc sg b i (j + 1) := by rw [acc, if_pos (show subs j i = true from hsub), sgn]; first | rw [if_pos hb0] | rw [if_neg (by rw [hb0]; exact Bool.false_ne_true)]
          have hc : (1 : Int) + cnt i j = cnt i (j + 1) := by rw [cnt, if_pos (show subs j i = true from hsub)]
          rw [ha, hc] at NN
          refine TurnEnd.intro (e5, tupO [.int (acc sg b i (j + 1)) s1, .int (cnt i (j + 1)) s2, .int 0 s3, .int 0 s4, .ref d5], d5, o5) FF NN ?ho ?hl ?hne (List.forall_mem_singleton.mpr rfl) ?hr ⟨D5, g1.1, g1.2, s1, s2, s3, s4, rfl⟩
          case ho => intro p hp; simp [hp]
          case hl => exact fun p hp => by simp only [List.mem_cons, List.mem_append] at hp ⊢; grind
          case hne => exact List.forall_mem_cons.mpr ⟨Nat.ne_of_gt g2.1, List.forall_mem_cons.mpr ⟨Nat.ne_of_gt g2.2, fun p hp => hne' p (.tail _ (.tail _ hp))⟩⟩
          case hr =>
            intro z h1 h2 h3
            have h4 := h2 _ (.head _)
            dsimp only at h4
            have h5 : z ≠ Str.ofString "sign" := by simpa using h3
            simp [kstB, h1, h4, h5]
        · rename b = false => hb0
          rename decide (out j i = []) = true => hsub
          k_dflt (refine' says_use (addFuncStats _ _ _ _ _ _ _ ?e1b ?e2b _ _ _ _ _ _ _ _ _ _ _ _ _ _ _ _) ?k1b ?k2b ?k3b ?k4b ?k5b ?k6b ?k7b ?k8b ?k9b ?_; (case k1b => k_asm); (case k2b => k_asm); (case k3b => k_asm); (case k4b => k_asm); (case k5b => k_asm); (case k6b => exact rfl); (case k7b => refine' ⟨?m1, ?m2, ?m3, ?m4⟩; (case m1 => k_mem); (case m2 => k_mem); (case m3 => k_mem); (case m4 => k_mem)); (case e1b => first | assumption | exact EmptyD.mk (by assumption) (by assumption)); (case e2b => first | assumption | exact EmptyD.mk (by assumption) (by assumption)); (case k8b => ktr_room); (case k9b => ktr_units); k_whole)
          rintro r5 tl5 hh5 tk5 F5 N5 l5 ⟨e5, d5, o5, s1, s2, s3, s4, rfl, rfl, D5⟩
          simp only [List.cons_append, List.nil_append] at N5
          have g1 : lf < e5 ∧ lf < d5 := ⟨l5 (lf, listOf c1.toArray c2) (by simp) _ (.head _), l5 (lf, listOf c1.toArray c2) (by simp) _ (.tail _ (.head _))⟩
          have g2 : I' < e5 ∧ I' < d5 := ⟨l5 (I', oI) (by simp [ho']) _ (.head _), l5 (I', oI) (by simp [ho']) _ (.tail _ (.head _))⟩
          clear l5
          k_sweep
          (try dsimp only)
          k_steps
          rename News _ _ _ _ => NN
          rename Fr _ _ _ _ => FF
          have ha : sg.getD j 0 * 1 + acc sg b i j = acc sg b i (j + 1) := by rw [acc, if_pos (show subs j i = true from hsub), sgn]; first | rw [if_pos hb0] | rw [if_neg (by rw [hb0]; exact Bool.false_ne_true)]
          have hc : (1 : Int) + cnt i j = cnt i (j + 1) := by rw [cnt, if_pos (show subs j i = true from hsub)]
          rw [ha, hc] at NN
          refine TurnEnd.intro (e5, tupO [.int (acc sg b i (j + 1)) s1, .int (cnt i (j + 1)) s2, .int 0 s3, .int 0 s4, .ref d5], d5, o5) FF NN ?ho ?hl ?hne (List.forall_mem_singleton.mpr rfl) ?hr ⟨D5, g1.1, g1.2, s1, s2, s3, s4, rfl⟩
          case ho => intro p hp; simp [hp]
          case hl => exact fun p hp => by simp only [List.mem_cons, List.mem_append] at hp ⊢; grind
          case hne => exact List.forall_mem_cons.mpr ⟨Nat.ne_of_gt g2.1, List.forall_mem_cons.mpr ⟨Nat.ne_of_gt g2.2, fun p hp => hne' p (.tail _ (.tail _ hp))⟩⟩
          case hr =>
            intro z h1 h2 h3
            have h4 := h2 _ (.head _)
            dsimp only at h4
            have h5 : z ≠ Str.ofString "sign" := by simpa using h3
            simp [kstB, h1, h4, h5]
        · rename News _ _ _ _ => NN
          rename Fr _ _ _ _ => FF
          rename decide (out j i = []) = false => hsub
          have hs0 : ¬ subs j i = true := by rw [show subs j i = false from hsub]; exact Bool.false_ne_true
          have ha : acc sg b i j = acc sg b i (j + 1) := by rw [acc, if_neg hs0]
          have hc : cnt i j = cnt i (j + 1) := by rw [cnt, if_neg hs0]
          rw [ha, hc] at NN
          refine TurnEnd.intro (e, tupO [.int (acc sg b i (j + 1)) t1, .int (cnt i (j + 1)) t2, .int 0 t3, .int 0 t4, .ref d], d, od) FF NN ?ho ?hl ?hne (List.forall_mem_singleton.mpr rfl) ?hr ⟨hD, hlt1, hlt2, t1, t2, t3, t4, rfl⟩
          case ho => intro p hp; simp [hp]
          case hl => exact fun p hp => by simp only [List.mem_cons, List.mem_append] at hp ⊢; grind
          case hne => exact List.forall_mem_cons.mpr ⟨hn1, List.forall_mem_cons.mpr ⟨hn2, fun p hp => hne' p (.tail _ (.tail _ hp))⟩⟩
          case hr =>
            intro z h1 h2 h3
            have h4 := h2 _ (.head _)
            dsimp only at h4
            have h5 : z ≠ Str.ofString "sign" := by simpa using h3
            simp [kstB, h1, h4, h5]
    · rintro ⟨e, oe, d, od⟩ u' h tk ⟨hD, hlt1, hlt2, t1, t2, t3, t4, he⟩ F3 N3
      dsimp only at hD he hlt1 hlt2 N3
      subst he
      clear R1 N1 F1
      have hc1 : c1.length = i := by rw [hP.length]; simp
      have hc2 : c1.length ≤ 8 := by omega
      replace hlt1 := ltN hlt1
      replace hlt2 := ltN hlt2
      have Ii := hR i hi
      have li := th_len ⟨i, hi⟩
      dsimp only at li
      have hS' : (S, listOf sv.toArray kS) ∈ (news ++ own) := List.mem_append_left _ h1
      have hT' : (T, listOf tv.toArray kT) ∈ (news ++ own) := List.mem_append_left _ h2
      have hRi : (rows i, listOf (rv i).toArray (rk i)) ∈ (news ++ own) := List.mem_append_left _ (h3 i hi)
      have hcp : (cnt i (i + 1) != 2 ^ ((th i).length : Int).toNat) = false := by rw [Int.toNat_natCast]; exact cnt_pow ⟨i, hi⟩
      k_steps
      rename News _ _ _ _ => NN
      rename Fr _ _ _ _ => FF
      simp only [List.push_toArray] at NN
      refine TurnEnd.intro (c1 ++ [.int (acc sg b i (i + 1)) t1], c2 + 1, oN) FF NN ?ho ?hl ?hne (fun _ h => nomatch h) ?hr ⟨?hv, _, dN⟩
      case ho => intro p hp; simp [hp]
      case hl => exact fun p hp => by simp only [List.mem_cons, List.mem_append] at hp ⊢; grind
      case hne => exact List.forall_mem_cons.mpr ⟨hlI, List.forall_mem_cons.mpr ⟨hLI, List.forall_mem_cons.mpr ⟨hMI, fun p hp => hne p (.tail _ (.tail _ (.tail _ hp)))⟩⟩⟩
      case hr =>
        intro z z1 z2 z3
        have z4 : z ≠ Str.ofString "whole" ∧ z ≠ Str.ofString "inner" ∧ z ≠ Str.ofString "sign" := by
          simp only [List.contains_cons, List.contains_nil, Bool.or_false, Bool.or_eq_false_iff, beq_eq_false_iff_ne, ne_eq] at z3; exact z3
        simp [kstB, z1, z4.1, z4.2.1, z4.2.2]
      case hv =>
        dsimp only
        rw [List.range_succ, List.map_append]
        exact hP.append (.cons _ _ .nil)
  · rintro ⟨c1, c2, oL⟩ u h tk ⟨hP, vL, dL⟩ F2 N2
    clear R1 N1 F1
    k_steps
    dsimp only at hP
    refine hret _ [(lf, listOf c1.toArray c2)] _ _ (by k_asm) (kst_newsOf (by k_asm) fun p hp => ?_) (fun q hq p hp => by rw [List.mem_singleton.mp hp]; exact ktn_ltOf hlow.2.2 q hq) ⟨_, _, _, rfl, rfl, hP⟩
    simp only [List.cons_append, List.nil_append, List.mem_cons] at hp ⊢
    rcases hp with hp | hp <;> simp [hp]
end Mine
end

section
open PySem PySem.W PyProof.Rows PySem.Spec PySem.Calls
open PyProof.Rows.LCg
set_option maxRecDepth 100000
set_option maxHeartbeats 1600000
namespace Mine
local macro_rules | `(tactic| walk_at "zz0") => `(tactic| fail)
local macro_rules | `(tactic| walk_at "zz1") => `(tactic| fail)
local macro_rules | `(tactic| walk_at "zz2") => `(tactic| fail)
local macro_rules | `(tactic| walk_at "zz3") => `(tactic| fail)
local macro_rules | `(tactic| walk_at "zz4") => `(tactic| fail)
local macro_rules | `(tactic| walk_at "zz5") => `(tactic| fail)
local macro_rules | `(tactic| walk_at "zz6") => `(tactic| fail)
local macro_rules | `(tactic| walk_at "zz7") => `(tactic| fail)
local macro_rules | `(tactic| walk_at "zz8") => `(tactic| fail)
local macro_rules | `(tactic| walk_at "zz9") => `(tactic| fail)
local macro_rules | `(tactic| walk_at "zz10") => `(tactic| fail)
local macro_rules | `(tactic| walk_at "zz11") => `(tactic| fail)
local macro_rules | `(tactic| walk_at "zz12") => `(tactic| fail)
local macro_rules | `(tactic| walk_at "zz13") => `(tactic| fail)
local macro_rules | `(tactic| walk_at "zz14") => `(tactic| fail)
local macro_rules | `(tactic| walk_at "zz15") => `(tactic| fail)
local macro_rules | `(tactic| walk_at "zz16") => `(tactic| fail)
local macro_rules | `(tactic| walk_at "zz17") => `(tactic| fail)
local macro_rules | `(tactic| walk_at "zz18") => `(tactic| fail)
local macro_rules | `(tactic| walk_at "zz19") => `(tactic| fail)

local macro_rules | `(tactic| k_mem) => `(tactic| first | assumption | exact List.Mem.head _ | (refine' List.Mem.tail _ ?_; k_mem))
local macro_rules | `(tactic| k_all) => `(tactic| first | assumption | exact List.forall_mem_nil _ | (refine' List.forall_mem_cons.mpr ⟨?a, ?b⟩; (case a => k_ne); (case b => k_all)))
local macro_rules | `(tactic| k_steps) => `(tactic| repeat' ((fail_if_success (with_reducible show wpAny _ _ (pyIter (Value.ref _)) (fun it s₂ => TurnsAt _ _ _ _ _ _ _ _ _ it s₂) _ _)); (fail_if_success (with_reducible show wpAny _ _ (pyIter (Value.ref _)) (fun it s₂ => LoopAtV _ _ _ _ _ _ _ _ _ it s₂) _ _)); (fail_if_success (with_reducible show wpAny _ _ (call (Value.ref _) _) _ _ _)); (fail_if_success (with_reducible show wpAny _ _ (call (Value.type "list") _) _ _ _)); (fail_if_success (with_reducible show wpAny _ _ (eval (Expr.ListComp _ _ _ _) _) _ _ _));  (fail_if_success (with_reducible show wpAny _ _ (eval (Expr.ListComp _ _ _ _) _) _ _ _)); first | (k_unfold; (try dsimp only)) | (k_end; wrow_close) | walk1 | (dsimp only; walk1) | (leave1; walk_say "STEP leave1"; try dsimp only) | fail "no step"))
local macro_rules | `(tactic| walk_at "exec For Name Call cons nil") => `(tactic| (k_here; (rename Fr _ _ _ _ => lF'); first | (with_unfolding_all refine' For_invVF lF' ?k1 ?k2 ?_; (case k1 => decide); (case k2 => exact rfl); k_whole) | (k_dflt (refine' For_turns lF' ?_))))

local macro_rules | `(tactic| walk_at "subscriptTail") => `(tactic| (k_here; (with_reducible show wpAny _ _ (subscriptTail _ _ (Value.ref _) (Value.int _ _)) _ _ _); (with_unfolding_all refine' item_at ?k1 ?k2 ?k3 ?k4 ?k5 ?_ ?k6; (case k1 => k_asm); (case k2 => k_mem); (case k3 => omega); (case k4 => omega); (case k5 => first | with_reducible assumption | assumption); (case k6 => with_unfolding_all rfl); k_whole)))
local macro_rules | `(tactic| walk_at "subscriptTail Name Name ref int") => `(tactic| (k_here; (with_reducible show wpAny _ _ (subscriptTail _ _ (Value.ref _) (Value.int _ _)) _ _ _); (with_unfolding_all refine' item_at ?k1 ?k2 ?k3 ?k4 ?k5 ?_ ?k6; (case k1 => k_asm); (case k2 => k_mem); (case k3 => omega); (case k4 => omega); (case k5 => first | with_reducible assumption | assumption); (case k6 => with_unfolding_all rfl); k_whole)))
local macro_rules | `(tactic| walk_at "subscriptTail Subscript Name ref int") => `(tactic| (k_here; (with_reducible show wpAny _ _ (subscriptTail _ _ (Value.ref _) (Value.int _ _)) _ _ _); (with_unfolding_all refine' item_at ?k1 ?k2 ?k3 ?k4 ?k5 ?_ ?k6; (case k1 => k_asm); (case k2 => k_mem); (case k3 => omega); (case k4 => omega); (case k5 => first | with_reducible assumption | assumption); (case k6 => with_unfolding_all rfl); k_whole)))
local macro_rules | `(tactic| walk_at "subscriptTail Name Subscript ref int") => `(tactic| (k_here; (with_reducible show wpAny _ _ (subscriptTail _ _ (Value.ref _) (Value.int _ _)) _ _ _); (with_unfolding_all refine' item_at ?k1 ?k2 ?k3 ?k4 ?k5 ?_ ?k6; (case k1 => k_asm); (case k2 => k_mem); (case k3 => omega); (case k4 => omega); (case k5 => first | with_reducible assumption | assumption); (case k6 => with_unfolding_all rfl); k_whole)))
local macro_rules | `(tactic| walk_at "storeName") => `(tactic| (k_here; k_dflt (refine' storeX_C ?F ?N ?c ?U ?d ?_ ?a ?b; (case b => first | rfl | decide); (case a => rfl); (case F => k_asm); (case N => k_asm); (case c => rfl); (case U => k_updF); (case d => k_asm); k_whole); intro h' o' F' N' d'; (try dsimp only at N'); (try k_sweep)))
local macro_rules | `(tactic| walk_at "callWith ref") => `(tactic| (k_here; k_dflt (first | (refine' callWith_K ?k1 ?k2 ?_; (case k1 => k_asm); (case k2 => k_is); k_whole) | (refine' callWith_K0 ?k1 ?k2 ?_; (case k1 => k_in); (case k2 => k_is); k_whole))))
local macro_rules | `(tactic| walk_at "compareOp Eq ref ref") => `(tactic| (k_here; (with_reducible show wpAny _ _ (compareOp CmpOp.Eq (Value.ref _) (Value.ref _)) _ _ _); k_dflt (refine' eq_intsK ?k1 ?k2 ?k3 ?k4 ?k5 ?_; (case k1 => exact News.isList (by k_asm) (by k_mem)); (case k2 => assumption); (case k3 => exact News.isList (by k_asm) (by k_mem)); (case k4 => assumption); (case k5 => units_room); k_whole)))
local macro_rules | `(tactic| walk_at "subscriptTail Subscript Name Name Name ref int") => `(tactic| (k_here; (with_reducible show wpAny _ _ (subscriptTail _ _ (Value.ref _) (Value.int _ _)) _ _ _); (with_unfolding_all refine' item_at ?k1 ?k2 ?k3 ?k4 ?k5 ?_ ?k6; (case k1 => k_asm); (case k2 => k_mem); (case k3 => omega); (case k4 => omega); (case k5 => first | with_reducible assumption | assumption); (case k6 => with_unfolding_all rfl); k_whole)))
local macro_rules | `(tactic| walk_at "ite") => `(tactic| (k_here; first | refine ite_no (by assumption) ?_ | refine ite_yes (by assumption) ?_))
local macro_rules | `(tactic| walk_at "call builtin:len") => `(tactic| (k_here; (with_reducible show wpAny _ _ (call (Value.builtin "len") [Value.ref _]) _ _ _); k_dflt (refine' len_to ?N ?m ?I ?e ?f ?_; (case N => k_asm); (case m => k_mem); (case I => assumption); (case e => exact rfl); (case f => omega); k_whole)))
local macro_rules | `(tactic| walk_at "compareOp NotIn int ref") => `(tactic| (k_here; (with_reducible show wpAny _ _ (compareOp CmpOp.NotIn (Value.int _ _) (Value.ref _)) _ _ _); k_dflt (refine' notin_list_ints ?k1 ?k2 ?_; (case k1 => exact News.isList (by k_asm) (by k_mem)); (case k2 => assumption); k_whole)))
local macro_rules | `(tactic| walk_at "binaryOp Pow int int") => `(tactic| (k_here; k_dflt (refine' pow_int_small ?a ?b ?c ?_; (case a => omega); (case b => omega); (case c => decide); k_whole)))

local macro_rules | `(tactic| walk_at "compareOp In int ref") => `(tactic| (k_here; (with_reducible show wpAny _ _ (compareOp CmpOp.In (Value.int _ _) (Value.ref _)) _ _ _); k_dflt (refine' in_list_ints ?k1 ?k2 ?_; (case k1 => exact News.isList (by k_asm) (by k_mem)); (case k2 => assumption); k_whole)))
local macro_rules | `(tactic| walk_at "call ref") => `(tactic| (k_here; k_dflt (refine' says_use (addFuncStats _ _ _ _ _ _ _ ?e1 ?e2 _ _ _ _ _ _ _ _ _ _ _ _ _ _ _ _) ?k1 ?k2 ?k3 ?k4 ?k5 ?k6 ?k7 ?k8 ?k9 ?_; (case k1 => k_asm); (case k2 => k_asm); (case k3 => k_asm); (case k4 => k_asm); (case k5 => k_asm); (case k6 => first | assumption | exact rfl); (case k7 => refine' ⟨?m1, ?m2, ?m3, ?m4⟩; (case m1 => k_mem); (case m2 => k_mem); (case m3 => k_mem); (case m4 => k_mem)); (case e1 => first | assumption | exact EmptyD.mk (by assumption) (by assumption)); (case e2 => first | assumption | exact EmptyD.mk (by assumption) (by assumption)); (case k8 => ktr_room); (case k9 => ktr_units); k_whole); intro r' tl' h' tk' F' N' l' hp'; obtain ⟨e', d', o', t1', t2', t3', t4', hr', htl', D'⟩ := hp'; subst hr' htl'; (try simp only [List.cons_append, List.nil_append] at N'); (try k_sweep); (try dsimp only)))

def byt (sg : List Int) : Nat → List Int
  | 0 => sg
  | k + 1 => (List.range 8).map fun l => (byt sg k).getD l 0 + if (th l).any (· == (k : Int)) = true then (byt sg k).getD (l - 2 ^ k) 0 else 0

theorem byt_len {sg : List Int} (h : sg.length = 8) : ∀ {k : Nat}, (byt sg k).length = 8
  | 0 => h
  | k + 1 => by rw [byt, List.length_map, List.length_range]
theorem th_pow : ∀ j : _root_.Fin 8, ∀ k : _root_.Fin 3, (th j.val).any (fun x => x == (k.val : Int)) = true → 2 ^ k.val ≤ j.val := by decide +kernel

theorem lawByThings (w : World) (S T : Addr) (sv tv : List Value) (sg : List Int) (kS kT : Nat)
    (hS : IntsAre sv sg) (hSl : sg.length = 8) (rows : Nat → Addr) (rv : Nat → List Value) (rk : Nat → Nat)
    (hT : ∀ i, i < 8 → tv[i]? = some (.ref (rows i))) (hR : ∀ i, i < 8 → IntsAre (rv i) (th i)) :
    Says PySem.Challenge.rw_gl0002_02.row.prog (hd.heap_39 w.params) w 20 150 57 [.ref S, .ref T] (fun news => (S, listOf sv.toArray kS) ∈ news ∧ (T, listOf tv.toArray kT) ∈ news ∧ ∀ i, i < 8 → (rows i, listOf (rv i).toArray (rk i)) ∈ news)
      (fun r tl => ∃ e vs k, r = .ref e ∧ tl = [(e, listOf vs.toArray k)] ∧ IntsAre vs (byt sg 3)) := by
  unfold Says
  w_top off
  k_fill
  intro p loose mean mg mb dp un gd cn cs a ccd cl outer A₀ base h₀ L m news s Q E B F X N T' hk ⟨h1, h2, h3⟩ hd hu hret
  refine wpAny_noRaise ?_
  refine wpAny_call ?_
  k_dflt (refine' code_defC ?k1 ?k2 ?k3 ?k4 ?k5 ?kA ?kF ?kK ?k6 ?k7 ?k8 ?k9 ?kB ?kD ?_ ?c2 ?c3 ?c4; (case kA => exact rfl); (case kF => exact rfl); (case kK => assumption); (case k1 => k_asm); (case k2 => k_asm); (case k3 => k_asm); (case k4 => k_asm); (case k5 => k_asm); (case k6 => k_is); (case k7 => k_is); (case k8 => ktr_room); (case k9 => exact BindsTo.of_eq rfl); (case kB => exact rfl); (case kD => decide +kernel); (case c2 => exact rfl); (case c3 => exact rfl); (case c4 => exact rfl); k_whole; intro g' L' h' tk' cells' FG' F' N' Y' B' X' T' l1; k_cells Y'; (try simp only [List.cons_append, List.nil_append] at N'); (try dsimp only); (try k_fold))
  all_goals refine wpAny_noRaise ?_
  have zS : sv.length = 8 := by rw [hS.length, hSl]
  rename_i o1 o2 o3 d1 d2 d3
  replace d1 : o1.data = .cell none := d1
  replace d2 : o2.data = .cell none := d2
  replace d3 : o3.data = .cell (some (.ref T)) := d3
  have n1 : ∀ p ∈ news, p.1 ≠ L' + 1 := fun p hp => Nat.ne_of_lt (Nat.lt_succ_of_lt (l1 p hp))
  have n2 : ∀ p ∈ news, p.1 ≠ L' + 1 + 1 := fun p hp => Nat.ne_of_lt (Nat.lt_succ_of_lt (Nat.lt_succ_of_lt (l1 p hp)))
  have n3 : ∀ p ∈ news, p.1 ≠ L' + 1 + 1 + 1 := fun p hp => Nat.ne_of_lt (Nat.lt_succ_of_lt (Nat.lt_succ_of_lt (Nat.lt_succ_of_lt (l1 p hp))))
  k_steps
  k_dflt (refine' kup_listOf (zs := sv) ?u1 ?u2 ?u3 ?u4 ?_ ?u6; (case u1 => k_asm); (case u2 => k_asm); (case u3 => k_mem); (case u4 => exact rfl); (case u6 => show sv.length ≤ sizeLine; rw [zS]; decide))
  intro lf kf hf Ff Nf lowf
  have lf1 : @LT.lt Nat _ (L' + 1 + 1 + 1) lf := lowf _ (.head _)
  have lf2 : @LT.lt Nat _ (L' + 1 + 1) lf := lowf _ (.tail _ (.head _))
  have lf3 : @LT.lt Nat _ (L' + 1) lf := lowf _ (.tail _ (.tail _ (.head _)))
  have hlow : ∀ p ∈ news, p.1 < lf := fun p hp => lowf p (.tail _ (.tail _ (.tail _ hp)))
  clear lowf
  k_sweep
  dsimp only
  k_steps
  rename IsRange _ _ _ _ _ _ _ _ => R1
  rename News _ _ _ _ => N1
  rename Fr _ _ _ _ => F1
  rename_i oF _ _ dF _ _ _ _ _ _
  refine crng_loop (n := 3) (σ := Addr × List Value × Nat × Obj × Obj) (fun c => (c.1, listOf c.2.1.toArray c.2.2.1) :: (L' + 1 + 1 + 1, c.2.2.2.1) :: (L' + 1 + 1, c.2.2.2.2) :: (L' + 1, o3) :: news) (fun _ => []) [] (fun i c => IntsAre c.2.1 (byt sg i) ∧ c.2.2.2.2.data = .cell (some (.ref c.1)) ∧ (∃ v, c.2.2.2.1.data = .cell v) ∧ (∀ p ∈ news, p.1 < c.1) ∧ L' + 1 + 1 + 1 < c.1) (lf, sv, kf, o1, oF) rfl R1 (by decide) (by rfl) F1 N1 (fun _ h => nomatch h) ⟨hS, dF, ⟨_, d1⟩, hlow, lf1⟩ ?_ ?_
  · rintro I k t ⟨e, vs, kk, oT, oG⟩ u h tk own hi ⟨hP, dG, ⟨vT, dT⟩, hel, hel'⟩ hne ho hown F2 N2
    dsimp only at hP dG dT hel hel' N2
    clear R1 N1 F1
    have hlI : e ≠ I := hne _ (.head _)
    have hLI : L' + 1 + 1 + 1 ≠ I := hne _ (.tail _ (.head _))
    have hMI : L' + 1 + 1 ≠ I := hne _ (.tail _ (.tail _ (.head _)))
    have hKI : L' + 1 ≠ I := hne _ (.tail _ (.tail _ (.tail _ (.head _))))
    have hall : ∀ p ∈ news ++ own, p.1 ≠ e := fun p hp => (List.mem_append.mp hp).elim (fun h => Nat.ne_of_lt (hel p h)) fun h => by rw [hown p h]; exact hlI.symm
    have hal1 : ∀ p ∈ news ++ own, p.1 ≠ L' + 1 := fun p hp => (List.mem_append.mp hp).elim (n1 p) fun h => by rw [hown p h]; exact hKI.symm
    have hal2 : ∀ p ∈ news ++ own, p.1 ≠ L' + 1 + 1 := fun p hp => (List.mem_append.mp hp).elim (n2 p) fun h => by rw [hown p h]; exact hMI.symm
    have hal3 : ∀ p ∈ news ++ own, p.1 ≠ L' + 1 + 1 + 1 := fun p hp => (List.mem_append.mp hp).elim (n3 p) fun h => by rw [hown p h]; exact hLI.symm
    have e1 : @LT.lt Nat _ (L' + 1 + 1 + 1) e := hel'
    have hT' : (T, listOf tv.toArray kT) ∈ (news ++ own) := List.mem_append_left _ h2
    simp only [List.cons_append] at N2
    rw [Int.zero_add]
    k_steps
    k_dflt (refine' ListComp_L (by k_asm) ?a1 ?a2 ?a3 ?a4 ?a5 ?_; (case a1 => with_unfolding_all rfl); (case a2 => decide); (case a3 => rfl); (case a4 => decide); (case a5 => rfl))
    k_steps
    rename IsRange _ _ _ _ _ _ _ _ => RB
    rename News _ _ _ _ => NB
    rename Fr _ _ _ _ => FB
    rename_i oC _ _ dC _ _ _ _ _ _
    refine CpSrc.range 8 (fun j ys' nw' => nw' = _ ∧ IntsAre ys' ((List.range j).map fun l : Nat => (byt sg k).getD l 0 + if (th l).any (· == (k : Int)) = true then (byt sg k).getD (l - 2 ^ k) 0 else 0)) rfl FB NB RB (by decide) (by rfl) (by decide) ⟨rfl, .nil⟩ (turn_ints_L _ ?_) ?_
    · rintro j v ys I2 oI2 C oC D m2 h8 tk8 E8 hj ⟨t8, rfl⟩ hoC hx hys F8 N8 off8
      clear FB NB
      rw [Int.zero_add] at hx
      obtain ⟨ta, qa⟩ := getq' hP (i := j) (by rw [byt_len hSl]; exact hj)
      have q1 : vs[(j : Int).toNat]? = some (.int ((byt sg k).getD j 0) ta) := by rw [Int.toNat_natCast]; exact qa
      have q2 : tv[(j : Int).toNat]? = some (.ref (rows j)) := by rw [Int.toNat_natCast]; exact hT j hj
      have hRj : (rows j, listOf (rv j).toArray (rk j)) ∈ (news ++ own) := List.mem_append_left _ (h3 j hj)
      have Ij := hR j hj
      cases hb : (th j).any (fun x => x == (k : Int)) with
      | true =>
        have hk2 : 2 ^ k ≤ j := th_pow ⟨j, hj⟩ ⟨k, hi⟩ hb
        have hz : ((j : Int) - 2 ^ (k : Int).toNat) = ((j - 2 ^ k : Nat) : Int) := by rw [Int.toNat_natCast, Int.ofNat_sub hk2]; simp
        have hz0 : 0 ≤ ((j : Int) - 2 ^ (k : Int).toNat) := by rw [hz]; exact Int.natCast_nonneg _
        have hjk : j - 2 ^ k < 8 := Nat.lt_of_le_of_lt (Nat.sub_le j (2 ^ k)) hj
        obtain ⟨tb, qb⟩ := getq' hP (i := j - 2 ^ k) (by rw [byt_len hSl]; exact hjk)
        have q3 : vs[((j : Int) - 2 ^ (k : Int).toNat).toNat]? = some (.int ((byt sg k).getD (j - 2 ^ k) 0) tb) := by rw [hz, Int.toNat_natCast]; exact qb
        have hz1 : ((j : Int) - 2 ^ (k : Int).toNat) < 2 ^ 63 := by rw [hz]; exact Int.lt_of_lt_of_le (Int.ofNat_lt.mpr hjk) (by decide)
        k_steps
        exact EltI.intro (by k_asm) (by k_asm) (fun p hp => hp) (by rw [if_pos rfl])
      | false =>
        k_steps
        exact EltI.intro (by k_asm) (by k_asm) (fun p hp => hp) (by rw [if_neg Bool.false_ne_true])
    · intro D h8 tk8 ys nw F8 N8 off8 low8 ⟨hnw, hI⟩
      subst hnw
      clear FB NB
      have D1 : @LT.lt Nat _ e D := low8 _ (.head _)
      have DI : I < D := by obtain ⟨oI, ho⟩ := ho; exact low8 (I, oI) (by simp [ho])
      dsimp only
      k_steps
      rename_i oH FF NN dH
      refine TurnEnd.intro (D, ys, ys.length, oC, oH) FF NN ?ho ?hl ?hne (fun _ h => nomatch h) ?hr ⟨hI, dH, ⟨_, dC⟩, fun p hp => Nat.lt_trans (hel p hp) D1, Nat.lt_trans e1 D1⟩
      case ho => intro p hp; simp [hp]
      case hl => exact fun p hp => by simp only [List.mem_cons, List.mem_append] at hp ⊢; grind
      case hne => exact List.forall_mem_cons.mpr ⟨Nat.ne_of_gt DI, fun p hp => by rcases List.mem_cons.mp hp with rfl | hp; exact hLI; rcases List.mem_cons.mp hp with rfl | hp; exact hMI; exact hne p (.tail _ (.tail _ (.tail _ hp)))⟩
      case hr =>
        intro z z1 z2 z3
        simp [kstB, z1]
  · rintro ⟨e, vs, kk, oT, oG⟩ u h tk ⟨hP, dG, ⟨vT, dT⟩, hel, hel'⟩ F2 N2
    dsimp only at hP dG dT hel hel' N2
    clear R1 N1 F1
    have e1 : @LT.lt Nat _ (L' + 1 + 1 + 1) e := hel'
    k_steps
    refine hret _ [(e, listOf vs.toArray kk)] _ _ (by k_asm) (kst_newsOf (by k_asm) fun p hp => ?_) (fun q hq p hp => by rw [List.mem_singleton.mp hp]; exact hel q hq) ⟨_, _, _, rfl, rfl, hP⟩
    simp only [List.cons_append, List.nil_append, List.mem_cons] at hp ⊢
    rcases hp with hp | hp <;> simp [hp]
end Mine
end

section
open PySem PySem.W PyProof.Rows PySem.Spec PySem.Calls
open PyProof.Rows.LCg
set_option maxRecDepth 100000
set_option maxHeartbeats 1600000
namespace Mine

theorem compTurn_two0 (elt iter iter2 t1 t2 : Expr) (scope : Scope) (pos : Pos) (it acc : Value) (env : Env) :
    compTurn (.ListComp elt [⟨t1, iter, [], 0⟩, ⟨t2, iter2, [], 0⟩] scope pos) 0 it acc env = (standAt iter.pos >>= fun _ => pyNext it >>= fun r => match r with
      | none => pure (.done .next)
      | some v => letOwnedTupleGo t1 it v >>= fun _ => assign t1 env v >>= fun _ =>
        (eval iter2 env >>= fun x => standAt iter2.pos >>= fun _ => foldedSetIterable iter2 env x >>= fun x => holding [x] (pyIter x) >>= fun i2 =>
          runOwn (.compStart (.ListComp elt [⟨t1, iter, [], 0⟩, ⟨t2, iter2, [], 0⟩] scope pos) 1 i2 acc env) env >>= fun _ =>
          again (.compLoop (.ListComp elt [⟨t1, iter, [], 0⟩, ⟨t2, iter2, [], 0⟩] scope pos) 0 it acc env))) := by rfl
theorem compTurn_two1 (elt iter iter2 t1 t2 : Expr) (scope : Scope) (pos : Pos) (it acc : Value) (env : Env) :
    compTurn (.ListComp elt [⟨t1, iter, [], 0⟩, ⟨t2, iter2, [], 0⟩] scope pos) 1 it acc env = (standAt iter2.pos >>= fun _ => pyNext it >>= fun r => match r with
      | none => pure (.done .next)
      | some v => letOwnedTupleGo t2 it v >>= fun _ => assign t2 env v >>= fun _ =>
        (eval elt env >>= fun x => call (.builtin "list.append") [acc, x] >>= fun _ => pure ()) >>= fun _ =>
          again (.compLoop (.ListComp elt [⟨t1, iter, [], 0⟩, ⟨t2, iter2, [], 0⟩] scope pos) 1 it acc env)) := by rfl
section
variable {prog : Program} {w : World} {A : Around} {E : Value → Shared → Prop} {s : Shared} {h₀ : Heap} {L : Addr} {m : Str → Option Value} {env : Env}

abbrev comp2 (elt iter iter2 : Expr) (x : Str) (px : Pos) (y : Str) (py : Pos) (scope : Scope) (pos : Pos) : Expr := .ListComp elt [⟨.Name x px, iter, [], 0⟩, ⟨.Name y py, iter2, [], 0⟩] scope pos

theorem codeAny_loop1 {elt iter iter2 : Expr} {x y : Str} {px py : Pos} {scope : Scope} {pos : Pos} {it acc : Value} {R : Result → Shared → Prop} (I : Nat → Shared → Prop)
    (turn : ∀ n s, I n s → wpAny (model prog w) A (pyNext it) (fun r s₁ => match r with
      | none => R (.ok .next) s₁
      | some v => wpAny (model prog w) A (assign (.Name y py) env v) (fun _ s₂ => wpAny (model prog w) A (eval elt env) (fun x s₃ =>
          wpAny (model prog w) A (call (.builtin "list.append") [acc, x]) (fun _ s₄ => ∃ m, m < n ∧ I m s₄) (notedBy (model prog w) A env fun e s' => R (.error e) s') s₃)
          (notedBy (model prog w) A env fun e s' => R (.error e) s') s₂) (notedBy (model prog w) A env fun e s' => R (.error e) s') s₁) (notedBy (model prog w) A env fun e s' => R (.error e) s') s)
    (n : Nat) (h : I n s) :
    codeAny (model prog w) A (.compLoop (comp2 elt iter iter2 x px y py scope pos) 1 it acc env) R s := by
  refine codeAny_loop rfl I (fun n s hI => ?_) n h
  show wpAny _ _ ((compTurn (.ListComp elt [⟨.Name x px, iter, [], 0⟩, ⟨.Name y py, iter2, [], 0⟩] scope pos) 1 it acc env).onRaise (fun x => do noteFrame x env; theTreesLotGoes x)) _ _ s
  refine wpAny_noted ?_
  rw [compTurn_two1]
  refine wpAny_bind (wpAny_standAt (wpAny_bind (wpAny_mono (turn n s hI) (fun r s₁ h₁ => ?_) fun _ _ h' => h')))
  cases r with
  | none => exact wpAny_pure h₁
  | some v =>
    refine wpAny_bind (wpAny_of_eq (show letOwnedTupleGo (.Name y py) it v = pure () from rfl) ?_)
    exact wpAny_bind (wpAny_mono h₁ (fun _ s₂ h₂ => wpAny_bind (wpAny_bind (wpAny_mono h₂ (fun x s₃ h₃ => wpAny_bind (wpAny_mono h₃
      (fun _ s₄ h₄ => wpAny_pure (wpAny_pure ⟨rfl, h₄⟩)) fun _ _ h' => h')) fun _ _ h' => h'))) fun _ _ h' => h')

theorem codeAny_loop0 {elt iter iter2 : Expr} {x y : Str} {px py : Pos} {scope : Scope} {pos : Pos} {it acc : Value} {R : Result → Shared → Prop} (I : Nat → Shared → Prop) (hs : ∀ x, foldedSetIterable iter2 env x = pure x)
    (turn : ∀ n s, I n s → wpAny (model prog w) A (pyNext it) (fun r s₁ => match r with
      | none => R (.ok .next) s₁
      | some v => wpAny (model prog w) A (assign (.Name x px) env v) (fun _ s₂ => wpAny (model prog w) A (eval iter2 env) (fun xv s₃ =>
          wpAny (model prog w) A (pyIter xv) (fun i2 s₄ => codeAny (model prog w) A (.compStart (comp2 elt iter iter2 x px y py scope pos) 1 i2 acc env) (fun r s' => match r with | .ok _ => ∃ m, m < n ∧ I m s' | .error e => cameBackBy (model prog w) A env (notedBy (model prog w) A env fun e s' => R (.error e) s') e s') s₄) (notedBy (model prog w) A env fun e s' => R (.error e) s') s₃)
          (notedBy (model prog w) A env fun e s' => R (.error e) s') s₂) (notedBy (model prog w) A env fun e s' => R (.error e) s') s₁) (notedBy (model prog w) A env fun e s' => R (.error e) s') s)
    (n : Nat) (h : I n s) :
    codeAny (model prog w) A (.compLoop (comp2 elt iter iter2 x px y py scope pos) 0 it acc env) R s := by
  refine codeAny_loop rfl I (fun n s hI => ?_) n h
  show wpAny _ A ((compTurn (.ListComp elt [⟨.Name x px, iter, [], 0⟩, ⟨.Name y py, iter2, [], 0⟩] scope pos) 0 it acc env).onRaise (fun x => do noteFrame x env; theTreesLotGoes x)) _ _ s
  refine wpAny_noted ?_
  rw [compTurn_two0]
  refine wpAny_bind (wpAny_standAt (wpAny_bind (wpAny_mono (turn n s hI) (fun r s₁ h₁ => ?_) fun _ _ h' => h')))
  cases r with
  | none => exact wpAny_pure h₁
  | some v =>
    refine wpAny_bind (wpAny_of_eq (show letOwnedTupleGo (.Name x px) it v = pure () from rfl) ?_)
    refine wpAny_bind (wpAny_mono h₁ (fun _ s₂ h₂ => wpAny_bind (wpAny_mono h₂ (fun xv s₃ h₃ => wpAny_bind (wpAny_standAt (wpAny_bind (wpAny_of_eq (hs xv) (wpAny_bind (wpAny_holding (wpAny_mono h₃
      (fun i2 s₄ h₄ => wpAny_bind (wpAny_runOwn (codeAny_mono h₄ fun r s' hr => ?_))) fun _ _ h' => h'))))))) fun _ _ h' => h')) fun _ _ h' => h')
    cases r with
    | ok f => exact wpAny_pure ⟨rfl, hr⟩
    | error e => exact hr

theorem codeAny_start1 {elt iter iter2 : Expr} {x y : Str} {px py : Pos} {scope : Scope} {pos : Pos} {it acc : Value} {R : Result → Shared → Prop}
    (h0 : codeAny (model prog w) A (.compLoop (comp2 elt iter iter2 x px y py scope pos) 1 it acc env) R s)
    (h : wpAny (model prog w) A (pyIter it) (fun it' s' => codeAny (model prog w) A (.compLoop (comp2 elt iter iter2 x px y py scope pos) 1 it' acc env) R s')
      (notedBy (model prog w) A env fun x s' => R (.error x) s') s) :
    codeAny (model prog w) A (.compStart (comp2 elt iter iter2 x px y py scope pos) 1 it acc env) R s := by
  refine codeAny_of_tree ?_
  show wpAny _ _ ((compStart (comp2 elt iter iter2 x px y py scope pos) 1 it acc env).onRaise (fun x => do noteFrame x env; standAt theWindowsPlace)) _ _ s
  refine wpAny_notedAt ?_
  unfold compStart
  show wpAny _ _ (ask >>= _) _ _ s
  refine wpAny_bind (wpAny_askSetting (wpAny_ite ?_))
  split
  · first
      | exact wpAny_bind (wpAny_pure (wpAny_pure (And.intro rfl h0)))
      | exact wpAny_pure (And.intro rfl h0)
  · first
      | exact wpAny_bind (wpAny_rule (wpAny_bind (wpAny_standAt (wpAny_bind (wpAny_mono h (fun it' s' h' => wpAny_pure (And.intro rfl h')) fun _ _ x => x)))))
      | (refine wpAny_bind (wpAny_rule ?_); show wpAny _ _ (standAt iter2.pos >>= _) _ _ s; exact wpAny_bind (wpAny_standAt (wpAny_bind (wpAny_mono h (fun it' s' h' => wpAny_pure (And.intro rfl h')) fun _ _ x => x))))

theorem inner_2 {elt iter iter2 : Expr} {x y : Str} {px py : Pos} {scope : Scope} {cl : List (Str × Addr)} {pos : Pos} {r I C D : Addr} {b : Int} {t u v₀ : Tok} {n : Nat} {v : Value} {oI oC : Obj} {m₂ : Str → Option Value} {ys : List Value} {nw : List (Addr × Obj)} {S : List (Addr × Obj) → Prop} {K : Nat → List Value → List (Addr × Obj) → Prop} {R : Result → Shared → Prop}
    (hh : A.handled = none) (hkind : scope.kind = .function) (hy : scope.names.lookup y = some .local) (hxy : ¬ x = y)
    (hr : IsRange s.heap r 0 b 1 t u v₀) (hsm : Builtin.Range.small 0 b 1 = true) (hn : Builtin.Range.rangeSize 0 b 1 = (n : Int))
    (hIC : I ≠ C) (hID : I ≠ D) (hDC : D ≠ C) (F : Fr h₀ L s.heap m) (N : News h₀ L s.heap ((I, oI) :: (C, oC) :: (D, lst ys) :: nw)) (off : ∀ p ∈ nw, p.1 ≠ I ∧ p.1 ≠ C ∧ p.1 ≠ D) (hS : S nw)
    (hoC : NsObj oC m₂) (hx : m₂ x = some v) (hK : K 0 ys nw) (hsz : ys.length + n ≤ sizeLine)
    (turn : ∀ j tj ys nw I2 oI2 oC m₂ h tk (E' : Value → Shared → Prop), j < n → NsObj oC m₂ → m₂ x = some v → m₂ y = some (.int (j : Int) tj) → Fr h₀ L h m → News h₀ L h ((I2, oI2) :: (I, oI) :: (C, oC) :: (D, lst ys) :: nw) → (∀ p ∈ nw, p.1 ≠ I2 ∧ p.1 ≠ I ∧ p.1 ≠ C ∧ p.1 ≠ D) → S nw → K j ys nw →
      wpAny (model prog w) A (eval elt (compEnvC scope cl C env)) (fun yv s'' => ∃ h' tk' nw', s'' = { s with heap := h', toks := tk' } ∧ Fr h₀ L h' m ∧ News h₀ L h' ((I2, oI2) :: (I, oI) :: (C, oC) :: (D, lst ys) :: nw') ∧ (∀ p ∈ nw', p.1 ≠ I2 ∧ p.1 ≠ I ∧ p.1 ≠ C ∧ p.1 ≠ D) ∧ S nw' ∧ K (j + 1) (ys ++ [yv]) nw') E' { s with heap := h, toks := tk })
    (done : ∀ ys' nw' oC' m₂' h tk, K n ys' nw' → ys'.length = ys.length + n → NsObj oC' m₂' → Fr h₀ L h m → News h₀ L h ((I, oI) :: (C, oC') :: (D, lst ys') :: nw') → (∀ p ∈ nw', p.1 ≠ I ∧ p.1 ≠ C ∧ p.1 ≠ D) → S nw' → R (.ok .next) { s with heap := h, toks := tk }) :
    wpAny (model prog w) A (pyIter (.ref r)) (fun it s₂ => codeAny (model prog w) A (.compStart (comp2 elt iter iter2 x px y py scope pos) 1 it (.ref D) (compEnvC scope cl C env)) R s₂) E s := by
  refine wpAny_pyIter_range hr hsm ?_
  obtain ⟨I2, hI2⟩ : ∃ I2, I2 = s.heap.objs.size := ⟨_, rfl⟩
  rw [← hI2]
  have W := range_walks (prog := prog) (w := w) (I := I2) hh 0 n
  have zI := N (I, oI) (.head _)
  have zC := N (C, oC) (.tail _ (.head _))
  have zD := N (D, lst ys) (.tail _ (.tail _ (.head _)))
  have nI : I ≠ I2 := by rw [hI2]; exact Nat.ne_of_lt (Heap.lt_size zI.1)
  have nC : C ≠ I2 := by rw [hI2]; exact Nat.ne_of_lt (Heap.lt_size zC.1)
  have nD : D ≠ I2 := by rw [hI2]; exact Nat.ne_of_lt (Heap.lt_size zD.1)
  have nL : L ≠ I2 := by rw [hI2]; exact Nat.ne_of_lt F.ns.lt
  have hI₀ : h₀.get? I2 = none := by rw [hI2]; exact next_is_new F
  have off₂ : ∀ p ∈ nw, p.1 ≠ I2 := fun p hp => by rw [hI2]; exact Nat.ne_of_lt (Heap.lt_size (N p (.tail _ (.tail _ (.tail _ hp)))).1)
  generalize hH : s.heap.push { cls := .type "range_iterator", data := .fields #[rawInt 0, rawInt (Builtin.Range.rangeSize 0 b 1), rawInt 1] } = H
  have hst : IsRangeIter H I2 (0 + ((0 : Nat) : Int) * 1) ((n : Int) - ((0 : Nat) : Int)) 1 := by
    rw [← hH, hI2, ← hn]
    show IsRangeIter _ _ _ _ _
    simpa using Heap.get?_push_size _ rfl
  have F1 : Fr h₀ L H m := by rw [← hH]; exact F.push _
  have N1 : News h₀ L H ((I, oI) :: (C, oC) :: (D, lst ys) :: nw) := fun p hp => ⟨by rw [← hH]; exact Heap.get?_push_of_some _ (N p hp).1, (N p hp).2⟩
  have loop : ∀ tk, codeAny (model prog w) A (.compLoop (comp2 elt iter iter2 x px y py scope pos) 1 (.ref I2) (.ref D) (compEnvC scope cl C env)) R { s with heap := H, toks := tk } := by
    intro tk0
    refine codeAny_loop1 (fun k s' => ∃ h' tk j ys' nw' oC' m₂', s' = { s with heap := h', toks := tk } ∧ j ≤ n ∧ k = n + 1 - j ∧ ys'.length = ys.length + j ∧ IsRangeIter h' I2 (0 + (j : Int) * 1) ((n : Int) - (j : Int)) 1 ∧ NsObj oC' m₂' ∧ m₂' x = some v ∧ Fr h₀ L h' m ∧ News h₀ L h' ((I, oI) :: (C, oC') :: (D, lst ys') :: nw') ∧ (∀ p ∈ nw', p.1 ≠ I2 ∧ p.1 ≠ I ∧ p.1 ≠ C ∧ p.1 ≠ D) ∧ S nw' ∧ K j ys' nw') ?_ (n + 1)
      ⟨H, tk0, 0, ys, nw, oC, m₂, rfl, Nat.zero_le _, rfl, rfl, hst, hoC, hx, F1, N1, fun p hp => ⟨off₂ p hp, off p hp⟩, hS, hK⟩
    rintro k s' ⟨h', tk, j, ys', nw', oC', m₂', rfl, hj, rfl, hyl, hst', hoC', hx', F', N', off', hS', hK'⟩
    have zI := N' (I, oI) (.head _)
    have zC := N' (C, oC') (.tail _ (.head _))
    have zD := N' (D, lst ys') (.tail _ (.tail _ (.head _)))
    by_cases hlt : j < n
    · refine W.item j _ _ _ hlt hst' fun v2 h₂ tk₂ ⟨tv, hPv⟩ hst₂ hk₂ => ?_
      subst hPv
      rw [Int.zero_add]
      have kb : ∀ b o, b ≠ I2 → h'.get? b = some o → h₂.get? b = some o := fun b o hb e => hk₂ b o (by simpa using hb) e
      refine wpAny_assign_Name (wpAny_storeName_local (lookup_relabel_local hy) (hoC'.ns (kb _ _ nC zC.1)) (fun h₃ hn₃ hs₃ => ?_) (by simp [compEnvC, relabel, hkind]))
      have hst₃ : IsRangeIter h₃ I2 (0 + ((j + 1 : Nat) : Int) * 1) ((n : Int) - ((j + 1 : Nat) : Int)) 1 := W.frame _ _ _ hst₂ fun b hb o e => hs₃.extBut b o (fun q => by rw [List.mem_singleton.mp hb] at q; exact nC q.symm) e
      obtain ⟨oC₃, heC, hoC₃⟩ := ns_obj hn₃
      have F₃ : Fr h₀ L h₃ m := (fr_but F' hk₂ nL hI₀).change hs₃ zC.2.1 zC.2.2
      have N₃ : News h₀ L h₃ ((I2, { cls := .type "range_iterator", data := .fields #[rawInt (0 + ((j + 1 : Nat) : Int) * 1), rawInt ((n : Int) - ((j + 1 : Nat) : Int)), rawInt 1] }) :: (I, oI) :: (C, oC₃) :: (D, lst ys') :: nw') := by
        refine List.forall_mem_cons.mpr ⟨⟨hst₃, nL.symm, hI₀⟩, List.forall_mem_cons.mpr ⟨⟨hs₃.extBut _ _ hIC (kb _ _ nI zI.1), zI.2⟩, List.forall_mem_cons.mpr ⟨⟨heC, zC.2⟩, List.forall_mem_cons.mpr ⟨⟨hs₃.extBut _ _ hDC (kb _ _ nD zD.1), zD.2⟩, fun p hp => ?_⟩⟩⟩⟩
        have q := off' p hp
        have z := N' p (.tail _ (.tail _ (.tail _ hp)))
        exact ⟨hs₃.extBut _ _ q.2.2.1 (kb _ _ q.1 z.1), z.2⟩
      refine wpAny_mono (turn j tv ys' nw' I2 _ oC₃ _ h₃ _ _ hlt hoC₃ (by rw [if_neg hxy]; exact hx') (by rw [if_pos rfl]) F₃ N₃ off' hS' hK') (fun yv s₅ h₅ => ?_) fun _ _ e => e
      obtain ⟨h₄, tk₄, nw₄, rfl, F₄, N₄, off₄, hS₄, K₄⟩ := h₅
      have yI2 := N₄ _ (.head _)
      have yI := N₄ (I, oI) (.tail _ (.head _))
      have yC := N₄ (C, oC₃) (.tail _ (.tail _ (.head _)))
      have yD := N₄ (D, lst ys') (.tail _ (.tail _ (.tail _ (.head _))))
      refine append_at (hsz := by show ys'.toArray.size ≤ sizeLine; rw [List.size_toArray, hyl]; exact Nat.le_trans (Nat.add_le_add_left hj _) hsz) yD.1 fun h₅ hs₅ hD₅ => ?_
      refine ⟨n + 1 - (j + 1), by omega, h₅, tk₄, j + 1, ys' ++ [yv], nw₄, oC₃, _, rfl, hlt, rfl, by rw [List.length_append, List.length_singleton, hyl, Nat.add_assoc], hs₅.extBut _ _ nD.symm yI2.1, hoC₃, by rw [if_neg hxy]; exact hx', F₄.change hs₅ yD.2.1 yD.2.2, ?_, off₄, hS₄, K₄⟩
      refine List.forall_mem_cons.mpr ⟨⟨hs₅.extBut _ _ hID yI.1, yI.2⟩, List.forall_mem_cons.mpr ⟨⟨hs₅.extBut _ _ hDC.symm yC.1, yC.2⟩, List.forall_mem_cons.mpr ⟨⟨hD₅.trans (congrArg some (lst_snoc ys' yv)), yD.2⟩, fun p hp => ?_⟩⟩⟩
      have z := N₄ p (.tail _ (.tail _ (.tail _ (.tail _ hp))))
      exact ⟨hs₅.extBut _ _ (off₄ p hp).2.2.2 z.1, z.2⟩
    · obtain rfl : j = n := Nat.le_antisymm hj (Nat.not_lt.mp hlt)
      refine W.done _ _ _ hst' fun h₂ tk₂ hk₂ => ?_
      refine done ys' nw' oC' m₂' h₂ tk₂ hK' hyl hoC' (fr_but F' hk₂ nL hI₀) (news_but N' hk₂ fun p hp => ?_) (fun p hp => (off' p hp).2) hS'
      rcases List.mem_cons.mp hp with rfl | hp
      · exact nI
      · rcases List.mem_cons.mp hp with rfl | hp
        · exact nC
        · rcases List.mem_cons.mp hp with rfl | hp
          · exact nD
          · exact (off' p hp).1
  exact codeAny_start1 (loop _) (W.self 0 _ _ _ hst (loop _))
end
section
variable {prog : Program} {w : World} {A : Around} {E : Value → Shared → Prop} {s : Shared} {h₀ : Heap} {L : Addr} {m : Str → Option Value} {env : Env}

def RngEnd (h₀ : Heap) (L : Addr) (m : Str → Option Value) (s : Shared) (led : List (Addr × Obj)) (n₂ : Nat) (xv : Value) (s' : Shared) : Prop :=
  ∃ r b t u v₀ h' tk', xv = .ref r ∧ s' = { s with heap := h', toks := tk' } ∧ IsRange h' r 0 b 1 t u v₀ ∧ Builtin.Range.small 0 b 1 = true ∧ Builtin.Range.rangeSize 0 b 1 = (n₂ : Int) ∧ Fr h₀ L h' m ∧ News h₀ L h' led
theorem RngEnd.intro {led all : List (Addr × Obj)} {n₂ : Nat} {r : Addr} {b : Int} {t u v₀ : Tok} {h' : Heap} {tk' : Nat} (F : Fr h₀ L h' m) (N : News h₀ L h' all) (sub : ∀ p ∈ led, p ∈ all) (hr : IsRange h' r 0 b 1 t u v₀) (hsm : Builtin.Range.small 0 b 1 = true) (hn : Builtin.Range.rangeSize 0 b 1 = (n₂ : Int)) :
    RngEnd h₀ L m s led n₂ (.ref r) { s with heap := h', toks := tk' } := ⟨r, b, t, u, v₀, h', tk', rfl, rfl, hr, hsm, hn, F, fun p hp => N p (sub p hp)⟩
def Lp2End (h₀ : Heap) (L : Addr) (m : Str → Option Value) (s : Shared) (pre : List (Addr × Obj)) (off S : List (Addr × Obj) → Prop) (K : Value → List (Addr × Obj) → Prop) (yv : Value) (s' : Shared) : Prop :=
  ∃ h' tk' nw', s' = { s with heap := h', toks := tk' } ∧ Fr h₀ L h' m ∧ News h₀ L h' (pre ++ nw') ∧ off nw' ∧ S nw' ∧ K yv nw'
theorem Lp2End.intro {pre all : List (Addr × Obj)} {off S : List (Addr × Obj) → Prop} {K : Value → List (Addr × Obj) → Prop} {yv : Value} {h' : Heap} {tk' : Nat} (nw' : List (Addr × Obj)) (F : Fr h₀ L h' m) (N : News h₀ L h' all) (sub : ∀ p ∈ pre ++ nw', p ∈ all) (ho : off nw') (hS : S nw') (hK : K yv nw') :
    Lp2End h₀ L m s pre off S K yv { s with heap := h', toks := tk' } := ⟨h', tk', nw', rfl, F, fun p hp => N p (sub p hp), ho, hS, hK⟩

/-- what is to be shown of a comprehension of two clauses, the second over a range from nought -/
def Lp2Turn (prog : Program) (w : World) (A : Around) (h₀ : Heap) (L : Addr) (m : Str → Option Value) (env : Env) (elt iter2 : Expr) (x y : Str) (scope : Scope) (cl : List (Str × Addr)) (s : Shared) (S : List (Addr × Obj) → Prop) (P : Nat → Value → Prop) (n : Nat)
    (J : Nat → List Value → List (Addr × Obj) → Prop) : Prop :=
  ∃ (n₂ : Nat) (K : Nat → Nat → List Value → List (Addr × Obj) → Prop), n * n₂ ≤ sizeLine ∧ (∀ i ys nw, i < n → J i ys nw → K i 0 ys nw) ∧ (∀ i ys nw, i < n → K i n₂ ys nw → J (i + 1) ys nw) ∧
  (∀ i v I oI C oC D ys nw m₂ h tk (E' : Value → Shared → Prop), i < n → P i v → NsObj oC m₂ → m₂ x = some v → Fr h₀ L h m → News h₀ L h ((I, oI) :: (C, oC) :: (D, lst ys) :: nw) → S nw → J i ys nw →
    wpAny (model prog w) A (eval iter2 (compEnvC scope cl C env)) (RngEnd h₀ L m s ((I, oI) :: (C, oC) :: (D, lst ys) :: nw) n₂) E' { s with heap := h, toks := tk }) ∧
  (∀ i j v tj ys nw I oI I2 oI2 C oC D m₂ h tk (E' : Value → Shared → Prop), i < n → P i v → j < n₂ → NsObj oC m₂ → m₂ x = some v → m₂ y = some (.int (j : Int) tj) → Fr h₀ L h m → News h₀ L h ((I2, oI2) :: (I, oI) :: (C, oC) :: (D, lst ys) :: nw) → (∀ p ∈ nw, p.1 ≠ I2 ∧ p.1 ≠ I ∧ p.1 ≠ C ∧ p.1 ≠ D) → S nw → K i j ys nw →
    wpAny (model prog w) A (eval elt (compEnvC scope cl C env)) (Lp2End h₀ L m s ((I2, oI2) :: (I, oI) :: (C, oC) :: (D, lst ys) :: []) (fun nw' => (∀ p ∈ nw', p.1 ≠ I2 ∧ p.1 ≠ I ∧ p.1 ≠ C ∧ p.1 ≠ D)) S (fun yv nw' => K i (j + 1) (ys ++ [yv]) nw')) E' { s with heap := h, toks := tk })

theorem block_2 {elt iter iter2 : Expr} {x y : Str} {px py : Pos} {scope : Scope} {cl : List (Str × Addr)} {pos : Pos} {s₂ : Shared} {I : Addr} {fp : List Addr} {n : Nat} {P : Nat → Value → Prop} {St : Nat → Heap → Prop} {S : List (Addr × Obj) → Prop} {news : List (Addr × Obj)}
    {J : Nat → List Value → List (Addr × Obj) → Prop} {RR : Value → Addr → Result → Shared → Prop} (hh : A.handled = none)
    (W : Walks prog w A I fp [I] n P St) (hIo : ∀ i h, St i h → ∃ o, h.get? I = some o)
    (hSt : ∀ i h h' o nw, St i h → h.get? I = some o → h'.get? I = some o → (∀ b o, h₀.get? b = some o → h'.get? b = some o) → News h₀ L h' nw → S nw → St i h')
    (hcell : ∀ y ∈ scope.names, y.2 ≠ .cell) (hs2 : ∀ C xv, foldedSetIterable iter2 (compEnvC scope cl C env) xv = pure xv)
    (hkind : scope.kind = .function) (hx : scope.names.lookup x = some .local) (hy : scope.names.lookup y = some .local) (hxy : ¬ x = y) (hst : St 0 s₂.heap) (hfp : ∀ b ∈ fp, b < s₂.heap.objs.size)
    (F : Fr h₀ L s₂.heap m) (N : News h₀ L s₂.heap news) (hIL : L ≠ I) (hI₀ : h₀.get? I = none) (off : ∀ p ∈ news, p.1 ≠ I) (hS : S news)
    (hJ : J 0 [] news) (turn : Lp2Turn prog w A h₀ L m env elt iter2 x y scope cl s₂ S P n J)
    (hRR : ∀ D C h tk m' ys news', Fr h₀ L h m → News h₀ L h ((D, lst ys) :: news') → (∀ p ∈ news', p.1 ≠ D) → (∀ p ∈ news, p.1 < D) → h.Ns C m' → h₀.get? C = none → h₀.get? D = none → C ≠ L → D ≠ L → C ≠ D → (∀ p ∈ news', p.1 ≠ C) → J n ys news' → RR (.ref D) C (.ok .next) { s₂ with heap := h, toks := tk }) :
    wpAny (model prog w) A (newList []) (fun acc s₃ => wpAny (model prog w) A (newFunctionEnv scope env.globals cl [] env.qual none .none (some env)) (fun cenv s₄ =>
      codeAny (model prog w) A (.compStart (comp2 elt iter iter2 x px y py scope pos) 0 (.ref I) acc { cenv with scope := relabel scope env }) (RR acc cenv.locals) s₄) E s₃) E s₂ := by
  obtain ⟨n₂, K, hsz, hJK, hKJ, tIter, tElt⟩ := turn
  refine wpAny_newObj_type (wpAny_newFunctionEnv hcell (by intro y hy; simp at hy) (fun H3 hns₁ hsb₁ => ?_) hkind)
  dsimp only at hns₁ hsb₁ ⊢
  generalize hH1 : s₂.heap.push { cls := .type "list", dict := none, data := .seq ([] : List Value).toArray } = H1 at hns₁ hsb₁ ⊢
  have z1 : H1.objs.size = s₂.heap.objs.size + 1 := by rw [← hH1, Heap.size_push]
  obtain ⟨D, hD⟩ : ∃ D, D = s₂.heap.objs.size := ⟨_, rfl⟩
  obtain ⟨C, hC⟩ : ∃ C, C = H1.objs.size := ⟨_, rfl⟩
  rw [← hC] at hns₁ hsb₁
  show codeAny _ _ (.compStart _ 0 (.ref I) (.ref s₂.heap.objs.size) (compEnvC scope cl H1.objs.size env)) (RR (.ref s₂.heap.objs.size) H1.objs.size) _
  rw [← hD, ← hC]
  have hDC : D ≠ C := by rw [hD, hC, z1]; exact Nat.ne_of_lt (Nat.lt_succ_self _)
  have below : ∀ b, b < s₂.heap.objs.size → b ≠ C ∧ b ≠ D := fun b hb => ⟨by rw [hC, z1]; exact Nat.ne_of_lt (Nat.lt_succ_of_lt hb), by rw [hD]; exact Nat.ne_of_lt hb⟩
  have notfp : ∀ {b}, s₂.heap.objs.size ≤ b → b ∉ fp := fun hb hm => Nat.not_lt.mpr hb (hfp _ hm)
  have hCf : C ∉ fp := notfp (by rw [hC, z1]; exact Nat.le_succ _)
  have hIlt : I < s₂.heap.objs.size := hfp I (W.sub I (.head _))
  obtain ⟨hIC, hID⟩ := below I hIlt
  have old : ∀ b o, s₂.heap.get? b = some o → H3.get? b = some o := fun b o e => hsb₁.extBut b o (below b (Heap.lt_size e)).1 (Heap.get?_push_of_some _ (hH1 ▸ Heap.get?_push_of_some _ e))
  have hacc : H3.get? D = some (lst []) := hsb₁.extBut _ _ hDC (Heap.get?_push_of_some _ (by rw [hD, ← hH1]; exact Heap.get?_push_size _ rfl))
  have hst₁ : St 0 H3 := W.frame _ _ _ hst fun b _ o e => old b o e
  have fresh₀ : ∀ a, s₂.heap.objs.size ≤ a → h₀.get? a = none := fun a ha => by
    cases e : h₀.get? a with
    | none => rfl
    | some o' => exact absurd (Heap.lt_size (F.keep a o' e)) (Nat.not_lt.mpr ha)
  have hlow : ∀ p ∈ news, p.1 < D := fun p hp => by rw [hD]; exact Heap.lt_size (N p hp).1
  have hD₀ : h₀.get? D = none := fresh₀ _ (Nat.le_of_eq hD.symm)
  have hC₀ : h₀.get? C = none := fresh₀ _ (by rw [hC, z1]; exact Nat.le_succ _)
  obtain ⟨hLC, hLD⟩ := below L F.ns.lt
  have off₀ : ∀ p ∈ news, p.1 ≠ I ∧ p.1 ≠ C ∧ p.1 ≠ D := fun p hp => ⟨off p hp, below _ (Heap.lt_size (N p hp).1)⟩
  have loop : ∀ tk, codeAny (model prog w) A (.compLoop (comp2 elt iter iter2 x px y py scope pos) 0 (.ref I) (.ref D) (compEnvC scope cl C env)) (RR (.ref D) C) { s₂ with heap := H3, toks := tk } := by
    intro tk0
    refine codeAny_loop0
      (fun k s' => ∃ h' tk i ys m' nw, s' = { s₂ with heap := h', toks := tk } ∧ i ≤ n ∧ k = n + 1 - i ∧ ys.length = i * n₂ ∧ St i h' ∧ Fr h₀ L h' m ∧ h'.Ns C m' ∧ News h₀ L h' ((D, lst ys) :: nw) ∧
        (∀ p ∈ nw, p.1 ≠ I ∧ p.1 ≠ C ∧ p.1 ≠ D) ∧ S nw ∧ J i ys nw) (hs2 C) ?_ (n + 1)
      ⟨H3, _, 0, [], _, news, rfl, Nat.zero_le _, rfl, by rw [Nat.zero_mul]; rfl, hst₁, F.keeps old, hns₁, fun p hp => ?_, off₀, hS, hJ⟩
    · rintro k s' ⟨h', tk, i, ys, m', nw, rfl, hi, rfl, hyl, hst', F', hn', N', off', hS', hJ'⟩
      by_cases hlt : i < n
      · refine W.item i _ _ _ hlt hst' fun v h₂ tk₂ hPv hst₂ hk₂ => ?_
        have kb : ∀ b o, b ≠ I → h'.get? b = some o → h₂.get? b = some o := fun b o hb e => hk₂ b o (by simpa using hb) e
        refine wpAny_assign_Name (wpAny_storeName_local (lookup_relabel_local hx) (hn'.at' fun o e => kb _ o hIC.symm e) (fun h₃ hn₃ hs₃ => ?_) (by simp [compEnvC, relabel, hkind]))
        have hst₃ : St (i + 1) h₃ := W.frame _ _ _ hst₂ fun b hb o e => hs₃.extBut b o (fun q => hCf (by have q' : b = C := q; rw [← q']; exact hb)) e
        obtain ⟨oI, heI⟩ := hIo _ _ hst₃
        obtain ⟨oC, heC, hoC⟩ := ns_obj hn₃
        have F₃ : Fr h₀ L h₃ m := (fr_but F' hk₂ hIL hI₀).change hs₃ hLC.symm hC₀
        have N₃ : News h₀ L h₃ ((I, oI) :: (C, oC) :: (D, lst ys) :: nw) := by
          refine List.forall_mem_cons.mpr ⟨⟨heI, hIL.symm, hI₀⟩, List.forall_mem_cons.mpr ⟨⟨heC, hLC.symm, hC₀⟩, fun p hp => ?_⟩⟩
          refine ⟨hs₃.extBut _ _ ?_ (kb _ _ ?_ (N' p hp).1), (N' p hp).2⟩
          · rcases List.mem_cons.mp hp with rfl | hp
            · exact hDC
            · exact (off' p hp).2.1
          · rcases List.mem_cons.mp hp with rfl | hp
            · exact hID.symm
            · exact (off' p hp).1
        refine wpAny_mono (tIter i v I oI C oC D ys nw _ h₃ _ _ hlt hPv hoC (by simp) F₃ N₃ hS' hJ') (fun xv s₄ h₄ => ?_) fun _ _ e => e
        obtain ⟨r, b, t, u, v₀, h₄, tk₄, rfl, rfl, hr, hsm, hn, F₄, N₄⟩ := h₄
        refine inner_2 (s := { s₂ with heap := h₄, toks := tk₄ }) (K := K i) (n := n₂) (S := S) (v := v) hh hkind hy hxy hr hsm hn hIC hID hDC F₄ N₄ off' hS' hoC (by simp) (hJK i ys nw hlt hJ') ?_ ?_ ?_
        · rw [hyl]
          exact Nat.le_trans (by rw [← Nat.succ_mul]; exact Nat.mul_le_mul_right _ hlt) hsz
        · intro j tj ys₁ nw₁ I2 oI2 oC₁ m₁ h₁ tk₁ E₁ hj hoC₁ hx₁ hy₁ F₁ N₁ off₁ hS₁ hK₁
          exact tElt i j v tj ys₁ nw₁ I oI I2 oI2 C oC₁ D m₁ h₁ tk₁ E₁ hlt hPv hj hoC₁ hx₁ hy₁ F₁ N₁ off₁ hS₁ hK₁
        · intro ys₁ nw₁ oC₁ m₁ h₁ tk₁ hK₁ hl₁ hoC₁ F₁ N₁ off₁ hS₁
          have N₁' : News h₀ L h₁ nw₁ := fun p hp => N₁ p (.tail _ (.tail _ (.tail _ hp)))
          have hst₁ : St (i + 1) h₁ := hSt _ _ _ _ _ hst₃ heI (N₁ (I, oI) (.head _)).1 F₁.keep N₁' hS₁
          exact ⟨n + 1 - (i + 1), by omega, h₁, tk₁, i + 1, ys₁, _, nw₁, rfl, hlt, rfl, by rw [hl₁, hyl, Nat.succ_mul], hst₁, F₁, hoC₁.ns (N₁ (C, oC₁) (.tail _ (.head _))).1, fun p hp => N₁ p (.tail _ (.tail _ hp)), off₁, hS₁, hKJ i _ _ hlt hK₁⟩
      · obtain rfl : i = n := Nat.le_antisymm hi (Nat.not_lt.mp hlt)
        refine W.done _ _ _ hst' fun h₂ tk₂ hk₂ => ?_
        have kb : ∀ b o, b ≠ I → h'.get? b = some o → h₂.get? b = some o := fun b o hb e => hk₂ b o (by simpa using hb) e
        exact hRR _ _ h₂ tk₂ _ ys nw (fr_but F' hk₂ hIL hI₀) (news_but N' hk₂ fun p hp => by
          rcases List.mem_cons.mp hp with rfl | hp
          · exact hID.symm
          · exact (off' p hp).1) (fun p hp => (off' p hp).2.2) hlow (hn'.at' fun o e => kb _ o hIC.symm e) hC₀ hD₀ hLC.symm hLD.symm hDC.symm (fun p hp => (off' p hp).2.1) hJ'
    · rcases List.mem_cons.mp hp with rfl | hp
      · exact ⟨hacc, hLD.symm, hD₀⟩
      · exact ⟨old _ _ (N p hp).1, (N p hp).2⟩
  exact codeAny_compStart_list (loop _) (W.self 0 _ _ _ hst₁ (loop _))

end
section
variable {prog : Program} {w : World} {A : Around} {E : Value → Shared → Prop} {s : Shared} {h₀ : Heap} {L : Addr} {m : Str → Option Value} {env : Env}

/-- what is to be shown after the name is bound, where the statement binds a comprehension to a local name -/
def FinJ (h₀ : Heap) (L : Addr) (m : Str → Option Value) (y : Str) (Q : Flow → Shared → Prop) (s : Shared) (n : Nat) (J : Nat → List Value → List (Addr × Obj) → Prop) : Prop :=
  ∀ news D h tk ys nw, J 0 [] news → Fr h₀ L h (fun z => if z = y then some (.ref D) else m z) → News h₀ L h ((D, lst ys) :: nw) → (∀ p ∈ nw, p.1 ≠ D) → (∀ p ∈ news, p.1 < D) → J n ys nw → Q .next { s with heap := h, toks := tk }

theorem used_post {y : Str} {py : Pos} {Q : Flow → Shared → Prop} {D C : Addr} {h' : Heap} {tk : Nat} {m' : Str → Option Value} {ys : List Value} {news news' : List (Addr × Obj)} {n : Nat} {J : Nat → List Value → List (Addr × Obj) → Prop} (hLe : env.locals = L)
    (hy : env.kindOf y = some .local) (hp : (env.scope.kind == .class || (env.scope.kind == .module && env.locals != env.globals)) = false) (FJ : FinJ h₀ L m y Q s n J) (h0 : J 0 [] news)
    (F' : Fr h₀ L h' m) (N' : News h₀ L h' ((D, lst ys) :: news')) (o1 : ∀ p ∈ news', p.1 ≠ D) (olow : ∀ p ∈ news, p.1 < D) (hn : h'.Ns C m') (hC₀ : h₀.get? C = none) (hCL : C ≠ L) (hCD : C ≠ D) (offC : ∀ p ∈ news', p.1 ≠ C) (hj : J n ys news') :
    wpAny (model prog w) A (assign (.Name y py) env (.ref D)) (fun _ s'' => ∃ m, s''.heap.Ns C m ∧ ∀ h'', Heap.SameBut C s''.heap h'' → Q .next { s'' with heap := h'' }) E { s with heap := h', toks := tk } := by
  subst hLe
  refine wpAny_assign_Name (wpAny_storeName_local hy F'.ns (fun h₂ hn₂ hs₂ => ?_) hp)
  have hL₀ : h₀.get? env.locals = none := Heap.get?_none_of_le F'.above
  have F₂ : Fr h₀ env.locals h₂ (fun z => if z = y then some (.ref D) else m z) := ⟨hn₂, fun b o e => hs₂.extBut b o (fun q => by rw [q, hL₀] at e; cases e) (F'.keep b o e), F'.above⟩
  refine ⟨m', hn.sameBut hs₂ hCL, fun h'' hs'' => FJ news D h'' _ ys news' h0 (F₂.change hs'' hCL hC₀) (fun p hp => ?_) o1 olow hj⟩
  have z : h₂.get? p.1 = some p.2 := hs₂.extBut _ _ (N' p hp).2.1 (N' p hp).1
  refine ⟨hs''.extBut _ _ ?_ z, (N' p hp).2⟩
  rcases List.mem_cons.mp hp with rfl | hp
  · exact Ne.symm hCD
  · exact offC p hp

theorem Assign_ListComp_2 {elt iter iter2 : Expr} {x y z : Str} {px py pz : Pos} {scope : Scope} {cl : List (Str × Addr)} {pos spos : Pos} {Q : Flow → Shared → Prop} (_F₀ : Fr h₀ L s.heap m) (hh : A.handled = none) (hLe : env.locals = L)
    (hsw : swapsWith (.ListComp elt [⟨.Name x px, iter, [], 0⟩, ⟨.Name y py, iter2, [], 0⟩] scope pos) (some (.Name z pz)) spos.line env = pure true)
    (hclos : closureFor scope env = pure cl) (hcell : ∀ y ∈ scope.names, y.2 ≠ .cell) (hkind : scope.kind = .function)
    (hnames : ∀ y ∈ scope.names, y.2 = .local → scope.names.lookup y.1 = some .local) (hx : scope.names.lookup x = some .local) (hy : scope.names.lookup y = some .local) (hxy : ¬ x = y)
    (hz : env.kindOf z = some .local) (hp : (env.scope.kind == .class || (env.scope.kind == .module && env.locals != env.globals)) = false)
    (h : wpAny (model prog w) A (eval iter env) (fun xv s₁ => CpSrc h₀ L m A (fun S P n J => Lp2Turn prog w A h₀ L m env elt iter2 x y scope cl s₁ S P n J ∧ FinJ h₀ L m z Q s₁ n J) (fun _ _ => True) xv s₁) E s)
    (hs : ∀ x, foldedSetIterable iter env x = pure x := by intro _; rfl) (hs2 : ∀ C x, foldedSetIterable iter2 (compEnvC scope cl C env) x = pure x := by intro _ _; rfl) :
    wpAny (model prog w) A (exec (.Assign [.Name z pz] (.ListComp elt [⟨.Name x px, iter, [], 0⟩, ⟨.Name y py, iter2, [], 0⟩] scope pos) spos) env) Q E s := by
  rw [exec_Assign_Name_used _ _ _ _ hsw]
  refine wpAny_bind (wpAny_standAt (wpAny_bind ?_))
  show wpAny _ A (do let _ ← comprehension (.ListComp elt [⟨.Name x px, iter, [], 0⟩, ⟨.Name y py, iter2, [], 0⟩] scope pos) scope env _ (newList []) false (eval iter env) (some (assign (.Name z pz) env))) _ _ s
  refine wpAny_bind (wpAny_mono (wpAny_comprehension_free (use := some (assign (.Name z pz) env)) (Q := fun _ s' => Q .next s') rfl hs hclos hkind hnames
    (wpAny_mono h (fun xv s₁ h₁ => ?_) fun _ _ e => e)) (fun _ s' hq => wpAny_pure (wpAny_pure hq)) fun _ _ e => e)
  refine src_block h₁ fun s₂ I fp n P St S news J hp' e W hsz hIo hSt hst hfp F N hIL hI₀ off hS h0 turn fin => ?_
  subst e
  refine block_2 hh W hIo hSt hcell hs2 hkind hx hy hxy hst hfp F N hIL hI₀ off hS h0 turn.1 ?_
  intro D C h' tk m' ys news' F' N' o1 olow hn hC₀ hD₀ hCL hDL hCD offC hj
  exact used_post hLe hz hp turn.2 h0 F' N' o1 olow hn hC₀ hCL hCD offC hj

theorem Assign_ListComp_L {elt iter : Expr} {ifs : List Expr} {x z : Str} {px pz : Pos} {scope : Scope} {cl : List (Str × Addr)} {pos spos : Pos} {Q : Flow → Shared → Prop} (_F₀ : Fr h₀ L s.heap m) (hLe : env.locals = L)
    (hsw : swapsWith (.ListComp elt [⟨.Name x px, iter, ifs, 0⟩] scope pos) (some (.Name z pz)) spos.line env = pure true)
    (hclos : closureFor scope env = pure cl) (hcell : ∀ y ∈ scope.names, y.2 ≠ .cell) (hkind : scope.kind = .function)
    (hnames : ∀ y ∈ scope.names, y.2 = .local → scope.names.lookup y.1 = some .local) (hx : scope.names.lookup x = some .local)
    (hz : env.kindOf z = some .local) (hp : (env.scope.kind == .class || (env.scope.kind == .module && env.locals != env.globals)) = false)
    (h : wpAny (model prog w) A (eval iter env) (fun xv s₁ => CpSrc h₀ L m A (fun S P n J => LpTurn prog w A h₀ L m env elt ifs x scope cl s₁ S P n J ∧ FinJ h₀ L m z Q s₁ n J) (fun _ _ => True) xv s₁) E s)
    (hs : ∀ x, foldedSetIterable iter env x = pure x := by intro _; rfl) :
    wpAny (model prog w) A (exec (.Assign [.Name z pz] (.ListComp elt [⟨.Name x px, iter, ifs, 0⟩] scope pos) spos) env) Q E s := by
  rw [exec_Assign_Name_used _ _ _ _ hsw]
  refine wpAny_bind (wpAny_standAt (wpAny_bind ?_))
  show wpAny _ A (do let _ ← comprehension (.ListComp elt [⟨.Name x px, iter, ifs, 0⟩] scope pos) scope env _ (newList []) false (eval iter env) (some (assign (.Name z pz) env))) _ _ s
  refine wpAny_bind (wpAny_mono (wpAny_comprehension_free (use := some (assign (.Name z pz) env)) (Q := fun _ s' => Q .next s') rfl hs hclos hkind hnames
    (wpAny_mono h (fun xv s₁ h₁ => ?_) fun _ _ e => e)) (fun _ s' hq => wpAny_pure (wpAny_pure hq)) fun _ _ e => e)
  refine src_block h₁ fun s₂ I fp n P St S news J hp' e W hsz hIo hSt hst hfp F N hIL hI₀ off hS h0 turn fin => ?_
  subst e
  refine block_L W hsz hIo hSt hcell hkind hx hst hfp F N hIL hI₀ off hS h0 turn.1 ?_
  intro D C h' tk m' ys news' F' N' o1 olow hn hC₀ hD₀ hCL hDL hCD offC hj
  exact used_post hLe hz hp turn.2 h0 F' N' o1 olow hn hC₀ hCL hCD offC hj
end
end Mine
end

section
open PySem PySem.W PyProof.Rows PySem.Spec PySem.Calls
open PyProof.Rows.LCg
set_option maxRecDepth 100000
set_option maxHeartbeats 1600000
namespace Mine

local macro_rules | `(tactic| k_mem) => `(tactic| first | assumption | exact List.Mem.head _ | (refine' List.Mem.tail _ ?_; k_mem))
local macro_rules | `(tactic| k_all) => `(tactic| first | assumption | exact List.forall_mem_nil _ | (refine' List.forall_mem_cons.mpr ⟨?a, ?b⟩; (case a => k_ne); (case b => k_all)))
local macro_rules | `(tactic| k_steps) => `(tactic| repeat' ((fail_if_success (with_reducible show wpAny _ _ (pyIter (Value.ref _)) (fun it s₂ => TurnsAt _ _ _ _ _ _ _ _ _ it s₂) _ _)); (fail_if_success (with_reducible show wpAny _ _ (pyIter (Value.ref _)) (fun it s₂ => LoopAtV _ _ _ _ _ _ _ _ _ it s₂) _ _)); (fail_if_success (with_reducible show wpAny _ _ (call (Value.ref _) _) _ _ _)); (fail_if_success (with_reducible show wpAny _ _ (newList [Value.int _ _]) _ _ _)); (fail_if_success (with_reducible show wpAny _ _ (call (Value.type "list") _) _ _ _)); (fail_if_success (with_reducible show wpAny _ _ (eval (Expr.ListComp _ _ _ _) _) _ _ _));  (fail_if_success (with_reducible show wpAny _ _ (eval (Expr.ListComp _ _ _ _) _) _ _ _)); first | (k_unfold; (try dsimp only)) | (k_end; wrow_close) | walk1 | (dsimp only; walk1) | (leave1; walk_say "STEP leave1"; try dsimp only) | fail "no step"))
local macro_rules | `(tactic| walk_at "exec For Name Call cons nil") => `(tactic| (k_here; (rename Fr _ _ _ _ => lF'); first | (with_unfolding_all refine' For_invVF lF' ?k1 ?k2 ?_; (case k1 => decide); (case k2 => exact rfl); k_whole) | (k_dflt (refine' For_turns lF' ?_))))

local macro_rules | `(tactic| walk_at "subscriptTail") => `(tactic| (k_here; (with_reducible show wpAny _ _ (subscriptTail _ _ (Value.ref _) (Value.int _ _)) _ _ _); (with_unfolding_all refine' item_at ?k1 ?k2 ?k3 ?k4 ?k5 ?_ ?k6; (case k1 => k_asm); (case k2 => k_mem); (case k3 => omega); (case k4 => omega); (case k5 => first | with_reducible assumption | assumption); (case k6 => with_unfolding_all rfl); k_whole)))
local macro_rules | `(tactic| walk_at "subscriptTail Name Name ref int") => `(tactic| (k_here; (with_reducible show wpAny _ _ (subscriptTail _ _ (Value.ref _) (Value.int _ _)) _ _ _); (with_unfolding_all refine' item_at ?k1 ?k2 ?k3 ?k4 ?k5 ?_ ?k6; (case k1 => k_asm); (case k2 => k_mem); (case k3 => omega); (case k4 => omega); (case k5 => first | with_reducible assumption | assumption); (case k6 => with_unfolding_all rfl); k_whole)))
local macro_rules | `(tactic| walk_at "subscriptTail Subscript Name ref int") => `(tactic| (k_here; (with_reducible show wpAny _ _ (subscriptTail _ _ (Value.ref _) (Value.int _ _)) _ _ _); (with_unfolding_all refine' item_at ?k1 ?k2 ?k3 ?k4 ?k5 ?_ ?k6; (case k1 => k_asm); (case k2 => k_mem); (case k3 => omega); (case k4 => omega); (case k5 => first | with_reducible assumption | assumption); (case k6 => with_unfolding_all rfl); k_whole)))
local macro_rules | `(tactic| walk_at "subscriptTail Name Subscript ref int") => `(tactic| (k_here; (with_reducible show wpAny _ _ (subscriptTail _ _ (Value.ref _) (Value.int _ _)) _ _ _); (with_unfolding_all refine' item_at ?k1 ?k2 ?k3 ?k4 ?k5 ?_ ?k6; (case k1 => k_asm); (case k2 => k_mem); (case k3 => omega); (case k4 => omega); (case k5 => first | with_reducible assumption | assumption); (case k6 => with_unfolding_all rfl); k_whole)))
local macro_rules | `(tactic| walk_at "storeName") => `(tactic| (k_here; k_dflt (refine' storeX_C ?F ?N ?c ?U ?d ?_ ?a ?b; (case b => first | rfl | decide); (case a => rfl); (case F => k_asm); (case N => k_asm); (case c => rfl); (case U => k_updF); (case d => k_asm); k_whole); intro h' o' F' N' d'; (try dsimp only at N'); (try k_sweep)))
local macro_rules | `(tactic| walk_at "callWith ref") => `(tactic| (k_here; k_dflt (first | (refine' callWith_K ?k1 ?k2 ?_; (case k1 => k_asm); (case k2 => k_is); k_whole) | (refine' callWith_K0 ?k1 ?k2 ?_; (case k1 => k_in); (case k2 => k_is); k_whole))))
local macro_rules | `(tactic| walk_at "compareOp Eq ref ref") => `(tactic| (k_here; (with_reducible show wpAny _ _ (compareOp CmpOp.Eq (Value.ref _) (Value.ref _)) _ _ _); k_dflt (refine' eq_intsK ?k1 ?k2 ?k3 ?k4 ?k5 ?_; (case k1 => exact News.isList (by k_asm) (by k_mem)); (case k2 => assumption); (case k3 => exact News.isList (by k_asm) (by k_mem)); (case k4 => assumption); (case k5 => units_room); k_whole)))
local macro_rules | `(tactic| walk_at "subscriptTail Subscript Name Name Name ref int") => `(tactic| (k_here; (with_reducible show wpAny _ _ (subscriptTail _ _ (Value.ref _) (Value.int _ _)) _ _ _); (with_unfolding_all refine' item_at ?k1 ?k2 ?k3 ?k4 ?k5 ?_ ?k6; (case k1 => k_asm); (case k2 => k_mem); (case k3 => omega); (case k4 => omega); (case k5 => first | with_reducible assumption | assumption); (case k6 => with_unfolding_all rfl); k_whole)))
local macro_rules | `(tactic| walk_at "ite") => `(tactic| (k_here; first | refine ite_no (by assumption) ?_ | refine ite_yes (by assumption) ?_))
local macro_rules | `(tactic| walk_at "call builtin:len") => `(tactic| (k_here; (with_reducible show wpAny _ _ (call (Value.builtin "len") [Value.ref _]) _ _ _); k_dflt (refine' len_to ?N ?m ?I ?e ?f ?_; (case N => k_asm); (case m => k_mem); (case I => assumption); (case e => exact rfl); (case f => omega); k_whole)))
local macro_rules | `(tactic| walk_at "compareOp NotIn int ref") => `(tactic| (k_here; (with_reducible show wpAny _ _ (compareOp CmpOp.NotIn (Value.int _ _) (Value.ref _)) _ _ _); k_dflt (refine' notin_list_ints ?k1 ?k2 ?_; (case k1 => exact News.isList (by k_asm) (by k_mem)); (case k2 => assumption); k_whole)))
local macro_rules | `(tactic| walk_at "binaryOp Pow int int") => `(tactic| (k_here; k_dflt (refine' pow_int_small ?a ?b ?c ?_; (case a => omega); (case b => omega); (case c => decide); k_whole)))

local macro_rules | `(tactic| walk_at "compareOp In int ref") => `(tactic| (k_here; (with_reducible show wpAny _ _ (compareOp CmpOp.In (Value.int _ _) (Value.ref _)) _ _ _); k_dflt (refine' in_list_ints ?k1 ?k2 ?_; (case k1 => exact News.isList (by k_asm) (by k_mem)); (case k2 => assumption); k_whole)))
local macro_rules | `(tactic| walk_at "call ref") => `(tactic| (k_here; k_dflt (refine' says_use (addFuncStats _ _ _ _ _ _ _ ?e1 ?e2 _ _ _ _ _ _ _ _ _ _ _ _ _ _ _ _) ?k1 ?k2 ?k3 ?k4 ?k5 ?k6 ?k7 ?k8 ?k9 ?_; (case k1 => k_asm); (case k2 => k_asm); (case k3 => k_asm); (case k4 => k_asm); (case k5 => k_asm); (case k6 => first | assumption | exact rfl); (case k7 => refine' ⟨?m1, ?m2, ?m3, ?m4⟩; (case m1 => k_mem); (case m2 => k_mem); (case m3 => k_mem); (case m4 => k_mem)); (case e1 => first | assumption | exact EmptyD.mk (by assumption) (by assumption)); (case e2 => first | assumption | exact EmptyD.mk (by assumption) (by assumption)); (case k8 => ktr_room); (case k9 => ktr_units); k_whole); intro r' tl' h' tk' F' N' l' hp'; obtain ⟨e', d', o', t1', t2', t3', t4', hr', htl', D'⟩ := hp'; subst hr' htl'; (try simp only [List.cons_append, List.nil_append] at N'); (try k_sweep); (try dsimp only)))


local macro_rules | `(tactic| walk_at "eval Name") => `(tactic| ((with_reducible show wpAny _ _ (eval (Expr.Name _ _) (compEnvC _ _ _ _)) _ _ _); k_dflt (refine LCgL.ld_built (by k_asm) (by k_asm) (by k_asm) (by k_is) (by boot_by_name) (by decide) ?_)))

def rowsN (many : Nat) : Nat → List (List Int)
  | 0 => [[]]
  | k + 1 => (rowsN many k).flatMap fun r => (List.range many).map fun t : Nat => r ++ [(t : Int)]

theorem rowsN_len : ∀ m i : _root_.Fin 4, (rowsN m.val i.val).length ≤ 27 := by decide +kernel
theorem rowsN_row : ∀ m i : _root_.Fin 4, ∀ r ∈ rowsN m.val i.val, r.length ≤ 4 := by decide +kernel
theorem lawRows (w : World) (many long : Nat) (tm tl₀ : Tok) (hm : many < 4) (hl : long < 5) :
    Says PySem.Challenge.rw_gl0002_02.row.prog (hd.heap_39 w.params) w 20 150 62 [.int (many : Int) tm, .int (long : Int) tl₀] (fun _ => True)
      (fun r tl => ∃ e ys k tl', r = .ref e ∧ tl = (e, listOf ys.toArray k) :: tl' ∧ RowsAt tl' ys (rowsN many long)) := by
  unfold Says
  w_top off
  k_fill
  intro p loose mean mg mb dp un gd cn cs a ccd cl outer A₀ base h₀ L m news s Q E B F X N T' hk h1 hd hu hret
  refine wpAny_noRaise ?_
  refine wpAny_call ?_
  k_dflt (refine' code_defC ?k1 ?k2 ?k3 ?k4 ?k5 ?kA ?kF ?kK ?k6 ?k7 ?k8 ?k9 ?kB ?kD ?_ ?c2 ?c3 ?c4; (case kA => exact rfl); (case kF => exact rfl); (case kK => assumption); (case k1 => k_asm); (case k2 => k_asm); (case k3 => k_asm); (case k4 => k_asm); (case k5 => k_asm); (case k6 => k_is); (case k7 => k_is); (case k8 => ktr_room); (case k9 => exact BindsTo.of_eq rfl); (case kB => exact rfl); (case kD => decide +kernel); (case c2 => exact rfl); (case c3 => exact rfl); (case c4 => exact rfl); k_whole; intro g' L' h' tk' cells' FG' F' N' Y' B' X' T' l1; k_cells Y'; (try simp only [List.cons_append, List.nil_append] at N'); (try dsimp only); (try k_fold))
  all_goals refine wpAny_noRaise ?_
  rename_i o1 d1
  replace d1 : o1.data = .cell (some (.int (many : Int) tm)) := d1
  have n1 : ∀ p ∈ news, p.1 ≠ L' + 1 := fun p hp => Nat.ne_of_lt (Nat.lt_succ_of_lt (l1 p hp))
  have hsm : Builtin.Range.small 0 (long : Int) 1 = true := (by decide : ∀ i : _root_.Fin 5, Builtin.Range.small 0 (i.val : Int) 1 = true) ⟨long, hl⟩
  have hsz : Builtin.Range.rangeSize 0 (long : Int) 1 = (long : Int) := (by decide : ∀ i : _root_.Fin 5, Builtin.Range.rangeSize 0 (i.val : Int) 1 = (i.val : Int)) ⟨long, hl⟩
  have hsM : Builtin.Range.small 0 (many : Int) 1 = true := (by decide : ∀ i : _root_.Fin 4, Builtin.Range.small 0 (i.val : Int) 1 = true) ⟨many, hm⟩
  have hzM : Builtin.Range.rangeSize 0 (many : Int) 1 = (many : Int) := (by decide : ∀ i : _root_.Fin 4, Builtin.Range.rangeSize 0 (i.val : Int) 1 = (i.val : Int)) ⟨many, hm⟩
  k_steps
  rename IsRange _ _ _ _ _ _ _ _ => R1
  rename News _ _ _ _ => N1
  rename Fr _ _ _ _ => F1
  rename_i r0 _ lo0 r1 _ lo1 _ _ _ _ _ _ _ _ _
  have lo0' : @LT.lt Nat _ (L' + 1) r0 := lo0.1
  have lo1' : @LT.lt Nat _ (L' + 1) r1 := lo1.2.1
  refine crng_loop (n := long) (σ := Addr × List Value × Nat × List (Addr × Obj)) (fun c => (c.1, listOf c.2.1.toArray c.2.2.1) :: (c.2.2.2 ++ ((L' + 1, o1) :: news))) (fun c => [(Str.ofString "rows", .ref c.1)]) [] (fun i c => RowsAt c.2.2.2 c.2.1 (rowsN many i) ∧ (∀ p ∈ c.2.2.2, L' + 1 < p.1) ∧ L' + 1 < c.1) (r1, [.ref r0], 0, [(r0, listOf [].toArray 0)]) rfl R1 hsm hsz F1 N1 (List.forall_mem_singleton.mpr rfl) ⟨(RowsAt.nil (led := [])).snoc (List.forall_mem_nil _) (.head _) .nil, List.forall_mem_singleton.mpr lo0', lo1'⟩ ?_ ?_
  · rintro I i t ⟨e, vs, kk, tl⟩ u h tk own hi ⟨hP, hel, hel'⟩ hne ho hown F2 N2
    dsimp only at hP hel hel' N2
    clear R1 N1 F1
    have i4 : i < 4 := by omega
    have zl : vs.length ≤ 27 := by rw [hP.1]; exact rowsN_len ⟨many, hm⟩ ⟨i, i4⟩
    have e1 : @LT.lt Nat _ (L' + 1) e := hel'
    rw [Int.zero_add]
    k_steps
    k_dflt (refine' Assign_ListComp_2 (by k_asm) ?a0 ?aL ?aS ?a1 ?a2 ?a3 ?a4 ?a5 ?a6 ?a7 ?aZ ?aP ?_; (case a0 => exact rfl); (case aL => exact rfl); (case aS => with_unfolding_all rfl); (case a1 => with_unfolding_all rfl); (case a2 => decide); (case a3 => rfl); (case a4 => decide); (case a5 => rfl); (case a6 => rfl); (case a7 => decide); (case aZ => exact rfl); (case aP => exact rfl))
    k_steps
    rename News _ _ _ _ => NB
    rename Fr _ _ _ _ => FB
    obtain ⟨B0, hB0⟩ : ∃ B0, B0 = (e, listOf vs.toArray kk) :: (tl ++ (L' + 1, o1) :: news) ++ own := ⟨_, rfl⟩
    rw [← hB0] at NB
    have mO : (L' + 1, o1) ∈ B0 := by rw [hB0]; simp
    have mE : (e, listOf vs.toArray kk) ∈ B0 := by rw [hB0]; simp
    have mT : ∀ p ∈ tl, p ∈ B0 := fun p hp => by rw [hB0]; simp [hp]
    have mW : ∀ p ∈ own, p ∈ B0 := fun p hp => by rw [hB0]; simp [hp]
    have mN : ∀ p ∈ news, p ∈ B0 := fun p hp => by rw [hB0]; simp [hp]
    clear hB0
    refine CpSrc.list (fun k ys' nw' => ∃ tl', nw' = tl' ++ B0 ∧ (∀ p ∈ tl', ∀ q ∈ B0, q.1 < p.1) ∧ RowsAt tl' ys' (((rowsN many i).take k).flatMap fun r => (List.range many).map fun t : Nat => r ++ [(t : Int)])) rfl FB NB mE (Nat.le_trans zl (by decide)) ⟨[], rfl, List.forall_mem_nil _, RowsAt.nil⟩ ⟨⟨many, fun k j ys' nw' => ∃ tl', nw' = tl' ++ B0 ∧ (∀ p ∈ tl', ∀ q ∈ B0, q.1 < p.1) ∧ RowsAt tl' ys' ((((rowsN many i).take k).flatMap fun r => (List.range many).map fun t : Nat => r ++ [(t : Int)]) ++ (List.range j).map fun t : Nat => (rowsN many i).getD k [] ++ [(t : Int)]), ?_, ?_, ?_, ?_, ?_⟩, ?_⟩ (fun _ _ _ _ _ _ _ _ _ _ => trivial)
    · have : vs.length * many ≤ 27 * 3 := Nat.mul_le_mul zl (Nat.le_of_lt_succ hm)
      exact Nat.le_trans this (by decide)
    · rintro k ys' nw' hk' ⟨tl', h1', h2', h3'⟩
      exact ⟨tl', h1', h2', by rw [List.range_zero, List.map_nil, List.append_nil]; exact h3'⟩
    · rintro k ys' nw' hk' ⟨tl', h1', h2', h3'⟩
      refine ⟨tl', h1', h2', ?_⟩
      rw [hP.1] at hk'
      rw [List.take_succ, List.getElem?_eq_getElem hk', List.flatMap_append]
      rw [List.getD_eq_getElem?_getD, List.getElem?_eq_getElem hk'] at h3'
      simpa using h3'
    · rintro k v I8 oI8 C8 oC8 D8 ys' nw' m8 h8 tk8 E8 hk8 hv8 hoC8 hx8 F8 N8 hS8 ⟨tl', rfl, hlow8, hR8⟩
      clear FB NB
      have mO' : (L' + 1, o1) ∈ tl' ++ B0 := List.mem_append_right _ mO
      k_steps
      rename IsRange _ _ _ _ _ _ _ _ => RR
      exact RngEnd.intro (by k_asm) (by k_asm) (fun p hp => hp) RR hsM hzM
    · rintro k j v tj ys' nw' I8 oI8 J8 oJ8 C8 oC8 D8 m8 h8 tk8 E8 hk8 hv8 hj8 hoC8 hx8 hy8 F8 N8 off8 hS8 ⟨tl', rfl, hlow8, hR8⟩
      clear FB NB
      obtain ⟨a8, vs8, k8, ya8, ha8, hI8⟩ := hP.2 k (by rw [← hP.1]; exact hk8)
      rw [hv8] at ya8
      obtain rfl := Option.some.inj ya8
      have mA : (a8, listOf vs8.toArray k8) ∈ tl' ++ B0 := List.mem_append_right _ (mT _ ha8)
      have zA : ((rowsN many i).getD k []).length ≤ 4 := rowsN_row ⟨many, hm⟩ ⟨i, i4⟩ _ (by rw [List.getD_eq_getElem?_getD, List.getElem?_eq_getElem (hP.1 ▸ hk8)]; exact List.getElem_mem _)
      k_steps
      k_dflt (refine' newList_K ?p1 ?p2 ?_ ?p3; (case p1 => k_asm); (case p2 => k_asm); (case p3 => exact Nat.le_of_ble_eq_true rfl))
      intro b9 h9 F9 N9 l9
      clear N8 F8
      dsimp only
      refine kmk_add_ints (vs := vs8) (ws := [.int (j : Int) tj]) F9 N9 (News.isList N9 (List.mem_cons_of_mem _ (List.mem_cons_of_mem _ (List.mem_cons_of_mem _ (List.mem_cons_of_mem _ (List.mem_cons_of_mem _ mA)))))) (News.isList N9 (.head _)) hI8 (.cons _ _ .nil) ?_ (Nat.le_trans (Nat.add_le_add_right zA _) (by show 4 + 1 ≤ sizeLine; decide))
      intro c9 us9 h10 F10 N10 l10 I10
      dsimp only
      have low10 : ∀ p ∈ tl' ++ B0, p.1 < c9 := fun p hp => l10 p (.tail _ (.tail _ (.tail _ (.tail _ (.tail _ hp)))))
      have e10 : ∀ q, q ∈ [(J8, oJ8), (I8, oI8), (C8, oC8), (D8, lst ys')] → q.1 < c9 := fun q hq => by
        simp only [List.mem_cons, List.not_mem_nil, or_false] at hq
        rcases hq with rfl | rfl | rfl | rfl
        · exact l10 _ (.tail _ (.head _))
        · exact l10 _ (.tail _ (.tail _ (.head _)))
        · exact l10 _ (.tail _ (.tail _ (.tail _ (.head _))))
        · exact l10 _ (.tail _ (.tail _ (.tail _ (.tail _ (.head _)))))
      refine Lp2End.intro ((c9, listOf us9.toArray 0) :: (tl' ++ B0)) F10 N10 (fun p hp => ?_) ?_ ?_ ⟨(c9, listOf us9.toArray 0) :: tl', rfl, ?_, ?_⟩
      · simp only [List.cons_append, List.nil_append, List.mem_cons] at hp ⊢
        rcases hp with hp | hp | hp | hp | hp | hp <;> simp [hp]
      · refine List.forall_mem_cons.mpr ⟨⟨?_, ?_, ?_, ?_⟩, off8⟩
        · exact Nat.ne_of_gt (e10 (J8, oJ8) (by simp))
        · exact Nat.ne_of_gt (e10 (I8, oI8) (by simp))
        · exact Nat.ne_of_gt (e10 (C8, oC8) (by simp))
        · exact Nat.ne_of_gt (e10 (D8, lst ys') (by simp))
      · rcases hS8 with hS | ⟨o, hm, r⟩
        · exact .inl hS
        · exact .inr ⟨o, .tail _ hm, r⟩
      · exact List.forall_mem_cons.mpr ⟨fun q hq => low10 q (List.mem_append_right _ hq), hlow8⟩
      · rw [List.range_succ, List.map_append, ← List.append_assoc]
        exact hR8.snoc (fun p hp => .tail _ hp) (.head _) I10
    · rintro news8 D8 h8 tk8 ys' nw' ⟨tlz, hz1, hz2, hz3⟩ F8 N8 off8 low8 ⟨tl', rfl, hlow8, hR8⟩
      clear FB NB
      have hlB : ∀ p ∈ B0, p.1 < D8 := fun p hp => low8 p (hz1 ▸ List.mem_append_right _ hp)
      have D1 : @LT.lt Nat _ (L' + 1) D8 := hlB _ mO
      have DI : I < D8 := by obtain ⟨oI, ho⟩ := ho; exact hlB (I, oI) (mW _ ho)
      have DT : ∀ p ∈ tl', I < p.1 := fun p hp => by obtain ⟨oI, ho⟩ := ho; exact hlow8 p hp (I, oI) (mW _ ho)
      dsimp only
      k_steps
      rename News _ _ _ _ => NN
      rename Fr _ _ _ _ => FF
      refine TurnEnd.intro (D8, ys', ys'.length, tl') FF NN ?ho ?hl ?hne ?hk ?hr ⟨?hv, fun p hp => hlow8 p hp _ mO, D1⟩
      case ho => exact fun p hp => .tail _ (List.mem_append_right _ (mW _ hp))
      case hl =>
        refine List.forall_mem_cons.mpr ⟨.head _, fun p hp => ?_⟩
        rcases List.mem_append.mp hp with hp | hp
        · exact .tail _ (List.mem_append_left _ hp)
        · rcases List.mem_cons.mp hp with rfl | hp
          · exact .tail _ (List.mem_append_right _ mO)
          · exact .tail _ (List.mem_append_right _ (mN _ hp))
      case hne =>
        refine List.forall_mem_cons.mpr ⟨Nat.ne_of_gt DI, fun p hp => ?_⟩
        rcases List.mem_append.mp hp with hp | hp
        · exact Nat.ne_of_gt (DT p hp)
        · exact hne p (.tail _ (List.mem_append_right _ hp))
      case hk => exact List.forall_mem_singleton.mpr (by simp)
      case hr =>
        intro z z1 z2 z3
        have z4 := z2 _ (.head _)
        dsimp only at z4
        simp [kstB, z1, z4]
      case hv =>
        rw [hP.1, List.take_length] at hR8
        exact hR8
  · rintro ⟨e, vs, kk, tl⟩ u h tk ⟨hP, hel, hel'⟩ F2 N2
    dsimp only at hP hel hel' N2
    clear R1 N1 F1
    have e1 : @LT.lt Nat _ (L' + 1) e := hel'
    k_steps
    refine hret _ ((e, listOf vs.toArray kk) :: tl) _ _ (by k_asm) (kst_newsOf (by k_asm) fun p hp => ?_) (fun q hq p hp => ?_) ⟨e, vs, kk, tl, rfl, rfl, hP⟩
    · simp only [List.cons_append, List.mem_cons, List.mem_append] at hp ⊢
      rcases hp with hp | hp | hp <;> simp [hp]
    · rcases List.mem_cons.mp hp with rfl | hp
      · exact Nat.lt_trans (Nat.lt_succ_of_lt (l1 q hq)) hel'
      · exact Nat.lt_trans (Nat.lt_succ_of_lt (l1 q hq)) (hel p hp)
end Mine
end

section
open PySem PySem.W PyProof.Rows PySem.Spec PySem.Calls
open PyProof.Rows.LCg
set_option maxRecDepth 100000
set_option maxHeartbeats 1600000
namespace Mine
def bits (l : Nat) : List Int := (List.range 3).map fun t : Nat => if (th l).any (fun x => x == (t : Int)) = true then 1 else 0
theorem bits_val : ∀ l : _root_.Fin 8, (numval (bits l.val) 0 (bits l.val).length != (l.val : Int)) = false := by decide +kernel
theorem bits_len (l : Nat) : (bits l).length = 3 := by rw [bits, List.length_map, List.length_range]
theorem bits_01 (l i : Nat) : 0 ≤ (bits l).getD i 0 ∧ (bits l).getD i 0 ≤ 1 := by
  by_cases h : i < 3
  · rw [bits, List.getD_eq_getElem?_getD, List.getElem?_map, List.getElem?_range h]
    show 0 ≤ (if _ then (1 : Int) else 0) ∧ (if _ then (1 : Int) else 0) ≤ 1
    split <;> decide
  · rw [List.getD_eq_getElem?_getD, List.getElem?_eq_none (by rw [bits_len]; omega)]; decide

def co (b : Bool) (j l : Nat) : Int := if subs j l = true then sgn b j l else 0
def ct (b : Bool) (j l : Nat) : Int := (([[[1,1,1,1,1,1,1,1],[0,1,0,1,0,1,0,1],[0,0,1,1,0,0,1,1],[0,0,0,1,0,0,0,1],[0,0,0,0,1,1,1,1],[0,0,0,0,0,1,0,1],[0,0,0,0,0,0,1,1],[0,0,0,0,0,0,0,1]],
  [[1,-1,-1,1,-1,1,1,-1],[0,1,0,-1,0,-1,0,1],[0,0,1,-1,0,0,-1,1],[0,0,0,1,0,0,0,-1],[0,0,0,0,1,-1,-1,1],[0,0,0,0,0,1,0,-1],[0,0,0,0,0,0,1,-1],[0,0,0,0,0,0,0,1]]] : List (List (List Int))).getD (if b = true then 1 else 0) []).getD j [] |>.getD l 0
theorem co_ct : ∀ b : Bool, ∀ j l : _root_.Fin 8, co b j.val l.val = ct b j.val l.val := by decide +kernel
def acd (sg : List Int) (b : Bool) (l : Nat) : Nat → Int
  | 0 => 0
  | j + 1 => sg.getD j 0 * ct b j l + acd sg b l j
theorem acc_acd (sg : List Int) (b : Bool) (l : Nat) (hl : l < 8) : ∀ n, n ≤ 8 → acc sg b l n = acd sg b l n
  | 0, _ => rfl
  | n + 1, h => by
    rw [acc, acd, ← co_ct b ⟨n, h⟩ ⟨l, hl⟩, acc_acd sg b l hl n (Nat.le_of_succ_le h), co]
    dsimp only
    split
    · rfl
    · rw [Int.mul_zero, Int.zero_add]
theorem told_acd (sg : List Int) (b : Bool) : told sg b = (List.range 8).map fun l => acd sg b l (l + 1) := by
  rw [told]
  refine List.map_congr_left fun l hl => ?_
  have := List.mem_range.mp hl
  exact acc_acd sg b l this (l + 1) this
theorem c8 {a0 a1 a2 a3 a4 a5 a6 a7 b0 b1 b2 b3 b4 b5 b6 b7 : Int} (h0 : a0 = b0) (h1 : a1 = b1) (h2 : a2 = b2) (h3 : a3 = b3) (h4 : a4 = b4) (h5 : a5 = b5) (h6 : a6 = b6) (h7 : a7 = b7) : [a0, a1, a2, a3, a4, a5, a6, a7] = [b0, b1, b2, b3, b4, b5, b6, b7] := by
  subst h0 h1 h2 h3 h4 h5 h6 h7; rfl
theorem acd_l (sg : List Int) (b : Bool) : ((List.range 8).map fun l => acd sg b l (l + 1)) = [acd sg b 0 1, acd sg b 1 2, acd sg b 2 3, acd sg b 3 4, acd sg b 4 5, acd sg b 5 6, acd sg b 6 7, acd sg b 7 8] := rfl
theorem told_f (a0 a1 a2 a3 a4 a5 a6 a7 : Int) : told [a0, a1, a2, a3, a4, a5, a6, a7] false = [a0, a0 + a1, a0 + a2, a0 + a1 + a2 + a3, a0 + a4, a0 + a1 + a4 + a5, a0 + a2 + a4 + a6, a0 + a1 + a2 + a3 + a4 + a5 + a6 + a7] := by
  rw [told_acd, acd_l]
  refine c8 ?_ ?_ ?_ ?_ ?_ ?_ ?_ ?_
  · show a0 * 1 + 0 = _; grind
  · show a1 * 1 + (a0 * 1 + 0) = _; grind
  · show a2 * 1 + (a1 * 0 + (a0 * 1 + 0)) = _; grind
  · show a3 * 1 + (a2 * 1 + (a1 * 1 + (a0 * 1 + 0))) = _; grind
  · show a4 * 1 + (a3 * 0 + (a2 * 0 + (a1 * 0 + (a0 * 1 + 0)))) = _; grind
  · show a5 * 1 + (a4 * 1 + (a3 * 0 + (a2 * 0 + (a1 * 1 + (a0 * 1 + 0))))) = _; grind
  · show a6 * 1 + (a5 * 0 + (a4 * 1 + (a3 * 0 + (a2 * 1 + (a1 * 0 + (a0 * 1 + 0)))))) = _; grind
  · show a7 * 1 + (a6 * 1 + (a5 * 1 + (a4 * 1 + (a3 * 1 + (a2 * 1 + (a1 * 1 + (a0 * 1 + 0))))))) = _; grind
theorem told_t (a0 a1 a2 a3 a4 a5 a6 a7 : Int) : told [a0, a1, a2, a3, a4, a5, a6, a7] true = [a0, a1 - a0, a2 - a0, a0 - a1 - a2 + a3, a4 - a0, a0 - a1 - a4 + a5, a0 - a2 - a4 + a6, a1 + a2 - a3 + a4 - a5 - a6 + a7 - a0] := by
  rw [told_acd, acd_l]
  refine c8 ?_ ?_ ?_ ?_ ?_ ?_ ?_ ?_
  · show a0 * 1 + 0 = _; grind
  · show a1 * 1 + (a0 * (-1) + 0) = _; grind
  · show a2 * 1 + (a1 * 0 + (a0 * (-1) + 0)) = _; grind
  · show a3 * 1 + (a2 * (-1) + (a1 * (-1) + (a0 * 1 + 0))) = _; grind
  · show a4 * 1 + (a3 * 0 + (a2 * 0 + (a1 * 0 + (a0 * (-1) + 0)))) = _; grind
  · show a5 * 1 + (a4 * (-1) + (a3 * 0 + (a2 * 0 + (a1 * (-1) + (a0 * 1 + 0))))) = _; grind
  · show a6 * 1 + (a5 * 0 + (a4 * (-1) + (a3 * 0 + (a2 * (-1) + (a1 * 0 + (a0 * 1 + 0)))))) = _; grind
  · show a7 * 1 + (a6 * (-1) + (a5 * (-1) + (a4 * 1 + (a3 * (-1) + (a2 * 1 + (a1 * 1 + (a0 * (-1) + 0))))))) = _; grind
theorem eight {sg : List Int} (h : sg.length = 8) : ∃ a0 a1 a2 a3 a4 a5 a6 a7, sg = [a0, a1, a2, a3, a4, a5, a6, a7] := by
  match sg, h with
  | [a0, a1, a2, a3, a4, a5, a6, a7], _ => exact ⟨a0, a1, a2, a3, a4, a5, a6, a7, rfl⟩
theorem told_ft {sg : List Int} (h : sg.length = 8) : told (told sg false) true = sg := by
  obtain ⟨a0, a1, a2, a3, a4, a5, a6, a7, rfl⟩ := eight h
  rw [told_f, told_t]
  refine c8 ?_ ?_ ?_ ?_ ?_ ?_ ?_ ?_ <;> grind
theorem told_tf {sg : List Int} (h : sg.length = 8) : told (told sg true) false = sg := by
  obtain ⟨a0, a1, a2, a3, a4, a5, a6, a7, rfl⟩ := eight h
  rw [told_t, told_f]
  refine c8 ?_ ?_ ?_ ?_ ?_ ?_ ?_ ?_ <;> grind
theorem told_len (sg : List Int) (b : Bool) : (told sg b).length = 8 := by rw [told, List.length_map, List.length_range]
def tht (l k : Nat) : Bool := ([[false, false, false], [true, false, false], [false, true, false], [true, true, false], [false, false, true], [true, false, true], [false, true, true], [true, true, true]] : List (List Bool)).getD l [] |>.getD k false
theorem th_tht : ∀ l : _root_.Fin 8, ∀ k : _root_.Fin 3, ((th l.val).any fun x => x == (k.val : Int)) = tht l.val k.val := by decide +kernel
theorem byt_succ (sg : List Int) {k : Nat} (hk : k < 3) : byt sg (k + 1) = (List.range 8).map fun l => (byt sg k).getD l 0 + if tht l k = true then (byt sg k).getD (l - 2 ^ k) 0 else 0 := by
  rw [byt]
  refine List.map_congr_left fun l hl => ?_
  have := List.mem_range.mp hl
  rw [← th_tht ⟨l, this⟩ ⟨k, hk⟩]
def bys (sg : List Int) (k : Nat) : List Int := (List.range 8).map fun l => sg.getD l 0 + if tht l k = true then sg.getD (l - 2 ^ k) 0 else 0
theorem bys0 (a0 a1 a2 a3 a4 a5 a6 a7 : Int) : bys [a0, a1, a2, a3, a4, a5, a6, a7] 0 = [a0 + 0, a1 + a0, a2 + 0, a3 + a2, a4 + 0, a5 + a4, a6 + 0, a7 + a6] := rfl
theorem bys1 (a0 a1 a2 a3 a4 a5 a6 a7 : Int) : bys [a0, a1, a2, a3, a4, a5, a6, a7] 1 = [a0 + 0, a1 + 0, a2 + a0, a3 + a1, a4 + 0, a5 + 0, a6 + a4, a7 + a5] := rfl
theorem bys2 (a0 a1 a2 a3 a4 a5 a6 a7 : Int) : bys [a0, a1, a2, a3, a4, a5, a6, a7] 2 = [a0 + 0, a1 + 0, a2 + 0, a3 + 0, a4 + a0, a5 + a1, a6 + a2, a7 + a3] := rfl
theorem byt_bys (sg : List Int) : byt sg 3 = bys (bys (bys sg 0) 1) 2 := by
  rw [byt_succ _ (by decide), byt_succ _ (by decide), byt_succ _ (by decide)]
  rfl
theorem byt_told {sg : List Int} (h : sg.length = 8) : byt sg 3 = told sg false := by
  obtain ⟨a0, a1, a2, a3, a4, a5, a6, a7, rfl⟩ := eight h
  rw [byt_bys, told_f, bys0, bys1, bys2]
  refine c8 ?_ ?_ ?_ ?_ ?_ ?_ ?_ ?_ <;> grind
def alone (l : Nat) : List Int := (List.range 8).map fun o : Nat => if ((o : Int) == (l : Int)) = true then 1 else 0
def holds (l : Nat) : List Int := (List.range 8).map fun o : Nat => if decide (out l o = []) = true then 1 else 0
theorem alone_told : ∀ l : _root_.Fin 8, (!decide (told (alone l.val) false = holds l.val)) = false := by decide +kernel
def pw (g : Nat) : List Int := (List.range 8).map fun l : Nat => ((th l).length : Int) ^ g
def full (m : Nat) (r : List Int) : Bool := decide (((List.range m).map fun t : Nat => (t : Int)).filter (fun t => !(r.any (· == t))) = [])
theorem pw_rows : ∀ g : _root_.Fin 5, ∀ l : _root_.Fin 8, (th l.val).length ≠ 0 → 2 ^ (th l.val).length = l.val + 1 → ((told (pw g.val) true).getD l.val 0 != (((rowsN (th l.val).length g.val).filter (full (th l.val).length)).length : Int)) = false := by decide +kernel
end Mine
end

section
open PySem PySem.W PyProof.Rows PySem.Spec PySem.Calls
open PyProof.Rows.LCg
set_option maxRecDepth 100000
set_option maxHeartbeats 1600000
namespace Mine
section
variable {prog : Program} {w : World} {A : Around} {E : Value → Shared → Prop} {s : Shared} {env : Env} {h₀ : Heap} {x : Str} {px : Pos} {body : List Stmt} {Q : Flow → Shared → Prop}

/-- a for over a list on the ledger whose name is a cell -/
theorem clst_loop {σ : Type} {l : Addr} {vs : List Value} {k : Nat} {m₀ : Str → Option Value} (Led : σ → List (Addr × Obj)) (ps : σ → List (Str × Value)) (stored : List Str) (P : Nat → σ → Prop) (c₀ : σ)
    (hh : A.handled = none) (hl : (l, listOf vs.toArray k) ∈ Led c₀)
    (F : Fr h₀ env.locals s.heap m₀) (N : News h₀ env.locals s.heap (Led c₀)) (hk : ∀ p ∈ ps c₀, m₀ p.1 = some p.2) (hp : P 0 c₀)
    (turn : ∀ I i v c (u : Str → Option Value) h tk own, vs[i]? = some v → P i c → (∀ p ∈ Led c, p.1 ≠ I) → (∃ o, (I, o) ∈ own) → (∀ p ∈ own, p.1 = I ∨ p.1 = l) →
      Fr h₀ env.locals h (fun y => if y = x then u y else kstB (fun z => if stored.contains z then u z else m₀ z) (ps c) y) → News h₀ env.locals h (Led c ++ own) →
      wpAny (model prog w) A (assign (.Name x px) env v) (fun _ s₃ => wpAny (model prog w) A (execs body env) (TurnPost h₀ env.locals Led ps x stored m₀ (P (i + 1)) I own { s with heap := h, toks := tk } Q) E s₃) E { s with heap := h, toks := tk })
    (done : ∀ c (u : Str → Option Value) h tk, P vs.length c → Fr h₀ env.locals h (fun y => if y = x then u y else kstB (fun z => if stored.contains z then u z else m₀ z) (ps c) y) → News h₀ env.locals h (Led c) → Q .next { s with heap := h, toks := tk }) :
    wpAny (model prog w) A (pyIter (.ref l)) (fun it s₂ => TurnsAt prog w A h₀ env (.Name x px) body Q E it s₂) E s := by
  have hls : s.heap.IsList l vs.toArray := News.isList N hl
  obtain ⟨ol, hol, _⟩ := id hls
  have hne : l ≠ s.heap.objs.size := Nat.ne_of_lt (Heap.lt_size hol)
  refine wpAny_pyIter_list hls ?_
  have W := Walks.list (prog := prog) (w := w) (A := A) hh s.heap.objs.size l hne vs.toArray
  have hlen : vs.toArray.size = vs.length := by simp
  rw [hlen] at W
  have hI₀ : h₀.get? s.heap.objs.size = none := next_is_new F
  have T := KTurns.ofWalks (target := .Name x px) W (fun i v s Q E _ h => wpAny_pure h)
  let J : Nat → (Str → Option Value) → List (Addr × Obj) → Prop := fun i m nx => ∃ c, nx = Led c ∧ (∀ p ∈ ps c, m p.1 = some p.2) ∧ (∀ z, z ≠ x → (∀ p ∈ ps c, z ≠ p.1) → stored.contains z = false → m z = m₀ z) ∧ P i c
  refine ⟨s.heap.objs.size, _, _, vs.length, _, _, _, m₀, Led c₀, J, rfl, T, ?_, ?_, ?_, ?_, F.push _, fun p hp => ⟨Heap.get?_push_of_some _ (N p hp).1, (N p hp).2⟩, ⟨c₀, rfl, hk, fun _ _ _ _ => rfl, hp⟩, ?_, ?_⟩
  · intro hm
    rcases List.mem_cons.mp hm with e | hm
    · exact absurd F.ns.lt (e ▸ Nat.lt_irrefl _)
    · exact (N _ hl).2.1 (List.mem_singleton.mp hm).symm
  · intro b hb; rw [List.mem_singleton.mp hb]; exact hI₀
  · intro p hp hI
    exact absurd (Heap.lt_size (N p hp).1) ((List.mem_singleton.mp hI) ▸ Nat.lt_irrefl _)
  · exact ⟨⟨_, Heap.get?_push_size _ rfl, rfl, rfl⟩, hls.at fun o e => Heap.get?_push_of_some _ e⟩
  · rintro i v m₁ nx hh' tk' own hin hV ⟨c, rfl, h1, h2, hp'⟩ hoff hown hget hall hst' F₁ N₁
    obtain ⟨oI, hI, _⟩ := hst'.1
    have hmem : ∃ o, (s.heap.objs.size, o) ∈ own := ⟨_, hall s.heap.objs.size (.head _) hI₀ _ hI⟩
    have hne : ∀ p ∈ Led c, p.1 ≠ s.heap.objs.size := fun p hp e => hoff p hp (e ▸ .head _)
    have N₂ : News h₀ env.locals hh' (Led c ++ own) := fun p hp => N₁ p ((List.mem_append.mp hp).elim (fun h => List.mem_append.mpr (.inr h)) fun h => List.mem_append.mpr (.inl h))
    refine wpAny_mono (turn _ i v c m₁ hh' tk' own (by simpa using hV) hp' hne hmem (fun p hp => (List.mem_cons.mp (hown p hp)).imp id List.mem_singleton.mp) (kst_frOut h1 h2 F₁) N₂) (fun _ s₃ h₃ => wpAny_mono h₃ (fun f s₂ p => ?_) fun _ _ e => e) fun _ _ e => e
    have fin : TurnEnd h₀ env.locals Led ps x stored m₀ (P (i + 1)) s.heap.objs.size own { s with heap := hh', toks := tk' } s₂ → ∃ h' tk m' news', s₂ = { s with heap := h', toks := tk } ∧ Fr h₀ env.locals h' m' ∧ News h₀ env.locals h' (own ++ news') ∧ (∀ p ∈ news', p.1 ∉ [s.heap.objs.size]) ∧ J (i + 1) m' news' := by
      rintro ⟨c', h', tk, m', news', e, F', N', ho', hl', hne', hk', hr', hp''⟩
      exact ⟨h', tk, m', Led c', e, F', fun p hp => N' p ((List.mem_append.mp hp).elim (ho' p) (hl' p)), fun p hp hq => hne' p hp (List.mem_singleton.mp hq), c', rfl, hk', hr', hp''⟩
    cases f with
    | ret v => exact p
    | brk => exact p
    | next => obtain ⟨h', tk, m', news', e, r⟩ := fin p; exact ⟨rfl, h', tk, m', news', e, r⟩
    | cont => obtain ⟨h', tk, m', news', e, r⟩ := fin p; exact ⟨rfl, h', tk, m', news', e, r⟩
  · rintro h' tk m' news' F' N' _ ⟨c, rfl, h1, h2, hp'⟩
    exact done c m' h' tk hp' (kst_frOut h1 h2 F') N'
end
section
variable {prog : Program} {w : World} {A : Around} {E : Value → Shared → Prop} {s : Shared} {h₀ : Heap} {L : Addr} {m : Str → Option Value} {env : Env}

theorem Assign_ListComp_C {elt iter : Expr} {ifs : List Expr} {x z : Str} {px pz : Pos} {scope : Scope} {cl : List (Str × Addr)} {pos spos : Pos} {Q : Flow → Shared → Prop} (_F₀ : Fr h₀ L s.heap m) (hLe : env.locals = L)
    (hsw : swapsWith (.ListComp elt [⟨.Name x px, iter, ifs, 0⟩] scope pos) (some (.Name z pz)) spos.line env = pure true)
    (hclos : closureFor scope env = pure cl) (hcf : ∀ k, cellsFrom k scope.names cl = (x, k) :: cl) (hpc : ∀ h, pushCells h scope.names = h.push { cls := .type "cell", data := .cell none }) (hkind : scope.kind = .function)
    (hnames : ∀ y ∈ scope.names, y.2 = .local → scope.names.lookup y.1 = some .local) (hx : scope.names.lookup x = some .cell)
    (hz : env.kindOf z = some .local) (hp : (env.scope.kind == .class || (env.scope.kind == .module && env.locals != env.globals)) = false)
    (h : wpAny (model prog w) A (eval iter env) (fun xv s₁ => CpSrc h₀ L m A (fun S P n J => CpTurn prog w A h₀ L m env elt ifs x scope cl s₁ S P n J ∧ FinJ h₀ L m z Q s₁ n J) (fun _ _ => True) xv s₁) E s)
    (hs : ∀ x, foldedSetIterable iter env x = pure x := by intro _; rfl) :
    wpAny (model prog w) A (exec (.Assign [.Name z pz] (.ListComp elt [⟨.Name x px, iter, ifs, 0⟩] scope pos) spos) env) Q E s := by
  rw [exec_Assign_Name_used _ _ _ _ hsw]
  refine wpAny_bind (wpAny_standAt (wpAny_bind ?_))
  show wpAny _ A (do let _ ← comprehension (.ListComp elt [⟨.Name x px, iter, ifs, 0⟩] scope pos) scope env _ (newList []) false (eval iter env) (some (assign (.Name z pz) env))) _ _ s
  refine wpAny_bind (wpAny_mono (wpAny_comprehension_free (use := some (assign (.Name z pz) env)) (Q := fun _ s' => Q .next s') rfl hs hclos hkind hnames
    (wpAny_mono h (fun xv s₁ h₁ => ?_) fun _ _ e => e)) (fun _ s' hq => wpAny_pure (wpAny_pure hq)) fun _ _ e => e)
  refine src_block h₁ fun s₂ I fp n P St S news J hp' e W hsz hIo hSt hst hfp F N hIL hI₀ off hS h0 turn fin => ?_
  subst e
  refine block_C W hsz hIo hSt hcf hpc hkind hx hst hfp F N hIL hI₀ off hS h0 turn.1 ?_
  intro D C h' tk m' ys news' F' N' o1 olow hn hC₀ hD₀ hCL hDL hCD offC hj
  exact used_post hLe hz hp turn.2 h0 F' N' o1 olow hn hC₀ hCL hCD offC hj
end
end Mine
end

section
open PySem PySem.W PyProof.Rows PySem.Spec PySem.Calls
open PyProof.Rows.LCg
set_option maxRecDepth 100000
set_option maxHeartbeats 8000000
namespace Mine
local macro_rules | `(tactic| walk_at "zz0") => `(tactic| fail)
local macro_rules | `(tactic| walk_at "zz1") => `(tactic| fail)
local macro_rules | `(tactic| walk_at "zz2") => `(tactic| fail)
local macro_rules | `(tactic| walk_at "zz3") => `(tactic| fail)
local macro_rules | `(tactic| walk_at "zz4") => `(tactic| fail)
local macro_rules | `(tactic| walk_at "zz5") => `(tactic| fail)
local macro_rules | `(tactic| walk_at "zz6") => `(tactic| fail)
local macro_rules | `(tactic| walk_at "zz7") => `(tactic| fail)
local macro_rules | `(tactic| walk_at "zz8") => `(tactic| fail)
local macro_rules | `(tactic| walk_at "zz9") => `(tactic| fail)
local macro_rules | `(tactic| walk_at "zz10") => `(tactic| fail)
local macro_rules | `(tactic| walk_at "zz11") => `(tactic| fail)
local macro_rules | `(tactic| walk_at "zz12") => `(tactic| fail)
local macro_rules | `(tactic| walk_at "zz13") => `(tactic| fail)
local macro_rules | `(tactic| walk_at "zz14") => `(tactic| fail)
local macro_rules | `(tactic| walk_at "zz15") => `(tactic| fail)
local macro_rules | `(tactic| walk_at "zz16") => `(tactic| fail)
local macro_rules | `(tactic| walk_at "zz17") => `(tactic| fail)
local macro_rules | `(tactic| walk_at "zz18") => `(tactic| fail)
local macro_rules | `(tactic| walk_at "zz19") => `(tactic| fail)

local macro_rules | `(tactic| k_mem) => `(tactic| first | assumption | exact List.Mem.head _ | (refine' List.Mem.tail _ ?_; k_mem))
local macro_rules | `(tactic| k_all) => `(tactic| first | assumption | exact List.forall_mem_nil _ | (refine' List.forall_mem_cons.mpr ⟨?a, ?b⟩; (case a => k_ne); (case b => k_all)))
local macro_rules | `(tactic| k_steps) => `(tactic| repeat' ((fail_if_success (with_reducible show GoodW _ _ _ _ _ _ _)); (fail_if_success (with_reducible show wpAny _ _ (pyIter (Value.ref _)) (fun it s₂ => TurnsAt _ _ _ _ _ _ _ _ _ it s₂) _ _)); (fail_if_success (with_reducible show wpAny _ _ (eval (Expr.ListComp _ _ _ _) _) _ _ _)); (fail_if_success (with_reducible show wpAny _ _ (exec (Stmt.Assign [Expr.Name _ _] (Expr.ListComp _ _ _ _) _) _) _ _ _)); (fail_if_success (with_reducible show wpAny _ _ (call (Value.ref _) _) _ _ _)); first | (k_unfold; (try dsimp only)) | (k_end; wrow_close) | walk1 | (dsimp only; walk1) | (leave1; walk_say "STEP leave1"; try dsimp only) | fail "no step"))
local macro_rules | `(tactic| walk_at "exec For Name Call cons nil") => `(tactic| (k_here; (rename Fr _ _ _ _ => lF'); first | (with_unfolding_all refine' For_invVF lF' ?k1 ?k2 ?_; (case k1 => decide); (case k2 => exact rfl); k_whole) | (k_dflt (refine' For_turns lF' ?_))))
local macro_rules | `(tactic| walk_at "subscriptTail") => `(tactic| (k_here; (with_reducible show wpAny _ _ (subscriptTail _ _ (Value.ref _) (Value.int _ _)) _ _ _); (with_unfolding_all refine' item_at ?k1 ?k2 ?k3 ?k4 ?k5 ?_ ?k6; (case k1 => k_asm); (case k2 => k_mem); (case k3 => omega); (case k4 => omega); (case k5 => first | with_reducible assumption | assumption); (case k6 => with_unfolding_all rfl); k_whole)))
local macro_rules | `(tactic| walk_at "subscriptTail Name Name ref int") => `(tactic| (k_here; (with_reducible show wpAny _ _ (subscriptTail _ _ (Value.ref _) (Value.int _ _)) _ _ _); (with_unfolding_all refine' item_at ?k1 ?k2 ?k3 ?k4 ?k5 ?_ ?k6; (case k1 => k_asm); (case k2 => k_mem); (case k3 => omega); (case k4 => omega); (case k5 => first | with_reducible assumption | assumption); (case k6 => with_unfolding_all rfl); k_whole)))
local macro_rules | `(tactic| walk_at "subscriptTail Subscript Name ref int") => `(tactic| (k_here; (with_reducible show wpAny _ _ (subscriptTail _ _ (Value.ref _) (Value.int _ _)) _ _ _); (with_unfolding_all refine' item_at ?k1 ?k2 ?k3 ?k4 ?k5 ?_ ?k6; (case k1 => k_asm); (case k2 => k_mem); (case k3 => omega); (case k4 => omega); (case k5 => first | with_reducible assumption | assumption); (case k6 => with_unfolding_all rfl); k_whole)))
local macro_rules | `(tactic| walk_at "subscriptTail Name Subscript ref int") => `(tactic| (k_here; (with_reducible show wpAny _ _ (subscriptTail _ _ (Value.ref _) (Value.int _ _)) _ _ _); (with_unfolding_all refine' item_at ?k1 ?k2 ?k3 ?k4 ?k5 ?_ ?k6; (case k1 => k_asm); (case k2 => k_mem); (case k3 => omega); (case k4 => omega); (case k5 => first | with_reducible assumption | assumption); (case k6 => with_unfolding_all rfl); k_whole)))
local macro_rules | `(tactic| walk_at "storeName") => `(tactic| (k_here; k_dflt (refine' storeX_C ?F ?N ?c ?U ?d ?_ ?a ?b; (case b => first | rfl | decide); (case a => rfl); (case F => k_asm); (case N => k_asm); (case c => rfl); (case U => k_updF); (case d => k_asm); k_whole); intro h' o' F' N' d'; (try dsimp only at N'); (try k_sweep)))
local macro_rules | `(tactic| walk_at "callWith ref") => `(tactic| (k_here; k_dflt (first | (refine' callWith_K ?k1 ?k2 ?_; (case k1 => k_asm); (case k2 => k_is); k_whole) | (refine' callWith_K0 ?k1 ?k2 ?_; (case k1 => k_in); (case k2 => k_is); k_whole))))
local macro_rules | `(tactic| walk_at "compareOp Eq ref ref") => `(tactic| (k_here; (with_reducible show wpAny _ _ (compareOp CmpOp.Eq (Value.ref _) (Value.ref _)) _ _ _); k_dflt (refine' eq_intsK ?k1 ?k2 ?k3 ?k4 ?k5 ?_; (case k1 => exact News.isList (by k_asm) (by k_mem)); (case k2 => assumption); (case k3 => exact News.isList (by k_asm) (by k_mem)); (case k4 => assumption); (case k5 => units_room); k_whole)))
local macro_rules | `(tactic| walk_at "subscriptTail Subscript Name Name Name ref int") => `(tactic| (k_here; (with_reducible show wpAny _ _ (subscriptTail _ _ (Value.ref _) (Value.int _ _)) _ _ _); (with_unfolding_all refine' item_at ?k1 ?k2 ?k3 ?k4 ?k5 ?_ ?k6; (case k1 => k_asm); (case k2 => k_mem); (case k3 => omega); (case k4 => omega); (case k5 => first | with_reducible assumption | assumption); (case k6 => with_unfolding_all rfl); k_whole)))
local macro_rules | `(tactic| walk_at "ite") => `(tactic| (k_here; first | refine ite_no (by assumption) ?_ | refine ite_yes (by assumption) ?_))
local macro_rules | `(tactic| walk_at "call builtin:len") => `(tactic| (k_here; (with_reducible show wpAny _ _ (call (Value.builtin "len") [Value.ref _]) _ _ _); k_dflt (refine' len_to ?N ?m ?I ?e ?f ?_; (case N => k_asm); (case m => k_mem); (case I => assumption); (case e => exact rfl); (case f => omega); k_whole)))
local macro_rules | `(tactic| walk_at "compareOp NotIn int ref") => `(tactic| (k_here; (with_reducible show wpAny _ _ (compareOp CmpOp.NotIn (Value.int _ _) (Value.ref _)) _ _ _); k_dflt (refine' notin_list_ints ?k1 ?k2 ?_; (case k1 => exact News.isList (by k_asm) (by k_mem)); (case k2 => assumption); k_whole)))
local macro_rules | `(tactic| walk_at "binaryOp Pow int int") => `(tactic| (k_here; k_dflt (refine' pow_int_small ?a ?b ?c ?_; (case a => omega); (case b => omega); (case c => first | assumption | decide); k_whole)))
local macro_rules | `(tactic| walk_at "compareOp In int ref") => `(tactic| (k_here; (with_reducible show wpAny _ _ (compareOp CmpOp.In (Value.int _ _) (Value.ref _)) _ _ _); k_dflt (refine' in_list_ints ?k1 ?k2 ?_; (case k1 => exact News.isList (by k_asm) (by k_mem)); (case k2 => assumption); k_whole)))
local macro_rules | `(tactic| walk_at "call builtin:sum") => `(tactic| (k_here; (with_reducible show wpAny _ _ (call (Value.builtin "sum") [Value.ref _]) _ _ _); k_dflt (refine' LSm.sum_ints ?F ?N ?h ?l ?i ?_; (case F => k_asm); (case N => k_asm); (case h => rfl); (case l => exact Fr.lst (by k_asm) (by with_reducible assumption)); (case i => with_reducible assumption); k_whole); intro h' tk' t' F' N'; (try k_sweep)))
local macro_rules | `(tactic| walk_at "compareOp NotEq ref ref") => `(tactic| (k_here; (with_reducible show wpAny _ _ (compareOp CmpOp.NotEq (Value.ref _) (Value.ref _)) _ _ _); k_dflt (refine' ne_intsK ?k1 ?k2 ?k3 ?k4 ?k5 ?_; (case k1 => exact News.isList (by k_asm) (by k_mem)); (case k2 => assumption); (case k3 => exact News.isList (by k_asm) (by k_mem)); (case k4 => assumption); (case k5 => units_room); k_whole)))
theorem fmod_nat {x : Int} {n : Nat} (hn : 0 < n) : ∃ k : _root_.Fin n, x.fmod (n : Int) = (k.val : Int) := by
  have hz : (n : Int) ≠ 0 := by omega
  have e1 : 0 ≤ x.fmod n := by rw [Int.fmod_eq_emod_of_nonneg _ (by omega)]; exact Int.emod_nonneg _ hz
  have e2 : x.fmod n < n := by rw [Int.fmod_eq_emod_of_nonneg _ (by omega)]; exact Int.emod_lt_of_pos _ (by omega)
  exact ⟨⟨(x.fmod n).toNat, by omega⟩, by dsimp only; rw [Int.toNat_of_nonneg e1]⟩
theorem mod8 {prog : Program} {w : World} {A : Around} {E : Value → Shared → Prop} {s : Shared} {Q : Value → Shared → Prop} {x : Int} {t u : Tok} (h : ∀ X0 : _root_.Fin 8, Q (.int (X0.val : Int) s.toks) { s with toks := s.toks + 1 }) : wpAny (model prog w) A (binaryOp .Mod (.int x t) (.int 8 u)) Q E s := by
  refine mod_int' (by decide) ?_
  obtain ⟨k, hk⟩ := fmod_nat (x := x) (n := 8) (by decide)
  rw [show (8 : Int) = ((8 : Nat) : Int) from rfl, hk]
  exact h k
theorem mod5 {prog : Program} {w : World} {A : Around} {E : Value → Shared → Prop} {s : Shared} {Q : Value → Shared → Prop} {x : Int} {t u : Tok} (h : ∀ X0 : _root_.Fin 5, Q (.int (X0.val : Int) s.toks) { s with toks := s.toks + 1 }) : wpAny (model prog w) A (binaryOp .Mod (.int x t) (.int 5 u)) Q E s := by
  refine mod_int' (by decide) ?_
  obtain ⟨k, hk⟩ := fmod_nat (x := x) (n := 5) (by decide)
  rw [show (5 : Int) = ((5 : Nat) : Int) from rfl, hk]
  exact h k
local macro_rules | `(tactic| walk_at "binaryOp Mod int int") => `(tactic| (k_here; first | ((with_reducible show wpAny _ _ (binaryOp Operator.Mod (Value.int _ _) (Value.int 8 _)) _ _ _); refine mod8 fun X0 => ?_) | ((with_reducible show wpAny _ _ (binaryOp Operator.Mod (Value.int _ _) (Value.int 5 _)) _ _ _); refine mod5 fun X1 => ?_)))
section
variable {h₀ h : Heap} {L : Addr}
theorem take_news {a1 a2 a3 a4 c1 c2 c3 c4 x y : Addr × Obj} (N : News h₀ L h [a1, a2, a3, a4, c1, c2, c3, c4, x, y]) : News h₀ L h [x, a1, c1, c2, c3, c4, y] := by
  refine kst_newsOf N fun p hp => ?_
  simp only [List.mem_cons, List.not_mem_nil, or_false] at hp ⊢; grind
end
theorem rows_fn {led : List (Addr × Obj)} {ys : List Value} {ls : List (List Int)} (h : RowsAt led ys ls) (hl : ls.length = 8) :
    ∃ (rows : Nat → Addr) (rv : Nat → List Value) (rk : Nat → Nat), (∀ i, i < 8 → ys[i]? = some (.ref (rows i))) ∧ (∀ i, i < 8 → IntsAre (rv i) (ls.getD i [])) ∧ (∀ i, i < 8 → (rows i, listOf (rv i).toArray (rk i)) ∈ led) := by
  have q : ∀ i : Nat, ∃ c : Addr × List Value × Nat, i < 8 → ys[i]? = some (.ref c.1) ∧ (c.1, listOf c.2.1.toArray c.2.2) ∈ led ∧ IntsAre c.2.1 (ls.getD i []) := fun i => by
    by_cases hi : i < 8
    · obtain ⟨a, vs, k, e, m, I⟩ := h.2 i (hl ▸ hi)
      exact ⟨(a, vs, k), fun _ => ⟨e, m, I⟩⟩
    · exact ⟨(0, [], 0), fun h => absurd h hi⟩
  obtain ⟨f, hf⟩ := Classical.axiomOfChoice q
  exact ⟨fun i => (f i).1, fun i => (f i).2.1, fun i => (f i).2.2, fun i hi => (hf i hi).1, fun i hi => (hf i hi).2.2, fun i hi => (hf i hi).2.1⟩
section
variable {h₀ h : Heap} {L : Addr}
theorem rot3 {a b c x : Addr × Obj} {tl : List (Addr × Obj)} (N : News h₀ L h (a :: b :: c :: x :: tl)) : News h₀ L h (x :: a :: b :: c :: tl) := by
  refine kst_newsOf N fun p hp => ?_
  simp only [List.mem_cons] at hp ⊢; grind
end
theorem neOf {tl : List (Addr × Obj)} {a b : Nat} (h : ∀ p ∈ tl, @LT.lt Nat _ a p.1) (hb : b ≤ a) : ∀ p ∈ tl, p.1 ≠ b := fun p hp e => by
  have := h p hp
  rw [e] at this
  omega
def Tb : Option (Addr × Obj) → List (Addr × Obj)
  | none => [(37, tabObj #[])]
  | some q => [q, (37, tab37 q.1)]
theorem Tb_ne {b : Nat} (h : (37 : Nat) ≠ b) : ∀ {c : Option (Addr × Obj)}, (∀ q, c = some q → q.1 ≠ b) → ∀ p ∈ Tb c, p.1 ≠ b
  | none, _ => List.forall_mem_singleton.mpr h
  | some q, hq => List.forall_mem_cons.mpr ⟨hq q rfl, List.forall_mem_singleton.mpr h⟩
theorem drop_news {h₀ h : Heap} {L : Addr} {a b c d e f g : Addr × Obj} {tl : List (Addr × Obj)} (N : News h₀ L h (a :: b :: c :: d :: e :: f :: g :: (37, tabObj #[]) :: tl)) : News h₀ L h (g :: b :: c :: d :: e :: f :: (Tb none ++ tl)) := by
  refine kst_newsOf N fun p hp => ?_
  simp only [Tb, List.cons_append, List.nil_append, List.mem_cons] at hp ⊢; grind
theorem up37 {h₀ h : Heap} {L : Addr} {a b c d e f g : Addr × Obj} {tl own : List (Addr × Obj)} (N : News h₀ L h (a :: b :: c :: d :: e :: f :: g :: (Tb none ++ tl ++ own))) : News h₀ L h ((37, tabObj #[]) :: a :: b :: c :: d :: e :: f :: g :: (tl ++ own)) := by
  refine kst_newsOf N fun p hp => ?_
  simp only [Tb, List.cons_append, List.nil_append, List.mem_cons] at hp ⊢; grind
theorem drop_f {h₀ h : Heap} {L : Addr} {a1 a2 a3 a4 a5 a6 b c d e f g : Addr × Obj} {tl : List (Addr × Obj)} (N : News h₀ L h (a1 :: a2 :: a3 :: a4 :: a5 :: a6 :: b :: c :: d :: e :: f :: g :: tl)) : News h₀ L h (b :: c :: e :: f :: g :: tl) := by
  refine kst_newsOf N fun p hp => ?_
  simp only [List.mem_cons] at hp ⊢; grind
theorem alone_len (l : Nat) : (alone l).length = 8 := by rw [alone, List.length_map, List.length_range]

theorem drop_p {h₀ h : Heap} {L : Addr} {a1 a2 a3 b c e f g : Addr × Obj} {tl : List (Addr × Obj)} (N : News h₀ L h (a1 :: a2 :: a3 :: b :: c :: e :: f :: g :: tl)) : News h₀ L h (b :: e :: c :: f :: g :: tl) := by
  refine kst_newsOf N fun p hp => ?_
  simp only [List.mem_cons] at hp ⊢; grind
theorem pw_len (g : Nat) : (pw g).length = 8 := by rw [pw, List.length_map, List.length_range]
local macro_rules | `(tactic| walk_at "exec For Name List cons nil") => `(tactic| (k_here; (rename Fr _ _ _ _ => lF'); (k_dflt (refine' For_turns lF' ?_))))

theorem rc_yes {r : List Int} {j : Nat} {ys : List Value} {t : Tok} (h : (!(r.any (· == (j : Int)))) = true) (I : IntsAre ys (((List.range j).map fun t : Nat => (t : Int)).filter fun t => !(r.any (· == t)))) : IntsAre (ys ++ [.int (j : Int) t]) (((List.range (j + 1)).map fun t : Nat => (t : Int)).filter fun t => !(r.any (· == t))) := by
  rw [List.range_succ, List.map_append, List.filter_append]
  refine I.append ?_
  simp only [List.map_cons, List.map_nil, List.filter_cons, h, if_true, List.filter_nil]
  exact .cons _ _ .nil
theorem rc_no {r : List Int} {j : Nat} {ys : List Value} (h : (!(r.any (· == (j : Int)))) = false) (I : IntsAre ys (((List.range j).map fun t : Nat => (t : Int)).filter fun t => !(r.any (· == t)))) : IntsAre ys (((List.range (j + 1)).map fun t : Nat => (t : Int)).filter fun t => !(r.any (· == t))) := by
  rw [List.range_succ, List.map_append, List.filter_append]
  simp only [List.map_cons, List.map_nil, List.filter_cons, h, List.filter_nil, List.append_nil, Bool.false_eq_true, if_false]
  exact I
theorem cnt_yes {p : List Int → Bool} {ls : List (List Int)} {k n : Nat} (hk : k < ls.length) (h : p (ls.getD k []) = true) (e : n = ((ls.take k).filter p).length) : n + 1 = ((ls.take (k + 1)).filter p).length := by
  rw [List.getD_eq_getElem?_getD, List.getElem?_eq_getElem hk] at h
  rw [List.take_succ, List.getElem?_eq_getElem hk, List.filter_append, List.length_append, ← e]
  have h' : p ls[k] = true := h
  simp [h']
theorem cnt_no {p : List Int → Bool} {ls : List (List Int)} {k n : Nat} (hk : k < ls.length) (h : p (ls.getD k []) = false) (e : n = ((ls.take k).filter p).length) : n = ((ls.take (k + 1)).filter p).length := by
  rw [List.getD_eq_getElem?_getD, List.getElem?_eq_getElem hk] at h
  rw [List.take_succ, List.getElem?_eq_getElem hk, List.filter_append, List.length_append, ← e]
  have h' : p ls[k] = false := h
  simp [h']
theorem rowsN_81 : ∀ m : _root_.Fin 4, ∀ i : _root_.Fin 5, (rowsN m.val i.val).length ≤ 81 := by decide +kernel
theorem three_l : ∀ i : _root_.Fin 3, ∃ l : _root_.Fin 8, ([1, 3, 7] : List Int).getD i.val 0 = (l.val : Int) ∧ (th l.val).length ≠ 0 ∧ 2 ^ (th l.val).length = l.val + 1 := by decide +kernel
theorem three {h₀ h : Heap} {L l : Addr} {t1 t2 t3 : Tok} {k : Nat} {a p b e c f g : Addr × Obj} {tl : List (Addr × Obj)} (N : News h₀ L h ((l, listOf (List.toArray [.int 1 t1, .int 3 t2, .int 7 t3]) k) :: a :: p :: b :: e :: c :: f :: g :: tl)) :
    ∃ vs, IntsAre vs [1, 3, 7] ∧ News h₀ L h ((l, listOf vs.toArray k) :: a :: b :: e :: c :: f :: g :: tl) := by
  refine ⟨[.int 1 t1, .int 3 t2, .int 7 t3], .cons _ _ (.cons _ _ (.cons _ _ .nil)), kst_newsOf N fun p hp => ?_⟩
  simp only [List.mem_cons] at hp ⊢; grind
theorem swapN {h₀ h : Heap} {L : Addr} {X : Addr × Obj} {tl news : List (Addr × Obj)} (N : News h₀ L h (X :: tl ++ news)) : News h₀ L h (X :: (news ++ tl)) := by
  refine kst_newsOf N fun p hp => ?_
  simp only [List.cons_append, List.mem_cons, List.mem_append] at hp ⊢; grind
local macro_rules | `(tactic| walk_at "eval Name") => `(tactic| ((with_reducible show wpAny _ _ (eval (Expr.Name _ _) (compEnvC _ _ _ _)) _ _ _); k_dflt (refine LCgL.ld_built (by k_asm) (by k_asm) (by k_asm) (by k_is) (by boot_by_name) (by decide) ?_)))
local macro_rules | `(tactic| walk_at "call builtin:len") => `(tactic| (k_here; (with_reducible show wpAny _ _ (call (Value.builtin "len") [Value.ref _]) _ _ _); k_dflt (refine' KM.len_K ?N ?m ?e ?f ?_; (case N => k_asm); (case m => k_mem); (case e => with_reducible assumption); (case f => omega); k_whole)))
theorem lawHolds : PySem.Challenge.rw_gl0002_02.Holds := hd (by
  w_top off
  k_go0
  all_goals refine wpAny_mono (E := fun _ _ => False) ?_ (fun _ _ h => h) (fun _ _ h => h.elim)
  k_steps
  rename News _ _ _ _ => N0
  rename Fr _ _ _ _ => F0
  rename List Int => ns
  rename World => w
  rename _ < _ ∧ _ < _ => l0
  rename Shared => s1
  rename_i oM oG oT oL dM dG dT dL _ _ _ _ _ _ _ _ lB _ iB _ _ _ _ _ lBl lC vC _ iC lCl lD nv _ iD _ _ lDl
  have l30 : @LT.lt Nat _ 30 _ := l0.1
  have l37 : @LT.lt Nat _ 37 _ := l0.2
  replace dM : oM.data = .cell none := dM
  replace dG : oG.data = .cell none := dG
  replace dT : oT.data = .cell none := dT
  replace dL : oL.data = .cell none := dL
  replace N0 := take_news N0
  have hzs : (List.take 8 (ns ++ (List.replicate 8 [(0 : Int)]).flatten)).length = 8 := by simp
  obtain ⟨sg, hsg⟩ : ∃ sg, sg = List.take 8 (ns ++ (List.replicate 8 [(0 : Int)]).flatten) := ⟨_, rfl⟩
  rw [← hsg] at hzs iD
  have yD : @LT.lt Nat _ (s1.heap.objs.size + 1 + 1 + 1 + 1) lD := by omega
  clear iB iC hsg
  k_dflt (refine' ListComp_L (by k_asm) ?a1 ?a2 ?a3 ?a4 ?a5 ?_; (case a1 => with_unfolding_all rfl); (case a2 => decide); (case a3 => rfl); (case a4 => decide); (case a5 => rfl))
  k_steps
  rename IsRange _ _ _ _ _ _ _ _ => RB
  rename News _ _ _ _ => NB
  rename Fr _ _ _ _ => FB
  obtain ⟨B0, hB0⟩ : ∃ B0 : List (Addr × Obj), B0 = [(lD, listOf nv.toArray 0), (s1.heap.objs.size + 1 + 1 + 1 + 1, oM), (s1.heap.objs.size + 1 + 1 + 1, oG), (s1.heap.objs.size + 1 + 1, oT), (s1.heap.objs.size + 1, oL), (37, tabObj #[])] := ⟨_, rfl⟩
  rw [← hB0] at NB
  have b30 : ∀ p ∈ B0, p.1 ≠ 30 := by
    rw [hB0]; k_all
  refine CpSrc.range 8 (fun i ys nw => (i = 0 ∧ ys = [] ∧ nw = (30, tabObj #[]) :: B0) ∨ (∃ tl c' oc fs tq, nw = tl ++ ((c', oc) :: (30, tab30 c') :: B0) ∧ oc.data = .fields fs ∧ fs[1]? = some (.str (Str.ofString "_int2digits.<locals>.inner") tq) ∧ RowsAt tl ys ((List.range i).map th) ∧ (∀ p ∈ tl, ∀ q ∈ B0, q.1 < p.1))) rfl FB NB RB (by decide) (by rfl) (by decide) (.inl ⟨rfl, rfl, rfl⟩) ?_ ?_
  · rintro i v ys nw I8 oI8 C8 oC8 D8 m8 h8 tk8 E8 hi ⟨t8, rfl⟩ hl8 hoC8 hx8 F8 N8 off8 _ hJ8 -- SLOW
    rw [Int.zero_add] at hx8
    clear FB NB RB hB0
    have hth : th i = thg ⟨i, by omega⟩ := dif_pos (show i < 256 by omega)
    refine wpAny_tests_nil ?_
    simp only [if_true]
    rcases hJ8 with ⟨hi0, rfl, rfl⟩ | ⟨tl, c', oc, fs, tq, rfl, hc1, hc2, hR, hlow⟩
    · replace N8 := rot3 N8
      have q30 := off8 _ (.head _)
      dsimp only at q30
      k_steps
      k_dflt (refine' saysM_use (lawThingsCold w ⟨i, by omega⟩ _ _ ?hrest) ?k1 ?k2 ?k3 ?k4 ?k5 ?k6 ?k8 ?k9 ?_; (case k1 => k_asm); (case k2 => k_asm); (case k3 => k_asm); (case k4 => k_asm); (case k5 => k_asm); (case k6 => exact rfl); (case hrest => exact List.forall_mem_cons.mpr ⟨q30.1.symm, List.forall_mem_cons.mpr ⟨q30.2.1.symm, List.forall_mem_cons.mpr ⟨q30.2.2.symm, b30⟩⟩⟩); (case k8 => ktr_room); (case k9 => ktr_units); k_whole)
      rintro r1 led hh1 tk1 F1 N1 ⟨e1, vs1, c1, oc1, fs1, tq1, rfl, rfl, I1, hc1, hc2, hne1, hne2, hce, hlow⟩
      k_sweep
      (try dsimp only)
      k_steps
      refine LpEnd.intro ((e1, lst vs1) :: (c1, oc1) :: (30, tab30 c1) :: B0) (by k_asm) (by k_asm) (fun p hp => ?_) (fun p hp => ?_) trivial (.inr ⟨[(e1, lst vs1)], c1, oc1, fs1, tq1, rfl, hc1, hc2, ?_, ?_⟩)
      · simp only [List.mem_cons] at hp ⊢; grind
      · have u1 := hlow (I8, oI8) (.head _)
        have u2 := hlow (C8, oC8) (.tail _ (.head _))
        have u3 := hlow (D8, lst []) (.tail _ (.tail _ (.head _)))
        rcases List.mem_cons.mp hp with rfl | hp
        · exact ⟨Nat.ne_of_gt u1.1, Nat.ne_of_gt u2.1, Nat.ne_of_gt u3.1⟩
        · rcases List.mem_cons.mp hp with rfl | hp
          · exact ⟨Nat.ne_of_gt u1.2, Nat.ne_of_gt u2.2, Nat.ne_of_gt u3.2⟩
          · rcases List.mem_cons.mp hp with rfl | hp
            · exact q30
            · exact off8 p (.tail _ hp)
      · have key : (List.range (i + 1)).map th = [th i] := by rw [hi0]; rfl
        rw [key]
        exact (RowsAt.nil (led := [])).snoc (List.forall_mem_nil _) (.head _) (by rw [hth]; exact I1)
      · exact List.forall_mem_singleton.mpr fun q hq => (hlow q (.tail _ (.tail _ (.tail _ hq)))).1
    · have m30 : (30, tab30 c') ∈ (I8, oI8) :: (C8, oC8) :: (D8, lst ys) :: (tl ++ ((c', oc) :: (30, tab30 c') :: B0)) := by simp
      have mc' : (c', oc) ∈ (I8, oI8) :: (C8, oC8) :: (D8, lst ys) :: (tl ++ ((c', oc) :: (30, tab30 c') :: B0)) := by simp
      k_steps
      k_dflt (refine' says_use (lawThings w ⟨i, by omega⟩ _ c' oc fs tq hc1 hc2) ?k1 ?k2 ?k3 ?k4 ?k5 ?k6 ?k7 ?k8 ?k9 ?_; (case k1 => k_asm); (case k2 => k_asm); (case k3 => k_asm); (case k4 => k_asm); (case k5 => k_asm); (case k6 => exact rfl); (case k7 => exact ⟨m30, mc'⟩); (case k8 => ktr_room); (case k9 => ktr_units); k_whole)
      rintro r3 tl3 hh3 tk3 F3 N3 l3 ⟨e3, vs3, rfl, rfl, I3⟩
      rw [List.cons_append, List.nil_append] at N3
      k_sweep
      (try dsimp only)
      k_steps
      refine LpEnd.intro (((e3, lst vs3) :: tl) ++ ((c', oc) :: (30, tab30 c') :: B0)) (by k_asm) (by k_asm) (fun p hp => ?_) (fun p hp => ?_) trivial (.inr ⟨(e3, lst vs3) :: tl, c', oc, fs, tq, rfl, hc1, hc2, ?_, ?_⟩)
      · simp only [List.mem_cons, List.mem_append, List.cons_append] at hp ⊢; grind
      · have u1 := l3 (I8, oI8) (.head _) _ (.head _)
        have u2 := l3 (C8, oC8) (.tail _ (.head _)) _ (.head _)
        have u3 := l3 (D8, lst ys) (.tail _ (.tail _ (.head _))) _ (.head _)
        rcases List.mem_cons.mp hp with rfl | hp
        · exact ⟨Nat.ne_of_gt u1, Nat.ne_of_gt u2, Nat.ne_of_gt u3⟩
        · exact off8 p hp
      · rw [List.range_succ, List.map_append]
        exact hR.snoc (fun p hp => .tail _ hp) (.head _) (by rw [hth]; exact I3)
      · exact List.forall_mem_cons.mpr ⟨fun q hq => l3 q (.tail _ (.tail _ (.tail _ (List.mem_append_right _ (.tail _ (.tail _ hq)))))) _ (.head _), hlow⟩
  · rintro D h8 tk8 ys nw F8 N8 off8 low8 (⟨hi0, _, _⟩ | ⟨tl0, c', oc, fs, tq, rfl, hc1, hc2, hR, hlow⟩)
    · exact absurd hi0 (by decide)
    clear FB NB RB
    have yE : @LT.lt Nat _ lD D := low8 (lD, listOf nv.toArray 0) (.tail _ (by rw [hB0]; exact .head _))
    have nT : ∀ p ∈ tl0, @LT.lt Nat _ lD p.1 := fun p hp => hlow p hp (lD, listOf nv.toArray 0) (by rw [hB0]; exact .head _)
    replace N8 : News _ _ h8 ((D, lst ys) :: (B0 ++ ((30, tab30 c') :: tl0))) := kst_newsOf N8 fun p hp => by simp only [List.mem_cons, List.mem_append] at hp ⊢; grind
    rw [hB0] at N8
    simp only [List.cons_append, List.nil_append] at N8
    obtain ⟨tl, hTL⟩ : ∃ tl, tl = (30, tab30 c') :: tl0 := ⟨_, rfl⟩
    rw [← hTL] at N8
    have m1 : ∀ p ∈ tl, p.1 ≠ s1.heap.objs.size + 1 := by rw [hTL]; exact List.forall_mem_cons.mpr ⟨Nat.ne_of_lt (by omega), neOf nT (by omega)⟩
    have m2 : ∀ p ∈ tl, p.1 ≠ s1.heap.objs.size + 1 + 1 := by rw [hTL]; exact List.forall_mem_cons.mpr ⟨Nat.ne_of_lt (by omega), neOf nT (by omega)⟩
    have m3 : ∀ p ∈ tl, p.1 ≠ s1.heap.objs.size + 1 + 1 + 1 := by rw [hTL]; exact List.forall_mem_cons.mpr ⟨Nat.ne_of_lt (by omega), neOf nT (by omega)⟩
    have m4 : ∀ p ∈ tl, p.1 ≠ s1.heap.objs.size + 1 + 1 + 1 + 1 := by rw [hTL]; exact List.forall_mem_cons.mpr ⟨Nat.ne_of_lt (by omega), neOf nT (by omega)⟩
    have m0 : ∀ p ∈ tl, p.1 ≠ 37 := by rw [hTL]; exact List.forall_mem_cons.mpr ⟨(by show (30 : Nat) ≠ 37; decide), neOf nT (by omega)⟩
    obtain ⟨p30, t30⟩ : ∃ ps, (30, tabObj ps) ∈ tl := ⟨_, by rw [hTL]; exact .head _⟩
    clear low8 hlow off8 hB0 b30 hc1 hc2 nT
    obtain ⟨rows, rv, rk, hrow1, hrow2, hrow3⟩ := rows_fn hR (by rw [List.length_map, List.length_range])
    replace hrow2 : ∀ i, i < 8 → IntsAre (rv i) (th i) := fun i hi => by have := hrow2 i hi; rw [List.getD_eq_getElem?_getD, List.getElem?_map, List.getElem?_range hi] at this; exact this
    replace hrow3 : ∀ i, i < 8 → (rows i, listOf (rv i).toArray (rk i)) ∈ tl := fun i hi => by rw [hTL]; exact .tail _ (hrow3 i hi)
    clear hR hTL
    dsimp only
    k_steps
    rename IsRange _ _ _ _ _ _ _ _ => R1
    rename News _ _ _ _ => N1
    rename Fr _ _ _ _ => F1
    rename_i oT' _ _ dT' _ _ _ _ _ _
    have N1' := drop_news N1
    clear N1
    refine crng_loop (n := 8) (σ := Option (Addr × Obj) × Obj) (fun c => (s1.heap.objs.size + 1, c.2) :: (D, lst ys) :: (lD, listOf nv.toArray 0) :: (s1.heap.objs.size + 1 + 1 + 1 + 1, oM) :: (s1.heap.objs.size + 1 + 1 + 1, oG) :: (s1.heap.objs.size + 1 + 1, oT') :: (Tb c.1 ++ tl)) (fun _ => []) [] (fun i c => (∃ v, c.2.data = .cell v) ∧ (∀ q, c.1 = some q → @LT.lt Nat _ (s1.heap.objs.size + 1 + 1 + 1 + 1) q.1 ∧ ∃ fs tq, q.2.data = .fields fs ∧ fs[1]? = some (.str (Str.ofString "_digits2int.<locals>.inner") tq))) (none, oL) rfl R1 (by decide) (by rfl) F1 N1' (fun _ h => nomatch h) ⟨⟨_, dL⟩, fun q hq => nomatch hq⟩ ?_ ?_
    · rintro I i t ⟨cq, oLc⟩ u h tk own hi ⟨⟨vL, dLc⟩, hP⟩ hne ho hown F2 N2 -- SLOW
      dsimp only at hP dLc N2
      clear R1 N1' F1
      have hLI : s1.heap.objs.size + 1 ≠ I := hne _ (.head _)
      have hTb : ∀ p ∈ Tb cq, p.1 ≠ s1.heap.objs.size + 1 := Tb_ne (by omega) fun q hq => Nat.ne_of_gt (by have := (hP q hq).1; omega)
      have hal1 : ∀ p ∈ Tb cq ++ tl ++ own, p.1 ≠ s1.heap.objs.size + 1 := fun p hp => by
        rcases List.mem_append.mp hp with hp | hp
        · exact (List.mem_append.mp hp).elim (hTb p) (m1 p)
        · rw [hown p hp]; exact hLI.symm
      have mR : (rows i, listOf (rv i).toArray (rk i)) ∈ Tb cq ++ tl ++ own := List.mem_append_left _ (List.mem_append_right _ (hrow3 i hi))
      have q1 : ys[(i : Int).toNat]? = some (.ref (rows i)) := by rw [Int.toNat_natCast]; exact hrow1 i hi
      have Ii := hrow2 i hi
      simp only [List.cons_append] at N2
      rw [Int.zero_add]
      k_steps
      k_dflt (refine' ListComp_L (by k_asm) ?a1 ?a2 ?a3 ?a4 ?a5 ?_; (case a1 => with_unfolding_all rfl); (case a2 => decide); (case a3 => rfl); (case a4 => decide); (case a5 => rfl))
      k_steps
      rename IsRange _ _ _ _ _ _ _ _ => RB
      rename News _ _ _ _ => NB
      rename Fr _ _ _ _ => FB
      refine CpSrc.range 3 (fun j ys' nw' => nw' = _ ∧ IntsAre ys' ((List.range j).map fun t : Nat => if (th i).any (fun x => x == (t : Int)) = true then 1 else 0)) rfl FB NB RB (by decide) (by rfl) (by decide) ⟨rfl, .nil⟩ (turn_ints_L _ ?_) ?_
      · intro j v9 ys9 I9 oI9 C9 oC9 D9 m9 h9' tk9 E9 hk9 hP9 hoC9 hx9 hI9 F9 N9 off9
        obtain ⟨t9, rfl⟩ := hP9
        rw [Int.zero_add] at hx9
        clear FB NB RB
        k_steps
        exact EltI.intro (by k_asm) (by k_asm) (fun p hp => hp) rfl
      · intro Dd hd tkd vsd nwd Fd Nd offd lowd hJd
        obtain ⟨rfl, Id⟩ := hJd
        clear FB NB RB
        change IntsAre vsd (bits i) at Id
        rename_i oN _ _ dN _ _ _ _ _ _
        have yd : @LT.lt Nat _ D Dd := lowd (D, lst ys) (.tail _ (.head _))
        have hbv := bits_val ⟨i, hi⟩
        dsimp only at hbv
        obtain ⟨oI, hoI⟩ := ho
        k_steps
        cases cq with
        | none =>
          have I37 : I ≠ 37 := Ne.symm (hne (37, tabObj #[]) (by simp [Tb]))
          have m0' : ∀ p ∈ tl ++ own, p.1 ≠ 37 := fun p hp => by
            rcases List.mem_append.mp hp with hp | hp
            · exact m0 p hp
            · rw [hown p hp]; exact I37
          replace Nd := up37 Nd
          k_dflt (refine' saysM_use (digits2intCold w _ _ ?hrest Dd vsd (bits i) _ Id ?hq1 ?hq2 (bits_01 i) ?hq4) ?k1 ?k2 ?k3 ?k4 ?k5 ?k6 ?k8 ?k9 ?_; (case k1 => k_asm); (case k2 => k_asm); (case k3 => k_asm); (case k4 => k_asm); (case k5 => k_asm); (case k6 => exact rfl); (case hrest => k_all); (case hq1 => rw [bits_len]; decide); (case hq2 => rw [bits_len]; decide); (case hq4 => k_mem); (case k8 => ktr_room); (case k9 => ktr_units); k_whole)
          rintro r5 led5 h5 tk5 F5 N5 ⟨t5, c2, oc2, fs2, tq2, rfl, rfl, hd1, hd2, hne5, hlow5⟩
          k_sweep
          (try dsimp only)
          k_steps
          rename News _ _ _ _ => NN
          rename Fr _ _ _ _ => FF
          have hI2 : @LT.lt Nat _ I c2 := hlow5 (I, oI) (by simp [hoI])
          have hDc : @LT.lt Nat _ D c2 := hlow5 (D, lst ys) (.tail _ (.tail _ (.head _)))
          refine TurnEnd.intro (some (c2, oc2), oN) FF NN ?ho ?hl ?hne (fun _ h => nomatch h) ?hr ⟨⟨_, dN⟩, fun q hq => ?hq⟩
          case ho => intro p hp; simp [hp]
          case hl => exact fun p hp => by simp only [Tb, List.cons_append, List.nil_append, List.mem_cons, List.mem_append] at hp ⊢; grind
          case hne =>
            intro p hp
            simp only [Tb, List.cons_append, List.nil_append, List.mem_cons] at hp
            rcases hp with rfl | rfl | rfl | rfl | rfl | rfl | rfl | rfl | hp
            · exact hLI
            · exact hne (D, lst ys) (by simp)
            · exact hne (lD, listOf nv.toArray 0) (by simp)
            · exact hne (_, oM) (by simp)
            · exact hne (_, oG) (by simp)
            · exact hne (_, oT') (by simp)
            · exact Nat.ne_of_gt hI2
            · exact I37.symm
            · exact hne p (by simp [hp])
          case hr => intro z z1 z2 z3; simp [kstB, z1]
          case hq =>
            obtain rfl := Option.some.inj hq
            exact ⟨by show @LT.lt Nat _ _ c2; omega, fs2, tq2, hd1, hd2⟩
        | some q =>
          obtain ⟨hq0, fs, tq, hd1, hd2⟩ := hP q rfl
          k_dflt (refine' says_use (digits2int w _ q.1 q.2 fs tq hd1 hd2 Dd vsd (bits i) _ Id ?hq1 ?hq2 (bits_01 i)) ?k1 ?k2 ?k3 ?k4 ?k5 ?k6 ?k7 ?k8 ?k9 ?_; (case k1 => k_asm); (case k2 => k_asm); (case k3 => k_asm); (case k4 => k_asm); (case k5 => k_asm); (case k6 => exact rfl); (case hq1 => rw [bits_len]; decide); (case hq2 => rw [bits_len]; decide); (case k7 => exact ⟨by simp [Tb], by simp [Tb], by k_mem⟩); (case k8 => ktr_room); (case k9 => ktr_units); k_whole)
          rintro r5 tl5 h5 tk5 F5 N5 _ ⟨t5, rfl, rfl⟩
          rw [List.nil_append] at N5
          k_sweep
          (try dsimp only)
          k_steps
          rename News _ _ _ _ => NN
          rename Fr _ _ _ _ => FF
          refine TurnEnd.intro (some q, oN) FF NN ?ho ?hl ?hne (fun _ h => nomatch h) ?hr ⟨⟨_, dN⟩, hP⟩
          case ho => intro p hp; simp [hp]
          case hl => exact fun p hp => by simp only [List.cons_append, List.mem_cons, List.mem_append] at hp ⊢; grind
          case hne => exact List.forall_mem_cons.mpr ⟨hLI, fun p hp => hne p (.tail _ hp)⟩
          case hr => intro z z1 z2 z3; simp [kstB, z1]
    · rintro ⟨cq, oL2⟩ u h tk ⟨⟨vL, dL2⟩, hP⟩ F2 N2
      dsimp only at dL2 hP N2
      clear R1 N1' F1
      obtain ⟨tl, htl⟩ : ∃ x, x = Tb cq ++ tl := ⟨_, rfl⟩
      rw [← htl] at N2
      have m1 : ∀ p ∈ tl, p.1 ≠ s1.heap.objs.size + 1 := by rw [htl]; exact List.forall_mem_append.mpr ⟨Tb_ne (by omega) fun q hq => Nat.ne_of_gt (by have := (hP q hq).1; omega), m1⟩
      have m3 : ∀ p ∈ tl, p.1 ≠ s1.heap.objs.size + 1 + 1 + 1 := by rw [htl]; exact List.forall_mem_append.mpr ⟨Tb_ne (by omega) fun q hq => Nat.ne_of_gt (by have := (hP q hq).1; omega), m3⟩
      have m4 : ∀ p ∈ tl, p.1 ≠ s1.heap.objs.size + 1 + 1 + 1 + 1 := by rw [htl]; exact List.forall_mem_append.mpr ⟨Tb_ne (by omega) fun q hq => Nat.ne_of_gt (by have := (hP q hq).1; omega), m4⟩
      have t30 : (30, tabObj p30) ∈ tl := by rw [htl]; exact List.mem_append_right _ t30
      obtain ⟨p37, t37⟩ : ∃ ps, (37, tabObj ps) ∈ tl := by
        rw [htl]
        cases cq with
        | none => exact ⟨_, .head _⟩
        | some q => exact ⟨_, .tail _ (.head _)⟩
      have hrow3 : ∀ i, i < 8 → (rows i, listOf (rv i).toArray (rk i)) ∈ tl := fun i hi => by rw [htl]; exact List.mem_append_right _ (hrow3 i hi)
      clear htl hP m0 m2
      have zT : ∀ i, i < 8 → (rows i, listOf (rv i).toArray (rk i)) ∈ (s1.heap.objs.size + 1, oL2) :: (D, lst ys) :: (lD, listOf nv.toArray 0) :: (s1.heap.objs.size + 1 + 1 + 1 + 1, oM) :: (s1.heap.objs.size + 1 + 1 + 1, oG) :: (s1.heap.objs.size + 1 + 1, oT') :: tl := fun i hi => by simp [hrow3 i hi]
      k_steps
      k_dflt (refine' says_use (lawTold w lD D nv ys sg _ _ false iD hzs rows rv rk hrow1 hrow2) ?k1 ?k2 ?k3 ?k4 ?k5 ?k6 ?k7 ?k8 ?k9 ?_; (case k1 => k_asm); (case k2 => k_asm); (case k3 => k_asm); (case k4 => k_asm); (case k5 => k_asm); (case k6 => exact rfl); (case k7 => exact ⟨by k_mem, by k_mem, fun i hi => by have hr3 := hrow3 i hi; k_mem⟩); (case k8 => ktr_room); (case k9 => ktr_units); k_whole)
      rintro ra tla ha tka Fa Na la ⟨ea, va, ka, rfl, rfl, Ia⟩
      rw [List.cons_append, List.nil_append] at Na
      k_sweep
      (try dsimp only)
      have ya : @LT.lt Nat _ D ea := la (D, lst ys) (by k_mem) _ (.head _)
      clear la
      k_steps
      k_dflt (refine' says_use (lawTold w lD D nv ys sg _ _ true iD hzs rows rv rk hrow1 hrow2) ?k1 ?k2 ?k3 ?k4 ?k5 ?k6 ?k7 ?k8 ?k9 ?_; (case k1 => k_asm); (case k2 => k_asm); (case k3 => k_asm); (case k4 => k_asm); (case k5 => k_asm); (case k6 => exact rfl); (case k7 => exact ⟨by k_mem, by k_mem, fun i hi => by have hr3 := hrow3 i hi; k_mem⟩); (case k8 => ktr_room); (case k9 => ktr_units); k_whole)
      rintro rb tlb hb tkb Fb Nb lb ⟨eb, vb, kb, rfl, rfl, Ib⟩
      rw [List.cons_append, List.nil_append] at Nb
      k_sweep
      (try dsimp only)
      have yb : @LT.lt Nat _ ea eb := lb _ (.head _) _ (.head _)
      clear lb
      k_steps
      k_dflt (refine' says_use (lawTold w ea D va ys (told sg false) _ _ true Ia (told_len _ _) rows rv rk hrow1 hrow2) ?k1 ?k2 ?k3 ?k4 ?k5 ?k6 ?k7 ?k8 ?k9 ?_; (case k1 => k_asm); (case k2 => k_asm); (case k3 => k_asm); (case k4 => k_asm); (case k5 => k_asm); (case k6 => exact rfl); (case k7 => exact ⟨by k_mem, by k_mem, fun i hi => by have hr3 := hrow3 i hi; k_mem⟩); (case k8 => ktr_room); (case k9 => ktr_units); k_whole)
      rintro rc tlc hc tkc Fc Nc lc ⟨ec, vc, kc, rfl, rfl, Ic⟩
      rw [List.cons_append, List.nil_append] at Nc
      k_sweep
      (try dsimp only)
      rw [told_ft hzs] at Ic
      have yc : @LT.lt Nat _ eb ec := lc (eb, listOf vb.toArray kb) (by k_mem) _ (.head _)
      clear lc
      have hn0 : (!decide (sg = sg)) = false := by simp
      k_steps
      k_dflt (refine' says_use (lawTold w eb D vb ys (told sg true) _ _ false Ib (told_len _ _) rows rv rk hrow1 hrow2) ?k1 ?k2 ?k3 ?k4 ?k5 ?k6 ?k7 ?k8 ?k9 ?_; (case k1 => k_asm); (case k2 => k_asm); (case k3 => k_asm); (case k4 => k_asm); (case k5 => k_asm); (case k6 => exact rfl); (case k7 => exact ⟨by k_mem, by k_mem, fun i hi => by have hr3 := hrow3 i hi; k_mem⟩); (case k8 => ktr_room); (case k9 => ktr_units); k_whole)
      rintro rd tld hd tkd Fd Nd ld ⟨ed, vd, kd, rfl, rfl, Id⟩
      rw [List.cons_append, List.nil_append] at Nd
      k_sweep
      (try dsimp only)
      rw [told_tf hzs] at Id
      have yd : @LT.lt Nat _ ec ed := ld _ (.head _) _ (.head _)
      clear ld
      k_steps
      k_dflt (refine' says_use (lawByThings w lD D nv ys sg _ _ iD hzs rows rv rk hrow1 hrow2) ?k1 ?k2 ?k3 ?k4 ?k5 ?k6 ?k7 ?k8 ?k9 ?_; (case k1 => k_asm); (case k2 => k_asm); (case k3 => k_asm); (case k4 => k_asm); (case k5 => k_asm); (case k6 => exact rfl); (case k7 => exact ⟨by k_mem, by k_mem, fun i hi => by have hr3 := hrow3 i hi; k_mem⟩); (case k8 => ktr_room); (case k9 => ktr_units); k_whole)
      rintro re tle he tke Fe Ne le ⟨ee, ve, ke, rfl, rfl, Ie⟩
      rw [List.cons_append, List.nil_append] at Ne
      k_sweep
      (try dsimp only)
      rw [byt_told hzs] at Ie
      have ye : @LT.lt Nat _ ed ee := le _ (.head _) _ (.head _)
      clear le
      have hn1 : (!decide (told sg false = told sg false)) = false := by simp
      k_steps
      rename _root_.Fin 8 => X0
      rename News _ _ _ _ => Nf
      rename Fr _ _ _ _ => Ff
      rename_i oL3 dL3
      have Nf' := drop_f Nf
      have hX := X0.isLt
      clear Nf hn0 hn1 zT Ia Ib Ic Id Ie
      k_dflt (refine' Assign_ListComp_L (by k_asm) ?aL ?aS ?a1 ?a2 ?a3 ?a4 ?a5 ?aZ ?aP ?_; (case aL => exact rfl); (case aS => with_unfolding_all rfl); (case a1 => with_unfolding_all rfl); (case a2 => decide); (case a3 => rfl); (case a4 => decide); (case a5 => rfl); (case aZ => exact rfl); (case aP => exact rfl))
      k_steps
      rename IsRange _ _ _ _ _ _ _ _ => RB
      rename News _ _ _ _ => NB
      rename Fr _ _ _ _ => FB
      refine CpSrc.range 8 (fun j ys' nw' => nw' = _ ∧ IntsAre ys' ((List.range j).map fun o : Nat => if ((o : Int) == (X0.val : Int)) = true then 1 else 0)) rfl FB NB RB (by decide) (by rfl) (by decide) ⟨rfl, .nil⟩ ⟨turn_ints_L _ ?_, ?_⟩ (fun _ _ _ _ _ _ _ _ _ _ => trivial)
      · intro j v9 ys9 I9 oI9 C9 oC9 D9 m9 h9' tk9 E9 hk9 hP9 hoC9 hx9 hI9 F9 N9 off9 -- SLOW
        obtain ⟨t9, rfl⟩ := hP9
        rw [Int.zero_add] at hx9
        clear FB NB RB
        k_steps
        exact EltI.intro (by k_asm) (by k_asm) (fun p hp => hp) rfl
      · rintro news8 Dg hg tkg vsg nwg ⟨hnw8, _⟩ Fg Ng offg lowg ⟨hnwg, Ig⟩
        subst hnw8 hnwg
        clear FB NB RB
        change IntsAre vsg (alone X0.val) at Ig
        have yg : @LT.lt Nat _ D Dg := lowg (D, lst ys) (.tail _ (.head _))
        dsimp only
        k_steps
        k_dflt (refine' says_use (lawTold w Dg D vsg ys (alone X0.val) _ _ false Ig (alone_len _) rows rv rk hrow1 hrow2) ?k1 ?k2 ?k3 ?k4 ?k5 ?k6 ?k7 ?k8 ?k9 ?_; (case k1 => k_asm); (case k2 => k_asm); (case k3 => k_asm); (case k4 => k_asm); (case k5 => k_asm); (case k6 => exact rfl); (case k7 => exact ⟨by k_mem, by k_mem, fun i hi => by have hr3 := hrow3 i hi; k_mem⟩); (case k8 => ktr_room); (case k9 => ktr_units); k_whole)
        rintro rh tlh hh tkh Fh Nh lh ⟨eh, vh, kh, rfl, rfl, Ih⟩
        rw [List.cons_append, List.nil_append] at Nh
        k_sweep
        (try dsimp only)
        have yh : @LT.lt Nat _ Dg eh := lh _ (.head _) _ (.head _)
        clear lh
        k_steps
        k_dflt (refine' ListComp_C (by k_asm) ?a1 ?a2 ?a2' ?a3 ?a4 ?a5 ?_; (case a1 => with_unfolding_all rfl); (case a2 => exact fun _ => rfl); (case a2' => exact fun _ => rfl); (case a3 => rfl); (case a4 => decide); (case a5 => rfl))
        k_steps
        rename IsRange _ _ _ _ _ _ _ _ => RBv
        rename News _ _ _ _ => NBv
        rename Fr _ _ _ _ => FBv
        refine CpSrc.range 8 (fun j ys' nw' => nw' = _ ∧ IntsAre ys' ((List.range j).map fun o : Nat => if decide (out X0.val o = []) = true then 1 else 0)) rfl FBv NBv RBv (by decide) (by rfl) (by decide) ⟨rfl, .nil⟩ (turn_ints_C _ ?_) ?_
        · intro o v9 ys9 I9 oI9 C9 oC9 c9 oc9 D9 h9' tk9 E9 ho9 hP9 hoc9 hI9 F9 N9 off9 -- SLOW
          obtain ⟨t9, rfl⟩ := hP9
          rw [Int.zero_add] at hoc9
          clear FBv NBv RBv
          have q1 : ys[(X0.val : Int).toNat]? = some (.ref (rows X0.val)) := by rw [Int.toNat_natCast]; exact hrow1 _ hX
          have q2 : ys[(o : Int).toNat]? = some (.ref (rows o)) := by rw [Int.toNat_natCast]; exact hrow1 _ ho9
          have r1 := hrow3 _ hX
          have r2 := hrow3 _ ho9
          have z1 : (rv X0.val).length = (th X0.val).length := (hrow2 _ hX).length
          have z3 := th_len ⟨X0.val, hX⟩
          dsimp only at z3
          have Io := hrow2 _ ho9
          have hnil : IntsAre [] [] := .nil
          k_steps
          k_dflt (refine' ListComp_L (by k_asm) ?a1 ?a2 ?a3 ?a4 ?a5 ?_; (case a1 => with_unfolding_all rfl); (case a2 => decide); (case a3 => rfl); (case a4 => decide); (case a5 => rfl))
          k_steps
          rename News _ _ _ _ => N6
          rename Fr _ _ _ _ => F6
          refine CpSrc.list (fun k ys' nw' => nw' = _ ∧ IntsAre ys' (((th X0.val).take k).filter fun t => !((th o).any (· == t)))) rfl F6 N6 (by k_mem) (by rw [z1]; exact Nat.le_trans z3 (by decide)) ⟨rfl, .nil⟩ ?_ ?_
          · intro k v8 ys8 nw8 I8 oI8 C8 oC8 D8 m8 h8' tk8 E8 hk9 hP8 hl8 hoC8 hx8 F8 N8 off8 hS8 hJ8 -- SLOW
            obtain ⟨rfl, hI8⟩ := hJ8
            obtain ⟨t8, rfl⟩ := getq (hrow2 _ hX) hP8
            clear F6 N6
            refine wpAny_tests_one ?_
            k_steps
            · rename_i ha
              exact LpEnd.intro _ (by k_asm) (by k_asm) (fun p hp => hp) off8 hS8 ⟨rfl, take_no (z1 ▸ hk9) (fun h => by have h' : (!((th o).any fun x => x == (th X0.val).getD k 0)) = true := h; rw [ha] at h'; exact absurd h' (by decide)) hI8⟩
            · rename_i ha
              exact LpEnd.intro _ (by k_asm) (by k_asm) (fun p hp => hp) off8 hS8 ⟨rfl, take_yes (q := fun t => !((th o).any (· == t))) (z1 ▸ hk9) (by show (!((th o).any fun x => x == (th X0.val).getD k 0)) = true; rw [ha]; rfl) hI8⟩
          · intro D6 h6 tk6 vs6 nw6 F7 N7 off7 low7 hJ7
            obtain ⟨rfl, I7⟩ := hJ7
            rw [z1, List.take_length] at I7
            change IntsAre vs6 (out X0.val o) at I7
            clear F6 N6
            k_steps
            exact EltI.intro (by k_asm) (by k_asm) (fun p hp => .tail _ (.tail _ hp)) rfl
        · intro Dv hv tkv vsv nwv Fv Nv offv lowv hJv
          obtain ⟨rfl, Iv⟩ := hJv
          have yv : @LT.lt Nat _ eh Dv := lowv _ (.head _)
          change IntsAre vsv (holds X0.val) at Iv
          have hn2 := alone_told X0
          clear FBv NBv RBv
          k_steps
          rename _root_.Fin 5 => X1
          rename News _ _ _ _ => Nf
          rename Fr _ _ _ _ => Ff
          rename_i oG2 dG2
          have Np := drop_p Nf
          have hX1 := X1.isLt
          clear Nf hn2 Ig Ih Iv
          k_dflt (refine' Assign_ListComp_L (by k_asm) ?aL ?aS ?a1 ?a2 ?a3 ?a4 ?a5 ?aZ ?aP ?_; (case aL => exact rfl); (case aS => with_unfolding_all rfl); (case a1 => with_unfolding_all rfl); (case a2 => decide); (case a3 => rfl); (case a4 => decide); (case a5 => rfl); (case aZ => exact rfl); (case aP => exact rfl))
          k_steps
          rename IsRange _ _ _ _ _ _ _ _ => RB
          rename News _ _ _ _ => NB
          rename Fr _ _ _ _ => FB
          refine CpSrc.range 8 (fun j ys' nw' => nw' = _ ∧ IntsAre ys' ((List.range j).map fun l : Nat => ((th l).length : Int) ^ X1.val)) rfl FB NB RB (by decide) (by rfl) (by decide) ⟨rfl, .nil⟩ ⟨turn_ints_L _ ?_, ?_⟩ (fun _ _ _ _ _ _ _ _ _ _ => trivial)
          · intro j v9 ys9 I9 oI9 C9 oC9 D9 m9 h9' tk9 E9 hk9 hP9 hoC9 hx9 hI9 F9 N9 off9 -- SLOW
            obtain ⟨t9, rfl⟩ := hP9
            rw [Int.zero_add] at hx9
            clear FB NB RB
            have q2 : ys[(j : Int).toNat]? = some (.ref (rows j)) := by rw [Int.toNat_natCast]; exact hrow1 _ hk9
            have r2 := hrow3 _ hk9
            have Ij := hrow2 _ hk9
            have lj := th_len ⟨j, hk9⟩
            dsimp only at lj
            have hpa : ((th j).length : Int).natAbs < 2 ^ 64 := by omega
            k_steps
            exact EltI.intro (by k_asm) (by k_asm) (fun p hp => hp) (by rw [Int.toNat_natCast])
          · rintro news8 Dp hp tkp vsp nwp ⟨hnw8, _⟩ Fp Np offp lowp ⟨hnwp, Ip⟩
            subst hnw8 hnwp
            clear FB NB RB
            change IntsAre vsp (pw X1.val) at Ip
            have yp : @LT.lt Nat _ D Dp := lowp (D, lst ys) (.tail _ (.tail _ (.head _)))
            dsimp only
            k_steps
            k_dflt (refine' says_use (lawTold w Dp D vsp ys (pw X1.val) _ _ true Ip (pw_len _) rows rv rk hrow1 hrow2) ?k1 ?k2 ?k3 ?k4 ?k5 ?k6 ?k7 ?k8 ?k9 ?_; (case k1 => k_asm); (case k2 => k_asm); (case k3 => k_asm); (case k4 => k_asm); (case k5 => k_asm); (case k6 => exact rfl); (case k7 => exact ⟨by k_mem, by k_mem, fun i hi => by have hr3 := hrow3 i hi; k_mem⟩); (case k8 => ktr_room); (case k9 => ktr_units); k_whole)
            rintro ro tlo ho tko Fo No lo ⟨eo, vo, ko, rfl, rfl, Io⟩
            rw [List.cons_append, List.nil_append] at No
            k_sweep
            (try dsimp only)
            have yo : @LT.lt Nat _ Dp eo := lo _ (.head _) _ (.head _)
            clear lo
            k_steps
            rename News _ _ _ _ => Nl
            rename Fr _ _ _ _ => Fl
            rename_i lL _ lLl
            have yL : @LT.lt Nat _ eo lL := lLl.1
            obtain ⟨v3, Iv3, Nl'⟩ := three Nl
            clear Nl Ip
            refine clst_loop (σ := Obj × Obj) (fun c => (lL, listOf v3.toArray 0) :: (eo, listOf vo.toArray ko) :: (s1.heap.objs.size + 1, c.1) :: (s1.heap.objs.size + 1 + 1 + 1 + 1, c.2) :: (D, lst ys) :: (s1.heap.objs.size + 1 + 1 + 1, oG2) :: (s1.heap.objs.size + 1 + 1, oT') :: tl) (fun _ => []) [Str.ofString "rows"] (fun i c => (∃ v, c.1.data = .cell v) ∧ (∃ v, c.2.data = .cell v)) (oL3, oM) rfl (.head _) Fl Nl' (fun _ h => nomatch h) ⟨⟨_, dL3⟩, ⟨_, dM⟩⟩ ?_ ?_
            · rintro I i v ⟨oLc, oMc⟩ u h tk own hiv ⟨⟨vL, dLc⟩, ⟨vM, dMc⟩⟩ hne ho hown F2 N2 -- SLOW
              dsimp only at dLc dMc N2
              clear Nl' Fl
              obtain ⟨tv, rfl⟩ := getq Iv3 hiv
              have hi3 : i < 3 := by
                have := (List.getElem?_eq_some_iff.mp hiv).1
                rw [Iv3.length] at this
                exact this
              obtain ⟨l, hl, hl0, hlp⟩ := three_l ⟨i, hi3⟩
              dsimp only at hl
              rw [hl]
              have hl8 := l.isLt
              have hLI : s1.heap.objs.size + 1 ≠ I := hne _ (.tail _ (.tail _ (.head _)))
              have hMI : s1.heap.objs.size + 1 + 1 + 1 + 1 ≠ I := hne _ (.tail _ (.tail _ (.tail _ (.head _))))
              have hal1 : ∀ p ∈ tl ++ own, p.1 ≠ s1.heap.objs.size + 1 := fun p hp => (List.mem_append.mp hp).elim (m1 p) fun h => by
                rcases hown p h with e | e
                · rw [e]; exact hLI.symm
                · rw [e]; exact Nat.ne_of_gt (by omega)
              have hal4 : ∀ p ∈ tl ++ own, p.1 ≠ s1.heap.objs.size + 1 + 1 + 1 + 1 := fun p hp => (List.mem_append.mp hp).elim (m4 p) fun h => by
                rcases hown p h with e | e
                · rw [e]; exact hMI.symm
                · rw [e]; exact Nat.ne_of_gt (by omega)
              have q1 : ys[(l.val : Int).toNat]? = some (.ref (rows l.val)) := by rw [Int.toNat_natCast]; exact hrow1 _ hl8
              have r1 : (rows l.val, listOf (rv l.val).toArray (rk l.val)) ∈ tl ++ own := List.mem_append_left _ (hrow3 _ hl8)
              have Ij := hrow2 _ hl8
              have lj := th_len l
              simp only [List.cons_append] at N2
              k_steps
              k_dflt (refine' Assign_ListComp_C (by k_asm) ?aL ?aS ?a1 ?a2 ?a2' ?a3 ?a4 ?a5 ?aZ ?aP ?_; (case aL => exact rfl); (case aS => with_unfolding_all rfl); (case a1 => with_unfolding_all rfl); (case a2 => exact fun _ => rfl); (case a2' => exact fun _ => rfl); (case a3 => rfl); (case a4 => decide); (case a5 => rfl); (case aZ => exact rfl); (case aP => exact rfl))
              k_steps
              rename_i oL4 dL4 _ _ oM2 _ _ dM2
              have hm4 : (th l.val).length < 4 := Nat.lt_succ_of_le lj
              have hsM : Builtin.Range.small 0 (((th l.val).length : Nat) : Int) 1 = true := (by decide : ∀ i : _root_.Fin 4, Builtin.Range.small 0 (i.val : Int) 1 = true) ⟨_, hm4⟩
              have hzM : Builtin.Range.rangeSize 0 (((th l.val).length : Nat) : Int) 1 = (((th l.val).length : Nat) : Int) := (by decide : ∀ i : _root_.Fin 4, Builtin.Range.rangeSize 0 (i.val : Int) 1 = (i.val : Int)) ⟨_, hm4⟩
              k_dflt (refine' says_use (lawRows w (th l.val).length X1.val _ _ hm4 hX1) ?k1 ?k2 ?k3 ?k4 ?k5 ?k6 ?k7 ?k8 ?k9 ?_; (case k1 => k_asm); (case k2 => k_asm); (case k3 => k_asm); (case k4 => k_asm); (case k5 => k_asm); (case k6 => exact rfl); (case k7 => trivial); (case k8 => ktr_room); (case k9 => ktr_units); k_whole)
              rintro rr tlr hr tkr FR Nr lr ⟨er, yr, kr, tlr', rfl, rfl, hRr⟩
              replace Nr := swapN Nr
              simp only [List.cons_append, List.nil_append] at Nr
              k_sweep
              (try dsimp only)
              have yr0 : @LT.lt Nat _ lL er := lr (lL, listOf v3.toArray 0) (.head _) _ (.head _)
              have ho' : ∃ o, (I, o) ∈ own := ho
              have yrI : @LT.lt Nat _ I er := by obtain ⟨oI, hoI⟩ := ho'; exact lr (I, oI) (by simp [hoI]) _ (.head _)
              clear lr
              k_steps
              rename News _ _ _ _ => NB
              rename Fr _ _ _ _ => FB
              have h81 : yr.length ≤ 81 := by rw [hRr.1]; exact rowsN_81 ⟨_, hm4⟩ X1
              refine CpSrc.list (fun k ys' nw' => nw' = _ ∧ ys'.length = (((rowsN (th l.val).length X1.val).take k).filter (full (th l.val).length)).length) rfl FB NB (.head _) (Nat.le_trans h81 (by decide)) ⟨rfl, rfl⟩ ⟨?_, ?_⟩ (fun _ _ _ _ _ _ _ _ _ _ => trivial)
              · intro k v8 ys8 nw8 I8 oI8 C8 oC8 c8 oc8 D8 h8' tk8 E8 hk9 hP8 hl8 hoc8 F8 N8 off8 hS8 hJ8
                obtain ⟨rfl, hJl⟩ := hJ8
                obtain ⟨a8, va8, ka8, ya8, ma8, Ia8⟩ := hRr.2 k (by rw [← hRr.1]; exact hk9)
                obtain rfl := Option.some.inj (hP8.symm.trans ya8)
                have mA : (a8, listOf va8.toArray ka8) ∈ tl ++ own ++ tlr' := List.mem_append_right _ ma8
                have hnil : IntsAre [] [] := .nil
                clear FB NB
                refine wpAny_tests_one ?_
                k_steps
                k_dflt (refine' ListComp_L (by k_asm) ?a1 ?a2 ?a3 ?a4 ?a5 ?_; (case a1 => with_unfolding_all rfl); (case a2 => decide); (case a3 => rfl); (case a4 => decide); (case a5 => rfl))
                k_steps
                rename IsRange _ _ _ _ _ _ _ _ => R6
                rename News _ _ _ _ => N6
                rename Fr _ _ _ _ => F6
                refine CpSrc.range (th l.val).length (fun j ys' nw' => nw' = _ ∧ IntsAre ys' (((List.range j).map fun t : Nat => (t : Int)).filter fun t => !(((rowsN (th l.val).length X1.val).getD k []).any (· == t)))) rfl F6 N6 R6 hsM hzM (Nat.le_trans lj (by decide)) ⟨rfl, .nil⟩ ?_ ?_
                · intro j v7 ys7 nw7 I7 oI7 C7 oC7 D7 m7 h7' tk7 E7 hk7 hP7 hl7 hoC7 hx7 F7 N7 off7 hS7 hJ7
                  obtain ⟨rfl, hI7⟩ := hJ7
                  obtain ⟨t7, rfl⟩ := hP7
                  rw [Int.zero_add] at hx7
                  clear F6 N6 R6
                  refine wpAny_tests_one ?_
                  k_steps
                  · rename_i ha
                    exact LpEnd.intro _ (by k_asm) (by k_asm) (fun p hp => hp) off7 hS7 ⟨rfl, rc_no (by rw [ha]; rfl) hI7⟩
                  · rename_i ha
                    exact LpEnd.intro _ (by k_asm) (by k_asm) (fun p hp => hp) off7 hS7 ⟨rfl, rc_yes (by rw [ha]; rfl) hI7⟩
                · intro D6 h6 tk6 vs6 nw6 F7 N7 off7 low7 hJ7
                  obtain ⟨rfl, I7⟩ := hJ7
                  clear F6 N6 R6
                  k_steps
                  · rename_i ha
                    exact CpEnd.intro _ (by k_asm) (by k_asm) (fun p hp => .tail _ (.tail _ hp)) off8 hS8 ⟨rfl, by rw [List.length_append, List.length_singleton]; exact cnt_yes (hRr.1 ▸ hk9) ha hJl⟩
                  · rename_i ha
                    exact CpEnd.intro _ (by k_asm) (by k_asm) (fun p hp => .tail _ (.tail _ hp)) off8 hS8 ⟨rfl, cnt_no (hRr.1 ▸ hk9) ha hJl⟩
              · rintro news8 Dz hz tkz vz nwz ⟨hnw8, _⟩ Fz Nz offz lowz ⟨hnwz, hlz⟩
                subst hnw8 hnwz
                clear FB NB
                rw [hRr.1, List.take_length] at hlz
                have hpw := pw_rows X1 l hl0 hlp
                have hc81 : ((rowsN (th l.val).length X1.val).filter (full (th l.val).length)).length ≤ 81 := Nat.le_trans (List.length_filter_le _ _) (rowsN_81 ⟨_, hm4⟩ X1)
                obtain ⟨cN, hcN⟩ : ∃ cN, cN = ((rowsN (th l.val).length X1.val).filter (full (th l.val).length)).length := ⟨_, rfl⟩
                rw [← hcN] at hpw hc81 hlz
                have hcz : vz.toArray.size = cN := by rw [List.size_toArray]; exact hlz
                obtain ⟨tO, qO⟩ := getq' Io (i := l.val) (by rw [told_len]; exact hl8)
                have qO' : vo[(l.val : Int).toNat]? = some (.int ((told (pw X1.val) true).getD l.val 0) tO) := by rw [Int.toNat_natCast]; exact qO
                have yz : @LT.lt Nat _ er Dz := lowz _ (.head _)
                dsimp only
                k_steps
                rename News _ _ _ _ => NN
                rename Fr _ _ _ _ => FF
                refine TurnEnd.intro (oL4, oM2) FF NN ?ho ?hl ?hne (fun _ h => nomatch h) ?hr ⟨⟨_, dL4⟩, ⟨_, dM2⟩⟩
                case ho => intro p hp; simp [hp]
                case hl => exact fun p hp => by simp only [List.mem_cons, List.mem_append] at hp ⊢; grind
                case hne =>
                  refine List.forall_mem_cons.mpr ⟨hne _ (.head _), List.forall_mem_cons.mpr ⟨hne _ (.tail _ (.head _)), List.forall_mem_cons.mpr ⟨hLI, List.forall_mem_cons.mpr ⟨hMI, fun p hp => hne p (.tail _ (.tail _ (.tail _ (.tail _ hp))))⟩⟩⟩⟩
                case hr =>
                  intro z z1 z2 z3
                  have z4 : z ≠ Str.ofString "rows" := by
                    simp only [List.contains_cons, List.contains_nil, Bool.or_false, beq_eq_false_iff_ne, ne_eq] at z3; exact z3
                  simp [kstB, z1, z4]
            · rintro ⟨oLd, oMd⟩ u h tk ⟨_, _⟩ F2 N2
              clear Nl' Fl
              dsimp only at N2
              k_steps
              (try dsimp only)
              refine goodW_bool (by assumption) (by assumption) (raisesW_false ?w1) ?w2
              · wrow_none_raised
              · wrow_post)

end Mine
end

theorem PySem.Challenge.cw_gl0002_02_holds : PySem.Challenge.rw_gl0002_02.Holds := by
  exact Mine.lawHolds
