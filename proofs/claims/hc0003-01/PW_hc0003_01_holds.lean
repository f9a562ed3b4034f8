import PyProof.Rows.All
import Wide.All
import OpenK.AllK
import Wide.FinOn
import Lean
import PySem.Challenge.RW_hc0003_01
set_option Elab.async false
section
open PySem PySem.W PyProof.Rows
set_option maxRecDepth 100000
namespace Mine
open PySem PySem.W PySem.Spec PySem.Calls PyProof.Rows

/-! ## maps -/
def o1 (x : Str) (v : Value) (m : Str → Option Value) : Str → Option Value := fun y => if y = x then some v else m y
theorem o1_self {x : Str} {v : Value} {m : Str → Option Value} (h : m x = some v) : o1 x v m = m := by
  funext y
  show (if y = x then some v else m y) = m y
  by_cases hy : y = x
  · rw [if_pos hy, hy]; exact h.symm
  · rw [if_neg hy]
theorem fdiv2 (n : Nat) : (n : Int).fdiv 2 = ((n / 2 : Nat) : Int) := by
  rw [Int.fdiv_eq_ediv_of_nonneg _ (by decide)]; rfl

/-! ## the ledger -/
abbrev Led := List (Addr × Obj)
def IsL (news : Led) (a : Addr) (vs : List Value) : Prop := ∃ n, (a, W.listOf vs.toArray n) ∈ news
def IntL (news : Led) (a : Addr) (ns : List Int) : Prop := ∃ vs, IsL news a vs ∧ IntsAre vs ns
theorem IsL.mono {news news' : Led} {a : Addr} {vs : List Value} (h : IsL news a vs) (hs : ∀ q ∈ news, q.1 = a → q ∈ news') : IsL news' a vs := let ⟨n, hn⟩ := h; ⟨n, hs _ hn rfl⟩
theorem IntL.mono {news news' : Led} {a : Addr} {ns : List Int} (h : IntL news a ns) (hs : ∀ q ∈ news, q.1 = a → q ∈ news') : IntL news' a ns := let ⟨vs, hv, hi⟩ := h; ⟨vs, hv.mono hs, hi⟩

def off (D : Addr) (news : Led) : Led := news.filter fun p => decide (p.1 ≠ D)
def put (D : Addr) (o : Obj) (news : Led) : Led := (D, o) :: off D news
theorem mem_off {D : Addr} {news : Led} {q : Addr × Obj} : q ∈ off D news ↔ q ∈ news ∧ q.1 ≠ D := by
  unfold off; rw [List.mem_filter, decide_eq_true_eq]
theorem mem_put {D : Addr} {o : Obj} {news : Led} {q : Addr × Obj} (h : q ∈ news) (hn : q.1 ≠ D) : q ∈ put D o news := .tail _ (mem_off.mpr ⟨h, hn⟩)
theorem put_self {D : Addr} {o : Obj} {news : Led} : (D, o) ∈ put D o news := .head _
theorem news_put {h₀ h : Heap} {L D : Addr} {news : Led} {o : Obj} (N : News h₀ L h news) (hm : (D, o) ∈ news) : News h₀ L h (put D o news) := fun q hq => by
  rcases List.mem_cons.mp hq with rfl | hq
  · exact N _ hm
  · exact N _ (mem_off.mp hq).1
theorem upd_put {D : Addr} {o o' : Obj} {news : Led} : Upd D o o' (put D o news) (put D o' news) := .head fun _ hp => (mem_off.mp hp).2
theorem updF_put {D : Addr} {o : Obj} {news : Led} : UpdF D o (put D o news) (fun o' => put D o' news) := .head fun _ hp => (mem_off.mp hp).2
theorem news_inj {h₀ h : Heap} {L a : Addr} {news : Led} {o o' : Obj} (N : News h₀ L h news) (h1 : (a, o) ∈ news) (h2 : (a, o') ∈ news) : o = o' :=
  Option.some.inj ((N _ h1).1.symm.trans (N _ h2).1)
theorem news_ne {h₀ h : Heap} {L a b : Addr} {news : Led} {o o' : Obj} (N : News h₀ L h news) (h1 : (a, o) ∈ news) (h2 : (b, o') ∈ news) (hne : o ≠ o') : a ≠ b :=
  fun e => hne (news_inj N h1 (e ▸ h2))
theorem news_sub {h₀ h : Heap} {L : Addr} {news news' : Led} (N : News h₀ L h news) (hs : ∀ q ∈ news', q ∈ news) : News h₀ L h news' := fun q hq => N q (hs q hq)

theorem isList_of {h₀ h : Heap} {L a : Addr} {news : Led} {vs : List Value} (N : News h₀ L h news) (hl : IsL news a vs) : h.IsList a vs.toArray := by
  obtain ⟨n, hn⟩ := hl
  exact ⟨_, (N _ hn).1, rfl, n, rfl⟩

/-! ## ends of a body -/
def retOf : Flow → Value
  | .ret v => v
  | _ => .none
abbrev Post := Value → Led → Prop
def Ret (s : Shared) (g : Heap) (L : Addr) (old : Led) (W : Addr → Prop) (P : Post) (fl : Flow) (s' : Shared) : Prop :=
  ∃ m' news' h' tk', s' = { s with heap := h', toks := tk' } ∧ Fr g L h' m' ∧ News g L h' news' ∧ (∀ q ∈ old, ¬ W q.1 → q ∈ news') ∧ P (retOf fl) news'

structure Cx (K : Frag) (p : Program) (loose : List Str) (mean : ExcName → Option Value) (mg mb : Str → Option Value) (cs : Scope) (L : Addr) (outer : List Env) (A₀ : Around) (base h₀ h : Heap) (m : Str → Option Value) (news : Led) : Prop where
  B : Below A₀ base outer h₀
  F : Fr h₀ L h m
  X : K.In h₀
  N : News h₀ L h news
  T : Top p loose mean mg mb h₀
  C : CodeHd base 20 16
  hk : cs.kind = .function

theorem ret_leave {s₀ : Shared} {g h₀ h₁ : Heap} {L L' : Addr} {m : Str → Option Value} {old : Led} {W : Addr → Prop} {P : Post} {fl : Flow} {s' : Shared} {tk : Tok} {Q E : Value → Shared → Prop}
    (hr : Ret { s₀ with heap := h₁, toks := tk } g L' old W P fl s')
    (hq : ∀ v h' tk' new, Fr h₀ L h' m → News h₀ L h' new → (∀ q ∈ old, ¬ W q.1 → q ∈ new) → P v new → Q v { s₀ with heap := h', toks := tk' }) :
    LeaveK h₀ L m g (fun r s' => match r with | .ok (.ret v) => Q v s' | .ok _ => False | .error e => E e s') (retOf fl) s' := by
  obtain ⟨m', news', h', tk', rfl, F₂, N₂, hold, hP⟩ := hr
  refine leaveK_ F₂ N₂ fun F₃ N₃ => ?_
  exact hq (retOf fl) h' tk' news' F₃ N₃ hold hP

/-- what a call of the def at f does, handed args, over the ledger news -/
def Spec (prog : Program) (w : World) (K : Frag) (p : Program) (loose : List Str) (mean : ExcName → Option Value) (mg mb : Str → Option Value) (f : Addr) (args : List Value) (news : Led) (W : Addr → Prop) (D U : Nat) (P : Post) : Prop :=
  ∀ (dp un : Nat) (gd : Option (List Code)) (cn : Str) (cs : Scope) (a : Addr) (ccd : Value) (cl : List (Str × Addr)) (outer : List Env) (A₀ : Around) (base h₀ : Heap) (L : Addr) (m : Str → Option Value) (s : Shared) (Q E : Value → Shared → Prop),
    Cx K p loose mean mg mb cs L outer A₀ base h₀ s.heap m news → dp + D < recursionLimit → un + U < cLine →
    (∀ v h' tk' new, Fr h₀ L h' m → News h₀ L h' new → (∀ q ∈ news, ¬ W q.1 → q ∈ new) → P v new → Q v { s with heap := h', toks := tk' }) →
    wpAny (model prog w) (ktrTop dp un gd cn cs L a ccd cl outer) (call (.ref f) args) Q E s

section
variable {prog : Program} {w : World} {K : Frag} {p : Program} {loose : List Str} {mean : ExcName → Option Value} {mg mb : Str → Option Value} {f : Addr} {args : List Value} {news : Led} {W : Addr → Prop} {D U : Nat} {P : Post}

theorem spec_of {name qual : Str} {params : Arguments} {body : List Stmt} {scope : Scope} {dV kV doc pm cdv ct oc : Value} {an od : Option Addr} {osl : Array (Option Value)} {binds : List (Str × Value)}
    (ho : K.lookup f = some ⟨oc, od, .func (fnOf name qual params body scope dV kV doc pm an cdv ct), osl⟩) (hcd : codeIn K cdv qual = true)
    (hbind : ∀ S, peek K S (bindArgs (fnOf name qual params body scope dV kV doc pm an cdv ct) ⟨args, []⟩) = some binds) (hloc : ∀ y ∈ binds, scope.names.lookup y.1 = some .local)
    (h : ∀ (dp un : Nat) (gd : Option (List Code)) (outer : List Env) (A₀ : Around) (base g : Heap) (L' : Addr) (s : Shared),
      Cx K p loose mean mg mb scope L' outer A₀ base g s.heap (fun y => binds.reverse.lookup y) news → dp + D < recursionLimit → un + U < cLine →
      wpAny (model prog w) (ktrTop dp un gd qual scope L' f cdv [] outer) (execs body (envX qual scope L' f cdv [])) (Ret s g L' news W P) (fun _ _ => False) s)
    (hco : scope.isCoroutine = false) (hgen : scope.isGenerator = false) (hk : scope.kind = .function)
    (hcell : ∀ x ∈ scope.names, x.2 ≠ .cell) : Spec prog w K p loose mean mg mb f args news W (D + 1) (U + 3) P := by
  intro dp un gd cn cs a ccd cl outer A₀ base h₀ L m s Q E C hd hu hq
  refine wpAny_call (code_def (env := envX cn cs L a ccd cl) C.B C.F C.X C.N C.T rfl rfl C.hk ho hcd ?_ (kp_binds (C.X.keeps C.F.keep) hbind) hloc (fun g L' h₁ FG F' N' B' X' T' => ?_) hco hgen hk hcell)
  · show dp < recursionLimit
    omega
  · have hb := h (dp + 1) (un + 3) gd (envX cn cs L a ccd cl :: outer) (ktrTop dp un gd cn cs L a ccd cl outer) base g L' { s with heap := h₁, toks := s.toks + binds.length } ⟨B', F', X', N', T', C.C, hk⟩ (by omega) (by omega)
    exact wpAny_mono hb (fun fl s' hr => ret_leave (E := E) hr (fun v h' tk' new F' N' hold hP => hq v h' tk' new F' N' hold hP)) (fun _ _ x => x.elim)

/-- a def made in a body, of which the ledger tells -/
theorem spec_nest {name qual : Str} {params : Arguments} {body : List Stmt} {scope : Scope} {clos : List (Str × Addr)} {doc pm ctv : Value} {c' : Addr} {oc : Obj} {vs : Array Value} {t : Tok} {binds : List (Str × Value)}
    (hfn : (f, fnMade name qual params body scope clos doc pm c' ctv) ∈ news) (hc : (c', oc) ∈ news) (hcd : oc.data = .fields vs) (hcv : vs[1]? = some (.str qual t))
    (hbind : bindArgs (fnX name qual params body scope clos .none .none doc pm none (.ref c') ctv) ⟨args, []⟩ = pure binds) (hloc : ∀ y ∈ binds, scope.names.lookup y.1 = some .local)
    (h : ∀ (dp un : Nat) (gd : Option (List Code)) (outer : List Env) (A₀ : Around) (base g : Heap) (L' : Addr) (s : Shared),
      Cx K p loose mean mg mb scope L' outer A₀ base g s.heap (fun y => binds.reverse.lookup y) news → dp + D < recursionLimit → un + U < cLine →
      wpAny (model prog w) (ktrTop dp un gd qual scope L' f (.ref c') clos outer) (execs body (envX qual scope L' f (.ref c') clos)) (Ret s g L' news W P) (fun _ _ => False) s)
    (hco : scope.isCoroutine = false) (hgen : scope.isGenerator = false) (hk : scope.kind = .function)
    (hcell : ∀ x ∈ scope.names, x.2 ≠ .cell) : Spec prog w K p loose mean mg mb f args news W (D + 1) (U + 3) P := by
  intro dp un gd cn cs a ccd cl outer A₀ base h₀ L m s Q E C hd hu hq
  refine wpAny_call (code_nest (env := envX cn cs L a ccd cl) C.B C.F C.X C.N C.T rfl rfl C.hk hfn (codeRec_news C.N hc hcd hcv) ?_ (.of_eq hbind) hloc (fun g L' h₁ FG F' N' B' X' T' => ?_) hco hgen hk hcell)
  · show dp < recursionLimit
    omega
  · have hb := h (dp + 1) (un + 3) gd (envX cn cs L a ccd cl :: outer) (ktrTop dp un gd cn cs L a ccd cl outer) base g L' { s with heap := h₁, toks := s.toks + binds.length } ⟨B', F', X', N', T', C.C, hk⟩ (by omega) (by omega)
    exact wpAny_mono hb (fun fl s' hr => ret_leave (E := E) hr (fun v h' tk' new F' N' hold hP => hq v h' tk' new F' N' hold hP)) (fun _ _ x => x.elim)

/-- a def of the top some of whose names lie in cells -/
theorem spec_cells {name qual : Str} {params : Arguments} {body : List Stmt} {scope : Scope} {dV kV doc pm cdv ct oc : Value} {an od : Option Addr} {osl : Array (Option Value)} {binds : List (Str × Value)}
    (ho : K.lookup f = some ⟨oc, od, .func (fnOf name qual params body scope dV kV doc pm an cdv ct), osl⟩) (hcd : codeIn K cdv qual = true)
    (hbind : ∀ S, peek K S (bindArgs (fnOf name qual params body scope dV kV doc pm an cdv ct) ⟨args, []⟩) = some binds)
    (hkind : (binds.all fun y => scope.names.lookup y.1 == some .local || scope.names.lookup y.1 == some .cell) = true) (hnd : ((cellsFrom 0 scope.names []).map (·.1)).Nodup)
    (h : ∀ (dp un : Nat) (gd : Option (List Code)) (outer : List Env) (A₀ : Around) (base g : Heap) (L' : Addr) (s : Shared) (cells : Led),
      CellsAre (bindC (envOfC qual scope L' f cdv).kindOf binds fun _ => none) (cellsFrom (L' + 1) scope.names []) cells → (∀ q ∈ news, q.1 < L') →
      Cx K p loose mean mg mb scope L' outer A₀ base g s.heap (bindL (envOfC qual scope L' f cdv).kindOf binds fun _ => none) (cells ++ news) → dp + D < recursionLimit → un + U < cLine →
      wpAny (model prog w) (ktrTop dp un gd qual scope L' f cdv (cellsFrom (L' + 1) scope.names []) outer) (execs body (envX qual scope L' f cdv (cellsFrom (L' + 1) scope.names []))) (Ret s g L' news W P) (fun _ _ => False) s)
    (hco : scope.isCoroutine = false) (hgen : scope.isGenerator = false) (hk : scope.kind = .function) : Spec prog w K p loose mean mg mb f args news W (D + 1) (U + 3) P := by
  intro dp un gd cn cs a ccd cl outer A₀ base h₀ L m s Q E C hd hu hq
  refine wpAny_call (code_defC (env := envX cn cs L a ccd cl) C.B C.F C.X C.N C.T rfl rfl C.hk ho hcd ?_ (kp_binds (C.X.keeps C.F.keep) hbind) hkind hnd (fun g L' h₁ tk cells FG F' N' Y B' X' T' hlt => ?_) hco hgen hk)
  · show dp < recursionLimit
    omega
  · have hb := h (dp + 1) (un + 3) gd (envX cn cs L a ccd cl :: outer) (ktrTop dp un gd cn cs L a ccd cl outer) base g L' { s with heap := h₁, toks := tk } cells Y hlt ⟨B', F', X', N', T', C.C, hk⟩ (by omega) (by omega)
    exact wpAny_mono hb (fun fl s' hr => ret_leave (E := E) hr (fun v h' tk' new F' N' hold hP => hq v h' tk' new F' N' hold hP)) (fun _ _ x => x.elim)
theorem Spec.use (h : Spec prog w K p loose mean mg mb f args news W D U P) {dp un : Nat} {gd : Option (List Code)} {cn : Str} {cs : Scope} {a : Addr} {ccd : Value} {cl : List (Str × Addr)} {outer : List Env} {A₀ : Around} {base h₀ : Heap} {L : Addr} {m : Str → Option Value} {s : Shared} {Q E : Value → Shared → Prop}
    (C : Cx K p loose mean mg mb cs L outer A₀ base h₀ s.heap m news) (hd : dp + D < recursionLimit) (hu : un + U < cLine)
    (hq : ∀ v h' tk' new, Fr h₀ L h' m → News h₀ L h' new → (∀ q ∈ news, ¬ W q.1 → q ∈ new) → P v new → Q v { s with heap := h', toks := tk' }) :
    wpAny (model prog w) (ktrTop dp un gd cn cs L a ccd cl outer) (call (.ref f) args) Q E s := h _ _ _ _ _ _ _ _ _ _ _ _ _ _ _ _ _ C hd hu hq
end
end Mine
end
section
open PySem PySem.W PyProof.Rows
set_option maxRecDepth 100000
namespace Mine
open PySem PySem.W PySem.Spec PySem.Calls PyProof.Rows

section
variable {prog : Program} {w : World} {A : Around} {E : Value → Shared → Prop} {s : Shared} {h₀ : Heap} {L : Addr} {news : Led} {m : Str → Option Value}

theorem len_I {l : Addr} {vs : List Value} {Q : Value → Shared → Prop} (N : News h₀ L s.heap news) (hl : IsL news l vs) (hfit : vs.length < 2 ^ 40)
    (h : ∀ t tk, Q (.int vs.length t) { s with toks := tk }) : wpAny (model prog w) A (call (.builtin "len") [.ref l]) Q E s :=
  len_list (isList_of N hl) (by rw [List.size_toArray]; omega) (by rw [List.size_toArray]; exact h _ _)
theorem ints_get {vs : List Value} {ns : List Int} (hi : IntsAre vs ns) : ∀ {k : Nat}, k < ns.length → ∃ t, vs[k]? = some (.int (ns.getD k 0) t) := by
  induction hi with
  | nil => intro k hk; exact absurd hk (Nat.not_lt_zero _)
  | cons n t _ ih =>
    intro k hk
    cases k with
    | zero => exact ⟨t, rfl⟩
    | succ k => exact ih (Nat.lt_of_succ_lt_succ hk)
theorem len_IntL {l : Addr} {ns : List Int} {Q : Value → Shared → Prop} (N : News h₀ L s.heap news) (hl : IntL news l ns) (hfit : ns.length < 2 ^ 40)
    (h : ∀ t tk, Q (.int ns.length t) { s with toks := tk }) : wpAny (model prog w) A (call (.builtin "len") [.ref l]) Q E s := by
  obtain ⟨vs, hv, hi⟩ := hl
  have e := hi.length
  refine len_I N hv (by omega) fun t tk => ?_
  rw [e]; exact h t tk
theorem item_IntL {value slice : PySem.Expr} {l : Addr} {ns : List Int} {k : Int} {u : Tok} {Q : Value → Shared → Prop} (N : News h₀ L s.heap news) (hl : IntL news l ns) (h0 : 0 ≤ k) (h1 : k < ns.length) (hfit : k < 2 ^ 40)
    (h : ∀ t, Q (.int (ns.getD k.toNat 0) t) s)
    (hs : subscripted slice false (.ref l) (.int k u) = operate [.ref l, .int k u] (getItem (.ref l) (.int k u)) := by with_unfolding_all rfl) :
    wpAny (model prog w) A (subscriptTail value slice (.ref l) (.int k u)) Q E s := by
  obtain ⟨vs, hv, hi⟩ := hl
  obtain ⟨t, ht⟩ := ints_get hi (k := k.toNat) (by omega)
  exact item_litK (isList_of N hv) h0 (by omega) ht (h t) hs
theorem item_L {value slice : PySem.Expr} {l : Addr} {vs : List Value} {k : Int} {u : Tok} {v : Value} {Q : Value → Shared → Prop} (N : News h₀ L s.heap news) (hl : IsL news l vs) (h0 : 0 ≤ k) (hfit : k < 2 ^ 40) (hv : vs[k.toNat]? = some v)
    (h : Q v s)
    (hs : subscripted slice false (.ref l) (.int k u) = operate [.ref l, .int k u] (getItem (.ref l) (.int k u)) := by with_unfolding_all rfl) :
    wpAny (model prog w) A (subscriptTail value slice (.ref l) (.int k u)) Q E s :=
  item_litK (isList_of N hl) h0 (by omega) hv h hs

theorem ints_append {vs vs' : List Value} {ns ns' : List Int} (h : IntsAre vs ns) (h' : IntsAre vs' ns') : IntsAre (vs ++ vs') (ns ++ ns') := by
  induction h with
  | nil => exact h'
  | cons n t _ ih => exact .cons n t ih
theorem ints_take {vs : List Value} {ns : List Int} (h : IntsAre vs ns) : ∀ k, IntsAre (vs.take k) (ns.take k) := by
  induction h with
  | nil => intro k; simp; exact .nil
  | cons n t _ ih =>
    intro k
    cases k with
    | zero => exact .nil
    | succ k => exact .cons n t (ih k)
theorem ints_drop {vs : List Value} {ns : List Int} (h : IntsAre vs ns) : ∀ k, IntsAre (vs.drop k) (ns.drop k) := by
  induction h with
  | nil => intro k; simp; exact .nil
  | cons n t hr ih =>
    intro k
    cases k with
    | zero => exact .cons n t hr
    | succ k => exact ih k
theorem insert_L {D : Addr} {vs : List Value} {k : Int} {u : Tok} {y : Value} {Q : Value → Shared → Prop} (F : Fr h₀ L s.heap m) (N : News h₀ L s.heap news) (hl : IsL news D vs) (h0 : 0 ≤ k) (h1 : k ≤ vs.length) (hz : vs.length < 2 ^ 20)
    (h : ∀ h' n', Fr h₀ L h' m → News h₀ L h' (put D (W.listOf (vs.take k.toNat ++ y :: vs.drop k.toNat).toArray n') news) → Q .none { s with heap := h' }) :
    wpAny (model prog w) A (call (.builtin "list.insert") [.ref D, .int k u, y]) Q E s := by
  obtain ⟨n, hn⟩ := hl
  refine kl_insert (its := vs.toArray) (l := vs.take k.toNat ++ y :: vs.drop k.toNat) F (news_put N hn) ?_ ?_ upd_put (by have : sizeLine = 2 ^ 24 := rfl; simp; omega) fun h' F' N' => h h' _ F' N'
  · have : k < 2 ^ 63 := by omega
    show (decide _ && decide _) = true
    simp only [Bool.and_eq_true, decide_eq_true_eq]
    omega
  · unfold kl_ins
    rw [if_neg (by omega), List.toList_toArray, Nat.min_eq_left (by omega)]
theorem insert_IntL {D : Addr} {ns : List Int} {k : Int} {u u' : Tok} {y : Int} {Q : Value → Shared → Prop} (F : Fr h₀ L s.heap m) (N : News h₀ L s.heap news) (hl : IntL news D ns) (h0 : 0 ≤ k) (h1 : k ≤ ns.length) (hz : ns.length < 2 ^ 20)
    (h : ∀ h' new, Fr h₀ L h' m → News h₀ L h' new → (∀ q ∈ news, q.1 ≠ D → q ∈ new) → IntL new D (ns.take k.toNat ++ y :: ns.drop k.toNat) → Q .none { s with heap := h' }) :
    wpAny (model prog w) A (call (.builtin "list.insert") [.ref D, .int k u, .int y u']) Q E s := by
  obtain ⟨vs, hv, hi⟩ := hl
  have e := hi.length
  exact insert_L F N hv h0 (by omega) (by omega) fun h' n' F' N' => h h' _ F' N' (fun q hq hn => mem_put hq hn) ⟨_, ⟨n', put_self⟩, ints_append (ints_take hi _) (.cons _ _ (ints_drop hi _))⟩
theorem rshift_nat {a' n' : Int} {a n : Nat} {t u : Tok} {Q : Value → Shared → Prop} (ha : a' = a) (hn : n' = n) (h : ∀ t tk, Q (.int ((a / 2 ^ n : Nat) : Int) t) { s with toks := tk }) :
    wpAny (model prog w) A (binaryOp .RShift (.int a' t) (.int n' u)) Q E s := by
  subst ha hn
  refine rshift_int (by omega) ?_
  rw [Int.toNat_natCast, Int.fdiv_eq_ediv_of_nonneg _ (Int.pow_nonneg (by decide)), show ((a : Int) / 2 ^ n) = ((a / 2 ^ n : Nat) : Int) by rw [Int.natCast_ediv, Int.natCast_pow]; rfl]
  exact h _ _
theorem lshift_nat {a' n' : Int} {a n : Nat} {t u : Tok} {Q : Value → Shared → Prop} (ha : a' = a) (hn : n' = n) (h1 : a < 2 ^ 32) (h2 : n ≤ 1000) (h : ∀ t tk, Q (.int ((a * 2 ^ n : Nat) : Int) t) { s with toks := tk }) :
    wpAny (model prog w) A (binaryOp .LShift (.int a' t) (.int n' u)) Q E s := by
  subst ha hn
  refine lshift_int_small (by omega) (by omega) (by rw [Int.natAbs_natCast]; omega) ?_
  rw [Int.toNat_natCast, show ((a : Int) * 2 ^ n) = ((a * 2 ^ n : Nat) : Int) by rw [Int.natCast_mul, Int.natCast_pow]; rfl]
  exact h _ _
theorem setItem_IntL {D : Addr} {ns : List Int} {k : Int} {u u' : Tok} {y : Int} {Q : Unit → Shared → Prop} (F : Fr h₀ L s.heap m) (N : News h₀ L s.heap news) (hl : IntL news D ns) (h0 : 0 ≤ k) (h1 : k < ns.length) (hz : ns.length < 2 ^ 20)
    (h : ∀ h' new, Fr h₀ L h' m → News h₀ L h' new → (∀ q ∈ news, q.1 ≠ D → q ∈ new) → IntL new D (ns.set k.toNat y) → Q () { s with heap := h' }) :
    wpAny (model prog w) A (setItem (.ref D) (.int k u) (.int y u')) Q E s := by
  obtain ⟨vs, ⟨n, hn⟩, hi⟩ := hl
  exact ksa_set F (news_put N hn) upd_put hi h0 h1 (by omega) fun h' F' N' hi' _ _ => h h' _ F' N' (fun q hq hne => mem_put hq hne) ⟨_, ⟨n, put_self⟩, hi'⟩
theorem mul_IntL {l : Addr} {ns : List Int} {k' : Int} {k : Nat} {u : Tok} {Q : Value → Shared → Prop} (F : Fr h₀ L s.heap m) (N : News h₀ L s.heap news) (hl : IntL news l ns) (hk : k' = k) (h1 : ns.length ≤ 100) (h2 : k ≤ 100)
    (h : ∀ D h' new, Fr h₀ L h' m → News h₀ L h' new → (∀ q ∈ news, q ∈ new) → (∀ q ∈ news, q.1 < D) → IntL new D (List.replicate k ns).flatten → Q (.ref D) { s with heap := h' }) :
    wpAny (model prog w) A (binaryOp .Mult (.ref l) (.int k' u)) Q E s := by
  subst hk
  obtain ⟨vs, hv, hi⟩ := hl
  have e := hi.length
  refine KM.mul F N (isList_of N hv) hi (by omega) (by omega) (by rw [Int.toNat_natCast, e]; exact Nat.le_trans (Nat.mul_le_mul h1 h2) (by decide)) fun D h' F' N' hlt hI _ _ _ _ _ => ?_
  rw [Int.toNat_natCast] at hI
  exact h D h' _ F' N' (fun q hq => .tail _ hq) hlt ⟨_, ⟨0, .head _⟩, hI⟩
theorem store_C {cn : Str} {cs : Scope} {a : Addr} {ccd : Value} {cl : List (Str × Addr)} {x : Str} {c : Addr} {o : Obj} {v₀ : Option Value} {v : Value} {Q : Unit → Shared → Prop} (F : Fr h₀ L s.heap m) (N : News h₀ L s.heap news) (hc : cl.lookup x = some c) (hm : (c, o) ∈ news) (hd : o.data = .cell v₀)
    (h : ∀ h' o' new, Fr h₀ L h' m → News h₀ L h' new → (∀ q ∈ news, q.1 ≠ c → q ∈ new) → (c, o') ∈ new → o'.data = .cell (some v) → Q () { s with heap := h' })
    (hk : cs.kind = .function) (hx : (envX cn cs L a ccd cl).kindOf x = some .cell) : wpAny (model prog w) A (storeName (envX cn cs L a ccd cl) x v) Q E s :=
  storeX_C F (news_put N hm) hc updF_put hd (fun h' o' F' N' d' => h h' o' _ F' N' (fun q hq hn => mem_put hq hn) put_self d') hk hx
theorem method_L {name : Str} {id : String} {pl : Sem Bool} {D : Addr} {vs : List Value} {Q : Value × List Value → Shared → Prop} (N : News h₀ L s.heap news) (hl : IsL news D vs) (slot : Slot "list" name id) (hty : typeOf (.builtin id) = pure (.type "method_descriptor"))
    (h : Q (.builtin id, [.ref D]) s) : wpAny (model prog w) A (getMethod (.ref D) name pl) Q E s :=
  let ⟨_, hn⟩ := hl
  kl_method N hn slot hty h
theorem method_IntL {name : Str} {id : String} {pl : Sem Bool} {D : Addr} {ns : List Int} {Q : Value × List Value → Shared → Prop} (N : News h₀ L s.heap news) (hl : IntL news D ns) (slot : Slot "list" name id) (hty : typeOf (.builtin id) = pure (.type "method_descriptor"))
    (h : Q (.builtin id, [.ref D]) s) : wpAny (model prog w) A (getMethod (.ref D) name pl) Q E s :=
  let ⟨_, hn, _⟩ := hl
  method_L N hn slot hty h
end
/-- a goal that the walk leaves to the hand -/
def Hold (P : Prop) : Prop := P
theorem hold {P : Prop} (h : Hold P) : P := h
end Mine
end
section
open PySem PySem.W PyProof.Rows
set_option maxRecDepth 100000
set_option maxHeartbeats 8000000
namespace Mine
open_top hd for PySem.Challenge.rw_hc0003_01
end Mine
end
section
open PySem PySem.W PyProof.Rows
set_option maxRecDepth 100000
set_option maxHeartbeats 8000000
namespace Mine
open PySem PySem.W PySem.Spec PySem.Calls PyProof.Rows

/-- where x is to go in ns -/
def BisAt (ns : List Int) (x : Int) (r : Nat) : Prop := r ≤ ns.length ∧ (∀ i, i < r → ns.getD i 0 < x) ∧ ∀ i, r ≤ i → i < ns.length → x ≤ ns.getD i 0

local macro_rules | `(tactic| walk_at "exec While Compare cons nil") => `(tactic| refine hold ?_)
local macro_rules | `(tactic| walk_at "call builtin:len") => `(tactic| ((with_reducible show wpAny _ _ (call (Value.builtin "len") [Value.ref _]) _ _ _); refine len_IntL (by assumption) (by assumption) (by omega) ?_; intro _ _))
local macro_rules | `(tactic| walk_at "subscriptTail") => `(tactic| ((with_reducible show wpAny _ _ (subscriptTail _ _ (Value.ref _) (Value.int _ _)) _ _ _); refine item_IntL (by assumption) (by assumption) (by omega) (by omega) (by omega) ?_; intro _))
theorem bisect_spec {prog : Program} {w : World} {p : Program} {loose : List Str} {mean : ExcName → Option Value} {mg mb : Str → Option Value}
    {news : Led} {l : Addr} {ns : List Int} {x : Int} {tx : Tok} {args : List Value} (hargs : args = [.ref l, .int x tx] ∨ ∃ t0, args = [.ref l, .int x tx, .int 0 t0, .none]) (hl : IntL news l ns) (hlen : ns.length ≤ 1000) (hs : ∀ i j, i < j → j < ns.length → ns.getD i 0 ≤ ns.getD j 0) :
    Spec prog w (hd.heap_39 w.params) p loose mean mg mb 39 args news (fun _ => False) 2 16 (fun v _ => ∃ r t, v = .int (r : Nat) t ∧ BisAt ns x r) := by
  rcases hargs with rfl | ⟨t0, rfl⟩
  all_goals (
    refine' spec_of (D := 1) (U := 13) (K := hd.heap_39 w.params) ?ho ?hc ?hb ?hl ?h ?a ?b ?c ?hcell
    case ho => k_is
    case hc => k_is
    case hb => exact fun _ => rfl
    case hl => exact locs rfl
    case a => exact rfl
    case b => exact rfl
    case c => exact rfl
    case hcell => decide
    intro dp un gd outer A₀ base g L' s C hdp hun
    obtain ⟨B, F, X, N, T, CH, hk⟩ := C
    repeat' (first | walk1 | (dsimp only; walk1))
    unfold Hold
    rename Fr _ _ _ _ => F₁
    rename News _ _ _ _ => N₁
    refine While_inv2 (fun n m₁ news₁ => news₁ = news ∧ ∃ (lo hi : Nat) (tl th : Tok), m₁ "a" = some (.ref l) ∧ m₁ "x" = some (.int x tx) ∧ m₁ "lo" = some (.int lo tl) ∧ m₁ "hi" = some (.int hi th) ∧ lo ≤ hi ∧ hi ≤ ns.length ∧ (∀ i, i < lo → ns.getD i 0 < x) ∧ (∀ i, hi ≤ i → i < ns.length → x ≤ ns.getD i 0) ∧ n = hi - lo) F₁ N₁ ⟨rfl, 0, ns.length, _, _, rfl, rfl, rfl, rfl, Nat.zero_le _, Nat.le_refl _, fun i h => absurd h (Nat.not_lt_zero _), fun i h h' => absurd h' (Nat.not_lt.mpr h), rfl⟩ ?_ PassesOwn.never
    rintro n m₁ news₁ h₁ tk₁ F₂ N₂ ⟨rfl, lo, hi, tl, th, e1, e2, e3, e4, hlh, hhl, hlow, hhigh, rfl⟩
    clear F₁ N₁
    replace F₂ : Fr g L' h₁ (o1 "a" (.ref l) (o1 "x" (.int x tx) (o1 "lo" (.int lo tl) (o1 "hi" (.int hi th) m₁)))) := by simp only [o1_self e1, o1_self e2, o1_self e3, o1_self e4]; exact F₂
    repeat' (first | walk1 | (dsimp only; walk1))
    · have e : ((lo : Int) + hi).fdiv 2 = ((lo + hi) / 2 : Nat) := by rw [← Int.natCast_add, fdiv2]
      simp only [e] at *
      have h1 : (lo + hi) / 2 < hi := by omega
      have h2 : lo ≤ (lo + hi) / 2 := by omega
      generalize (lo + hi) / 2 = mid at *
      repeat' (first | walk1 | (dsimp only; walk1))
      · rename ns.getD (↑mid : Int).toNat 0 < x => hb
        exact ⟨_, _, _, _, hi - (mid + 1), rfl, by assumption, by assumption, by omega, rfl, mid + 1, hi, _, th, rfl, rfl, rfl, rfl, by omega, hhl,
          fun i h => Int.lt_of_le_of_lt (by
            rcases Nat.lt_or_ge i mid with h3 | h3
            · exact hs i mid h3 (by omega)
            · obtain rfl : i = mid := by omega
              exact Int.le_refl _) hb, hhigh, rfl⟩
      · rename ¬ ns.getD (↑mid : Int).toNat 0 < x => hb
        exact ⟨_, _, _, _, mid - lo, rfl, by assumption, by assumption, by omega, rfl, lo, mid, tl, _, rfl, rfl, rfl, rfl, by omega, by omega, hlow,
          fun i h h' => Int.le_trans (Int.not_lt.mp hb) (by
            rcases Nat.lt_or_ge mid i with h3 | h3
            · exact hs mid i h3 h'
            · obtain rfl : i = mid := by omega
              exact Int.le_refl _), rfl⟩
    · obtain rfl : lo = hi := by omega
      exact ⟨_, _, _, _, rfl, F₂, N₂, fun q hq _ => hq, lo, tl, rfl, hhl, hlow, hhigh⟩)
end Mine
end
section
open PySem PySem.W PyProof.Rows
set_option maxRecDepth 100000
set_option maxHeartbeats 8000000
namespace Mine
open PySem PySem.W PySem.Spec PySem.Calls PyProof.Rows

local macro_rules | `(tactic| walk_at "call ref") => `(tactic| refine hold ?_)
local macro_rules | `(tactic| walk_at "getMethod ref") => `(tactic| ((with_reducible show wpAny _ _ (getMethod (Value.ref _) (PySem.Str.ofString "insert") _) _ _ _); refine method_IntL (by assumption) (by assumption) PySem.F.slot_list_insert PySem.F.type_list_insert ?_))
local macro_rules | `(tactic| walk_at "call builtin:list.insert") => `(tactic| refine hold ?_)
local macro_rules | `(tactic| walk_at "no such place") => `(tactic| skip)
theorem insort_spec {prog : Program} {w : World} {p : Program} {loose : List Str} {mean : ExcName → Option Value} {mg mb : Str → Option Value}
    {news : Led} {l : Addr} {ns : List Int} {x : Int} {tx : Tok} (hl : IntL news l ns) (hlen : ns.length ≤ 1000) (hs : ∀ i j, i < j → j < ns.length → ns.getD i 0 ≤ ns.getD j 0) :
    Spec prog w (hd.heap_39 w.params) p loose mean mg mb 30 [.ref l, .int x tx] news (fun b => b = l) 4 32 (fun v new => ∃ r, BisAt ns x r ∧ IntL new l (ns.take r ++ x :: ns.drop r)) := by
  refine' spec_of (D := 3) (U := 29) (K := hd.heap_39 w.params) ?ho ?hc ?hb ?hl ?h ?a ?b ?c ?hcell
  case ho => k_is
  case hc => k_is
  case hb => exact fun _ => rfl
  case hl => exact locs rfl
  case a => exact rfl
  case b => exact rfl
  case c => exact rfl
  case hcell => decide
  intro dp un gd outer A₀ base g L' s C hdp hun
  obtain ⟨B, F, X, N, T, CH, hk⟩ := C
  repeat' (first | walk1 | (dsimp only; walk1))
  unfold Hold
  refine (bisect_spec (args := _) (Or.inr ⟨_, rfl⟩) hl hlen hs).use ⟨B, F, X, N, T, CH, hk⟩ (by omega) (by omega) ?_
  rintro v h₁ tk₁ new₁ F₁ N₁ hold₁ ⟨r, t, rfl, hr⟩
  have hl₁ : IntL new₁ l ns := hl.mono fun q hq _ => hold₁ q hq id
  clear N F hl
  try dsimp only
  repeat' (first | walk1 | (dsimp only; walk1))
  unfold Hold
  rename Fr _ _ _ _ => F₂
  rename News _ _ _ _ => N₂
  refine insert_IntL F₂ N₂ hl₁ (by omega) (by have := hr.1; omega) (by omega) fun h₃ new F₃ N₃ hold hl₃ => ?_
  repeat' (first | walk1 | (dsimp only; walk1))
  exact ⟨_, _, _, _, rfl, F₃, N₃, fun q hq hn => hold q (hold₁ q hq id) hn, r, hr, hl₃⟩
end Mine
end
section
set_option maxRecDepth 100000
namespace Mine
/-! ## the tree, in plain Lean -/
/-- above, as a function -/
def par (ab : List Int) (p : Nat) : Nat := (ab.getD p 0).toNat
structure Tree (ab : List Int) : Prop where
  len : ab.length ≤ 13
  zero : ab.getD 0 0 = 0
  pos : 0 < ab.length
  up : ∀ p, 0 < p → p < ab.length → 0 ≤ ab.getD p 0 ∧ ab.getD p 0 < p
theorem Tree.par_lt {ab : List Int} (T : Tree ab) {p : Nat} (h : 0 < p) (hl : p < ab.length) : par ab p < p := by
  have := T.up p h hl
  unfold par; omega
theorem Tree.par_eq {ab : List Int} (T : Tree ab) {p : Nat} (hl : p < ab.length) : ab.getD p 0 = (par ab p : Nat) := by
  unfold par
  rcases Nat.eq_zero_or_pos p with rfl | h
  · rw [T.zero]; rfl
  · have := T.up p h hl
    omega
theorem Tree.par_zero {ab : List Int} (T : Tree ab) : par ab 0 = 0 := by unfold par; rw [T.zero]; rfl
theorem Tree.par_in {ab : List Int} (T : Tree ab) {p : Nat} (hl : p < ab.length) : par ab p < ab.length := by
  rcases Nat.eq_zero_or_pos p with rfl | h
  · rw [T.par_zero]; exact T.pos
  · exact Nat.lt_trans (T.par_lt h hl) hl
theorem Tree.par_le {ab : List Int} (T : Tree ab) {p : Nat} (hl : p < ab.length) : par ab p ≤ p := by
  rcases Nat.eq_zero_or_pos p with rfl | h
  · rw [T.par_zero]; exact Nat.le_refl _
  · exact Nat.le_of_lt (T.par_lt h hl)

def rowF (A : Nat → Nat) : Nat → Nat → List Nat
  | 0, p => [p]
  | f + 1, p => if p = 0 then [0] else rowF A f (A p) ++ [p]
theorem rowF_stable {A : Nat → Nat} {n : Nat} (hA : ∀ p, 0 < p → p < n → A p < p) : ∀ f p, p < n → p ≤ f → rowF A f p = rowF A p p := by
  intro f
  induction f using Nat.strongRecOn with
  | ind f ih =>
    intro p hn hp
    cases f with
    | zero => obtain rfl : p = 0 := Nat.le_zero.mp hp; rfl
    | succ f =>
      cases p with
      | zero => rfl
      | succ p =>
        have h1 := hA (p + 1) (Nat.succ_pos _) hn
        show (if p + 1 = 0 then [0] else rowF A f (A (p + 1)) ++ [p + 1]) = (if p + 1 = 0 then [0] else rowF A p (A (p + 1)) ++ [p + 1])
        rw [if_neg (by omega), if_neg (by omega), ih f (by omega) (A (p + 1)) (by omega) (by omega)]
        rw [ih p (by omega) (A (p + 1)) (by omega) (by omega)]
def row (ab : List Int) (p : Nat) : List Nat := rowF (par ab) p p
theorem row_zero {ab : List Int} : row ab 0 = [0] := rfl
theorem row_succ {ab : List Int} (T : Tree ab) {p : Nat} (h : 0 < p) (hl : p < ab.length) : row ab p = row ab (par ab p) ++ [p] := by
  obtain ⟨q, rfl⟩ := Nat.exists_eq_add_of_lt h
  have h1 := T.par_lt h hl
  unfold row
  rw [show 0 + q + 1 = q + 1 by omega] at *
  show (if q + 1 = 0 then [0] else rowF (par ab) q (par ab (q + 1)) ++ [q + 1]) = _
  rw [if_neg (by omega), rowF_stable (n := ab.length) (fun p => T.par_lt) q _ (by omega) (by omega)]
def ofN (l : List Nat) : List Int := l.map Int.ofNat
theorem ofN_len (l : List Nat) : (ofN l).length = l.length := List.length_map _
theorem ofN_getD (l : List Nat) (i : Nat) : (ofN l).getD i 0 = (l.getD i 0 : Nat) := by
  unfold ofN
  simp only [List.getD_eq_getElem?_getD, List.getElem?_map]
  cases l[i]? <;> rfl
/-- a row rises -/
theorem row_bound {ab : List Int} (T : Tree ab) : ∀ p, p < ab.length → ∀ q ∈ row ab p, q ≤ p := by
  intro p
  induction p using Nat.strongRecOn with
  | ind p ih =>
    intro hl q hq
    rcases Nat.eq_zero_or_pos p with rfl | h
    · rw [row_zero] at hq; rw [List.mem_singleton.mp hq]; exact Nat.le_refl _
    · rw [row_succ T h hl] at hq
      have h1 := T.par_lt h hl
      rcases List.mem_append.mp hq with hq | hq
      · have := ih _ h1 (Nat.lt_trans h1 hl) q hq; omega
      · rw [List.mem_singleton.mp hq]; exact Nat.le_refl _
theorem row_rises {ab : List Int} (T : Tree ab) : ∀ p, p < ab.length → (row ab p).Pairwise (· < ·) := by
  intro p
  induction p using Nat.strongRecOn with
  | ind p ih =>
    intro hl
    rcases Nat.eq_zero_or_pos p with rfl | h
    · rw [row_zero]; exact List.pairwise_singleton _ _
    · rw [row_succ T h hl]
      have h1 := T.par_lt h hl
      refine List.pairwise_append.mpr ⟨ih _ h1 (Nat.lt_trans h1 hl), List.pairwise_singleton _ _, fun a ha b hb => ?_⟩
      rw [List.mem_singleton.mp hb]
      have := row_bound T _ (Nat.lt_trans h1 hl) a ha
      omega
theorem row_len {ab : List Int} (T : Tree ab) : ∀ p, p < ab.length → (row ab p).length ≤ p + 1 := by
  intro p
  induction p using Nat.strongRecOn with
  | ind p ih =>
    intro hl
    rcases Nat.eq_zero_or_pos p with rfl | h
    · rw [row_zero]; exact Nat.le_refl _
    · rw [row_succ T h hl, List.length_append, List.length_singleton]
      have h1 := T.par_lt h hl
      have := ih _ h1 (Nat.lt_trans h1 hl)
      omega
theorem sorted_of_rises {l : List Nat} (h : l.Pairwise (· < ·)) : ∀ i j, i < j → j < l.length → l.getD i 0 < l.getD j 0 := by
  intro i j hij hj
  have := List.pairwise_iff_getElem.mp h i j (by omega) hj hij
  simpa [List.getD_eq_getElem?_getD, List.getElem?_eq_getElem hj, List.getElem?_eq_getElem (Nat.lt_trans hij hj)] using this
end Mine
end
section
open PySem PySem.W PyProof.Rows
set_option maxRecDepth 100000
set_option maxHeartbeats 8000000
namespace Mine
open PySem PySem.W PySem.Spec PySem.Calls PyProof.Rows

theorem bis_zero {ns : List Int} {x : Int} {r : Nat} (h : BisAt ns x r) (hx : ∀ n ∈ ns, x < n) : r = 0 := by
  rcases Nat.eq_zero_or_pos r with e | hr
  · exact e
  · exfalso
    have h1 := h.2.1 0 hr
    have h2 := h.1
    have h3 : ns.getD 0 0 ∈ ns := by
      rw [List.getD_eq_getElem?_getD, List.getElem?_eq_getElem (by omega)]
      exact List.getElem_mem _
    have := hx _ h3
    omega

local macro_rules | `(tactic| walk_at "call ref") => `(tactic| refine hold ?_)
local macro_rules | `(tactic| walk_at "exec While Compare cons nil") => `(tactic| refine hold ?_)
local macro_rules | `(tactic| walk_at "subscriptTail") => `(tactic| refine hold ?_)
theorem row_spec {prog : Program} {w : World} {p : Program} {loose : List Str} {mean : ExcName → Option Value} {mg mb : Str → Option Value}
    {news : Led} {la : Addr} {ab : List Int} {pl : Nat} {tp : Tok} (T₀ : Tree ab) (hla : IntL news la ab) (hpl : pl < ab.length) :
    Spec prog w (hd.heap_39 w.params) p loose mean mg mb 58 [.ref la, .int pl tp] news (fun _ => False) 6 48 (fun v new => ∃ l, v = .ref l ∧ IntL new l (ofN (row ab pl)) ∧ ∀ q ∈ news, q.1 ≠ l) := by
  refine' spec_of (D := 5) (U := 45) (K := hd.heap_39 w.params) ?ho ?hc ?hb ?hl ?h ?a ?b ?c ?hcell
  case ho => k_is
  case hc => k_is
  case hb => exact fun _ => rfl
  case hl => exact locs rfl
  case a => exact rfl
  case b => exact rfl
  case c => exact rfl
  case hcell => decide
  intro dp un gd outer A₀ base g L' s C hdp hun
  obtain ⟨B, F, X, N, T, CH, hk⟩ := C
  repeat' (first | walk1 | (dsimp only; walk1))
  unfold Hold
  rename Fr _ _ _ _ => F₁
  rename News _ _ _ _ => N₁
  rename (∀ p ∈ news, p.1 < _) => hlt
  rename_i l hA hB
  try clear N F
  have hrl := row_len T₀ pl hpl
  have hT13 := T₀.len
  refine While_inv2 (n₀ := pl) (fun n m₁ news₁ => (∀ q ∈ news, q ∈ news₁) ∧ ∃ (q : Nat) (tq : Tok) (ns pre : List Nat), m₁ "above" = some (.ref la) ∧ m₁ "place" = some (.int q tq) ∧ m₁ "order" = some (.ref l) ∧
    IntL news₁ l (ofN ns) ∧ row ab pl = pre ++ ns ∧ row ab q = pre ++ [q] ∧ q < ab.length ∧ (∀ x ∈ ns, q ≤ x) ∧ ns.Pairwise (· < ·) ∧ n = q) F₁ N₁ ?start ?_ PassesOwn.never
  case start =>
    have hrow : ∃ pre, row ab pl = pre ++ [pl] := by
      rcases Nat.eq_zero_or_pos pl with rfl | h
      · exact ⟨[], rfl⟩
      · exact ⟨_, row_succ T₀ h hpl⟩
    obtain ⟨pre, hpre⟩ := hrow
    exact ⟨fun q hq => .tail _ hq, pl, tp, [pl], pre, rfl, rfl, rfl, ⟨_, ⟨_, .head _⟩, .cons _ _ .nil⟩, hpre, hpre, hpl, fun x hx => by rw [List.mem_singleton.mp hx]; exact Nat.le_refl _, List.pairwise_singleton _ _, rfl⟩
  rintro q m₁ news₁ h₁ tk₁ F₂ N₂ ⟨hsub, _, tq, ns, pre, e1, e2, e3, hl, hr1, hr2, hq, hge, hpw, rfl⟩
  clear F₁ N₁
  replace F₂ : Fr g L' h₁ (o1 "above" (.ref la) (o1 "place" (.int q tq) (o1 "order" (.ref l) m₁))) := by simp only [o1_self e1, o1_self e2, o1_self e3]; exact F₂
  have hnl : ns.length ≤ 14 := by
    have e := congrArg List.length hr1
    rw [List.length_append] at e
    omega
  repeat' (first | walk1 | (dsimp only; walk1))
  · unfold Hold
    have hq0 : 0 < q := by omega
    have hab₁ : IntL news₁ la ab := hla.mono fun x hx _ => hsub x hx
    refine item_IntL N₂ hab₁ (by omega) (by omega) (by omega) fun t => ?_
    rw [Int.toNat_natCast, T₀.par_eq hq]
    have hpar := T₀.par_lt hq0 hq
    have hrow := row_succ T₀ hq0 hq
    have hpre : row ab (par ab q) = pre := List.append_inj_left' (hrow.symm.trans hr2) rfl
    have hrow2 : ∃ pre2, row ab (par ab q) = pre2 ++ [par ab q] := by
      rcases Nat.eq_zero_or_pos (par ab q) with e | h
      · rw [e]; exact ⟨[], rfl⟩
      · exact ⟨_, row_succ T₀ h (by omega)⟩
    obtain ⟨pre2, hpre2⟩ := hrow2
    repeat' (first | walk1 | (dsimp only; walk1))
    unfold Hold
    rename Fr _ _ _ _ => F₃
    rename News _ _ _ _ => N₃
    have hso : ∀ i j, i < j → j < (ofN ns).length → (ofN ns).getD i 0 ≤ (ofN ns).getD j 0 := fun i j hij hj => by
      rw [ofN_getD, ofN_getD]
      rw [ofN_len] at hj
      have := sorted_of_rises hpw i j hij hj
      omega
    refine (insort_spec hl (by rw [ofN_len]; omega) hso).use ⟨B, F₃, X, N₃, T, CH, hk⟩ (by omega) (by omega) ?_
    rintro v h₄ tk₄ new₄ F₄ N₄ hold₄ ⟨r, hr, hl₄⟩
    obtain rfl : r = 0 := bis_zero hr fun n hn => by
      obtain ⟨n', hn', rfl⟩ := List.mem_map.mp hn
      have := hge n' hn'
      show ((par ab q : Nat) : Int) < (n' : Int)
      omega
    have hl₅ : IntL new₄ l (ofN (par ab q :: ns)) := hl₄
    repeat' (first | walk1 | (dsimp only; walk1))
    refine ⟨_, _, _, _, par ab q, rfl, F₄, N₄, hpar, fun x hx => hold₄ x (hsub x hx) (Nat.ne_of_lt (hlt x hx)), par ab q, t, par ab q :: ns, pre2, rfl, rfl, rfl, hl₅, ?_, hpre2, by omega, fun x hx => ?_, ?_, rfl⟩
    · rw [hr1, ← hpre, hpre2]; simp
    · rcases List.mem_cons.mp hx with rfl | hx
      · exact Nat.le_refl _
      · have := hge x hx; omega
    · exact List.pairwise_cons.mpr ⟨fun x hx => by have := hge x hx; omega, hpw⟩
  · obtain rfl : q = 0 := by omega
    have hpre : pre = [] := by
      cases pre with
      | nil => rfl
      | cons x r =>
        have e := congrArg List.length hr2
        rw [List.length_append] at e
        simp [row_zero] at e
    subst hpre
    refine ⟨_, _, _, _, rfl, F₂, N₂, fun x hx _ => hsub x hx, l, rfl, ?_, fun x hx => Nat.ne_of_lt (hlt x hx)⟩
    rw [hr1]; exact hl
end Mine
end
section
open PySem PySem.W PyProof.Rows
set_option maxRecDepth 100000
set_option maxHeartbeats 8000000
namespace Mine
open PySem PySem.W PySem.Spec PySem.Calls PyProof.Rows

def innerStmt : Stmt := match PySem.Challenge.pw_hc0003_01.main.body with
  | _ :: .FunctionDef _ _ (_ :: st :: _) _ _ _ _ _ _ _ :: _ => st
  | _ => .Pass default
def innerBody : List Stmt := match innerStmt with | .FunctionDef _ _ b _ _ _ _ _ _ _ => b | _ => []
def innerParams : Arguments := match innerStmt with | .FunctionDef _ a _ _ _ _ _ _ _ _ => a | _ => default
def innerScope : Scope := match innerStmt with | .FunctionDef _ _ _ _ _ _ s _ _ _ => s | _ => default

/-- the k figures by two of x, least first -/
def bitsN (k x : Nat) : List Int := (List.range k).map fun i => ((x / 2 ^ i % 2 : Nat) : Int)

theorem xor_small : ∀ x : Nat, x < 16 → ∀ s : Nat, s < 4 → PySem.Builtin.bitXor (x : Int) ((x / 2 ^ s * 2 ^ s : Nat) : Int) = ((x % 2 ^ s : Nat) : Int) := by decide +kernel
theorem bits_small : ∀ x : Nat, x < 16 → ∀ k : Nat, k < 5 → ∀ s : Nat, s < k → x < 2 ^ k → (List.range s).map (fun i => ((x % 2 ^ s) / 2 ^ i % 2)) ++ (List.range (k - s)).map (fun i => ((x / 2 ^ s) / 2 ^ i % 2)) = (List.range k).map fun i => (x / 2 ^ i % 2) := by decide +kernel
theorem bitsN_len (k x : Nat) : (bitsN k x).length = k := by unfold bitsN; rw [List.length_map, List.length_range]
theorem bitsN_split {x k s : Nat} (hx : x < 16) (hk : k < 5) (hs : s < k) (hxk : x < 2 ^ k) : bitsN s (x % 2 ^ s) ++ bitsN (k - s) (x / 2 ^ s) = bitsN k x := by
  have h := congrArg (List.map fun n : Nat => (n : Int)) (bits_small x hx k hk s hs hxk)
  rw [List.map_append, List.map_map, List.map_map, List.map_map] at h
  exact h
theorem splice {ds b1 b2 : List Int} {L s k : Nat} (hs : s ≤ k) (hL : L + k ≤ ds.length) (h1 : b1.length = s) (h2 : b2.length = k - s) :
    ((ds.take L ++ b1 ++ ds.drop (L + s)).take (L + s) ++ b2 ++ (ds.take L ++ b1 ++ ds.drop (L + s)).drop (L + s + (k - s))) = ds.take L ++ (b1 ++ b2) ++ ds.drop (L + k) := by
  have e1 : (ds.take L).length = L := by rw [List.length_take]; omega
  have e2 : (ds.take L ++ b1).length = L + s := by rw [List.length_append, e1, h1]
  have e3 : (ds.take L ++ b1 ++ ds.drop (L + s)).take (L + s) = ds.take L ++ b1 := by
    rw [List.take_append_of_le_length (by omega), List.take_of_length_le (by omega)]
  have e4 : (ds.take L ++ b1 ++ ds.drop (L + s)).drop (L + s + (k - s)) = ds.drop (L + k) := by
    rw [List.drop_append, e2, List.drop_eq_nil_of_le (by omega), List.nil_append, List.drop_drop]
    congr 1
    omega
  rw [e3, e4]
  simp only [List.append_assoc]

theorem off_list {h₀ h : Heap} {L D a : Addr} {news : Led} {ds : List Int} {o : Obj} (N : News h₀ L h news) (hl : IntL news D ds) (hm : (a, o) ∈ news) (hne : ∀ y n, o.data ≠ .seq y n) : a ≠ D := by
  obtain ⟨vs', ⟨n', hn'⟩, _⟩ := hl
  exact news_ne N hm hn' fun e => hne _ _ (by rw [e])
local macro_rules | `(tactic| walk_at "call ref") => `(tactic| refine hold ?_)
local macro_rules | `(tactic| walk_at "binaryOp RShift int int") => `(tactic| refine hold ?_)
local macro_rules | `(tactic| walk_at "binaryOp LShift int int") => `(tactic| refine hold ?_)
local macro_rules | `(tactic| walk_at "binaryOp BitXor int int") => `(tactic| refine hold ?_)
local macro_rules | `(tactic| walk_at "setItem ref int") => `(tactic| refine hold ?_)
theorem inner_spec {prog : Program} {w : World} {p : Program} {loose : List Str} {mean : ExcName → Option Value} {mg mb : Str → Option Value}
    {f D cN cI cA c' : Addr} {qual : Str} {doc pm ctv : Value} {oN oI oA oc : Obj} {vs : Array Value} {t tn : Tok}
    (dN : oN.data = .cell (some (.int 1 tn))) (dI : oI.data = .cell (some (.ref f))) (dA : oA.data = .cell (some (.ref D))) (hcd : oc.data = .fields vs) (hcv : vs[1]? = some (.str qual t))
    :
    ∀ (k : Nat), 1 ≤ k → k ≤ 4 → ∀ (news : Led) (ds : List Int) (L x : Nat) (tL tR tx : Tok), ds.length ≤ 64 → x < 2 ^ k → L + k ≤ ds.length →
    (f, fnMade "inner" qual innerParams innerBody innerScope [("n", cN), ("inner", cI), ("a_digits", cA)] doc pm c' ctv) ∈ news → (c', oc) ∈ news → (cN, oN) ∈ news → (cI, oI) ∈ news → (cA, oA) ∈ news → IntL news D ds →
    Spec prog w (hd.heap_39 w.params) p loose mean mg mb f [.int x tx, .int L tL, .int ((L + k : Nat) : Int) tR] news (fun b => b = D) (k + 1) (8 * k + 8) (fun _ new => IntL new D (ds.take L ++ bitsN k x ++ ds.drop (L + k))) := by
  intro k
  induction k using Nat.strongRecOn with
  | ind k ih =>
  intro hk1 hk8 news ds L x tL tR tx hds hx hLk hfn hc hN hI hA hl
  refine' spec_nest (D := k) (U := 8 * k + 5) (K := hd.heap_39 w.params) hfn hc hcd hcv ?hb ?hl ?h ?a ?b ?c ?hcell
  case hb => exact rfl
  case hl => exact locs rfl
  case a => exact rfl
  case b => exact rfl
  case c => exact rfl
  case hcell => decide
  intro dp un gd outer A₀ base g L' s C hdp hun
  obtain ⟨B, F, X, N, T, CH, hk⟩ := C
  dsimp only [innerScope, innerBody, innerStmt, PySem.Challenge.pw_hc0003_01] at hk ⊢
  repeat' (first | walk1 | (dsimp only; walk1))
  · unfold Hold
    obtain rfl : k = 1 := by omega
    refine setItem_IntL F N hl (by omega) (by omega) (by omega) fun h₁ new F₁ N₁ hold₁ hl₁ => ?_
    repeat' (first | walk1 | (dsimp only; walk1))
    refine ⟨_, _, _, _, rfl, F₁, N₁, fun q hq hn => hold₁ q hq hn, ?_⟩
    have e : ds.set (L : Int).toNat (x : Int) = ds.take L ++ bitsN 1 x ++ ds.drop (L + 1) := by
      rw [Int.toNat_natCast, List.set_eq_take_append_cons_drop, if_pos (by omega)]
      have e2 : bitsN 1 x = [(x : Int)] := by
        show [((x / 2 ^ 0 % 2 : Nat) : Int)] = [(x : Int)]
        rw [Nat.pow_zero, Nat.div_one, Nat.mod_eq_of_lt (by simpa using hx)]
      rw [e2]
      simp
    rw [← e]; exact hl₁
  · unfold Hold
    have hk2 : 2 ≤ k := by omega
    have hx16 : x < 16 := Nat.lt_of_lt_of_le hx (Nat.pow_le_pow_right (n := 2) (by decide) hk8)
    have e1 : (2 * L + k) / 2 = L + k / 2 := by omega
    refine rshift_nat (a := 2 * L + k) (n := 1) (by omega) rfl fun t₁ tk₁ => ?_
    rw [Nat.pow_one, e1]
    repeat' (first | walk1 | (dsimp only; walk1))
    unfold Hold
    refine rshift_nat (a := x) (n := k / 2) rfl (by omega) fun t₂ tk₂ => ?_
    repeat' (first | walk1 | (dsimp only; walk1))
    unfold Hold
    refine lshift_nat (a := x / 2 ^ (k / 2)) (n := k / 2) rfl (by omega) (Nat.lt_of_le_of_lt (Nat.div_le_self _ _) (by omega)) (by omega) fun t₃ tk₃ => ?_
    repeat' (first | walk1 | (dsimp only; walk1))
    unfold Hold
    refine xor_int ?_
    rw [xor_small x hx16 (k / 2) (by omega)]
    repeat' (first | walk1 | (dsimp only; walk1))
    unfold Hold
    rename Fr _ _ _ _ => F₁
    rename News _ _ _ _ => N₁
    have h1 := off_list N₁ hl hfn (fun _ _ e => by cases e)
    have h2 := off_list N₁ hl hc (fun _ _ e => by rw [hcd] at e; cases e)
    have h3 := off_list N₁ hl hN (fun _ _ e => by rw [dN] at e; cases e)
    have h4 := off_list N₁ hl hI (fun _ _ e => by rw [dI] at e; cases e)
    have h5 := off_list N₁ hl hA (fun _ _ e => by rw [dA] at e; cases e)
    refine (ih (k / 2) (by omega) (by omega) (by omega) news ds L (x % 2 ^ (k / 2)) tL t₁ _ hds (Nat.mod_lt _ (Nat.pow_pos (by decide))) (by omega) hfn hc hN hI hA hl).use ⟨B, F₁, X, N₁, T, CH, rfl⟩ (by omega) (by omega) ?_
    rintro v h₆ tk₆ new₆ F₆ N₆ hold₆ hl₆
    have hfn₆ := hold₆ _ hfn h1
    have hc₆ := hold₆ _ hc h2
    have hN₆ := hold₆ _ hN h3
    have hI₆ := hold₆ _ hI h4
    have hA₆ := hold₆ _ hA h5
    clear F₁ N₁
    repeat' (first | walk1 | (dsimp only; walk1))
    unfold Hold
    have eL : L + k / 2 + (k - k / 2) = L + k := by omega
    have hlen₆ : (ds.take L ++ bitsN (k / 2) (x % 2 ^ (k / 2)) ++ ds.drop (L + k / 2)).length = ds.length := by
      rw [List.length_append, List.length_append, bitsN_len, List.length_take, List.length_drop]; omega
    have hup : x / 2 ^ (k / 2) < 2 ^ (k - k / 2) := by
      rw [Nat.div_lt_iff_lt_mul (Nat.pow_pos (by decide)), ← Nat.pow_add]
      rw [show k - k / 2 + k / 2 = k by omega]
      exact hx
    have hs := ih (k - k / 2) (by omega) (by omega) (by omega) new₆ _ (L + k / 2) (x / 2 ^ (k / 2)) t₁ tR t₂ (by rw [hlen₆]; exact hds) hup (by rw [hlen₆]; omega) hfn₆ hc₆ hN₆ hI₆ hA₆ hl₆
    rw [eL] at hs
    refine hs.use ⟨B, F₆, X, N₆, T, CH, rfl⟩ (by omega) (by omega) ?_
    rintro v₂ h₇ tk₇ new₇ F₇ N₇ hold₇ hl₇
    repeat' (first | walk1 | (dsimp only; walk1))
    refine ⟨_, _, _, _, rfl, F₇, N₇, fun q hq hn => hold₇ q (hold₆ q hq hn) hn, ?_⟩
    rw [← eL, splice (s := k / 2) (by omega) hLk (bitsN_len _ _) (bitsN_len _ _), bitsN_split hx16 (by omega) (by omega) hx] at hl₇
    exact hl₇
end Mine
end
section
open PySem PySem.W PyProof.Rows
set_option maxRecDepth 100000
set_option maxHeartbeats 8000000
namespace Mine
open PySem PySem.W PySem.Spec PySem.Calls PyProof.Rows

/-- the table of codes made in _int2digits: empty yet, or it holds inner's -/
def Tab (news : Led) : Prop := (16, tabObj #[]) ∈ news ∨ ∃ c' oc vs t, (16, tabObj #[rawInt 5, rawInt 4, .ref c']) ∈ news ∧ (c', oc) ∈ news ∧ oc.data = .fields vs ∧ vs[1]? = some (.str "_int2digits.<locals>.inner" t)

def bl (a : Nat) : Nat := PySem.Builtin.Int.intBits (a : Int)
theorem bl_facts : ∀ a : Nat, a < 16 → a < 2 ^ bl a ∧ bl a ≤ 4 ∧ (bl a = 0 ↔ a = 0) := by decide +kernel
theorem Tab.mono {news news' : Led} (h : Tab news) (hs : ∀ q ∈ news, q ∈ news') : Tab news' := by
  rcases h with h | ⟨c', oc, vs, t, h, hc, hd, hv⟩
  · exact .inl (hs _ h)
  · exact .inr ⟨c', oc, vs, t, hs _ h, hs _ hc, hd, hv⟩
theorem nest_tab {M : Model} {A : Around} {E : Value → Shared → Prop} {s : Shared} {h₀ base : Heap} {L a : Addr} {m mg mb : Str → Option Value} {cn : Str} {cs : Scope} {cl : List (Str × Addr)} {news : Led} {A₀ : Around} {outer : List Env}
    {p : Program} {loose : List Str} {mean : ExcName → Option Value} {name : Str} {params : Arguments} {body : List Stmt} {scope : Scope} {pos : Pos} {firstLine : Nat} {clos : List (Str × Addr)} {Q : Value → Shared → Prop}
    (F : Fr h₀ L s.heap m) (N : News h₀ L s.heap news) (T : Top p loose mean mg mb h₀) (B : Below A₀ base outer h₀) (C : CodeHd base 20 16) (ht : Tab news) (hp : pos.line = 5 ∧ pos.col = 4)
    (hcl : closureFor scope (envX cn cs L a (.ref 20) cl) = pure clos)
    (h : ∀ f c' oc vs t ctv doc h' tk new, Fr h₀ L h' m → News h₀ L h' new → (∀ q ∈ news, q.1 ≠ 16 → q ∈ new) →
      (f, fnMade name "_int2digits.<locals>.inner" params body scope clos doc ((mg "__name__").getD .none) c' ctv) ∈ new → (c', oc) ∈ new → oc.data = .fields vs → vs[1]? = some (.str "_int2digits.<locals>.inner" t) →
      (16, tabObj #[rawInt 5, rawInt 4, .ref c']) ∈ new → (∀ q ∈ news, q.1 < f) → Q (.ref f) { s with heap := h', toks := tk }) :
    wpAny M A (makeFunction name "_int2digits.<locals>.inner" params (.stmts body) scope (envX cn cs L a (.ref 20) cl) [] [] [] pos firstLine) Q E s := by
  have C' : CodeHd h₀ 20 16 := C.keeps B.stays
  rcases ht with ht | ⟨c', oc, vs, t, ht, hc, hcd, hcv⟩
  · refine nest_K F (news_put N ht) T C' rfl updF_put trivial rfl hcl fun f c' oc vs t ctv doc h' tk F' N' hd hv hlt hf => ?_
    rw [hp.1, hp.2] at N'
    refine h f c' oc vs t ctv doc h' tk _ F' N' (fun q hq hn => .tail _ (.tail _ (mem_put hq hn))) (.head _) (.tail _ (.head _)) hd hv (.tail _ (.tail _ put_self)) fun q hq => ?_
    by_cases hn : q.1 = 16
    · have := hlt _ put_self
      show q.1 < f
      rw [hn]; exact Nat.lt_trans this hf
    · exact Nat.lt_trans (hlt q (mem_put hq hn)) hf
  · refine nestHit_K (c' := c') F N T C' rfl ht (by simp [TriplesOk, rawInt]) (by simp [codeAmong, rawInt, hp.1, hp.2]) hcl fun f ctv doc h' tk F' N' hlt => ?_
    exact h f c' oc vs t ctv doc h' tk _ F' N' (fun q hq _ => .tail _ hq) (.head _) (.tail _ hc) hcd hcv (.tail _ ht) hlt

local macro_rules | `(tactic| walk_at "storeName") => `(tactic| refine hold ?_)
local macro_rules | `(tactic| walk_at "binaryOp Mult ref int") => `(tactic| refine hold ?_)
local macro_rules | `(tactic| walk_at "call builtin:len") => `(tactic| ((with_reducible show wpAny _ _ (call (Value.builtin "len") [Value.ref _]) _ _ _); refine len_IntL (by assumption) (by assumption) (by (simp only [List.length_replicate]; omega)) ?_; intro _ _))
local macro_rules | `(tactic| walk_at "call ref") => `(tactic| refine hold ?_)
local macro_rules | `(tactic| walk_at "exec FunctionDef") => `(tactic| refine hold ?_)
local macro_rules | `(tactic| walk_at "no such place") => `(tactic| skip)
theorem digits_spec {prog : Program} {w : World} {p : Program} {loose : List Str} {mean : ExcName → Option Value} {mg mb : Str → Option Value}
    {news : Led} {a : Nat} {ta tn : Tok} (ht : Tab news) (ha : a < 16) :
    Spec prog w (hd.heap_39 w.params) p loose mean mg mb 21 [.int a ta, .int 1 tn] news (fun b => b = 16) 8 64 (fun v new => ∃ l, v = .ref l ∧ IntL new l (bitsN (bl a) a) ∧ Tab new) := by
  refine' spec_cells (D := 7) (U := 61) (K := hd.heap_39 w.params) ?ho ?hc ?hb ?hl ?hnd ?h ?a ?b ?c
  case ho => k_is
  case hc => k_is
  case hb => exact fun _ => rfl
  case hl => exact rfl
  case a => exact rfl
  case b => exact rfl
  case c => exact rfl
  case hnd => decide +kernel
  intro dp un gd outer A₀ base g L' s cells Y hlt C hdp hun
  obtain ⟨B, F, X, N, T, CH, hk⟩ := C
  k_cells Y
  rename_i oI oA oN dI dA dN
  replace dI : oI.data = .cell none := dI
  replace dA : oA.data = .cell none := dA
  replace dN : oN.data = .cell (some (.int 1 tn)) := dN
  simp only [List.cons_append, List.nil_append] at N
  repeat' (first | walk1 | (dsimp only; walk1))
  unfold Hold
  obtain ⟨hb1, hb2, hb3⟩ := bl_facts a ha
  rename Fr _ _ _ _ => F₁
  rename News _ _ _ _ => N₁
  have hm : (((PySem.Builtin.Int.intBits (a : Int) : Nat) : Int) + 1 - 1).fdiv 1 = (bl a : Nat) := by
    rw [Int.fdiv_one]
    show ((bl a : Nat) : Int) + 1 - 1 = _
    omega
  rw [hm]
  refine mul_IntL (ns := [0]) F₁ N₁ ⟨_, ⟨0, .head _⟩, .cons _ _ .nil⟩ rfl (by simp) (by omega) fun D h₂ new₂ F₂ N₂ sub₂ hltD hD => ?_
  rw [krep_flat] at hD
  have m1 := sub₂ _ (.tail _ (.head _))
  have m2 := sub₂ _ (.tail _ (.tail _ (.head _)))
  have m3 := sub₂ _ (.tail _ (.tail _ (.tail _ (.head _))))
  have old₂ : ∀ q ∈ news, q ∈ new₂ := fun q hq => sub₂ _ (.tail _ (.tail _ (.tail _ (.tail _ hq))))
  have lDI : @LT.lt Nat _ (L' + 1 + 1 + 1) D := hltD _ (.tail _ (.head _))
  have ltn : ∀ q ∈ news, q.1 < D := fun q hq => hltD q (.tail _ (.tail _ (.tail _ (.tail _ hq))))
  clear F₁ N₁ hm hltD
  repeat' (first | walk1 | (dsimp only; walk1))
  unfold Hold
  refine store_C F₂ N₂ rfl m2 dA (fun h₃ oA' new₃ F₃ N₃ old₃ m2 dA' => ?_) rfl rfl
  replace m1 := old₃ _ m1 (by show @Ne Nat (L' + 1 + 1 + 1) (L' + 1 + 1); omega)
  replace m3 := old₃ _ m3 (by show @Ne Nat (L' + 1) (L' + 1 + 1); omega)
  replace hD := hD.mono fun q hq e => old₃ q hq (by rw [e]; show @Ne Nat D (L' + 1 + 1); omega)
  replace old₃ : ∀ q ∈ news, q ∈ new₃ := fun q hq => old₃ q (old₂ q hq) (by have := ltN (hlt q hq); show @Ne Nat q.1 (L' + 1 + 1); omega)
  clear F₂ N₂ old₂ sub₂
  repeat' (first | walk1 | (dsimp only; walk1))
  unfold Hold
  refine nestDef_K rfl rfl rfl ?_
  refine nest_tab F₃ N₃ T B CH (ht.mono old₃) ⟨rfl, rfl⟩ rfl fun f c' oc vs t ctv doc h₄ tk₄ new₄ F₄ N₄ old₄ hf hc hcd hcv htab hltf => ?_
  have h16 : @LT.lt Nat _ 16 L' := by
    rcases ht with h | ⟨_, _, _, _, h, _⟩ <;> exact hlt _ h
  have lf := ltN (hltf _ m1)
  dsimp only at lf
  replace m1 := old₄ _ m1 (by show @Ne Nat (L' + 1 + 1 + 1) 16; omega)
  replace m2 := old₄ _ m2 (by show @Ne Nat (L' + 1 + 1) 16; omega)
  replace m3 := old₄ _ m3 (by show @Ne Nat (L' + 1) 16; omega)
  have hDf : @Ne Nat D f := by
    obtain ⟨_, ⟨_, hq⟩, _⟩ := hD
    have := ltN (hltf _ hq)
    dsimp only at this
    omega
  replace hD := hD.mono fun q hq e => old₄ q hq (by rw [e]; show @Ne Nat D 16; omega)
  replace old₄ : ∀ q ∈ news, q.1 ≠ 16 → q ∈ new₄ := fun q hq hn => old₄ q (old₃ q hq) hn
  clear F₃ N₃ hltf old₃
  have hcI : @Ne Nat c' (L' + 1 + 1 + 1) := news_ne N₄ hc m1 fun e => by rw [e, dI] at hcd; cases hcd
  refine store_C F₄ N₄ rfl m1 dI (fun h₅ oI' new₅ F₅ N₅ old₅ m1' dI' => ?_) rfl rfl
  replace hf := old₅ _ hf (by show @Ne Nat f (L' + 1 + 1 + 1); omega)
  replace hc := old₅ _ hc hcI
  replace m2 := old₅ _ m2 (by show @Ne Nat (L' + 1 + 1) (L' + 1 + 1 + 1); omega)
  replace m3 := old₅ _ m3 (by show @Ne Nat (L' + 1) (L' + 1 + 1 + 1); omega)
  replace hD := hD.mono fun q hq e => old₅ q hq (by rw [e]; show @Ne Nat D (L' + 1 + 1 + 1); omega)
  replace htab := old₅ _ htab (by show @Ne Nat 16 (L' + 1 + 1 + 1); omega)
  replace old₅ : ∀ q ∈ news, q.1 ≠ 16 → q ∈ new₅ := fun q hq hn => old₅ q (old₄ q hq hn) (by have := ltN (hlt q hq); show @Ne Nat q.1 (L' + 1 + 1 + 1); omega)
  have m1 := m1'
  clear F₄ N₄ old₄ m1'
  have hlenD : (List.replicate (bl a) (0 : Int)).length = bl a := List.length_replicate
  try dsimp only
  repeat' (first | walk1 | (dsimp only; walk1))
  · unfold Hold
    rename ¬ (a : Int) = 0 => ha0
    have hb4 : bl a ≠ 0 := fun e => ha0 (by rw [hb3.mp e]; rfl)
    have hs := fun tL tR => inner_spec (prog := prog) (w := w) (p := p) (loose := loose) (mean := mean) (mg := mg) (mb := mb) (f := f) (D := D) dN dI' dA' hcd hcv (bl a) (by omega) hb2 new₅ _ 0 a tL tR ta (by omega) hb1 (by omega) hf hc m3 m1 m2 hD
    rw [Nat.zero_add] at hs
    rw [hlenD]
    refine (hs _ _).use ⟨B, F₅, X, N₅, T, CH, hk⟩ (by omega) (by omega) ?_
    rintro v h₆ tk₆ new₆ F₆ N₆ hold₆ hl₆
    have e : (List.take 0 (List.replicate (bl a) (0 : Int)) ++ bitsN (bl a) a ++ List.drop (bl a) (List.replicate (bl a) 0)) = bitsN (bl a) a := by
      rw [List.drop_eq_nil_of_le (by omega)]; simp
    rw [e] at hl₆
    replace m2 := hold₆ _ m2 (by show ¬ @Eq Nat (L' + 1 + 1) D; omega)
    replace htab := hold₆ _ htab (by show ¬ @Eq Nat 16 D; omega)
    have hc₆ := hold₆ _ hc (off_list N₅ hD hc fun _ _ e => by rw [hcd] at e; cases e)
    clear F₅ N₅
    repeat' (first | walk1 | (dsimp only; walk1))
    exact ⟨_, _, _, _, rfl, F₆, N₆, fun q hq hn => hold₆ q (old₅ q hq hn) (by have := ltN (ltn q hq); show ¬ @Eq Nat q.1 D; omega), D, rfl, hl₆, .inr ⟨c', oc, vs, t, htab, hc₆, hcd, hcv⟩⟩
  · rename (a : Int) = 0 => ha0
    obtain rfl : a = 0 := by omega
    exact ⟨_, _, _, _, rfl, F₅, N₅, fun q hq hn => old₅ q hq hn, D, rfl, hD, .inr ⟨c', oc, vs, t, htab, hc, hcd, hcv⟩⟩
end Mine
end
section
set_option maxRecDepth 100000
namespace Mine
/-- so many steps up -/
def anc (ab : List Int) : Nat → Nat → Nat
  | 0, p => p
  | k + 1, p => par ab (anc ab k p)
theorem anc_add (ab : List Int) (a b p : Nat) : anc ab (a + b) p = anc ab a (anc ab b p) := by
  induction a with
  | zero => rw [Nat.zero_add]; rfl
  | succ a ih => rw [Nat.succ_add]; show par ab _ = par ab _; rw [ih]
theorem Tree.anc_in {ab : List Int} (T : Tree ab) {p : Nat} (hl : p < ab.length) : ∀ k, anc ab k p < ab.length
  | 0 => hl
  | k + 1 => T.par_in (T.anc_in hl k)
/-- the number that the first i figures tell -/
def low (x i : Nat) : Nat := x % 2 ^ i
theorem low_succ (x i : Nat) : low x (i + 1) = 2 ^ i * (x / 2 ^ i % 2) + low x i := by
  unfold low
  rw [Nat.pow_succ, Nat.mod_mul]
  omega
theorem low_all {x k : Nat} (h : x < 2 ^ k) : low x k = x := Nat.mod_eq_of_lt h
theorem anc_step {ab : List Int} (x i p : Nat) : anc ab (low x (i + 1)) p = if x / 2 ^ i % 2 = 1 then anc ab (2 ^ i) (anc ab (low x i) p) else anc ab (low x i) p := by
  rw [low_succ]
  split
  · rename_i h; rw [h, Nat.mul_one, anc_add]
  · rename_i h
    have : x / 2 ^ i % 2 = 0 := by omega
    rw [this, Nat.mul_zero, Nat.zero_add]
/-- the levels of a table: who is 1, 2, 4, 8 above -/
def Lvl (ab : List Int) (j : Nat) (ns : List Int) : Prop := ns.length = ab.length ∧ ∀ p, p < ab.length → ns.getD p 0 = (anc ab (2 ^ j) p : Nat)
end Mine
end
section
open PySem PySem.W PyProof.Rows
set_option maxRecDepth 100000
namespace Mine
open PySem PySem.W PySem.Spec PySem.Calls PyProof.Rows

/-- a turn's end -/
def TurnQ (h₀ : Heap) (L : Addr) (all : Led) (fp : List Addr) (J : (Str → Option Value) → Led → Prop) (s₁ : Shared) (f : Flow) (s₃ : Shared) : Prop :=
  f = .next ∧ ∃ h' tk m' all', s₃ = { s₁ with heap := h', toks := tk } ∧ Fr h₀ L h' m' ∧ News h₀ L h' all' ∧ (∀ p ∈ all, p.1 ∈ fp → p ∈ all') ∧ J m' all'

def EndE (h₀ : Heap) (L : Addr) (s : Shared) (all : Led) (J : (Str → Option Value) → Led → Prop) (f : Flow) (s₃ : Shared) : Prop :=
  f = .next ∧ ∃ h' tk m' all', s₃ = { s with heap := h', toks := tk } ∧ Fr h₀ L h' m' ∧ News h₀ L h' all' ∧ (∀ q ∈ all, q ∈ all') ∧ J m' all'
def EndR (h₀ : Heap) (L : Addr) (s : Shared) (I : Addr) (oI : Obj) (J : (Str → Option Value) → Led → Prop) (f : Flow) (s₃ : Shared) : Prop :=
  f = .next ∧ ∃ h' tk m' all', s₃ = { s with heap := h', toks := tk } ∧ Fr h₀ L h' m' ∧ News h₀ L h' all' ∧ (I, oI) ∈ all' ∧ J m' all'

section
variable {prog : Program} {w : World} {A : Around} {s : Shared} {env : Env} {h₀ : Heap} {target : PySem.Expr} {body : List Stmt} {Q : Flow → Shared → Prop}

theorem turns_M {I : Addr} {fp wr : List Addr} {n : Nat} {P Md : Nat → Value → Heap → Prop} {St : Nat → Heap → Prop} {m₀ : Str → Option Value} {news : Led} (W : KTurns prog w A target I fp wr n P Md St)
    (hL : env.locals ∉ fp) (hwr0 : ∀ b ∈ wr, h₀.get? b = none) (hst : St 0 s.heap) (F : Fr h₀ env.locals s.heap m₀) (N : News h₀ env.locals s.heap news) (hnw : ∀ p ∈ news, p.1 ∉ wr)
    (J : Nat → (Str → Option Value) → Led → Prop) (hJ : ∀ i m a b, J i m a → (∀ q ∈ a, q.1 ∉ wr → q ∈ b) → J i m b) (h0 : J 0 m₀ news)
    (step : ∀ i v m₁ all h₁ tk₁, i < n → P i v h₁ → St (i + 1) h₁ → J i m₁ all → Fr h₀ env.locals h₁ m₁ → News h₀ env.locals h₁ all → (∀ b ∈ fp, h₀.get? b = none → ∀ o, h₁.get? b = some o → (b, o) ∈ all) →
      wpAny (model prog w) A (assign target env v) (fun _ s₂ => wpAny (model prog w) A (execs body env) (TurnQ h₀ env.locals all fp (J (i + 1)) { s with heap := h₁, toks := tk₁ }) (fun _ _ => False) s₂) (fun _ _ => False) { s with heap := h₁, toks := tk₁ })
    (done : ∀ h' tk m' all, Fr h₀ env.locals h' m' → News h₀ env.locals h' all → J n m' all → Q .next { s with heap := h', toks := tk }) :
    TurnsAt prog w A h₀ env target body Q (fun _ _ => False) (.ref I) s := by
  refine ⟨I, fp, wr, n, P, Md, St, m₀, news, J, rfl, W, hL, hwr0, hnw, hst, F, N, h0, ?_, fun h' tk m' news' F' N' _ hj => done h' tk m' news' F' N' hj⟩
  intro i v m₁ news₁ h₁ tk₁ own hi hP hj hoff hown _ hall hst₁ F₁ N₁
  refine wpAny_mono (step i v m₁ (own ++ news₁) h₁ tk₁ hi hP hst₁ (hJ _ _ _ _ hj fun q hq _ => List.mem_append_right _ hq) F₁ N₁ (fun b hb hn o ho => List.mem_append_left _ (hall b hb hn o ho)))
    (fun _ s₂ h₂ => wpAny_mono h₂ (fun f s₃ h₃ => ?_) fun _ _ x => x) fun _ _ x => x
  obtain ⟨rfl, h', tk, m', all', rfl, F', N', hkeep, hj'⟩ := h₃
  refine .next (LoopStepU.intro (news₂ := all'.filter fun p => decide (p.1 ∉ wr)) F' (fun p hp => ?_) (fun p hp => ?_) (hJ _ _ _ _ hj' fun q hq hn => List.mem_filter.mpr ⟨hq, by simpa using hn⟩))
  · rcases List.mem_append.mp hp with hp | hp
    · exact N' p (hkeep p (List.mem_append_left _ hp) (hown p hp))
    · exact N' p (List.mem_filter.mp hp).1
  · simpa using (List.mem_filter.mp hp).2

/-- iterators' own objects are no codes -/
def NoCode (o : Obj) : Prop := ∃ us : Array Value, o.data = .fields us ∧ ∀ q t, us[1]? ≠ some (.str q t)

/-- a loop over a range whose places are written a₀, a₀ + c, .. -/
theorem for_range {r : Addr} {a₀ b₀ c : Int} {t₀ u₀ v₀ : Tok} {n : Nat} {m₀ : Str → Option Value} {news : Led}
    (hh : A.handled = none) (hr : IsRange s.heap r a₀ b₀ c t₀ u₀ v₀) (hsmall : Builtin.Range.small a₀ b₀ c = true) (hn : Builtin.Range.rangeSize a₀ b₀ c = (n : Int))
    (F : Fr h₀ env.locals s.heap m₀) (N : News h₀ env.locals s.heap news)
    (hlet : ∀ it v, letOwnedTupleGo target it v = pure ())
    (J : Addr → Nat → (Str → Option Value) → Led → Prop)
    (hJ : ∀ I i m a b, J I i m a → (∀ q ∈ a, q.1 ≠ I → q ∈ b) → J I i m b) (h0 : ∀ I, (∀ q ∈ news, q.1 < I) → J I 0 m₀ news)
    (step : ∀ I i t m₁ all h₁ tk₁ oI, i < n → (∀ q ∈ news, q.1 < I) → (I, oI) ∈ all → NoCode oI → oI.cls = .type "range_iterator" → J I i m₁ all → Fr h₀ env.locals h₁ m₁ → News h₀ env.locals h₁ all →
      wpAny (model prog w) A (assign target env (.int (a₀ + i * c) t)) (fun _ s₂ => wpAny (model prog w) A (execs body env)
        (EndR h₀ env.locals s I oI (J I (i + 1))) (fun _ _ => False) s₂) (fun _ _ => False) { s with heap := h₁, toks := tk₁ })
    (done : ∀ I h' tk m' all, (∀ q ∈ news, q.1 < I) → Fr h₀ env.locals h' m' → News h₀ env.locals h' all → J I n m' all → Q .next { s with heap := h', toks := tk }) :
    wpAny (model prog w) A (pyIter (.ref r)) (fun it s₂ => TurnsAt prog w A h₀ env target body Q (fun _ _ => False) it s₂) (fun _ _ => False) s := by
  refine wpAny_pyIter_range hr hsmall ?_
  have hlt : ∀ q ∈ news, q.1 < s.heap.objs.size := fun q hq => Heap.lt_size (N q hq).1
  have hI : h₀.get? s.heap.objs.size = none := next_is_new F
  refine turns_M (KTurns.ofWalks (target := target) (Walks.range hh s.heap.objs.size a₀ c n) fun i v s Q E _ hq => by rw [hlet]; exact wpAny_pure hq) ?_ ?_ ?_ (F.push _)
    (fun p hp => ⟨Heap.get?_push_of_some _ (N p hp).1, (N p hp).2⟩) ?_ (J s.heap.objs.size) (fun i m a b hj hs => hJ _ i m a b hj fun q hq hne => hs q hq (by simpa using hne)) (h0 _ hlt) ?_ ?_
  · intro hm
    exact absurd F.ns.lt ((List.mem_singleton.mp hm) ▸ Nat.lt_irrefl _)
  · intro b hb
    rw [List.mem_singleton.mp hb]; exact hI
  · show IsRangeIter _ _ _ _ _
    rw [hn]; simpa using Heap.get?_push_size _ rfl
  · intro p hp hm
    exact absurd (hlt p hp) ((List.mem_singleton.mp hm) ▸ Nat.lt_irrefl _)
  · rintro i v m₁ all h₁ tk₁ hi ⟨t, rfl⟩ hst hj F₁ N₁ hall
    have hst' : IsRangeIter h₁ s.heap.objs.size (a₀ + (i + 1 : Nat) * c) ((n : Int) - (i + 1 : Nat)) c := hst
    have hin := hall _ (List.mem_singleton.mpr rfl) hI _ hst'
    refine wpAny_mono (step s.heap.objs.size i t m₁ all h₁ tk₁ _ hi hlt hin ⟨_, rfl, fun q t e => by simp [rawInt] at e⟩ rfl hj F₁ N₁) (fun _ s₂ h₂ => wpAny_mono h₂ (fun f s₃ h₃ => ?_) fun _ _ x => x) fun _ _ x => x
    obtain ⟨rfl, h', tk, m', all', rfl, F', N', hk, hj'⟩ := h₃
    refine ⟨rfl, h', tk, m', all', rfl, F', N', ?_, hj'⟩
    rintro ⟨a, o⟩ hp hm
    have e : a = s.heap.objs.size := List.mem_singleton.mp hm
    subst e
    rw [news_inj N₁ hp hin]
    exact hk
  · intro h' tk m' all F' N' hj
    exact done _ h' tk m' all hlt F' N' hj

/-- a loop over enumerate(a list of the ledger) -/
theorem for_enum {elts : List PySem.Expr} {k : Nat} {pos : Pos} {l : Addr} {vs : List Value} {m₀ : Str → Option Value} {news : Led} (htgt : target = .Tuple elts k pos)
    (hh : A.handled = none) (hl : IsL news l vs)
    (F : Fr h₀ env.locals s.heap m₀) (N : News h₀ env.locals s.heap news)
    (J : Nat → (Str → Option Value) → Led → Prop)
    (hJ : ∀ i m a b, J i m a → (∀ q ∈ a, (∃ r ∈ news, r.1 = q.1) → q ∈ b) → J i m b) (h0 : J 0 m₀ news)
    (step : ∀ (i : Nat) v t T m₁ all h₁ tk₁, vs[i]? = some v → IsTup h₁ T #[.int i t, v] → J i m₁ all → Fr h₀ env.locals h₁ m₁ → News h₀ env.locals h₁ all →
      wpAny (model prog w) A (assign target env (.ref T)) (fun _ s₂ => wpAny (model prog w) A (execs body env)
        (EndE h₀ env.locals s all (J (i + 1))) (fun _ _ => False) s₂) (fun _ _ => False) { s with heap := h₁, toks := tk₁ })
    (done : ∀ h' tk m' all, Fr h₀ env.locals h' m' → News h₀ env.locals h' all → J vs.length m' all → Q .next { s with heap := h', toks := tk }) :
    wpAny (model prog w) A (call (.type "enumerate") [.ref l]) (fun x s₁ => wpAny (model prog w) A (pyIter x) (fun it s₂ => TurnsAt prog w A h₀ env target body Q (fun _ _ => False) it s₂) (fun _ _ => False) s₁) (fun _ _ => False) s := by
  subst htgt
  have hls := isList_of N hl
  have hlt : ∀ q ∈ news, q.1 < s.heap.objs.size := fun q hq => Heap.lt_size (N q hq).1
  obtain ⟨nl, hnl⟩ := hl
  have hl2 : @LT.lt Nat _ l s.heap.objs.size := hlt _ hnl
  have hLs : @LT.lt Nat _ env.locals s.heap.objs.size := F.ns.lt
  have hlL : @Ne Nat l env.locals := (N _ hnl).2.1
  have hab : @LE.le Nat _ h₀.objs.size env.locals := F.above
  refine call_enumerate_list hls fun h' he hit hsz hk => ?_
  have F' : Fr h₀ env.locals h' m₀ := ⟨F.ns.keeps hk, fun b o e => hk b o (F.keep b o e), F.above⟩
  have N' : News h₀ env.locals h' news := fun p hp => ⟨hk _ _ (N p hp).1, (N p hp).2⟩
  refine wpAny_pyIter_enum he ?_
  refine turns_M (KTurns.ofWalksU (WalksT.enumerate (A := A) hh (s.heap.objs.size + 1) s.heap.objs.size l (Nat.succ_ne_self _) ?_ ?_ vs.toArray).toU) ?_ ?_ ⟨⟨_, he⟩, hit, hls.at fun o e => hk l o e⟩ F' N' ?_ J ?_ h0 ?_ ?_
  · show @Ne Nat _ _; omega
  · show @Ne Nat _ _; omega
  · intro hm
    rcases List.mem_cons.mp hm with e | hm
    · have e : @Eq Nat env.locals (s.heap.objs.size + 1) := e; omega
    · rcases List.mem_cons.mp hm with e | hm
      · have e : @Eq Nat env.locals s.heap.objs.size := e; omega
      · have e : @Eq Nat env.locals l := List.mem_singleton.mp hm; omega
  · intro b hb
    rcases List.mem_cons.mp hb with e | hb
    · have e : @Eq Nat b (s.heap.objs.size + 1) := e
      exact Heap.get?_none_of_le (by show @LE.le Nat _ _ _; omega)
    · have e : @Eq Nat b s.heap.objs.size := List.mem_singleton.mp hb
      exact Heap.get?_none_of_le (by show @LE.le Nat _ _ _; omega)
  · intro p hp hm
    have h1 : @LT.lt Nat _ p.1 s.heap.objs.size := hlt p hp
    rcases List.mem_cons.mp hm with e | hm
    · have e : @Eq Nat p.1 (s.heap.objs.size + 1) := e; omega
    · have e : @Eq Nat p.1 s.heap.objs.size := List.mem_singleton.mp hm; omega
  · intro i m a b hj hs
    refine hJ i m a b hj fun q hq ⟨r, hr, e⟩ => hs q hq fun hm => ?_
    have h1 : @LT.lt Nat _ r.1 s.heap.objs.size := hlt r hr
    have e : @Eq Nat r.1 q.1 := e
    rcases List.mem_cons.mp hm with e' | hm
    · have e' : @Eq Nat q.1 (s.heap.objs.size + 1) := e'; omega
    · have e' : @Eq Nat q.1 s.heap.objs.size := List.mem_singleton.mp hm; omega
  · rintro i v m₁ all h₁ tk₁ hi ⟨T, vals, rfl, ⟨t, x, hx, rfl⟩, hT⟩ hst hj F₁ N₁ hall
    refine wpAny_mono (step i x t T m₁ all h₁ tk₁ (by simpa using hx) hT hj F₁ N₁) (fun _ s₂ h₂ => wpAny_mono h₂ (fun f s₃ h₃ => ?_) fun _ _ x => x) fun _ _ x => x
    obtain ⟨rfl, h', tk, m', all', rfl, F', N', hk, hj'⟩ := h₃
    exact ⟨rfl, h', tk, m', all', rfl, F', N', fun p hp _ => hk p hp, hj'⟩
  · intro h' tk m' all F' N' hj
    exact done h' tk m' all F' N' (by simpa using hj)
end
end Mine
end
section
open PySem PySem.W PyProof.Rows
set_option maxRecDepth 100000
set_option maxHeartbeats 8000000
namespace Mine
open PySem PySem.W PySem.Spec PySem.Calls PyProof.Rows

/-- the table of who is 1, 2, 4, 8 above -/
def TabL (news : Led) (lt : Addr) (ab : List Int) : Prop :=
  ∃ a0 a1 a2 a3, IsL news lt [.ref a0, .ref a1, .ref a2, .ref a3] ∧ (∃ ns, IntL news a0 ns ∧ Lvl ab 0 ns) ∧ (∃ ns, IntL news a1 ns ∧ Lvl ab 1 ns) ∧ (∃ ns, IntL news a2 ns ∧ Lvl ab 2 ns) ∧ ∃ ns, IntL news a3 ns ∧ Lvl ab 3 ns
theorem TabL.get {news : Led} {lt : Addr} {ab : List Int} (h : TabL news lt ab) : ∃ vs, IsL news lt vs ∧ ∀ j, j < 4 → ∃ a ns, vs[j]? = some (.ref a) ∧ IntL news a ns ∧ Lvl ab j ns := by
  obtain ⟨a0, a1, a2, a3, hl, ⟨n0, h0, l0⟩, ⟨n1, h1, l1⟩, ⟨n2, h2, l2⟩, ⟨n3, h3, l3⟩⟩ := h
  refine ⟨_, hl, fun j hj => ?_⟩
  match j, hj with
  | 0, _ => exact ⟨a0, n0, rfl, h0, l0⟩
  | 1, _ => exact ⟨a1, n1, rfl, h1, l1⟩
  | 2, _ => exact ⟨a2, n2, rfl, h2, l2⟩
  | 3, _ => exact ⟨a3, n3, rfl, h3, l3⟩
/-- what holds of the lists in a ledger holds where its lists stand on -/
theorem IsL.lists {news news' : Led} {a : Addr} {vs : List Value} (h : IsL news a vs) (hs : ∀ q ∈ news, q.2.cls = .type "list" → q ∈ news') : IsL news' a vs := let ⟨n, hn⟩ := h; ⟨n, hs _ hn rfl⟩
theorem IntL.lists {news news' : Led} {a : Addr} {ns : List Int} (h : IntL news a ns) (hs : ∀ q ∈ news, q.2.cls = .type "list" → q ∈ news') : IntL news' a ns := let ⟨vs, hv, hi⟩ := h; ⟨vs, hv.lists hs, hi⟩
theorem TabL.lists {news news' : Led} {lt : Addr} {ab : List Int} (h : TabL news lt ab) (hs : ∀ q ∈ news, q.2.cls = .type "list" → q ∈ news') : TabL news' lt ab := by
  obtain ⟨a0, a1, a2, a3, hl, ⟨n0, h0, l0⟩, ⟨n1, h1, l1⟩, ⟨n2, h2, l2⟩, ⟨n3, h3, l3⟩⟩ := h
  exact ⟨a0, a1, a2, a3, hl.lists hs, ⟨n0, h0.lists hs, l0⟩, ⟨n1, h1.lists hs, l1⟩, ⟨n2, h2.lists hs, l2⟩, ⟨n3, h3.lists hs, l3⟩⟩
theorem Tab.ne16 {h₀ h : Heap} {L : Addr} {news : Led} (N : News h₀ L h news) (ht : Tab news) : ∀ q ∈ news, q.2.cls = .type "list" → q.1 ≠ 16 := fun q hq hc => by
  have h16 : ∃ ps, (16, tabObj ps) ∈ news := by rcases ht with h | ⟨_, _, _, _, h, _⟩ <;> exact ⟨_, h⟩
  obtain ⟨ps, h16⟩ := h16
  exact news_ne (o := q.2) N hq h16 fun e => by rw [e] at hc; cases hc

local macro_rules | `(tactic| walk_at "call ref") => `(tactic| refine hold ?_)
local macro_rules | `(tactic| walk_at "subscriptTail") => `(tactic| refine hold ?_)
local macro_rules | `(tactic| walk_at "call type:enumerate") => `(tactic| refine hold ?_)
local macro_rules | `(tactic| walk_at "exec For Tuple Call cons nil") => `(tactic| refine hold ?_)
theorem up_spec {prog : Program} {w : World} {p : Program} {loose : List Str} {mean : ExcName → Option Value} {mg mb : Str → Option Value}
    {news : Led} {lt : Addr} {ab : List Int} {pl mn : Nat} {tp tm : Tok} (T₀ : Tree ab) (ht : Tab news) (hT : TabL news lt ab) (hpl : pl < ab.length) (hmn : mn < 16) :
    Spec prog w (hd.heap_39 w.params) p loose mean mg mb 51 [.ref lt, .int pl tp, .int mn tm] news (fun b => b = 16) 10 80 (fun v new => ∃ t, v = .int (anc ab mn pl : Nat) t ∧ Tab new) := by
  refine' spec_of (D := 9) (U := 77) (K := hd.heap_39 w.params) ?ho ?hc ?hb ?hl ?h ?a ?b ?c ?hcell
  case ho => k_is
  case hc => k_is
  case hb => exact fun _ => rfl
  case hl => exact locs rfl
  case a => exact rfl
  case b => exact rfl
  case c => exact rfl
  case hcell => decide
  intro dp un gd outer A₀ base g L' s C hdp hun
  obtain ⟨B, F, X, N, T, CH, hk⟩ := C
  repeat' (first | walk1 | (dsimp only; walk1))
  unfold Hold
  refine For_turns F ?_ (hE := PassesOwn.never)
  repeat' (first | walk1 | (dsimp only; walk1))
  unfold Hold
  refine (digits_spec ht hmn).use ⟨B, F, X, N, T, CH, hk⟩ (by omega) (by omega) ?_
  rintro v h₁ tk₁ new F₁ N₁ hold₁ ⟨l, rfl, hD, ht₁⟩
  have hT₁ := hT.lists fun q hq hc => hold₁ q hq (Tab.ne16 N ht q hq hc)
  clear F N
  repeat' (first | walk1 | (dsimp only; walk1))
  unfold Hold
  obtain ⟨vs, hvs, hI⟩ := hD
  refine for_enum rfl rfl hvs F₁ N₁ (fun i m all => (∀ q ∈ new, q ∈ all) ∧ m "table" = some (.ref lt) ∧ ∃ tq, m "place" = some (.int (anc ab (low mn i) pl : Nat) tq)) ?_ ?_ ?_ ?_
  · rintro i m a b ⟨h1, h2, h3⟩ hs
    exact ⟨fun q hq => hs q (h1 q hq) ⟨q, hq, rfl⟩, h2, h3⟩
  · exact ⟨fun q hq => hq, rfl, tp, by rw [show low mn 0 = 0 from Nat.mod_one _]; rfl⟩
  · rintro i v t Tu m₂ all h₂ tk₂ hv hTu ⟨hsub, e1, tq, e2⟩ F₂ N₂
    clear F₁ N₁
    replace F₂ : Fr g L' h₂ (o1 "table" (.ref lt) (o1 "place" (.int (anc ab (low mn i) pl : Nat) tq) m₂)) := by simp only [o1_self e1, o1_self e2]; exact F₂
    replace N₂ : News g L' h₂ all := N₂
    have hbl := (bl_facts mn hmn).2.1
    have hle := hI.length
    rw [bitsN_len] at hle
    have hi : i < bl mn := by
      have := (List.getElem?_eq_some_iff.mp hv).1
      omega
    obtain ⟨tv, hv'⟩ := ints_get hI (k := i) (by rw [bitsN_len]; exact hi)
    obtain rfl : v = .int ((mn / 2 ^ i % 2 : Nat) : Int) tv := by
      rw [hv] at hv'
      have e := Option.some.inj hv'
      rw [e]
      congr 1
      unfold bitsN
      rw [List.getD_eq_getElem?_getD, List.getElem?_map, List.getElem?_range hi]
      rfl
    have hT₂ := hT₁.lists fun q hq _ => hsub q hq
    obtain ⟨ts, hts, hlv⟩ := hT₂.get
    obtain ⟨aj, nj, hj1, hj2, hj3⟩ := hlv i (by omega)
    have hin := T₀.anc_in hpl (low mn i)
    have hstep := anc_step (ab := ab) mn i pl
    repeat' (first | walk1 | (dsimp only; walk1))
    · unfold Hold
      rename Fr _ _ _ _ => F₃
      rename News _ _ _ _ => N₃
      refine item_L N₃ hts (by omega) (by omega) (by rw [Int.toNat_natCast]; exact hj1) ?_
      repeat' (first | walk1 | (dsimp only; walk1))
      unfold Hold
      refine item_IntL N₃ hj2 (by omega) (by rw [hj3.1]; omega) (by have := T₀.len; omega) fun t5 => ?_
      rw [Int.toNat_natCast, hj3.2 _ hin]
      repeat' (first | walk1 | (dsimp only; walk1))
      rename (mn / 2 ^ i % 2 : Nat) = (1 : Int) => hbit
      refine ⟨rfl, _, _, _, _, rfl, by assumption, by assumption, fun q hq => hq, fun q hq => hsub q hq, rfl, t5, ?_⟩
      have hb : mn / 2 ^ i % 2 = 1 := Int.ofNat.inj hbit
      rw [hstep, if_pos hb]; rfl
    · rename ¬ (mn / 2 ^ i % 2 : Nat) = (1 : Int) => hbit
      refine ⟨rfl, _, _, _, _, rfl, by assumption, by assumption, fun q hq => hq, fun q hq => hsub q hq, rfl, tq, ?_⟩
      have hb : ¬ mn / 2 ^ i % 2 = 1 := fun e => hbit (by rw [e]; rfl)
      rw [hstep, if_neg hb]; rfl
  · rintro h₂ tk₂ m₂ all F₂ N₂ ⟨hsub, e1, tq, e2⟩
    clear F₁ N₁
    replace F₂ : Fr g L' h₂ (o1 "table" (.ref lt) (o1 "place" (.int (anc ab (low mn vs.length) pl : Nat) tq) m₂)) := by simp only [o1_self e1, o1_self e2]; exact F₂
    try dsimp only
    repeat' (first | walk1 | (dsimp only; walk1))
    have e : low mn vs.length = mn := by
      rw [hI.length, bitsN_len]
      exact low_all (bl_facts mn hmn).1
    rw [e]
    exact ⟨_, _, _, _, rfl, F₂, N₂, fun q hq hn => hsub q (hold₁ q hq hn), tq, rfl, ht₁.mono hsub⟩
end Mine
end
section
set_option maxRecDepth 100000
namespace Mine
def dep (ab : List Int) (p : Nat) : Nat := (row ab p).length - 1
theorem row_pos (ab : List Int) (p : Nat) : 0 < (row ab p).length := by
  unfold row
  cases p with
  | zero => exact Nat.one_pos
  | succ p =>
    show 0 < (if p + 1 = 0 then [0] else rowF (par ab) p (par ab (p + 1)) ++ [p + 1]).length
    rw [if_neg (by omega), List.length_append]
    exact Nat.succ_pos _
theorem row_dep (ab : List Int) (p : Nat) : (row ab p).length = dep ab p + 1 := by
  have := row_pos ab p
  unfold dep; omega
theorem dep_zero (ab : List Int) : dep ab 0 = 0 := rfl
theorem dep_up {ab : List Int} (T : Tree ab) {p : Nat} (h : 0 < p) (hl : p < ab.length) : dep ab p = dep ab (par ab p) + 1 := by
  have := row_dep ab (par ab p)
  unfold dep at *
  rw [row_succ T h hl, List.length_append, List.length_singleton]
  omega
theorem dep_par {ab : List Int} (T : Tree ab) {p : Nat} (hl : p < ab.length) : dep ab (par ab p) = dep ab p - 1 := by
  rcases Nat.eq_zero_or_pos p with rfl | h
  · rw [T.par_zero]; rfl
  · rw [dep_up T h hl]; rfl
theorem dep_anc {ab : List Int} (T : Tree ab) {p : Nat} (hl : p < ab.length) : ∀ k, dep ab (anc ab k p) = dep ab p - k
  | 0 => rfl
  | k + 1 => by
    show dep ab (par ab (anc ab k p)) = _
    rw [dep_par T (T.anc_in hl k), dep_anc T hl k]
    omega
theorem zero_of_dep {ab : List Int} (T : Tree ab) {p : Nat} (hl : p < ab.length) (h : dep ab p = 0) : p = 0 := by
  rcases Nat.eq_zero_or_pos p with e | h'
  · exact e
  · have := dep_up T h' hl; omega
theorem dep_le {ab : List Int} (T : Tree ab) {p : Nat} (hl : p < ab.length) : dep ab p ≤ p := by
  have := row_len T p hl
  have := row_dep ab p
  omega
theorem mem_row {ab : List Int} (T : Tree ab) : ∀ p, p < ab.length → ∀ q, q ∈ row ab p ↔ ∃ k, anc ab k p = q := by
  intro p
  induction p using Nat.strongRecOn with
  | ind p ih =>
    intro hl q
    rcases Nat.eq_zero_or_pos p with rfl | h
    · rw [row_zero, List.mem_singleton]
      constructor
      · rintro rfl; exact ⟨0, rfl⟩
      · rintro ⟨k, rfl⟩
        induction k with
        | zero => rfl
        | succ k ihk => show par ab _ = 0; rw [ihk, T.par_zero]
    · rw [row_succ T h hl, List.mem_append, List.mem_singleton, ih _ (T.par_lt h hl) (T.par_in hl)]
      constructor
      · rintro (⟨k, rfl⟩ | rfl)
        · exact ⟨k + 1, anc_add ab k 1 p⟩
        · exact ⟨0, rfl⟩
      · rintro ⟨k, rfl⟩
        cases k with
        | zero => exact .inr rfl
        | succ k => exact .inl ⟨k, (anc_add ab k 1 p).symm⟩
theorem mem_anc {ab : List Int} (T : Tree ab) {p : Nat} (hl : p < ab.length) (k : Nat) : anc ab k p ∈ row ab p := (mem_row T p hl _).mpr ⟨k, rfl⟩
theorem mem_in {ab : List Int} (T : Tree ab) {p q : Nat} (hl : p < ab.length) (h : q ∈ row ab p) : q < ab.length := by
  obtain ⟨k, rfl⟩ := (mem_row T p hl q).mp h
  exact T.anc_in hl k
theorem mem_self {ab : List Int} (T : Tree ab) {p : Nat} (hl : p < ab.length) : p ∈ row ab p := mem_anc T hl 0
theorem mem_eq {ab : List Int} (T : Tree ab) {p q : Nat} (hl : p < ab.length) (h : q ∈ row ab p) : dep ab q ≤ dep ab p ∧ anc ab (dep ab p - dep ab q) p = q := by
  obtain ⟨k, rfl⟩ := (mem_row T p hl q).mp h
  have e := dep_anc T hl k
  refine ⟨by omega, ?_⟩
  rcases Nat.lt_or_ge (dep ab p) k with h' | h'
  · have h1 : dep ab (anc ab k p) = 0 := by omega
    have h2 : anc ab (dep ab p) p = 0 := zero_of_dep T (T.anc_in hl _) (by rw [dep_anc T hl]; omega)
    rw [h1, Nat.sub_zero, h2, zero_of_dep T (T.anc_in hl k) h1]
  · rw [e, show dep ab p - (dep ab p - k) = k by omega]
theorem mem_trans {ab : List Int} (T : Tree ab) {p q r : Nat} (hl : p < ab.length) (h : q ∈ row ab p) (h' : r ∈ row ab q) : r ∈ row ab p := by
  obtain ⟨k, rfl⟩ := (mem_row T p hl q).mp h
  obtain ⟨j, rfl⟩ := (mem_row T _ (T.anc_in hl k) r).mp h'
  rw [← anc_add]
  exact mem_anc T hl _
/-- of two places above one, the less deep is above the other -/
theorem mem_below {ab : List Int} (T : Tree ab) {p q r : Nat} (hl : p < ab.length) (h : q ∈ row ab p) (h' : r ∈ row ab p) (hd : dep ab r ≤ dep ab q) : r ∈ row ab q := by
  obtain ⟨h1, h2⟩ := mem_eq T hl h
  obtain ⟨h3, h4⟩ := mem_eq T hl h'
  rw [← h4, show dep ab p - dep ab r = (dep ab q - dep ab r) + (dep ab p - dep ab q) by omega, anc_add, h2]
  exact mem_anc T (mem_in T hl h) _
/-- the nearest place above both -/
def Near (ab : List Int) (x y r : Nat) : Prop := r ∈ row ab x ∧ r ∈ row ab y ∧ ∀ q, q ∈ row ab x → q ∈ row ab y → dep ab q ≤ dep ab r
theorem Near.symm {ab : List Int} {x y r : Nat} (h : Near ab x y r) : Near ab y x r := ⟨h.2.1, h.1, fun q h1 h2 => h.2.2 q h2 h1⟩
theorem Near.uniq {ab : List Int} (T : Tree ab) {x y r r' : Nat} (hl : x < ab.length) (h : Near ab x y r) (h' : Near ab x y r') : r = r' := by
  have h1 := h.2.2 _ h'.1 h'.2.1
  have h2 := h'.2.2 _ h.1 h.2.1
  obtain ⟨_, h3⟩ := mem_eq T hl h.1
  obtain ⟨_, h4⟩ := mem_eq T hl h'.1
  rw [← h3, ← h4, Nat.le_antisymm h1 h2]
theorem Near.self {ab : List Int} (T : Tree ab) {x y : Nat} (hl : x < ab.length) (h : y ∈ row ab x) : Near ab x y y :=
  ⟨h, mem_self T (mem_in T hl h), fun _ _ hq => (mem_eq T (mem_in T hl h) hq).1⟩
theorem filt_up {ab : List Int} (T : Tree ab) (P : Nat → Bool) {x : Nat} (hl : x < ab.length) : ∀ k, (∀ i, i < k → anc ab i x ≠ 0 → P (anc ab i x) = false) → (row ab x).filter P = (row ab (anc ab k x)).filter P
  | 0, _ => rfl
  | k + 1, h => by
    rw [filt_up T P hl k fun i hi => h i (Nat.lt_succ_of_lt hi)]
    show _ = (row ab (par ab (anc ab k x))).filter P
    rcases Nat.eq_zero_or_pos (anc ab k x) with e | e
    · rw [e, T.par_zero]
    · rw [row_succ T e (T.anc_in hl k), List.filter_append, List.filter_cons_of_neg (by rw [h k (Nat.lt_succ_self k) (by omega)]; exact Bool.false_ne_true), List.filter_nil, List.append_nil]
theorem Near.filt {ab : List Int} (T : Tree ab) {x y r : Nat} (hx : x < ab.length) (hy : y < ab.length) (h : Near ab x y r) : (row ab x).filter (fun q => decide (q ∈ row ab y)) = row ab r := by
  obtain ⟨h1, h2, h3⟩ := h
  obtain ⟨h4, h5⟩ := mem_eq T hx h1
  rw [filt_up T _ hx (dep ab x - dep ab r) fun i hi hne => ?_, h5]
  · exact List.filter_eq_self.mpr fun q hq => decide_eq_true (mem_trans T hy h2 hq)
  · refine decide_eq_false fun hm => ?_
    have h6 := h3 _ (mem_anc T hx i) hm
    rw [dep_anc T hx] at h6
    omega
/-- of three the two less deep are as deep -/
theorem Near.three {ab : List Int} (T : Tree ab) {a b c p q r : Nat} (hb : b < ab.length) (hc : c < ab.length) (h1 : Near ab a b p) (h2 : Near ab b c q) (h3 : Near ab a c r) (hd : dep ab p ≤ dep ab q) : dep ab p ≤ dep ab r :=
  h3.2.2 p h1.1 (mem_trans T hc h2.2.1 (mem_below T hb h2.1 h1.2.1 hd))
/-- on the way up together -/
def Lift (ab : List Int) (x y i a b : Nat) : Prop := a ≠ b ∧ (∃ t, a = anc ab t x ∧ b = anc ab t y) ∧ anc ab (2 ^ (4 - i)) a = anc ab (2 ^ (4 - i)) b
theorem Lift.start {ab : List Int} (T : Tree ab) {x y : Nat} (hx : x < ab.length) (hy : y < ab.length) (h : x ≠ y) : Lift ab x y 0 x y := by
  refine ⟨h, ⟨0, rfl, rfl⟩, ?_⟩
  have := T.len
  have h1 := dep_le T hx
  have h2 := dep_le T hy
  rw [zero_of_dep T (T.anc_in hx _) (p := anc ab (2 ^ (4 - 0)) x) (by rw [dep_anc T hx]; omega), zero_of_dep T (T.anc_in hy _) (p := anc ab (2 ^ (4 - 0)) y) (by rw [dep_anc T hy]; omega)]
theorem Lift.step {ab : List Int} {x y i a b : Nat} (hi : i < 4) (h : Lift ab x y i a b) (hne : anc ab (2 ^ (3 - i)) a ≠ anc ab (2 ^ (3 - i)) b) : Lift ab x y (i + 1) (anc ab (2 ^ (3 - i)) a) (anc ab (2 ^ (3 - i)) b) := by
  obtain ⟨_, ⟨t, rfl, rfl⟩, h3⟩ := h
  refine ⟨hne, ⟨2 ^ (3 - i) + t, (anc_add ..).symm, (anc_add ..).symm⟩, ?_⟩
  have e : 2 ^ (4 - i) = 2 ^ (4 - (i + 1)) + 2 ^ (3 - i) := by
    match i, hi with
    | 0, _ | 1, _ | 2, _ | 3, _ => rfl
  rw [e, anc_add, anc_add] at h3
  exact h3
theorem Lift.stay {ab : List Int} {x y i a b : Nat} (h : Lift ab x y i a b) (he : anc ab (2 ^ (3 - i)) a = anc ab (2 ^ (3 - i)) b) : Lift ab x y (i + 1) a b :=
  ⟨h.1, h.2.1, by rw [show 4 - (i + 1) = 3 - i by omega]; exact he⟩
theorem Lift.near {ab : List Int} (T : Tree ab) {x y a b : Nat} (hx : x < ab.length) (hy : y < ab.length) (hd : dep ab x = dep ab y) (h : Lift ab x y 4 a b) : Near ab x y (anc ab 1 a) := by
  obtain ⟨h1, ⟨t, rfl, rfl⟩, h3⟩ := h
  replace h3 : anc ab 1 (anc ab t x) = anc ab 1 (anc ab t y) := h3
  refine ⟨by rw [← anc_add]; exact mem_anc T hx _, by rw [h3, ← anc_add]; exact mem_anc T hy _, fun q hqx hqy => ?_⟩
  obtain ⟨h4, h5⟩ := mem_eq T hx hqx
  obtain ⟨h6, h7⟩ := mem_eq T hy hqy
  rw [← anc_add, dep_anc T hx]
  rcases Nat.lt_or_ge (dep ab x - (1 + t)) (dep ab q) with h8 | h8
  · exfalso
    apply h1
    have e : t = (t - (dep ab x - dep ab q)) + (dep ab x - dep ab q) := by omega
    rw [e, anc_add, anc_add, h5, hd, h7]
  · exact h8
/-- both taken up to one depth -/
theorem Near.lift {ab : List Int} (T : Tree ab) {x y r : Nat} (hx : x < ab.length) (hy : y < ab.length) (hd : dep ab y ≤ dep ab x) (h : Near ab (anc ab (dep ab x - dep ab y) x) y r) : Near ab x y r := by
  refine ⟨mem_trans T hx (mem_anc T hx _) h.1, h.2.1, fun q h1 h2 => h.2.2 q (mem_below T hx (mem_anc T hx _) h1 ?_) h2⟩
  rw [dep_anc T hx]
  have := (mem_eq T hy h2).1
  omega
end Mine
end
section
open PySem PySem.W PyProof.Rows
set_option maxRecDepth 100000
set_option maxHeartbeats 8000000
namespace Mine
open PySem PySem.W PySem.Spec PySem.Calls PyProof.Rows

def DepL (news : Led) (ld : Addr) (ab : List Int) : Prop := ∃ ns, IntL news ld ns ∧ ns.length = ab.length ∧ ∀ p, p < ab.length → ns.getD p 0 = (dep ab p : Nat)
theorem DepL.lists {news news' : Led} {ld : Addr} {ab : List Int} (h : DepL news ld ab) (hs : ∀ q ∈ news, q.2.cls = .type "list" → q ∈ news') : DepL news' ld ab :=
  let ⟨ns, h1, h2⟩ := h; ⟨ns, h1.lists hs, h2⟩
theorem item_Dep {prog : Program} {w : World} {A : Around} {E : Value → Shared → Prop} {s : Shared} {h₀ : Heap} {L : Addr} {news : Led} {ab : List Int} {value slice : PySem.Expr} {l : Addr} {p : Nat} {u : Tok} {Q : Value → Shared → Prop} (N : News h₀ L s.heap news) (hl : DepL news l ab) (hp : p < ab.length) (hfit : ab.length < 2 ^ 40)
    (h : ∀ t, Q (.int (dep ab p : Nat) t) s)
    (hs : subscripted slice false (.ref l) (.int (p : Nat) u) = operate [.ref l, .int (p : Nat) u] (getItem (.ref l) (.int (p : Nat) u)) := by with_unfolding_all rfl) :
    wpAny (model prog w) A (subscriptTail value slice (.ref l) (.int (p : Nat) u)) Q E s := by
  obtain ⟨ns, h1, h2, h3⟩ := hl
  refine item_IntL N h1 (by omega) (by omega) (by omega) (fun t => ?_) hs
  rw [Int.toNat_natCast, h3 p hp]
  exact h t
theorem item_Tab {prog : Program} {w : World} {A : Around} {E : Value → Shared → Prop} {s : Shared} {h₀ : Heap} {L : Addr} {news : Led} {ab : List Int} {value slice : PySem.Expr} {l : Addr} {k' : Int} {k : Nat} {u : Tok} {Q : Value → Shared → Prop} (N : News h₀ L s.heap news) (hl : TabL news l ab) (hk' : k' = k) (hk : k < 4)
    (h : ∀ a ns, IntL news a ns → Lvl ab k ns → Q (.ref a) s)
    (hs : subscripted slice false (.ref l) (.int k' u) = operate [.ref l, .int k' u] (getItem (.ref l) (.int k' u)) := by with_unfolding_all rfl) :
    wpAny (model prog w) A (subscriptTail value slice (.ref l) (.int k' u)) Q E s := by
  subst hk'
  obtain ⟨vs, h1, h2⟩ := hl.get
  obtain ⟨a, ns, h3, h4, h5⟩ := h2 k hk
  refine item_L N h1 (by omega) (by omega) (by rw [Int.toNat_natCast]; exact h3) (h a ns h4 h5) hs
theorem item_Lvl {prog : Program} {w : World} {A : Around} {E : Value → Shared → Prop} {s : Shared} {h₀ : Heap} {L : Addr} {news : Led} {ab ns : List Int} {value slice : PySem.Expr} {l : Addr} {j p : Nat} {u : Tok} {Q : Value → Shared → Prop} (N : News h₀ L s.heap news) (hl : IntL news l ns) (hv : Lvl ab j ns) (hp : p < ab.length) (hfit : ab.length < 2 ^ 40)
    (h : ∀ t, Q (.int (anc ab (2 ^ j) p : Nat) t) s)
    (hs : subscripted slice false (.ref l) (.int (p : Nat) u) = operate [.ref l, .int (p : Nat) u] (getItem (.ref l) (.int (p : Nat) u)) := by with_unfolding_all rfl) :
    wpAny (model prog w) A (subscriptTail value slice (.ref l) (.int (p : Nat) u)) Q E s := by
  refine item_IntL N hl (by omega) (by rw [hv.1]; omega) (by omega) (fun t => ?_) hs
  rw [Int.toNat_natCast, hv.2 p hp]
  exact h t
/-- after the swap -/
def SwapE (g : Heap) (L : Addr) (s : Shared) (news : Led) (ab : List Int) (lt ld : Addr) (x y : Nat) (f : Flow) (s' : Shared) : Prop :=
  f = .next ∧ ∃ h' tk m' x' y' tx ty, s' = { s with heap := h', toks := tk } ∧ Fr g L h' m' ∧ News g L h' news ∧ m' "table" = some (.ref lt) ∧ m' "depths" = some (.ref ld) ∧ m' "one" = some (.int (x' : Nat) tx) ∧ m' "other" = some (.int (y' : Nat) ty) ∧
    x' < ab.length ∧ y' < ab.length ∧ dep ab y' ≤ dep ab x' ∧ ∀ r, Near ab x' y' r → Near ab x y r

local macro_rules | `(tactic| walk_at "call ref") => `(tactic| refine hold ?_)
local macro_rules | `(tactic| walk_at "subscriptTail") => `(tactic| refine hold ?_)
local macro_rules | `(tactic| walk_at "exec If Compare cons nil") => `(tactic| refine hold ?_)
local macro_rules | `(tactic| walk_at "exec For Name Call cons nil") => `(tactic| refine hold ?_)
local macro_rules | `(tactic| walk_at "no such place") => `(tactic| skip)
theorem nearest_spec {prog : Program} {w : World} {p : Program} {loose : List Str} {mean : ExcName → Option Value} {mg mb : Str → Option Value}
    {news : Led} {lt ld : Addr} {ab : List Int} {x y : Nat} {tx ty : Tok} (T₀ : Tree ab) (ht : Tab news) (hT : TabL news lt ab) (hD : DepL news ld ab) (hx : x < ab.length) (hy : y < ab.length) :
    Spec prog w (hd.heap_39 w.params) p loose mean mg mb 65 [.ref lt, .ref ld, .int x tx, .int y ty] news (fun b => b = 16) 12 96 (fun v new => ∃ r t, v = .int (r : Nat) t ∧ Near ab x y r ∧ Tab new) := by
  refine' spec_of (D := 11) (U := 93) (K := hd.heap_39 w.params) ?ho ?hc ?hb ?hl ?h ?a ?b ?c ?hcell
  case ho => k_is
  case hc => k_is
  case hb => exact fun _ => rfl
  case hl => exact locs rfl
  case a => exact rfl
  case b => exact rfl
  case c => exact rfl
  case hcell => decide
  intro dp un gd outer A₀ base g L' s C hdp hun
  obtain ⟨B, F, X, N, T, CH, hk⟩ := C
  have h13 := T₀.len
  repeat' (first | walk1 | (dsimp only; walk1))
  unfold Hold
  refine wpAny_mono (Q := SwapE g L' s news ab lt ld x y) (wpAny_If ?_) (fun f s₁ hs₁ => ?_) fun _ _ x => x
  · repeat' (first | walk1 | (dsimp only; walk1))
    unfold Hold
    refine item_Dep N hD hx (by omega) fun t1 => ?_
    repeat' (first | walk1 | (dsimp only; walk1))
    unfold Hold
    refine item_Dep N hD hy (by omega) fun t2 => ?_
    repeat' (first | walk1 | (dsimp only; walk1))
    · exact ⟨rfl, _, _, _, y, x, _, _, rfl, by assumption, news_sub (by assumption) fun q hq => .tail _ hq, rfl, rfl, rfl, rfl, hy, hx, by omega, fun r hr => hr.symm⟩
    · exact ⟨rfl, _, _, _, x, y, _, _, rfl, by assumption, by assumption, rfl, rfl, rfl, rfl, hx, hy, by omega, fun r hr => hr⟩
  obtain ⟨rfl, h₁, tk₁, m₁, x', y', tx', ty', rfl, F₁, N₁, e1, e2, e3, e4, hx', hy', hd', hback⟩ := hs₁
  clear F N hx hy
  replace F₁ : Fr g L' h₁ (o1 "table" (.ref lt) (o1 "depths" (.ref ld) (o1 "one" (.int (x' : Nat) tx') (o1 "other" (.int (y' : Nat) ty') m₁)))) := by simp only [o1_self e1, o1_self e2, o1_self e3, o1_self e4]; exact F₁
  repeat' (first | walk1 | (dsimp only; walk1))
  unfold Hold
  refine item_Dep N₁ hD hx' (by omega) fun t1 => ?_
  repeat' (first | walk1 | (dsimp only; walk1))
  unfold Hold
  refine item_Dep N₁ hD hy' (by omega) fun t2 => ?_
  repeat' (first | walk1 | (dsimp only; walk1))
  unfold Hold
  rw [show ((dep ab x' : Nat) : Int) - (dep ab y' : Nat) = ((dep ab x' - dep ab y' : Nat) : Int) by omega]
  have hdx := dep_le T₀ hx'
  refine (up_spec T₀ ht hT hx' (by omega)).use ⟨B, F₁, X, N₁, T, CH, hk⟩ (by omega) (by omega) ?_
  rintro v h₂ tk₂ new F₂ N₂ hold₂ ⟨t3, rfl, ht₂⟩
  have hT₂ := hT.lists fun q hq hc => hold₂ q hq (Tab.ne16 N₁ ht q hq hc)
  have hx2 := T₀.anc_in hx' (dep ab x' - dep ab y')
  have hup := @Near.lift ab T₀ x' y'
  have hdd := dep_anc T₀ hx' (dep ab x' - dep ab y')
  generalize anc ab (dep ab x' - dep ab y') x' = x2 at *
  clear F₁ N₁
  repeat' (first | walk1 | (dsimp only; walk1))
  unfold Hold
  refine wpAny_If ?_
  repeat' (first | walk1 | (dsimp only; walk1))
  · rename ((x2 : Nat) : Int) = ((y' : Nat) : Int) => he
    obtain rfl : x2 = y' := by omega
    exact ⟨_, _, _, _, rfl, by assumption, by assumption, hold₂, x2, t3, rfl, hback _ (hup hx' hx2 hd' (Near.self T₀ hx2 (mem_self T₀ hx2))), ht₂⟩
  rename ¬ ((x2 : Nat) : Int) = ((y' : Nat) : Int) => hne
  unfold Hold
  rename Fr _ _ _ _ => F₃
  rename News _ _ _ _ => N₃
  refine For_turns F₃ ?_ (hE := PassesOwn.never)
  repeat' (first | walk1 | (dsimp only; walk1))
  rename IsRange _ _ _ _ _ _ _ _ => R₄
  rename Fr _ _ _ _ => F₄
  rename News _ _ _ _ => N₄
  try clear F₃ N₃
  have hxy : x2 ≠ y' := fun e => hne (by rw [e])
  refine for_range (n := 4) rfl R₄ (by decide) (by decide) F₄ N₄ (fun _ _ => rfl) (fun I i m all => (∀ q ∈ new, q.1 < I ∧ q ∈ all) ∧ m "table" = some (.ref lt) ∧ ∃ (a b : Nat) (ta tb : Tok), m "one" = some (.int (a : Nat) ta) ∧ m "other" = some (.int (b : Nat) tb) ∧ Lift ab x2 y' i a b) ?_ ?_ ?_ ?_
  · rintro I i m a b ⟨h1, h2⟩ hs
    exact ⟨fun q hq => ⟨(h1 q hq).1, hs q (h1 q hq).2 (Nat.ne_of_lt (h1 q hq).1)⟩, h2⟩
  · exact fun I hI => ⟨fun q hq => ⟨hI q hq, hq⟩, rfl, x2, y', _, _, rfl, rfl, Lift.start T₀ hx2 hy' hxy⟩
  · rintro I i t m₂ all h₃ tk₃ oI hi hI hin hnc hoc ⟨hsub, e1, a, b, ta, tb, e2, e3, hL⟩ F₅ N₅
    clear F₄ N₄ R₄
    replace F₅ : Fr g L' h₃ (o1 "table" (.ref lt) (o1 "one" (.int (a : Nat) ta) (o1 "other" (.int (b : Nat) tb) m₂))) := by simp only [o1_self e1, o1_self e2, o1_self e3]; exact F₅
    replace N₅ : News g L' h₃ all := N₅
    have hT₅ := hT₂.lists fun q hq _ => (hsub q hq).2
    have ha : a < ab.length := by obtain ⟨_, ⟨k, rfl, rfl⟩, _⟩ := hL; exact T₀.anc_in hx2 k
    have hb : b < ab.length := by obtain ⟨_, ⟨k, rfl, rfl⟩, _⟩ := hL; exact T₀.anc_in hy' k
    have hk : (3 : Int) + (i : Int) * (0 - 1) = ((3 - i : Nat) : Int) := by omega
    rw [hk]
    repeat' (first | walk1 | (dsimp only; walk1))
    unfold Hold
    refine wpAny_If ?_
    repeat' (first | walk1 | (dsimp only; walk1))
    unfold Hold
    rename Fr _ _ _ _ => F₆
    rename News _ _ _ _ => N₆
    refine item_Tab N₆ hT₅ rfl (by omega) fun ca nsa hca hva => ?_
    repeat' (first | walk1 | (dsimp only; walk1))
    unfold Hold
    refine item_Lvl N₆ hca hva ha (by omega) fun ta => ?_
    repeat' (first | walk1 | (dsimp only; walk1))
    unfold Hold
    refine item_Tab N₆ hT₅ rfl (by omega) fun cb nsb hcb hvb => ?_
    repeat' (first | walk1 | (dsimp only; walk1))
    unfold Hold
    refine item_Lvl N₆ hcb hvb hb (by omega) fun tb => ?_
    repeat' (first | walk1 | (dsimp only; walk1))
    · rename ((anc ab _ a : Nat) : Int) ≠ ((anc ab _ b : Nat) : Int) => hdiff
      unfold Hold
      refine item_Tab N₆ hT₅ rfl (by omega) fun cc nsc hcc hvc => ?_
      repeat' (first | walk1 | (dsimp only; walk1))
      unfold Hold
      refine item_Lvl N₆ hcc hvc ha (by omega) fun tc => ?_
      repeat' (first | walk1 | (dsimp only; walk1))
      unfold Hold
      refine item_Tab N₆ hT₅ rfl (by omega) fun cd nsd hcd hvd => ?_
      repeat' (first | walk1 | (dsimp only; walk1))
      unfold Hold
      refine item_Lvl N₆ hcd hvd hb (by omega) fun td => ?_
      repeat' (first | walk1 | (dsimp only; walk1))
      refine ⟨rfl, _, _, _, _, rfl, by assumption, by assumption, .tail _ hin, fun q hq => ⟨(hsub q hq).1, .tail _ (hsub q hq).2⟩, rfl, _, _, _, _, rfl, rfl, hL.step hi fun e => hdiff (by rw [e])⟩
    · rename ((anc ab _ a : Nat) : Int) = ((anc ab _ b : Nat) : Int) => hsame
      have hsame' : anc ab (2 ^ (3 - i)) a = anc ab (2 ^ (3 - i)) b := by
        omega
      exact ⟨rfl, _, _, _, _, rfl, by assumption, by assumption, hin, hsub, rfl, a, b, _, _, rfl, rfl, hL.stay hsame'⟩
  · rintro I h₃ tk₃ m₂ all hI F₅ N₅ ⟨hsub, e1, a, b, ta, tb, e2, e3, hL⟩
    clear F₄ N₄ R₄
    replace F₅ : Fr g L' h₃ (o1 "table" (.ref lt) (o1 "one" (.int (a : Nat) ta) (o1 "other" (.int (b : Nat) tb) m₂))) := by simp only [o1_self e1, o1_self e2, o1_self e3]; exact F₅
    have hT₅ := hT₂.lists fun q hq _ => (hsub q hq).2
    have ha : a < ab.length := by obtain ⟨_, ⟨k, rfl, rfl⟩, _⟩ := hL; exact T₀.anc_in hx2 k
    try dsimp only
    repeat' (first | walk1 | (dsimp only; walk1))
    unfold Hold
    refine item_Tab (k := 0) N₅ hT₅ rfl (by omega) fun ca nsa hca hva => ?_
    repeat' (first | walk1 | (dsimp only; walk1))
    unfold Hold
    refine item_Lvl N₅ hca hva ha (by omega) fun t => ?_
    repeat' (first | walk1 | (dsimp only; walk1))
    refine ⟨_, _, _, _, rfl, F₅, N₅, fun q hq hn => (hsub q (hold₂ q hq hn)).2, _, t, rfl, hback _ (hup hx' hy' hd' (hL.near T₀ hx2 hy' ?_)), ht₂.mono fun q hq => (hsub q hq).2⟩
    omega
end Mine
end
section
open PySem PySem.W PyProof.Rows
set_option maxRecDepth 100000
namespace Mine
open PySem PySem.W PySem.Spec PySem.Calls PyProof.Rows PyProof.Rows.LCg

/-- one turn's end of a list comprehension: the iterator I, the block's names C, the list so far D stand -/
def CEnd (h₀ : Heap) (L : Addr) (m : Str → Option Value) (s : Shared) (I : Addr) (oI : Obj) (C : Addr) (oC : Obj) (D : Addr) (oD : Obj) (R : Value → Led → Prop) (y : Value) (s₂ : Shared) : Prop :=
  ∃ h' tk all', s₂ = { s with heap := h', toks := tk } ∧ Fr h₀ L h' m ∧ News h₀ L h' all' ∧ (I, oI) ∈ all' ∧ (C, oC) ∈ all' ∧ (D, oD) ∈ all' ∧ ∀ a, (∀ q ∈ all', q.1 ≠ I → q.1 ≠ C → q.1 ≠ D → q ∈ a) → R y a
theorem CEnd.to {h₀ : Heap} {L : Addr} {m : Str → Option Value} {s : Shared} {I C D : Addr} {oI oC oD : Obj} {R : Value → Led → Prop} {S : Led → Prop} {rest : Value → Led → Prop} {y : Value} {s₂ : Shared}
    (h : CEnd h₀ L m s I oI C oC D oD R y s₂) (hr : ∀ a, R y a → S a ∧ rest y a) : CompEnd h₀ L m s I oI C oC D oD S rest y s₂ := by
  obtain ⟨h', tk, all', rfl, F, N, hI, hC, hD, hR⟩ := h
  have hm : ∀ p, p ∈ all'.filter (fun p => decide (p.1 ≠ I ∧ p.1 ≠ C ∧ p.1 ≠ D)) → p ∈ all' ∧ p.1 ≠ I ∧ p.1 ≠ C ∧ p.1 ≠ D := fun p hp => by
    obtain ⟨h1, h2⟩ := List.mem_filter.mp hp
    exact ⟨h1, of_decide_eq_true h2⟩
  have z := hr _ (hR (all'.filter fun p => decide (p.1 ≠ I ∧ p.1 ≠ C ∧ p.1 ≠ D)) fun q hq h1 h2 h3 => List.mem_filter.mpr ⟨hq, decide_eq_true ⟨h1, h2, h3⟩⟩)
  refine CompEnd.intro F N _ (fun p hp => ?_) (Off3.of fun p hp => (hm p hp).2) z.1 z.2
  rcases List.mem_cons.mp hp with rfl | hp
  · exact hI
  · rcases List.mem_cons.mp hp with rfl | hp
    · exact hC
    · rcases List.mem_cons.mp hp with rfl | hp
      · exact hD
      · exact (hm p hp).1

section
variable {prog : Program} {w : World} {A : Around} {E : Value → Shared → Prop} {s : Shared} {h₀ : Heap} {L : Addr} {m : Str → Option Value} {env : Env} {ct elt : PySem.Expr} {x : Str} {scope : Scope} {cl : List (Str × Addr)} {S : Led → Prop} {P : Nat → Value → Prop} {Fin : List Value → Led → Prop} {n : Nat} {news : Led}
theorem rest_U (J : Nat → List Value → Led → Prop)
    (step : ∀ i v I oI C oC D m₂ ys news h tk (E' : Value → Shared → Prop), i < n → P i v → J i ys news → S news → NsObj oC m₂ → m₂ x = some v → Fr h₀ L h m → News h₀ L h ((I, oI) :: (C, oC) :: (D, lst ys) :: news) → (∀ q ∈ news, q.1 ≠ I ∧ q.1 ≠ C ∧ q.1 ≠ D) →
      wpAny (model prog w) A (eval elt (compEnvC scope cl C env)) (CEnd h₀ L m { s with heap := h, toks := tk } I oI C oC D (lst ys) (fun y a => S a ∧ J (i + 1) (ys ++ [y]) a)) E' { s with heap := h, toks := tk })
    (fin : ∀ ys a, J n ys a → Fin ys a) (hS : S news) (h0 : J 0 [] news) : CompRest prog w A h₀ L m env elt x scope cl s S P Fin n 0 [] news := by
  have key : ∀ k i ys news, i + k = n → S news → J i ys news → CompRest prog w A h₀ L m env elt x scope cl s S P Fin k i ys news := by
    intro k
    induction k with
    | zero => intro i ys news hi _ hj; rw [Nat.add_zero] at hi; exact fin ys news (hi ▸ hj)
    | succ k ih =>
      intro i ys news hi hs hj
      refine CompRest.succ fun v I oI C oC D m₂ h tk E' hP hC hx F N off _ => ?_
      exact wpAny_mono (step i v I oI C oC D m₂ ys news h tk E' (by omega) hP hj hs hC hx F N off.mem) (fun y s₂ h₂ => h₂.to fun a ha => ⟨ha.1, ih (i + 1) _ a (by omega) ha.1 ha.2⟩) fun _ _ e => e
  exact key n 0 [] news (by omega) hS h0
theorem rest_T (J : Nat → List Value → Led → Prop)
    (step : ∀ i v I oI C oC D m₂ ys news h tk (E' : Value → Shared → Prop), i < n → P i v → J i ys news → S news → NsObj oC m₂ → m₂ x = some v → Fr h₀ L h m → News h₀ L h ((I, oI) :: (C, oC) :: (D, lst ys) :: news) → (∀ q ∈ news, q.1 ≠ I ∧ q.1 ≠ C ∧ q.1 ≠ D) →
      wpAny (model prog w) A (isTrue ct (compEnvC scope cl C env) (eval ct (compEnvC scope cl C env))) (fun ok s' => if ok = true then
        wpAny (model prog w) A (eval elt (compEnvC scope cl C env)) (CEnd h₀ L m { s with heap := h, toks := tk } I oI C oC D (lst ys) (fun y a => S a ∧ J (i + 1) (ys ++ [y]) a)) E' s'
        else CEnd h₀ L m { s with heap := h, toks := tk } I oI C oC D (lst ys) (fun _ a => S a ∧ J (i + 1) ys a) .none s') E' { s with heap := h, toks := tk })
    (fin : ∀ ys a, J n ys a → Fin ys a) (hS : S news) (h0 : J 0 [] news) : LCt.CompRestT prog w A h₀ L m env ct elt x scope cl s S P Fin n 0 [] news := by
  have key : ∀ k i ys news, i + k = n → S news → J i ys news → LCt.CompRestT prog w A h₀ L m env ct elt x scope cl s S P Fin k i ys news := by
    intro k
    induction k with
    | zero => intro i ys news hi _ hj; rw [Nat.add_zero] at hi; exact fin ys news (hi ▸ hj)
    | succ k ih =>
      intro i ys news hi hs hj
      refine LCt.CompRestT.succ fun v I oI C oC D m₂ h tk E' hP hC hx F N off _ => ?_
      refine wpAny_mono (step i v I oI C oC D m₂ ys news h tk E' (by omega) hP hj hs hC hx F N off.mem) (fun ok s₂ h₂ => ?_) fun _ _ e => e
      cases ok with
      | true =>
        rw [if_pos rfl] at h₂ ⊢
        exact wpAny_mono h₂ (fun y s₃ h₃ => h₃.to fun a ha => ⟨ha.1, ih (i + 1) _ a (by omega) ha.1 ha.2⟩) fun _ _ e => e
      | false =>
        rw [if_neg Bool.false_ne_true] at h₂ ⊢
        exact h₂.to fun a ha => ⟨ha.1, ih (i + 1) _ a (by omega) ha.1 ha.2⟩
  exact key n 0 [] news (by omega) hS h0
end

section
variable {prog : Program} {w : World} {A : Around} {E : Value → Shared → Prop} {s : Shared} {h₀ : Heap} {L : Addr} {news : Led} {m : Str → Option Value}
theorem copy_IntL {l : Addr} {ns : List Int} {Q : Value → Shared → Prop} (F : Fr h₀ L s.heap m) (N : News h₀ L s.heap news) (hl : IntL news l ns) (hz : ns.length < 2 ^ 20)
    (h : ∀ D h' new, Fr h₀ L h' m → News h₀ L h' new → (∀ q ∈ news, q ∈ new) → (∀ q ∈ news, q.1 < D) → IntL new D ns → Q (.ref D) { s with heap := h' }) : wpAny (model prog w) A (call (.type "list") [.ref l]) Q E s := by
  obtain ⟨vs, ⟨n, hn⟩, hi⟩ := hl
  have e := hi.length
  refine kup_listOf F N hn (List.toList_toArray) (fun D c h' F' N' hlt => h D h' _ F' N' (fun q hq => .tail _ hq) hlt ⟨_, ⟨_, .head _⟩, hi⟩) ?_
  have : sizeLine = 2 ^ 24 := rfl
  rw [List.toList_toArray]; omega
theorem last_L {value slice : PySem.Expr} {l : Addr} {vi : List Value} {v : Value} {u : Tok} {Q : Value → Shared → Prop} (N : News h₀ L s.heap news) (hl : IsL news l (vi ++ [v])) (h : Q v s)
    (hs : subscripted slice false (.ref l) (.int (-1) u) = operate [.ref l, .int (-1) u] (getItem (.ref l) (.int (-1) u)) := by with_unfolding_all rfl) (hg : ∀ r, letTemporaryGo value (.ref l) r = pure () := by intro _; with_unfolding_all rfl) :
    wpAny (model prog w) A (subscriptTail value slice (.ref l) (.int (-1) u)) Q E s := item_last (isList_of N hl) h hs hg
theorem append_L {D : Addr} {vs : List Value} {y : Value} {Q : Value → Shared → Prop} (F : Fr h₀ L s.heap m) (N : News h₀ L s.heap news) (hl : IsL news D vs) (hz : vs.length < 2 ^ 20)
    (h : ∀ h' new, Fr h₀ L h' m → News h₀ L h' new → (∀ q ∈ news, q.1 ≠ D → q ∈ new) → IsL new D (vs ++ [y]) → Q .none { s with heap := h' }) :
    wpAny (model prog w) A (call (.builtin "list.append") [.ref D, y]) Q E s := by
  obtain ⟨n, hn⟩ := hl
  have hsz : sizeLine = 2 ^ 24 := rfl
  have z := N _ hn
  refine PyProof.Rows.append_at (hsz := by rw [List.size_toArray]; omega) z.1 fun h₅ hs₅ hD₅ => ?_
  refine h h₅ (put D (W.listOf (vs ++ [y]).toArray (n + 1)) news) (F.change hs₅ z.2.1 z.2.2) (fun q hq => ?_) (fun q hq hne => mem_put hq hne) ⟨_, put_self⟩
  rcases List.mem_cons.mp hq with rfl | hq
  · refine ⟨hD₅.trans (congrArg some ?_), z.2⟩
    rw [← List.push_toArray]
  · obtain ⟨h1, h2⟩ := mem_off.mp hq
    exact ⟨hs₅.extBut _ _ h2 (N q h1).1, (N q h1).2⟩
end

theorem range_len {a b : Int} : Builtin.Range.rangeSize a b 1 = ((b - a).toNat : Nat) := by
  unfold Builtin.Range.rangeSize
  rw [if_pos (by decide)]
  split <;> omega
theorem fits_long {i : Int} (h0 : -1 ≤ i) (h1 : i < 2 ^ 30) : Builtin.Range.rangeFitsLong i = true := by
  unfold Builtin.Range.rangeFitsLong
  simp only [Bool.and_eq_true, decide_eq_true_eq]
  omega
theorem range_ok {a b : Int} (h0 : 0 ≤ a) (ha : a < 2 ^ 20) (h1 : 0 ≤ b) (hb : b < 2 ^ 20) : Builtin.Range.small a b 1 = true := by
  unfold Builtin.Range.small
  rw [fits_long (by omega) (by omega), fits_long (by omega) (by omega), fits_long (by omega) (by omega), range_len, fits_long (by omega) (by omega), if_pos (by decide), fits_long (by omega) (by omega), Bool.or_true]
  rfl
end Mine
end
section
open PySem PySem.W PyProof.Rows
set_option maxRecDepth 100000
set_option maxHeartbeats 8000000
namespace Mine
open PySem PySem.W PySem.Spec PySem.Calls PyProof.Rows

theorem off1_mem {D : Addr} : ∀ {l : Led}, LCg.Off1 D l → ∀ q ∈ l, q.1 ≠ D
  | [], _, _, h => nomatch h
  | _ :: _, x, q, h => by
    rcases List.mem_cons.mp h with rfl | h
    · exact x.1
    · exact off1_mem x.2 q h
/-- so many levels of the table stand -/
def TabK (news : Led) (lt : Addr) (ab : List Int) (k : Nat) (ok : Addr → Prop) : Prop :=
  ∃ (as : List Addr) (a : Addr), as.length = k ∧ IsL news lt (as.map Value.ref ++ [.ref a]) ∧ ok lt ∧ ∀ (j : Nat) (b : Addr), (as ++ [a])[j]? = some b → (∃ ns, IntL news b ns ∧ Lvl ab j ns) ∧ b ≠ lt ∧ ok b
theorem TabK.mono {news news' : Led} {lt : Addr} {ab : List Int} {k : Nat} {ok : Addr → Prop} (h : TabK news lt ab k ok) (hs : ∀ q ∈ news, ok q.1 → q ∈ news') : TabK news' lt ab k ok := by
  obtain ⟨as, a, h1, h2, h3, h4⟩ := h
  refine ⟨as, a, h1, h2.mono fun q hq e => hs q hq (e ▸ h3), h3, fun j b hj => ?_⟩
  obtain ⟨⟨ns, h5, h6⟩, h7, h8⟩ := h4 j b hj
  exact ⟨⟨ns, h5.mono fun q hq e => hs q hq (e ▸ h8), h6⟩, h7, h8⟩

local macro_rules | `(tactic| walk_at "call type:list") => `(tactic| refine hold ?_)
local macro_rules | `(tactic| walk_at "storeName") => `(tactic| ((with_reducible show wpAny _ _ (storeName _ (Str.ofString "table") _) _ _ _); refine hold ?_))
local macro_rules | `(tactic| walk_at "exec For Name Call cons nil") => `(tactic| refine hold ?_)
local macro_rules | `(tactic| walk_at "eval ListComp") => `(tactic| refine hold ?_)
local macro_rules | `(tactic| walk_at "call builtin:len") => `(tactic| refine hold ?_)
local macro_rules | `(tactic| walk_at "CompSrc") => `(tactic| refine hold ?_)
local macro_rules | `(tactic| walk_at "subscriptTail") => `(tactic| refine hold ?_)
local macro_rules | `(tactic| walk_at "call builtin:list.append") => `(tactic| refine hold ?_)
theorem kept_spec {prog : Program} {w : World} {p : Program} {loose : List Str} {mean : ExcName → Option Value} {mg mb : Str → Option Value}
    {news : Led} {la : Addr} {ab : List Int} (T₀ : Tree ab) (hla : IntL news la ab) :
    Spec prog w (hd.heap_39 w.params) p loose mean mg mb 44 [.ref la] news (fun _ => False) 4 40 (fun v new => ∃ lt, v = .ref lt ∧ TabL new lt ab) := by
  refine' spec_cells (D := 3) (U := 37) (K := hd.heap_39 w.params) ?ho ?hc ?hb ?hl ?hnd ?h ?a ?b ?c
  case ho => k_is
  case hc => k_is
  case hb => exact fun _ => rfl
  case hl => exact rfl
  case a => exact rfl
  case b => exact rfl
  case c => exact rfl
  case hnd => decide +kernel
  intro dp un gd outer A₀ base g L' s cells Y hlt C hdp hun
  obtain ⟨B, F, X, N, T, CH, hk⟩ := C
  k_cells Y
  rename_i oT dT
  replace dT : oT.data = .cell none := dT
  simp only [List.cons_append, List.nil_append] at N
  have h13 := T₀.len
  repeat' (first | walk1 | (dsimp only; walk1))
  unfold Hold
  refine copy_IntL F N (hla.mono fun q hq _ => .tail _ hq) (by omega) fun D₁ h₁ new₁ F₁ N₁ sub₁ lt₁ hD₁ => ?_
  have hT₁ : (L' + 1, oT) ∈ new₁ := sub₁ _ (.head _)
  clear F N
  repeat' (first | walk1 | (dsimp only; walk1))
  unfold Hold
  rename_i lt h₂ F₂ N₂ lt₂
  refine store_C F₂ N₂ (x := "table") (o := oT) rfl (.tail _ hT₁) dT (fun h₃ oT' new₃ F₃ N₃ hold₃ hT₃ dT' => ?_) rfl rfl
  have hltT : lt ≠ L' + 1 := Ne.symm (Nat.ne_of_lt (lt₂ _ hT₁))
  have hla₃ : IntL new₃ la ab := hla.mono fun q hq _ => hold₃ q (.tail _ (sub₁ _ (.tail _ hq))) (Nat.ne_of_lt (Nat.lt_succ_of_lt (hlt q hq)))
  have hK : TabK new₃ lt ab 0 fun _ => True := by
    obtain ⟨vs, ⟨n, hn⟩, hi⟩ := hD₁
    have e1 : D₁ < lt := lt₂ _ hn
    have e2 : D₁ ≠ L' + 1 := Ne.symm (Nat.ne_of_lt (lt₁ _ (.head _)))
    refine ⟨[], D₁, rfl, ⟨_, hold₃ _ (.head _) hltT⟩, trivial, fun j b hj => ?_⟩
    match j, hj with
    | 0, hj =>
      obtain rfl : D₁ = b := Option.some.inj hj
      exact ⟨⟨ab, ⟨vs, ⟨n, hold₃ _ (.tail _ hn) e2⟩, hi⟩, rfl, fun p hp => T₀.par_eq hp⟩, Nat.ne_of_lt e1, trivial⟩
  have hlt₃ : ∀ q ∈ news, q ∈ new₃ ∧ q.1 ≠ lt := fun q hq => ⟨hold₃ q (.tail _ (sub₁ _ (.tail _ hq))) (Nat.ne_of_lt (Nat.lt_succ_of_lt (hlt q hq))), Nat.ne_of_lt (lt₂ _ (sub₁ _ (.tail _ hq)))⟩
  have hTlt : L' + 1 < lt := lt₂ _ hT₁
  try clear F₂ N₂
  try clear F₁ N₁
  repeat' (first | walk1 | (dsimp only; walk1))
  unfold Hold
  refine For_turns F₃ ?_ (hE := PassesOwn.never)
  repeat' (first | walk1 | (dsimp only; walk1))
  rename IsRange _ _ _ _ _ _ _ _ => R₄
  rename Fr _ _ _ _ => F₄
  rename News _ _ _ _ => N₄
  try clear F₃ N₃
  have hltm : ∃ o, (lt, o) ∈ new₃ := by obtain ⟨_, _, _, ⟨n, hn⟩, _⟩ := hK; exact ⟨_, hn⟩
  refine for_range (n := 3) rfl R₄ (by decide) (by decide) F₄ N₄ (fun _ _ => rfl) (fun I i m all => (∀ q ∈ new₃, q.1 < I ∧ (q.1 ≠ lt → q ∈ all)) ∧ m "above" = some (.ref la) ∧ TabK all lt ab i (· ≠ I)) ?_ ?_ ?_ ?_
  · rintro I i m a b ⟨h1, h2, h3⟩ hs
    exact ⟨fun q hq => ⟨(h1 q hq).1, fun hn => hs q ((h1 q hq).2 hn) (Nat.ne_of_lt (h1 q hq).1)⟩, h2, h3.mono hs⟩
  · intro I hI
    obtain ⟨as, a, h1, h2, h3, h4⟩ := hK
    obtain ⟨o, ho⟩ := hltm
    refine ⟨fun q hq => ⟨hI q hq, fun _ => hq⟩, rfl, as, a, h1, h2, Nat.ne_of_lt (hI _ ho), fun j b hj => ?_⟩
    obtain ⟨⟨ns, h5, h6⟩, h7, _⟩ := h4 j b hj
    have h5' := h5
    obtain ⟨_, ⟨n, hn⟩, _⟩ := h5'
    exact ⟨⟨ns, h5, h6⟩, h7, Nat.ne_of_lt (hI _ hn)⟩
  · rintro I i t m₂ all h₃ tk₃ oI hi hI hin hnc hoc ⟨hsub, e1, as, a, ha, ⟨n, hl⟩, hltI, hlv⟩ F₅ N₅
    try clear F₄ N₄ R₄
    replace F₅ : Fr g L' h₃ (o1 "above" (.ref la) m₂) := by simp only [o1_self e1]; exact F₅
    replace N₅ : News g L' h₃ all := N₅
    have hT₅ : (L' + 1, oT') ∈ all := (hsub _ hT₃).2 (Nat.ne_of_lt hTlt)
    repeat' (first | walk1 | (dsimp only; walk1))
    unfold Hold
    rename Fr _ _ _ _ => F₆
    rename News _ _ _ _ => N₆
    refine LCg.ListComp_U (F₀ := F₆) (by with_unfolding_all rfl) (by decide) (by rfl) (by decide) (by rfl) ?_
    repeat' (first | walk1 | (dsimp only; walk1))
    unfold Hold
    have hla₅ : IntL all la ab := hla.mono fun q hq _ => (hsub q (hlt₃ q hq).1).2 (hlt₃ q hq).2
    refine len_IntL N₆ hla₅ (by omega) fun t1 tk1 => ?_
    repeat' (first | walk1 | (dsimp only; walk1))
    unfold Hold
    rename IsRange _ _ _ _ _ _ _ _ => R₇
    rename Fr _ _ _ _ => F₇
    rename News _ _ _ _ => N₇
    have hlvi := hlv i a (by rw [List.getElem?_append_right (by omega), ha, Nat.sub_self]; rfl)
    obtain ⟨⟨nl, hal, hv⟩, hne, hok⟩ := hlvi
    refine LCg.CompSrc.range (n := ab.length) rfl F₇ N₇ R₇ (range_ok (by decide) (by decide) (by omega) (by omega)) (by rw [range_len]; omega) (by have : sizeLine = 2 ^ 24 := rfl; omega) fun g' => rest_U (fun k ys a' => (∀ q ∈ all, q ∈ a') ∧ ∃ ns, IntsAre ys ns ∧ ns.length = k ∧ ∀ p, p < k → ns.getD p 0 = (anc ab (2 ^ (i + 1)) p : Nat)) ?_ ?_ trivial ⟨fun q hq => hq, [], .nil, rfl, fun p hp => absurd hp (Nat.not_lt_zero p)⟩
    · rintro k v I₂ oI₂ C₂ oC₂ D₂ m₃ ys news₂ h₈ tk₈ E' hk' ⟨tv, rfl⟩ ⟨hsub₂, ns, hi₂, hn₂, hp₂⟩ _ hC₂ hx₂ F₈ N₈ off₂
      rw [Int.zero_add] at hx₂
      clear F₇ N₇ R₇
      try clear F₆
      try clear N₆
      have a1 : (I₂, oI₂) ∈ (I₂, oI₂) :: (C₂, oC₂) :: (D₂, LCg.lst ys) :: news₂ := .head _
      have a2 : (C₂, oC₂) ∈ (I₂, oI₂) :: (C₂, oC₂) :: (D₂, LCg.lst ys) :: news₂ := .tail _ (.head _)
      have a3 : (D₂, LCg.lst ys) ∈ (I₂, oI₂) :: (C₂, oC₂) :: (D₂, LCg.lst ys) :: news₂ := .tail _ (.tail _ (.head _))
      have a4 : ∀ q ∈ all, q ∈ (I₂, oI₂) :: (C₂, oC₂) :: (D₂, LCg.lst ys) :: news₂ := fun q hq => .tail _ (.tail _ (.tail _ (hsub₂ q hq)))
      generalize (I₂, oI₂) :: (C₂, oC₂) :: (D₂, LCg.lst ys) :: news₂ = all₂ at N₈ a1 a2 a3 a4
      have hT₈ := a4 _ hT₅
      have hal₈ := hal.mono fun q hq _ => a4 q hq
      have hl₈ : IsL all₂ lt (as.map Value.ref ++ [.ref a]) := ⟨n, a4 _ hl⟩
      repeat' (first | walk1 | (dsimp only; walk1))
      unfold Hold
      refine last_L N₈ hl₈ ?_
      repeat' (first | walk1 | (dsimp only; walk1))
      unfold Hold
      refine last_L N₈ hl₈ ?_
      repeat' (first | walk1 | (dsimp only; walk1))
      unfold Hold
      refine item_Lvl N₈ hal₈ hv hk' (by omega) fun t2 => ?_
      repeat' (first | walk1 | (dsimp only; walk1))
      unfold Hold
      refine item_Lvl N₈ hal₈ hv (T₀.anc_in hk' _) (by omega) fun t3 => ?_
      refine ⟨_, _, _, rfl, F₈, N₈, a1, a2, a3, fun b hb => ⟨trivial, fun q hq => hb q (a4 q hq) (off₂ q (hsub₂ q hq)).1 (off₂ q (hsub₂ q hq)).2.1 (off₂ q (hsub₂ q hq)).2.2, ns ++ [((anc ab (2 ^ i) (anc ab (2 ^ i) k) : Nat) : Int)], ints_append hi₂ (.cons _ _ .nil), by rw [List.length_append, hn₂]; rfl, fun p hp => ?_⟩⟩
      rcases Nat.lt_or_ge p k with h | h
      · rw [← hp₂ p h, List.getD_eq_getElem?_getD, List.getElem?_append_left (by omega), ← List.getD_eq_getElem?_getD]
      · obtain rfl : p = k := by omega
        rw [List.getD_eq_getElem?_getD, List.getElem?_append_right (by omega), hn₂, Nat.sub_self, ← anc_add, show 2 ^ (i + 1) = 2 ^ i + 2 ^ i by rw [Nat.pow_succ]; omega]
        rfl
    · rintro ys a' ⟨hsub₂, ns, hi₂, hn₂, hp₂⟩ D h₈ tk₈ F₈ N₈ off₂
      clear F₇ N₇ R₇
      try clear F₆
      try clear N₆
      have offD : ∀ q ∈ a', q.1 ≠ D := off1_mem off₂
      have b1 : (D, LCg.lst ys) ∈ (D, LCg.lst ys) :: a' := .head _
      have b2 : ∀ q ∈ all, q ∈ (D, LCg.lst ys) :: a' := fun q hq => .tail _ (hsub₂ q hq)
      generalize (D, LCg.lst ys) :: a' = all₂ at N₈ b1 b2
      dsimp only
      repeat' (first | walk1 | (dsimp only; walk1))
      unfold Hold
      refine append_L F₈ N₈ ⟨n, b2 _ hl⟩ (by rw [List.length_append, List.length_map, ha]; exact Nat.lt_of_lt_of_le (Nat.succ_lt_succ hi) (by decide)) fun h₉ new₉ F₉ N₉ hold₉ hl₉ => ?_
      clear F₈ N₈
      repeat' (first | walk1 | (dsimp only; walk1))
      refine ⟨rfl, _, _, _, _, rfl, F₉, N₉, hold₉ _ (b2 _ hin) (Ne.symm hltI), fun q hq => ⟨(hsub q hq).1, fun hn => hold₉ q (b2 q ((hsub q hq).2 hn)) hn⟩, rfl, as ++ [a], D, by rw [List.length_append, ha]; rfl, ?_, hltI, fun j b hj => ?_⟩
      · rw [List.map_append]; exact hl₉
      · rcases Nat.lt_or_ge j (i + 1) with h | h
        · rw [List.getElem?_append_left (by rw [List.length_append, ha]; exact h)] at hj
          obtain ⟨⟨nb, h5, h6⟩, h7, h8⟩ := hlv j b hj
          exact ⟨⟨nb, h5.mono fun q hq e => hold₉ q (b2 q hq) (e ▸ h7), h6⟩, h7, h8⟩
        · have hj' := (List.getElem?_eq_some_iff.mp hj).1
          rw [List.length_append, List.length_append, ha] at hj'
          obtain rfl : j = i + 1 := by simp at hj'; omega
          rw [List.getElem?_append_right (by rw [List.length_append, ha]; exact Nat.le_refl _), List.length_append, ha] at hj
          obtain rfl : D = b := by simpa using hj
          have hne₂ := offD _ (hsub₂ _ hl)
          refine ⟨⟨ns, ⟨ys, ⟨ys.length, hold₉ _ b1 (Ne.symm hne₂)⟩, hi₂⟩, hn₂, hp₂⟩, Ne.symm hne₂, Ne.symm (offD _ (hsub₂ _ hin))⟩
  · rintro I h₃ tk₃ m₂ all hI F₅ N₅ ⟨hsub, e1, as, a, ha, hl, hltI, hlv⟩
    try clear F₄ N₄ R₄
    have hT₅ : (L' + 1, oT') ∈ all := (hsub _ hT₃).2 (Nat.ne_of_lt hTlt)
    replace N₅ : News g L' h₃ all := N₅
    replace F₅ : Fr g L' h₃ m₂ := F₅
    try dsimp only
    repeat' (first | walk1 | (dsimp only; walk1))
    match as, ha, hl, hlv with
    | [x0, x1, x2], _, hl, hlv =>
      refine ⟨_, _, _, _, rfl, F₅, N₅, fun q hq _ => (hsub q (hlt₃ q hq).1).2 (hlt₃ q hq).2, lt, rfl, x0, x1, x2, a, hl, (hlv 0 x0 rfl).1, (hlv 1 x1 rfl).1, (hlv 2 x2 rfl).1, (hlv 3 a rfl).1⟩
end Mine
end
section
open PySem PySem.W PyProof.Rows
set_option maxRecDepth 100000
namespace Mine
open PySem PySem.W PySem.Spec PySem.Calls PyProof.Rows PyProof.Rows.LCg

/-- what follows the iterable of a comprehension -/
def CompIt (prog : Program) (w : World) (A : Around) (env : Env) (elt target iter : PySem.Expr) (scope : Scope) (cl : List (Str × Addr)) (pos : Pos) (Q : Value → Shared → Prop) (xv : Value) (s₁ : Shared) : Prop :=
  wpAny (model prog w) A (pyIter xv) (fun it s₂ => wpAny (model prog w) A (newList []) (fun acc s₃ => wpAny (model prog w) A (newFunctionEnv scope env.globals cl [] env.qual none .none (some env)) (fun cenv s₄ =>
    codeAny (model prog w) A (.compStart (.ListComp elt [⟨target, iter, [], 0⟩] scope pos) 0 it acc { cenv with scope := relabel scope env }) (compPost (model prog w) A (fun _ _ => False) none Q acc cenv.locals) s₄) (fun _ _ => False) s₃) (fun _ _ => False) s₂) (fun _ _ => False) s₁

/-- an element that makes nothing -/
def PureE (s : Shared) (R : Value → Prop) (y : Value) (s' : Shared) : Prop := ∃ tk, s' = { s with toks := tk } ∧ R y

section
variable {prog : Program} {w : World} {A : Around} {s : Shared} {h₀ : Heap} {L : Addr} {m : Str → Option Value} {env : Env}
theorem comp_it {elt target iter : PySem.Expr} {scope : Scope} {cl : List (Str × Addr)} {pos : Pos} {Q : Value → Shared → Prop}
    (hclos : closureFor scope env = pure cl) (hkind : scope.kind = .function) (hnames : ∀ y ∈ scope.names, y.2 = .local → scope.names.lookup y.1 = some .local)
    (h : wpAny (model prog w) A (eval iter env) (CompIt prog w A env elt target iter scope cl pos Q) (fun _ _ => False) s)
    (hs : ∀ x, foldedSetIterable iter env x = pure x := by intro _; rfl) :
    wpAny (model prog w) A (eval (.ListComp elt [⟨target, iter, [], 0⟩] scope pos) env) Q (fun _ _ => False) s := by
  rw [eval_ListComp]
  exact wpAny_comprehension_free (use := none) rfl hs hclos hkind hnames h

theorem comp_enum {elt iter : PySem.Expr} {x y : Str} {px py tp : Pos} {kk : Nat} {scope : Scope} {cl : List (Str × Addr)} {pos : Pos} {Q : Value → Shared → Prop} {l : Addr} {vs : List Value} {news : Led} (J : Nat → List Value → Prop)
    (hh : A.handled = none) (hcell : ∀ y ∈ scope.names, y.2 ≠ .cell) (hkind : scope.kind = .function) (hx : scope.names.lookup x = some .local) (hy : scope.names.lookup y = some .local) (hxy : y ≠ x)
    (F : Fr h₀ L s.heap m) (N : News h₀ L s.heap news) (hl : IsL news l vs) (hz : vs.length < 2 ^ 20)
    (h0 : J 0 [])
    (elt_ok : ∀ i v t oC C m₂ ys h tk (E' : Value → Shared → Prop), vs[i]? = some v → J i ys → NsObj oC m₂ → m₂ x = some (.int i t) → m₂ y = some v → Fr h₀ L h m → News h₀ L h [(C, oC)] →
      wpAny (model prog w) A (eval elt (compEnvC scope cl C env)) (PureE { s with heap := h, toks := tk } fun z => J (i + 1) (ys ++ [z])) E' { s with heap := h, toks := tk })
    (done : ∀ D h tk ys new, Fr h₀ L h m → News h₀ L h new → (∀ q ∈ news, q ∈ new) → (∀ q ∈ news, q.1 < D) → IsL new D ys → J vs.length ys → Q (.ref D) { s with heap := h, toks := tk }) :
    wpAny (model prog w) A (call (.type "enumerate") [.ref l]) (CompIt prog w A env elt (.Tuple [.Name x px, .Name y py] kk tp) iter scope cl pos Q) (fun _ _ => False) s := by
  have hls := isList_of N hl
  have hlt : ∀ q ∈ news, q.1 < s.heap.objs.size := fun q hq => Heap.lt_size (N q hq).1
  obtain ⟨nl, hnl⟩ := hl
  have hl2 : @LT.lt Nat _ l s.heap.objs.size := hlt _ hnl
  have hLs : @LT.lt Nat _ L s.heap.objs.size := F.ns.lt
  have hab : @LE.le Nat _ h₀.objs.size L := F.above
  refine call_enumerate_list hls fun g he hit hsz hk => ?_
  have Fg : Fr h₀ L g m := F.keeps hk
  have Ng : News h₀ L g news := N.grown hk
  refine wpAny_pyIter_enum he ?_
  have W := (WalksT.enumerate (prog := prog) (w := w) (A := A) hh (s.heap.objs.size + 1) s.heap.objs.size l (Nat.succ_ne_self _) (by show @Ne Nat _ _; omega) (by show @Ne Nat _ _; omega) vs.toArray)
  have W2 := KTurns.ofWalksU (elts := [.Name x px, .Name y py]) (k := kk) (pos := tp) W.toU
  refine wpAny_newObj_type (wpAny_newFunctionEnv hcell (by intro y hy; simp at hy) (fun h₁ hns₁ hsb₁ => ?_) hkind)
  dsimp only at hns₁ hsb₁ ⊢
  generalize hG : g.push { cls := .type "list", dict := none, data := .seq ([] : List Value).toArray } = G at hns₁ hsb₁ ⊢
  have hC : @Eq Nat G.objs.size (s.heap.objs.size + 3) := by
    rw [← hG, Heap.size_push, hsz]
  have hD : @Eq Nat g.objs.size (s.heap.objs.size + 2) := hsz
  have hCnew : h₀.get? G.objs.size = none := Heap.get?_none_of_le (by show @LE.le Nat _ _ _; omega)
  have hDnew : h₀.get? g.objs.size = none := Heap.get?_none_of_le (by show @LE.le Nat _ _ _; omega)
  have hwr0 : ∀ b ∈ ([s.heap.objs.size + 1, s.heap.objs.size] : List Addr), h₀.get? b = none := fun b hb => by
    rcases List.mem_cons.mp hb with e | hb
    · exact Heap.get?_none_of_le (by have e : @Eq Nat b (s.heap.objs.size + 1) := e; show @LE.le Nat _ _ _; omega)
    · exact Heap.get?_none_of_le (by have e : @Eq Nat b s.heap.objs.size := List.mem_singleton.mp hb; show @LE.le Nat _ _ _; omega)
  have hfpC : ∀ b ∈ ([s.heap.objs.size + 1, s.heap.objs.size, l] : List Addr), b ≠ G.objs.size ∧ b ≠ g.objs.size := fun b hb => by
    rcases List.mem_cons.mp hb with e | hb
    · have e : @Eq Nat b (s.heap.objs.size + 1) := e
      exact ⟨by show @Ne Nat _ _; omega, by show @Ne Nat _ _; omega⟩
    · rcases List.mem_cons.mp hb with e | hb
      · have e : @Eq Nat b s.heap.objs.size := e
        exact ⟨by show @Ne Nat _ _; omega, by show @Ne Nat _ _; omega⟩
      · have e : @Eq Nat b l := List.mem_singleton.mp hb
        exact ⟨by show @Ne Nat _ _; omega, by show @Ne Nat _ _; omega⟩
  have hDC : @Ne Nat g.objs.size G.objs.size := by omega
  have old : ∀ b o, g.get? b = some o → h₁.get? b = some o := fun b o e => by
    have hb : @LT.lt Nat _ b g.objs.size := Heap.lt_size e
    exact hsb₁.extBut b o (by show @Ne Nat _ _; omega) (Heap.get?_push_of_some _ (hG ▸ Heap.get?_push_of_some _ e))
  have hacc : h₁.get? g.objs.size = some (lst []) := hsb₁.extBut _ _ hDC (Heap.get?_push_of_some _ (hG ▸ Heap.get?_push_size _ rfl))
  have hLC : @Ne Nat L G.objs.size := by omega
  have hLD : @Ne Nat L g.objs.size := by omega
  have hLw : L ∉ ([s.heap.objs.size + 1, s.heap.objs.size] : List Addr) := fun hb => by
    rcases List.mem_cons.mp hb with e | hb
    · have e : @Eq Nat L (s.heap.objs.size + 1) := e; omega
    · have e : @Eq Nat L s.heap.objs.size := List.mem_singleton.mp hb; omega
  have hCw : G.objs.size ∉ ([s.heap.objs.size + 1, s.heap.objs.size] : List Addr) := fun hb => (hfpC _ (W.sub _ hb)).1 rfl
  have hDw : g.objs.size ∉ ([s.heap.objs.size + 1, s.heap.objs.size] : List Addr) := fun hb => (hfpC _ (W.sub _ hb)).2 rfl
  have hst₁ := W.frame 0 g h₁ ⟨⟨_, he⟩, hit, hls.at fun o e => hk l o e⟩ fun b _ o e => old b o e
  have loop : ∀ s₃ : Shared, s₃ = { s with heap := h₁, toks := s.toks + ([] : List (Str × Value)).length } →
      codeAny (model prog w) A (.compLoop (.ListComp elt [⟨.Tuple [.Name x px, .Name y py] kk tp, iter, [], 0⟩] scope pos) 0 (.ref (s.heap.objs.size + 1)) (.ref g.objs.size) (compEnvC scope cl G.objs.size env))
        (compPost (model prog w) A (fun _ _ => False) none Q (.ref g.objs.size) G.objs.size) s₃ := by
    rintro s₃ rfl
    refine kcp_loop (fun k s' => ∃ h' tk i ys m', s' = { s with heap := h', toks := tk } ∧ i ≤ vs.length ∧ k = vs.length + 1 - i ∧ ys.length = i ∧ ((∃ old, IsEnum h' (s.heap.objs.size + 1) s.heap.objs.size i old) ∧ h'.IsListIter s.heap.objs.size l i ∧ h'.IsList l vs.toArray) ∧
      h'.Ns G.objs.size m' ∧ h'.get? g.objs.size = some (lst ys) ∧ (∀ b o, b ∉ ([s.heap.objs.size + 1, s.heap.objs.size] : List Addr) → b ≠ G.objs.size → b ≠ g.objs.size → g.get? b = some o → h'.get? b = some o) ∧ J i ys) ?_ (vs.length + 1)
      ⟨h₁, _, 0, [], _, rfl, Nat.zero_le _, rfl, rfl, hst₁, hns₁, hacc, fun b o _ _ _ e => old b o e, h0⟩
    rintro k s' ⟨h', tk, i, ys, m', rfl, hi, rfl, hyl, hst, hns, hD', hkeep, hj⟩
    by_cases hlt' : i < vs.length
    · refine W2.item i _ _ _ (by simpa using hlt') hst fun v h₂ tk₂ hMd hk₂ => ?_
      refine W2.go i v _ _ _ hMd fun h₃ hP hst₃ hk₃ => ?_
      obtain ⟨T, vals, rfl, ⟨t, z, hz, rfl⟩, hT⟩ := hP
      have hns₃ : h₃.Ns G.objs.size m' := (hns.at' fun o e => hk₂ _ o hCw e).at' fun o e => hk₃ _ o hCw e
      refine kcp_assign (env := compEnvC scope cl G.objs.size env) hh hT (lookup_relabel_local hx) (lookup_relabel_local hy) (by simp [compEnvC, relabel, hkind]) hns₃ fun h₄ tk₄ hns₄ hk₄ => ?_
      obtain ⟨oC, heC, hoC⟩ := ns_obj hns₄
      have hk₅ : ∀ b o, b ∉ ([s.heap.objs.size + 1, s.heap.objs.size] : List Addr) → b ≠ G.objs.size → h'.get? b = some o → h₄.get? b = some o := fun b o h1 h2 e => hk₄ b o h2 (hk₃ b o h1 (hk₂ b o h1 e))
      have hnot : ∀ b o, h₀.get? b = some o → b ∉ ([s.heap.objs.size + 1, s.heap.objs.size] : List Addr) ∧ b ≠ G.objs.size ∧ b ≠ g.objs.size := fun b o e => ⟨fun hb => (by rw [hwr0 b hb] at e; cases e), fun hb => (by rw [hb, hCnew] at e; cases e), fun hb => (by rw [hb, hDnew] at e; cases e)⟩
      have F₄ : Fr h₀ L h₄ m := ⟨Fg.ns.at' fun o e => hk₅ L o hLw hLC (hkeep L o hLw hLC hLD e), fun b o e => by
        obtain ⟨h1, h2, h3⟩ := hnot b o e
        exact hk₅ b o h1 h2 (hkeep b o h1 h2 h3 (Fg.keep b o e)), F.above⟩
      have N₄ : News h₀ L h₄ [(G.objs.size, oC)] := fun q hq => by
        rw [List.mem_singleton.mp hq]
        exact ⟨heC, Ne.symm hLC, hCnew⟩
      refine wpAny_mono (elt_ok i z t oC G.objs.size _ ys h₄ tk₄ _ (by simpa using hz) hj hoC (by simp [Ne.symm hxy]) (by simp) F₄ N₄) (fun y' s₅ h₅ => ?_) fun _ _ e => e
      obtain ⟨tk₅, rfl, hj'⟩ := h₅
      have hsz : sizeLine = 2 ^ 24 := rfl
      refine append_at (hsz := by show ys.toArray.size ≤ sizeLine; rw [List.size_toArray]; omega) (hk₅ _ _ hDw hDC hD') fun h₆ hs₆ hD₆ => ?_
      refine ⟨vs.length + 1 - (i + 1), by omega, h₆, tk₅, i + 1, ys ++ [y'], _, rfl, hlt', rfl, by rw [List.length_append, List.length_singleton, hyl], ?_, (hoC.ns heC).sameBut hs₆ (Ne.symm hDC), hD₆.trans (congrArg some (lst_snoc ys y')), fun b o h1 h2 h3 e => hs₆.extBut b o h3 (hk₅ b o h1 h2 (hkeep b o h1 h2 h3 e)), hj'⟩
      refine W.frame _ _ _ hst₃ fun b hb o e => ?_
      exact hs₆.extBut b o (hfpC b hb).2 (hk₄ b o (hfpC b hb).1 e)
    · obtain rfl : i = vs.length := Nat.le_antisymm hi (Nat.not_lt.mp hlt')
      refine W2.done _ _ _ (by simpa using hst) fun h₂ tk₂ hk₂ => ?_
      refine ⟨m', hns.at' fun o e => hk₂ _ o hCw e, fun h'' hs'' => ?_⟩
      have hall : ∀ b o, b ∉ ([s.heap.objs.size + 1, s.heap.objs.size] : List Addr) → b ≠ G.objs.size → b ≠ g.objs.size → g.get? b = some o → h''.get? b = some o := fun b o h1 h2 h3 e => hs''.extBut b o h2 (hk₂ b o h1 (hkeep b o h1 h2 h3 e))
      have hnot : ∀ b o, h₀.get? b = some o → b ∉ ([s.heap.objs.size + 1, s.heap.objs.size] : List Addr) ∧ b ≠ G.objs.size ∧ b ≠ g.objs.size := fun b o e => ⟨fun hb => (by rw [hwr0 b hb] at e; cases e), fun hb => (by rw [hb, hCnew] at e; cases e), fun hb => (by rw [hb, hDnew] at e; cases e)⟩
      refine done g.objs.size h'' tk₂ ys ((g.objs.size, lst ys) :: news) ⟨Fg.ns.at' fun o e => hall L o hLw hLC hLD e, fun b o e => ?_, F.above⟩ (fun q hq => ?_) (fun q hq => .tail _ hq) (fun q hq => ?_) ⟨_, .head _⟩ hj
      · obtain ⟨h1, h2, h3⟩ := hnot b o e
        exact hall b o h1 h2 h3 (Fg.keep b o e)
      · rcases List.mem_cons.mp hq with rfl | hq
        · exact ⟨hs''.extBut _ _ hDC (hk₂ _ _ hDw hD'), Ne.symm hLD, hDnew⟩
        · have hb : @LT.lt Nat _ q.1 s.heap.objs.size := hlt q hq
          refine ⟨hall q.1 q.2 (fun hm => ?_) (by show @Ne Nat _ _; omega) (by show @Ne Nat _ _; omega) (Ng q hq).1, (N q hq).2⟩
          rcases List.mem_cons.mp hm with e | hm
          · have e : @Eq Nat q.1 (s.heap.objs.size + 1) := e; omega
          · have e : @Eq Nat q.1 s.heap.objs.size := List.mem_singleton.mp hm; omega
      · have hb : @LT.lt Nat _ q.1 s.heap.objs.size := hlt q hq
        show @LT.lt Nat _ _ _; omega
  exact codeAny_compStart_list (loop _ rfl) (W.self 0 _ _ _ hst₁ (loop _ rfl))
end

section
variable {prog : Program} {w : World} {A : Around} {E : Value → Shared → Prop} {s : Shared} {h₀ : Heap} {L : Addr} {m : Str → Option Value} {news : Led}
/-- a slice of a list that no name holds -/
theorem tail_tmp {value slice : PySem.Expr} {o i : Value} {T id : String} {ops : List Value} {Q : Value → Shared → Prop} (hT : s.TypeIs o T)
    (hl : typeLookup (.type T) "__getitem__" = pure (some (.builtin id))) (h : wpAny (model prog w) A (getItem o i) Q E s)
    (hs : subscripted slice false o i = operate ops (getItem o i)) : wpAny (model prog w) A (subscriptTail value slice o i) Q E s := by
  unfold subscriptTail
  refine wpAny_bind ?_
  rw [getitemInPython_of_ne hT.not_modules]
  refine wpAny_bind (wpAny_specialOf hT hl ?_)
  have key : wpAny (model prog w) A (subscripted slice false o i) (fun r s₃ => wpAny (model prog w) A (letTemporaryGo value o r >>= fun _ => pure r) Q E s₃) E s := by
    rw [hs]
    exact wpAny_operating (wpAny_mono h (fun r s₃ h₃ => wpAny_bind (wpAny_letTemporaryGo (wpAny_pure h₃))) fun _ _ x => x)
  first
    | exact wpAny_pure (wpAny_bind key)
    | exact wpAny_bind (wpAny_pure (wpAny_bind key))
    | exact wpAny_bind key
theorem upto_tmp {value slice : PySem.Expr} {l : Addr} {ns : List Int} {y : Int} {t : Tok} {Q : Value → Shared → Prop} (F : Fr h₀ L s.heap m) (N : News h₀ L s.heap news) (hl : IntL news l ns) (hy : 0 ≤ y) (hz : ns.length < 2 ^ 20)
    (h : ∀ D h' new, Fr h₀ L h' m → News h₀ L h' new → (∀ q ∈ news, q ∈ new) → IntL new D (ns.take y.toNat) → Q (.ref D) { s with heap := h' })
    (hs : subscripted slice false (.ref l) (.ref s.heap.objs.size) = operate [.ref s.heap.objs.size, .ref l] (getItem (.ref l) (.ref s.heap.objs.size))) :
    wpAny (model prog w) A (subscriptTail value slice (.ref l) (.ref s.heap.objs.size)) Q E { s with heap := s.heap.push { cls := .type "slice", data := .fields #[.none, .int y t, .none] } } := by
  obtain ⟨vs, hv, hi⟩ := hl
  have hls := isList_of N hv
  have e := hi.length
  refine tail_tmp (Heap.IsList.typeIs (s := { s with heap := s.heap.push { cls := .type "slice", data := .fields #[.none, .int y t, .none] } }) (hls.push _)) list_getitem_lookup
    (wpAny_getItem_list_slice (hls.push _) (Heap.IsSliceOf.new ..) .none (.int y t) .none (by simp) ?_ (by have : sizeLine = 2 ^ 24 := rfl; rw [List.size_toArray]; omega)) hs
  have N1 := News.push (F.push { cls := .type "slice", data := .fields #[.none, .int y t, .none] }) (N.grown fun _ _ e => Heap.get?_push_of_some _ e) { cls := .type "list", data := .seq (slicePick vs.toArray none (some y) none) }
  refine h _ _ _ ((F.push _).push _) N1 (fun q hq => .tail _ hq) ⟨(slicePick vs.toArray none (some y) none).toList, ⟨0, ?_⟩, kmk_upto hi hy⟩
  rw [Array.toArray_toList]
  exact .head _
end
end Mine
end
section
open PySem PySem.W PyProof.Rows
set_option maxRecDepth 100000
set_option maxHeartbeats 8000000
namespace Mine
open PySem PySem.W PySem.Spec PySem.Calls PyProof.Rows
def lawStmt : Stmt := match PySem.Challenge.pw_hc0003_01.main.body with | _ :: _ :: _ :: _ :: _ :: _ :: _ :: _ :: _ :: _ :: s :: _ => s | _ => .Pass default
def lawBody : List Stmt := match lawStmt with | .FunctionDef _ _ b _ _ _ _ _ _ _ => b | _ => []
def lawScope : Scope := match lawStmt with | .FunctionDef _ _ _ _ _ _ s _ _ _ => s | _ => default
def S1 : Stmt := match lawBody with | s :: _ => s | _ => .Pass default
def S2 : Stmt := match lawBody with | _ :: s :: _ => s | _ => .Pass default
def S3 : Stmt := match lawBody with | _ :: _ :: s :: _ => s | _ => .Pass default
def S4 : Stmt := match lawBody with | _ :: _ :: _ :: s :: _ => s | _ => .Pass default
def S5 : Stmt := match lawBody with | _ :: _ :: _ :: _ :: s :: _ => s | _ => .Pass default
def S6 : Stmt := match lawBody with | _ :: _ :: _ :: _ :: _ :: s :: _ => s | _ => .Pass default
def S7 : Stmt := match lawBody with | _ :: _ :: _ :: _ :: _ :: _ :: s :: _ => s | _ => .Pass default
def S8 : Stmt := match lawBody with | _ :: _ :: _ :: _ :: _ :: _ :: _ :: s :: _ => s | _ => .Pass default
def S9 : Stmt := match lawBody with | _ :: _ :: _ :: _ :: _ :: _ :: _ :: _ :: s :: _ => s | _ => .Pass default
def S10 : Stmt := match lawBody with | _ :: _ :: _ :: _ :: _ :: _ :: _ :: _ :: _ :: s :: _ => s | _ => .Pass default
def S11 : Stmt := match lawBody with | _ :: _ :: _ :: _ :: _ :: _ :: _ :: _ :: _ :: _ :: s :: _ => s | _ => .Pass default
def S12 : Stmt := match lawBody with | _ :: _ :: _ :: _ :: _ :: _ :: _ :: _ :: _ :: _ :: _ :: s :: _ => s | _ => .Pass default
theorem lawBody_eq : lawBody = [S1, S2, S3, S4, S5, S6, S7, S8, S9, S10, S11, S12] := rfl
abbrev lawC (L' : Addr) : List (Str × Addr) := cellsFrom (L' + 1) lawScope.names []
abbrev lawA (dp un : Nat) (gd : Option (List Code)) (L' fa : Addr) (cd : Value) (outer : List Env) : Around := ktrTop dp un gd "law" lawScope L' fa cd (lawC L') outer
abbrev lawE (L' fa : Addr) (cd : Value) : Env := envX "law" lawScope L' fa cd (lawC L')

def EndS (h₀ : Heap) (L : Addr) (s : Shared) (R : (Str → Option Value) → Led → Prop) (f : Flow) (s₃ : Shared) : Prop :=
  f = .next ∧ ∃ h' tk m' all', s₃ = { s with heap := h', toks := tk } ∧ Fr h₀ L h' m' ∧ News h₀ L h' all' ∧ R m' all'
theorem seg {M : Model} {A : Around} {E : Value → Shared → Prop} {env : Env} {st : Stmt} {rest : List Stmt} {h₀ : Heap} {L : Addr} {s : Shared} {R : (Str → Option Value) → Led → Prop} {Q : Flow → Shared → Prop}
    (h : wpAny M A (exec st env) (EndS h₀ L s R) E s) (hr : ∀ h' tk m' all', Fr h₀ L h' m' → News h₀ L h' all' → R m' all' → wpAny M A (execs rest env) Q E { s with heap := h', toks := tk }) : wpAny M A (execs (st :: rest) env) Q E s := by
  refine wpAny_execs_cons (wpAny_mono h (fun f s' hf => ?_) fun _ _ e => e)
  obtain ⟨rfl, h', tk, m', all', rfl, F, N, r⟩ := hf
  exact hr h' tk m' all' F N r

def CellIs (all : Led) (c : Addr) (v : Option Value) : Prop := ∃ o, (c, o) ∈ all ∧ o.data = .cell v
/-- the six names that lie in cells, and the table of codes -/
structure Sc (L' : Addr) (v1 v2 v3 v4 v5 v6 : Option Value) (all : Led) : Prop where
  tab : Tab all
  c1 : CellIs all (L' + 1) v1
  c2 : CellIs all (L' + 1 + 1) v2
  c3 : CellIs all (L' + 1 + 1 + 1) v3
  c4 : CellIs all (L' + 1 + 1 + 1 + 1) v4
  c5 : CellIs all (L' + 1 + 1 + 1 + 1 + 1) v5
  c6 : CellIs all (L' + 1 + 1 + 1 + 1 + 1 + 1) v6
theorem CellIs.keep {all new : Led} {c : Addr} {v : Option Value} (h : CellIs all c v) (hs : ∀ q ∈ all, q.2.data = .cell v → q ∈ new) : CellIs new c v :=
  let ⟨o, h1, h2⟩ := h; ⟨o, hs _ h1 h2, h2⟩
theorem Sc.keep {L' : Addr} {v1 v2 v3 v4 v5 v6 : Option Value} {all new : Led} (h : Sc L' v1 v2 v3 v4 v5 v6 all) (hs : ∀ q ∈ all, (∃ v, q.2.data = .cell v) → q ∈ new) (ht : Tab new) : Sc L' v1 v2 v3 v4 v5 v6 new :=
  ⟨ht, h.c1.keep fun q hq e => hs q hq ⟨_, e⟩, h.c2.keep fun q hq e => hs q hq ⟨_, e⟩, h.c3.keep fun q hq e => hs q hq ⟨_, e⟩, h.c4.keep fun q hq e => hs q hq ⟨_, e⟩, h.c5.keep fun q hq e => hs q hq ⟨_, e⟩, h.c6.keep fun q hq e => hs q hq ⟨_, e⟩⟩
theorem Tab.off16 {h₀ h : Heap} {L : Addr} {news : Led} (N : News h₀ L h news) (ht : Tab news) : ∀ q ∈ news, (∃ v, q.2.data = .cell v) → q.1 ≠ 16 := fun q hq ⟨v, hc⟩ => by
  have h16 : ∃ ps, (16, tabObj ps) ∈ news := by rcases ht with h | ⟨_, _, _, _, h, _⟩ <;> exact ⟨_, h⟩
  obtain ⟨ps, h16⟩ := h16
  exact news_ne (o := q.2) N hq h16 fun e => by rw [e] at hc; cases hc

/-- no object with fields lies at a -/
def NoFields (all : Led) (a : Addr) : Prop := ∀ q ∈ all, (∃ us, q.2.data = .fields us) → q.1 ≠ a
theorem noFields {h₀ h : Heap} {L a : Addr} {news : Led} {o : Obj} (N : News h₀ L h news) (hm : (a, o) ∈ news) (hd : ∀ us, o.data ≠ .fields us) : NoFields news a := fun q hq ⟨us, hu⟩ =>
  news_ne (o := q.2) N hq hm fun e => hd us (e ▸ hu)
theorem Tab.off {all new : Led} {a : Addr} (h : Tab all) (hs : ∀ q ∈ all, q.1 ≠ a → q ∈ new) (h16 : 16 ≠ a) (hN : NoFields all a) : Tab new := by
  rcases h with h | ⟨c', oc, vs, t, h, hc, hd, hv⟩
  · exact .inl (hs _ h h16)
  · exact .inr ⟨c', oc, vs, t, hs _ h h16, hs _ hc (hN _ hc ⟨_, hd⟩), hd, hv⟩
theorem cell_off {all new : Led} {c a : Addr} {v : Option Value} (h : CellIs all c v) (hs : ∀ q ∈ all, q.1 ≠ a → q ∈ new) (hn : c ≠ a) : CellIs new c v := let ⟨o, h1, h2⟩ := h; ⟨o, hs _ h1 hn, h2⟩
theorem Sc.put1 {L' : Addr} {v1 v2 v3 v4 v5 v6 v : Option Value} {all new : Led} {o : Obj} (h : Sc L' v1 v2 v3 v4 v5 v6 all) (hs : ∀ q ∈ all, q.1 ≠ L' + 1 → q ∈ new) (hc : (L' + 1, o) ∈ new) (hd : o.data = .cell v) (h16 : @LT.lt Nat _ 16 L') (hN : NoFields all (L' + 1) := by assumption) :
    Sc L' v v2 v3 v4 v5 v6 new :=
  ⟨h.tab.off hs (by show @Ne Nat 16 (L' + 1); omega) hN, ⟨_, hc, hd⟩, cell_off h.c2 hs (by show @Ne Nat (L' + 1 + 1) (L' + 1); omega), cell_off h.c3 hs (by show @Ne Nat (L' + 1 + 1 + 1) (L' + 1); omega), cell_off h.c4 hs (by show @Ne Nat (L' + 1 + 1 + 1 + 1) (L' + 1); omega), cell_off h.c5 hs (by show @Ne Nat (L' + 1 + 1 + 1 + 1 + 1) (L' + 1); omega), cell_off h.c6 hs (by show @Ne Nat (L' + 1 + 1 + 1 + 1 + 1 + 1) (L' + 1); omega)⟩
theorem Sc.put2 {L' : Addr} {v1 v2 v3 v4 v5 v6 v : Option Value} {all new : Led} {o : Obj} (h : Sc L' v1 v2 v3 v4 v5 v6 all) (hs : ∀ q ∈ all, q.1 ≠ L' + 1 + 1 → q ∈ new) (hc : (L' + 1 + 1, o) ∈ new) (hd : o.data = .cell v) (h16 : @LT.lt Nat _ 16 L') (hN : NoFields all (L' + 1 + 1) := by assumption) :
    Sc L' v1 v v3 v4 v5 v6 new :=
  ⟨h.tab.off hs (by show @Ne Nat 16 (L' + 1 + 1); omega) hN, cell_off h.c1 hs (by show @Ne Nat (L' + 1) (L' + 1 + 1); omega), ⟨_, hc, hd⟩, cell_off h.c3 hs (by show @Ne Nat (L' + 1 + 1 + 1) (L' + 1 + 1); omega), cell_off h.c4 hs (by show @Ne Nat (L' + 1 + 1 + 1 + 1) (L' + 1 + 1); omega), cell_off h.c5 hs (by show @Ne Nat (L' + 1 + 1 + 1 + 1 + 1) (L' + 1 + 1); omega), cell_off h.c6 hs (by show @Ne Nat (L' + 1 + 1 + 1 + 1 + 1 + 1) (L' + 1 + 1); omega)⟩
theorem Sc.put3 {L' : Addr} {v1 v2 v3 v4 v5 v6 v : Option Value} {all new : Led} {o : Obj} (h : Sc L' v1 v2 v3 v4 v5 v6 all) (hs : ∀ q ∈ all, q.1 ≠ L' + 1 + 1 + 1 → q ∈ new) (hc : (L' + 1 + 1 + 1, o) ∈ new) (hd : o.data = .cell v) (h16 : @LT.lt Nat _ 16 L') (hN : NoFields all (L' + 1 + 1 + 1) := by assumption) :
    Sc L' v1 v2 v v4 v5 v6 new :=
  ⟨h.tab.off hs (by show @Ne Nat 16 (L' + 1 + 1 + 1); omega) hN, cell_off h.c1 hs (by show @Ne Nat (L' + 1) (L' + 1 + 1 + 1); omega), cell_off h.c2 hs (by show @Ne Nat (L' + 1 + 1) (L' + 1 + 1 + 1); omega), ⟨_, hc, hd⟩, cell_off h.c4 hs (by show @Ne Nat (L' + 1 + 1 + 1 + 1) (L' + 1 + 1 + 1); omega), cell_off h.c5 hs (by show @Ne Nat (L' + 1 + 1 + 1 + 1 + 1) (L' + 1 + 1 + 1); omega), cell_off h.c6 hs (by show @Ne Nat (L' + 1 + 1 + 1 + 1 + 1 + 1) (L' + 1 + 1 + 1); omega)⟩
theorem Sc.put4 {L' : Addr} {v1 v2 v3 v4 v5 v6 v : Option Value} {all new : Led} {o : Obj} (h : Sc L' v1 v2 v3 v4 v5 v6 all) (hs : ∀ q ∈ all, q.1 ≠ L' + 1 + 1 + 1 + 1 → q ∈ new) (hc : (L' + 1 + 1 + 1 + 1, o) ∈ new) (hd : o.data = .cell v) (h16 : @LT.lt Nat _ 16 L') (hN : NoFields all (L' + 1 + 1 + 1 + 1) := by assumption) :
    Sc L' v1 v2 v3 v v5 v6 new :=
  ⟨h.tab.off hs (by show @Ne Nat 16 (L' + 1 + 1 + 1 + 1); omega) hN, cell_off h.c1 hs (by show @Ne Nat (L' + 1) (L' + 1 + 1 + 1 + 1); omega), cell_off h.c2 hs (by show @Ne Nat (L' + 1 + 1) (L' + 1 + 1 + 1 + 1); omega), cell_off h.c3 hs (by show @Ne Nat (L' + 1 + 1 + 1) (L' + 1 + 1 + 1 + 1); omega), ⟨_, hc, hd⟩, cell_off h.c5 hs (by show @Ne Nat (L' + 1 + 1 + 1 + 1 + 1) (L' + 1 + 1 + 1 + 1); omega), cell_off h.c6 hs (by show @Ne Nat (L' + 1 + 1 + 1 + 1 + 1 + 1) (L' + 1 + 1 + 1 + 1); omega)⟩
theorem Sc.put5 {L' : Addr} {v1 v2 v3 v4 v5 v6 v : Option Value} {all new : Led} {o : Obj} (h : Sc L' v1 v2 v3 v4 v5 v6 all) (hs : ∀ q ∈ all, q.1 ≠ L' + 1 + 1 + 1 + 1 + 1 → q ∈ new) (hc : (L' + 1 + 1 + 1 + 1 + 1, o) ∈ new) (hd : o.data = .cell v) (h16 : @LT.lt Nat _ 16 L') (hN : NoFields all (L' + 1 + 1 + 1 + 1 + 1) := by assumption) :
    Sc L' v1 v2 v3 v4 v v6 new :=
  ⟨h.tab.off hs (by show @Ne Nat 16 (L' + 1 + 1 + 1 + 1 + 1); omega) hN, cell_off h.c1 hs (by show @Ne Nat (L' + 1) (L' + 1 + 1 + 1 + 1 + 1); omega), cell_off h.c2 hs (by show @Ne Nat (L' + 1 + 1) (L' + 1 + 1 + 1 + 1 + 1); omega), cell_off h.c3 hs (by show @Ne Nat (L' + 1 + 1 + 1) (L' + 1 + 1 + 1 + 1 + 1); omega), cell_off h.c4 hs (by show @Ne Nat (L' + 1 + 1 + 1 + 1) (L' + 1 + 1 + 1 + 1 + 1); omega), ⟨_, hc, hd⟩, cell_off h.c6 hs (by show @Ne Nat (L' + 1 + 1 + 1 + 1 + 1 + 1) (L' + 1 + 1 + 1 + 1 + 1); omega)⟩
theorem Sc.put6 {L' : Addr} {v1 v2 v3 v4 v5 v6 v : Option Value} {all new : Led} {o : Obj} (h : Sc L' v1 v2 v3 v4 v5 v6 all) (hs : ∀ q ∈ all, q.1 ≠ L' + 1 + 1 + 1 + 1 + 1 + 1 → q ∈ new) (hc : (L' + 1 + 1 + 1 + 1 + 1 + 1, o) ∈ new) (hd : o.data = .cell v) (h16 : @LT.lt Nat _ 16 L') (hN : NoFields all (L' + 1 + 1 + 1 + 1 + 1 + 1) := by assumption) :
    Sc L' v1 v2 v3 v4 v5 v new :=
  ⟨h.tab.off hs (by show @Ne Nat 16 (L' + 1 + 1 + 1 + 1 + 1 + 1); omega) hN, cell_off h.c1 hs (by show @Ne Nat (L' + 1) (L' + 1 + 1 + 1 + 1 + 1 + 1); omega), cell_off h.c2 hs (by show @Ne Nat (L' + 1 + 1) (L' + 1 + 1 + 1 + 1 + 1 + 1); omega), cell_off h.c3 hs (by show @Ne Nat (L' + 1 + 1 + 1) (L' + 1 + 1 + 1 + 1 + 1 + 1); omega), cell_off h.c4 hs (by show @Ne Nat (L' + 1 + 1 + 1 + 1) (L' + 1 + 1 + 1 + 1 + 1 + 1); omega), cell_off h.c5 hs (by show @Ne Nat (L' + 1 + 1 + 1 + 1 + 1) (L' + 1 + 1 + 1 + 1 + 1 + 1); omega), ⟨_, hc, hd⟩⟩

theorem append_IntL {prog : Program} {w : World} {A : Around} {E : Value → Shared → Prop} {s : Shared} {h₀ : Heap} {L : Addr} {news : Led} {m : Str → Option Value} {D : Addr} {ns : List Int} {y : Int} {u : Tok} {Q : Value → Shared → Prop} (F : Fr h₀ L s.heap m) (N : News h₀ L s.heap news) (hl : IntL news D ns) (hz : ns.length < 2 ^ 20)
    (h : ∀ h' new, Fr h₀ L h' m → News h₀ L h' new → (∀ q ∈ news, q.1 ≠ D → q ∈ new) → IntL new D (ns ++ [y]) → Q .none { s with heap := h' }) :
    wpAny (model prog w) A (call (.builtin "list.append") [.ref D, .int y u]) Q E s := by
  obtain ⟨vs, hv, hi⟩ := hl
  have e := hi.length
  exact append_L F N hv (by omega) fun h' new F' N' hold hl' => h h' new F' N' hold ⟨_, hl', ints_append hi (.cons _ _ .nil)⟩

theorem Tab.mem {news : Led} (ht : Tab news) : ∃ ps, (16, tabObj ps) ∈ news := by rcases ht with h | ⟨_, _, _, _, h, _⟩ <;> exact ⟨_, h⟩
theorem Sc.keepBut {L' a : Addr} {v1 v2 v3 v4 v5 v6 : Option Value} {all new : Led} (h : Sc L' v1 v2 v3 v4 v5 v6 all) (hs : ∀ q ∈ all, q.1 ≠ a → q ∈ new) (hN : NoFields all a) (h16 : 16 ≠ a) (hc : ∀ q ∈ all, (∃ v, q.2.data = .cell v) → q.1 ≠ a) : Sc L' v1 v2 v3 v4 v5 v6 new :=
  h.keep (fun q hq hv => hs q hq (hc q hq hv)) (h.tab.off hs h16 hN)

/-- the rows of all places -/
def RowsL (news : Led) (lr : Addr) (ab : List Int) : Prop :=
  ∃ as : List Addr, IsL news lr (as.map Value.ref) ∧ as.length = ab.length ∧ ∀ (p : Nat) (a : Addr), as[p]? = some a → IntL news a (ofN (row ab p))
theorem RowsL.lists {news news' : Led} {lr : Addr} {ab : List Int} (h : RowsL news lr ab) (hs : ∀ q ∈ news, q.2.cls = .type "list" → q ∈ news') : RowsL news' lr ab :=
  let ⟨as, h1, h2, h3⟩ := h; ⟨as, h1.lists hs, h2, fun p a hp => (h3 p a hp).lists hs⟩
theorem listCell {h₀ h : Heap} {L c : Addr} {news : Led} {v : Option Value} {o : Obj} (N : News h₀ L h news) (hm : (c, o) ∈ news) (hd : o.data = .cell v) : ∀ q ∈ news, (∃ us n, q.2.data = .seq us n) → q.1 ≠ c := fun q hq ⟨us, n, hu⟩ =>
  news_ne (o := q.2) N hq hm fun e => by rw [e, hd] at hu; cases hu

/-- what holds sequences stands on -/
def SeqOn (news new : Led) : Prop := ∀ q ∈ news, (∃ us n, q.2.data = .seq us n) → q ∈ new
theorem IsL.seqs {news new : Led} {a : Addr} {vs : List Value} (h : IsL news a vs) (hs : SeqOn news new) : IsL new a vs := let ⟨n, hn⟩ := h; ⟨n, hs _ hn ⟨_, _, rfl⟩⟩
theorem IntL.seqs {news new : Led} {a : Addr} {ns : List Int} (h : IntL news a ns) (hs : SeqOn news new) : IntL new a ns := let ⟨vs, hv, hi⟩ := h; ⟨vs, hv.seqs hs, hi⟩
theorem TabL.seqs {news new : Led} {lt : Addr} {ab : List Int} (h : TabL news lt ab) (hs : SeqOn news new) : TabL new lt ab := by
  obtain ⟨a0, a1, a2, a3, hl, ⟨n0, h0, l0⟩, ⟨n1, h1, l1⟩, ⟨n2, h2, l2⟩, ⟨n3, h3, l3⟩⟩ := h
  exact ⟨a0, a1, a2, a3, hl.seqs hs, ⟨n0, h0.seqs hs, l0⟩, ⟨n1, h1.seqs hs, l1⟩, ⟨n2, h2.seqs hs, l2⟩, ⟨n3, h3.seqs hs, l3⟩⟩
theorem DepL.seqs {news new : Led} {ld : Addr} {ab : List Int} (h : DepL news ld ab) (hs : SeqOn news new) : DepL new ld ab := let ⟨ns, h1, h2⟩ := h; ⟨ns, h1.seqs hs, h2⟩
theorem RowsL.seqs {news new : Led} {lr : Addr} {ab : List Int} (h : RowsL news lr ab) (hs : SeqOn news new) : RowsL new lr ab :=
  let ⟨as, h1, h2, h3⟩ := h; ⟨as, h1.seqs hs, h2, fun p a hp => (h3 p a hp).seqs hs⟩
theorem seqOn_cell {h₀ h : Heap} {L c : Addr} {news new : Led} {v : Option Value} {o : Obj} (N : News h₀ L h news) (hm : (c, o) ∈ news) (hd : o.data = .cell v) (hs : ∀ q ∈ news, q.1 ≠ c → q ∈ new) : SeqOn news new :=
  fun q hq hu => hs q hq (listCell N hm hd q hq hu)
theorem seqOn_16 {h₀ h : Heap} {L : Addr} {news new : Led} (N : News h₀ L h news) (ht : Tab news) (hs : ∀ q ∈ news, ¬ q.1 = 16 → q ∈ new) : SeqOn news new := fun q hq ⟨us, n, hu⟩ => by
  obtain ⟨ps, hps⟩ := ht.mem
  exact hs q hq (news_ne (o := q.2) N hq hps fun e => by rw [e] at hu; cases hu)
theorem cellOn_16 {h₀ h : Heap} {L : Addr} {news new : Led} (N : News h₀ L h news) (ht : Tab news) (hs : ∀ q ∈ news, ¬ q.1 = 16 → q ∈ new) : ∀ q ∈ news, (∃ v, q.2.data = .cell v) → q ∈ new := fun q hq hv => hs q hq (Tab.off16 N ht q hq hv)

/-- what the law knows from its fifth statement on -/
structure LawSt (L' la ld lt lr : Addr) (tm : Tok) (ab : List Int) (v5 v6 : Option Value) (all : Led) : Prop where
  sc : Sc L' (some (.ref la)) (some (.ref ld)) (some (.int (ab.length : Nat) tm)) (some (.ref lr)) v5 v6 all
  hA : IntL all la ab
  hD : DepL all ld ab
  hT : TabL all lt ab
  hR : RowsL all lr ab
theorem LawSt.on {L' la ld lt lr : Addr} {tm : Tok} {ab : List Int} {v5 v6 : Option Value} {all new : Led} (h : LawSt L' la ld lt lr tm ab v5 v6 all) (hS : SeqOn all new) (hC : ∀ q ∈ all, (∃ v, q.2.data = .cell v) → q ∈ new) (ht : Tab new) : LawSt L' la ld lt lr tm ab v5 v6 new :=
  ⟨h.sc.keep hC ht, h.hA.seqs hS, h.hD.seqs hS, h.hT.seqs hS, h.hR.seqs hS⟩
theorem LawSt.keep16 {h₀ h : Heap} {L : Addr} {L' la ld lt lr : Addr} {tm : Tok} {ab : List Int} {v5 v6 : Option Value} {all new : Led} (st : LawSt L' la ld lt lr tm ab v5 v6 all) (N : News h₀ L h all) (hs : ∀ q ∈ all, ¬ q.1 = 16 → q ∈ new) (ht : Tab new) : LawSt L' la ld lt lr tm ab v5 v6 new :=
  st.on (seqOn_16 N st.sc.tab hs) (cellOn_16 N st.sc.tab hs) ht
theorem LawSt.all {L' la ld lt lr : Addr} {tm : Tok} {ab : List Int} {v5 v6 : Option Value} {all new : Led} (st : LawSt L' la ld lt lr tm ab v5 v6 all) (hs : ∀ q ∈ all, q ∈ new) : LawSt L' la ld lt lr tm ab v5 v6 new :=
  st.on (fun q hq _ => hs q hq) (fun q hq _ => hs q hq) (st.sc.tab.mono hs)
/-- the table of codes, none of it at I -/
def TabX (I : Addr) (news : Led) : Prop := 16 ≠ I ∧ ((16, tabObj #[]) ∈ news ∨ ∃ c' oc vs t, (16, tabObj #[rawInt 5, rawInt 4, .ref c']) ∈ news ∧ (c', oc) ∈ news ∧ oc.data = .fields vs ∧ vs[1]? = some (.str "_int2digits.<locals>.inner" t) ∧ c' ≠ I)
theorem TabX.tab {I : Addr} {news : Led} (h : TabX I news) : Tab news := by
  rcases h with ⟨_, h | ⟨c', oc, vs, t, h, hc, hd, hv, _⟩⟩
  · exact .inl h
  · exact .inr ⟨c', oc, vs, t, h, hc, hd, hv⟩
theorem TabX.mono {I : Addr} {news new : Led} (h : TabX I news) (hs : ∀ q ∈ news, q.1 ≠ I → q ∈ new) : TabX I new := by
  rcases h with ⟨h16, h | ⟨c', oc, vs, t, h, hc, hd, hv, hn⟩⟩
  · exact ⟨h16, .inl (hs _ h h16)⟩
  · exact ⟨h16, .inr ⟨c', oc, vs, t, hs _ h h16, hs _ hc hn, hd, hv, hn⟩⟩
theorem TabX.of_lt {I : Addr} {news : Led} (h : Tab news) (hlt : ∀ q ∈ news, q.1 < I) : TabX I news := by
  obtain ⟨ps, hps⟩ := h.mem
  refine ⟨Nat.ne_of_lt (hlt _ hps), ?_⟩
  rcases h with h | ⟨c', oc, vs, t, h, hc, hd, hv⟩
  · exact .inl h
  · exact .inr ⟨c', oc, vs, t, h, hc, hd, hv, Nat.ne_of_lt (hlt _ hc)⟩
theorem TabX.mk {h₀ h : Heap} {L I : Addr} {news : Led} {oI : Obj} (ht : Tab news) (N : News h₀ L h news) (hI : (I, oI) ∈ news) (hn : NoCode oI) (h16 : 16 ≠ I) : TabX I news := by
  refine ⟨h16, ?_⟩
  rcases ht with h | ⟨c', oc, vs, t, h, hc, hd, hv⟩
  · exact .inl h
  · refine .inr ⟨c', oc, vs, t, h, hc, hd, hv, news_ne N hc hI fun e => ?_⟩
    obtain ⟨us, h1, h2⟩ := hn
    rw [← e, hd] at h1
    injection h1 with h1
    subst h1
    exact h2 _ _ hv
theorem item_Dep' {prog : Program} {w : World} {A : Around} {E : Value → Shared → Prop} {s : Shared} {h₀ : Heap} {L : Addr} {news : Led} {ab : List Int} {value slice : PySem.Expr} {l : Addr} {p : Nat} {u : Tok} {Q : Value → Shared → Prop} (N : News h₀ L s.heap news) (hl : DepL news l ab) (hp : p < ab.length) (h13 : ab.length ≤ 13)
    (h : ∀ t, Q (.int (dep ab p : Nat) t) s)
    (hs : subscripted slice false (.ref l) (.int (p : Nat) u) = operate [.ref l, .int (p : Nat) u] (getItem (.ref l) (.int (p : Nat) u)) := by with_unfolding_all rfl) :
    wpAny (model prog w) A (subscriptTail value slice (.ref l) (.int (p : Nat) u)) Q E s := item_Dep N hl hp (by omega) h hs
theorem item_Row {prog : Program} {w : World} {A : Around} {E : Value → Shared → Prop} {s : Shared} {h₀ : Heap} {L : Addr} {news : Led} {ab : List Int} {value slice : PySem.Expr} {l : Addr} {p : Nat} {u : Tok} {Q : Value → Shared → Prop} (N : News h₀ L s.heap news) (hl : RowsL news l ab) (hp : p < ab.length) (h13 : ab.length ≤ 13)
    (h : ∀ a, IntL news a (ofN (row ab p)) → Q (.ref a) s)
    (hs : subscripted slice false (.ref l) (.int (p : Nat) u) = operate [.ref l, .int (p : Nat) u] (getItem (.ref l) (.int (p : Nat) u)) := by with_unfolding_all rfl) :
    wpAny (model prog w) A (subscriptTail value slice (.ref l) (.int (p : Nat) u)) Q E s := by
  obtain ⟨as, h1, h2, h3⟩ := hl
  have h4 : as[p]? = some (as[p]'(by omega)) := List.getElem?_eq_getElem (by omega)
  refine item_L N h1 (by omega) (by omega) (v := .ref (as[p]'(by omega))) (by rw [Int.toNat_natCast, List.getElem?_map, h4]; rfl) (h _ (h3 p _ h4)) hs

theorem sorted_same : ∀ {a b : List Int}, a.Perm b → a.Pairwise (· ≤ ·) → b.Pairwise (· ≤ ·) → a = b
  | [], b, hp, _, _ => (List.nil_perm.mp hp).symm
  | x :: a, [], hp, _, _ => absurd (List.perm_nil.mp hp) (by simp)
  | x :: a, y :: b, hp, ha, hb => by
    have h1 := List.pairwise_cons.mp ha
    have h2 := List.pairwise_cons.mp hb
    have hx : x ∈ y :: b := hp.mem_iff.mp (.head _)
    have hy : y ∈ x :: a := hp.mem_iff.mpr (.head _)
    have e : x = y := by
      rcases List.mem_cons.mp hx with e | hx
      · exact e
      · rcases List.mem_cons.mp hy with e | hy
        · exact e.symm
        · exact Int.le_antisymm (h1.1 y hy) (h2.1 x hx)
    subst e
    rw [sorted_same ((List.perm_cons x).mp hp) h1.2 h2.2]
theorem ofN_rises {l : List Nat} (h : l.Pairwise (· < ·)) : (ofN l).Pairwise (· ≤ ·) := by
  unfold ofN
  refine List.pairwise_map.mpr (h.imp fun {a b} hab => ?_)
  exact Int.ofNat_le.mpr (Nat.le_of_lt hab)

/-- the dict of nearest places, so far -/
def NearT (prog : Program) (w : World) (news : Led) (d : Addr) (D : List (PyData × PyData)) : Prop := TupTab (PySem.intKind prog w) PyData.int news d D

/-- what holds a dict or a sequence stands on -/
def DataOn (news new : Led) : Prop := ∀ q ∈ news, ((∃ es ep, q.2.data = .dict es ep) ∨ ∃ us n, q.2.data = .seq us n) → q ∈ new
theorem NearT.on {prog : Program} {w : World} {news new : Led} {d : Addr} {D : List (PyData × PyData)} (h : NearT prog w news d D) (hs : DataOn news new) : NearT prog w new d D := by
  obtain ⟨lo, o, es, ep, xs, hm, hc, hd, he, hn, hk, hf⟩ := h
  refine ⟨lo, o, es, ep, xs, hs _ hm (.inl ⟨_, _, hd⟩), hc, hd, he, hn, fun x hx => ?_, hf⟩
  obtain ⟨ok, h1, h2⟩ := hk x hx
  have h3 := h2
  obtain ⟨_, _, _, h4, _⟩ := h3
  exact ⟨ok, hs _ h1 (.inr ⟨_, _, h4⟩), h2⟩
theorem DataOn.seqs {news new : Led} (h : DataOn news new) : SeqOn news new := fun q hq hu => h q hq (.inr hu)
theorem dataOn_cell {h₀ h : Heap} {L c : Addr} {news new : Led} {v : Option Value} {o : Obj} (N : News h₀ L h news) (hm : (c, o) ∈ news) (hd : o.data = .cell v) (hs : ∀ q ∈ news, q.1 ≠ c → q ∈ new) : DataOn news new :=
  fun q hq hu => hs q hq (news_ne (o := q.2) N hq hm fun e => by rcases hu with ⟨_, _, hu⟩ | ⟨_, _, hu⟩ <;> rw [e, hd] at hu <;> cases hu)
theorem dataOn_16 {h₀ h : Heap} {L : Addr} {news new : Led} (N : News h₀ L h news) (ht : Tab news) (hs : ∀ q ∈ news, ¬ q.1 = 16 → q ∈ new) : DataOn news new := fun q hq hu => by
  obtain ⟨ps, hps⟩ := ht.mem
  exact hs q hq (news_ne (o := q.2) N hq hps fun e => by rcases hu with ⟨_, _, hu⟩ | ⟨_, _, hu⟩ <;> rw [e] at hu <;> cases hu)
/-- the dict of nearest places, none of it at I -/
def NearX (prog : Program) (w : World) (I : Addr) (news : Led) (d : Addr) (D : List (PyData × PyData)) : Prop := NearT prog w (off I news) d D
theorem NearX.near {prog : Program} {w : World} {I : Addr} {news : Led} {d : Addr} {D : List (PyData × PyData)} (h : NearX prog w I news d D) : NearT prog w news d D := NearT.on h fun q hq _ => (mem_off.mp hq).1
theorem NearX.mono {prog : Program} {w : World} {I : Addr} {news new : Led} {d : Addr} {D : List (PyData × PyData)} (h : NearX prog w I news d D) (hs : ∀ q ∈ news, q.1 ≠ I → q ∈ new) : NearX prog w I new d D :=
  NearT.on h fun q hq _ => mem_off.mpr ⟨hs q (mem_off.mp hq).1 (mem_off.mp hq).2, (mem_off.mp hq).2⟩
theorem NearX.mk {prog : Program} {w : World} {h₀ h : Heap} {L I : Addr} {news : Led} {d : Addr} {D : List (PyData × PyData)} {oI : Obj} (ht : NearT prog w news d D) (N : News h₀ L h news) (hI : (I, oI) ∈ news) (hn : NoCode oI) : NearX prog w I news d D :=
  NearT.on ht fun q hq hu => mem_off.mpr ⟨hq, news_ne (o := q.2) N hq hI fun e => by
    obtain ⟨us, h1, _⟩ := hn
    rcases hu with ⟨_, _, hu⟩ | ⟨_, _, hu⟩ <;> rw [e, h1] at hu <;> cases hu⟩
theorem NearX.of_lt {prog : Program} {w : World} {I : Addr} {news : Led} {d : Addr} {D : List (PyData × PyData)} (ht : NearT prog w news d D) (hlt : ∀ q ∈ news, q.1 < I) : NearX prog w I news d D :=
  NearT.on ht fun q hq _ => mem_off.mpr ⟨hq, Nat.ne_of_lt (hlt q hq)⟩
def pairKey (x y : Nat) : PyData := encTuple PyData.int [(x : Int), (y : Int)]
/-- what the dict tells of the pairs dealt with -/
def NearD (ab : List Int) (D : List (PyData × PyData)) (P : Nat → Nat → Prop) : Prop := ∀ x y, P x y → ∃ r : Nat, Near ab x y r ∧ PySem.Spec.lookup (pairKey x y) D = some (.int r)
theorem NearD.put {ab : List Int} {D : List (PyData × PyData)} {P P' : Nat → Nat → Prop} {x y r : Nat} (h : NearD ab D P) (hn : Near ab x y r) (hP : ∀ a b, P' a b → P a b ∨ (a = x ∧ b = y)) : NearD ab (PyProof.V.putD (pairKey x y) (.int r) D) P' := fun a b hab => by
  by_cases e : a = x ∧ b = y
  · obtain ⟨rfl, rfl⟩ := e
    exact ⟨r, hn, PyProof.V.lookup_putK_same (keyEnc_tuple PyProof.V.keyEnc_int) _ _ _⟩
  · obtain ⟨r', h1, h2⟩ := h a b ((hP a b hab).resolve_right e)
    refine ⟨r', h1, ?_⟩
    have := PyProof.V.lookup_putK_other (keyEnc_tuple PyProof.V.keyEnc_int) (n := [(x : Int), (y : Int)]) (k := [(a : Int), (b : Int)]) (fun q => e (by simp at q; omega)) (.int r) D
    exact this.trans h2
theorem put_len (k v : PyData) (D : List (PyData × PyData)) : (PyProof.V.putD k v D).length ≤ D.length + 1 := by
  rw [PyProof.Rows.length_putD]
  split <;> omega

def inFor : Stmt → List Stmt | .For _ _ b _ _ => b | _ => []
def S8i : Stmt := match inFor S8 with | s :: _ => s | _ => .Pass default
def B1 : Stmt := match inFor S8i with | s :: _ => s | _ => .Pass default
def B2 : Stmt := match inFor S8i with | _ :: s :: _ => s | _ => .Pass default
def B3 : Stmt := match inFor S8i with | _ :: _ :: s :: _ => s | _ => .Pass default
theorem rises_le {ab : List Int} (T : Tree ab) {p : Nat} (hp : p < ab.length) : ∀ i j, i < j → j < (ofN (row ab p)).length → (ofN (row ab p)).getD i 0 ≤ (ofN (row ab p)).getD j 0 := fun i j hij hj => by
  rw [ofN_getD, ofN_getD]
  rw [ofN_len] at hj
  have := sorted_of_rises (row_rises T p hp) i j hij hj
  omega
theorem bis_mem {l : List Nat} {x r : Nat} (hs : l.Pairwise (· < ·)) (h : BisAt (ofN l) (x : Nat) r) : x ∈ l ↔ r < l.length ∧ l.getD r 0 = x := by
  constructor
  · intro hx
    obtain ⟨k, hk, e⟩ := List.getElem_of_mem hx
    have e' : l.getD k 0 = x := by rw [List.getD_eq_getElem?_getD, List.getElem?_eq_getElem hk]; exact e
    have h1 : r ≤ k := by
      rcases Nat.lt_or_ge k r with h' | h'
      · have := h.2.1 k h'
        rw [ofN_getD, e'] at this
        omega
      · exact h'
    refine ⟨by omega, ?_⟩
    have h2 := h.2.2 r (Nat.le_refl _) (by rw [ofN_len]; omega)
    rw [ofN_getD] at h2
    rcases Nat.lt_or_ge r k with h' | h'
    · have := sorted_of_rises hs r k h' hk
      omega
    · obtain rfl : r = k := by omega
      exact e'
  · rintro ⟨h1, h2⟩
    rw [← h2, List.getD_eq_getElem?_getD, List.getElem?_eq_getElem h1]
    exact List.getElem_mem h1

theorem bis_uniq {ns : List Int} {x : Int} {r r' : Nat} (h : BisAt ns x r) (h' : BisAt ns x r') : r = r' := by
  rcases Nat.lt_trichotomy r r' with e | e | e
  · have h1 := h'.2.1 r e
    have h2 := h.2.2 r (Nat.le_refl _) (by have := h'.1; omega)
    omega
  · exact e
  · have h1 := h.2.1 r' e
    have h2 := h'.2.2 r' (Nat.le_refl _) (by have := h.1; omega)
    omega

theorem srcAt_in {h₀ : Heap} {ax : Addr} {its : Array Value} {n : Nat} {b : Led} (h : (ax, W.listOf its n) ∈ b) : LCg.SrcAt h₀ ax its b := .inr ⟨_, h, rfl, _, rfl⟩

theorem ints_last : ∀ {vs : List Value} {ns : List Int} {x : Int}, IntsAre vs (ns ++ [x]) → ∃ vi t, vs = vi ++ [.int x t]
  | _, [], _, .cons n t .nil => ⟨[], t, rfl⟩
  | _, n :: ns, x, .cons _ t h => by
    obtain ⟨vi, t', rfl⟩ := ints_last (ns := ns) h
    exact ⟨_ :: vi, t', rfl⟩
theorem last_IntL {prog : Program} {w : World} {A : Around} {E : Value → Shared → Prop} {s : Shared} {h₀ : Heap} {L : Addr} {news : Led} {value slice : PySem.Expr} {l : Addr} {ns : List Int} {x : Int} {u : Tok} {Q : Value → Shared → Prop} (N : News h₀ L s.heap news) (hl : IntL news l (ns ++ [x])) (h : ∀ t, Q (.int x t) s)
    (hs : subscripted slice false (.ref l) (.int (-1) u) = operate [.ref l, .int (-1) u] (getItem (.ref l) (.int (-1) u)) := by with_unfolding_all rfl) (hg : ∀ r, letTemporaryGo value (.ref l) r = pure () := by intro _; with_unfolding_all rfl) :
    wpAny (model prog w) A (subscriptTail value slice (.ref l) (.int (-1) u)) Q E s := by
  obtain ⟨vs, hv, hi⟩ := hl
  obtain ⟨vi, t, rfl⟩ := ints_last hi
  exact last_L N hv (h t) hs hg
theorem row_last {ab : List Int} (T : Tree ab) {p : Nat} (hp : p < ab.length) : ∃ pre, row ab p = pre ++ [p] := by
  rcases Nat.eq_zero_or_pos p with rfl | h
  · exact ⟨[], rfl⟩
  · exact ⟨_, row_succ T h hp⟩

/-- all but the code table, the cell of `other` and the dict stand on -/
def On8 (L' dn : Addr) (all new : Led) : Prop := ∀ q ∈ all, ¬ q.1 = 16 → q.1 ≠ L' + 1 + 1 + 1 + 1 + 1 + 1 → q.1 ≠ dn → q ∈ new
theorem LawSt.keep8 {h₀ h : Heap} {L : Addr} {prog : Program} {w : World} {L' la ld lt lr dn : Addr} {tm : Tok} {ab : List Int} {v6 v6' : Option Value} {all new : Led} {D : List (PyData × PyData)} (st : LawSt L' la ld lt lr tm ab (some (.ref dn)) v6 all) (N : News h₀ L h all) (hN : NearT prog w all dn D)
    (hs : On8 L' dn all new) (ht : Tab new) (hc : CellIs new (L' + 1 + 1 + 1 + 1 + 1 + 1) v6') : LawSt L' la ld lt lr tm ab (some (.ref dn)) v6' new := by
  obtain ⟨_, od, es, ep, _, hod, _, hodd, _⟩ := hN
  have hne : ∀ q ∈ all, q.2.data ≠ od.data → q.1 ≠ dn := fun q hq hn => news_ne (o := q.2) N hq hod fun e => hn (by rw [e])
  obtain ⟨o6, ho6, d6⟩ := st.sc.c6
  have hS : SeqOn all new := fun q hq hu => by
    obtain ⟨ps, hps⟩ := st.sc.tab.mem
    refine hs q hq ?_ (listCell N ho6 d6 q hq hu) (hne q hq ?_)
    · obtain ⟨_, _, hu⟩ := hu
      exact news_ne (o := q.2) N hq hps fun e => by rw [e] at hu; cases hu
    · obtain ⟨_, _, hu⟩ := hu
      rw [hu, hodd]; exact fun e => by cases e
  have hC : ∀ {c : Addr} {v : Option Value}, CellIs all c v → c ≠ L' + 1 + 1 + 1 + 1 + 1 + 1 → CellIs new c v := fun {c v} ⟨o, h1, h2⟩ hn =>
    ⟨o, hs _ h1 (Tab.off16 N st.sc.tab _ h1 ⟨_, h2⟩) hn (hne _ h1 (by rw [h2, hodd]; exact fun e => by cases e)), h2⟩
  exact ⟨⟨ht, hC st.sc.c1 (by show @Ne Nat _ _; omega), hC st.sc.c2 (by show @Ne Nat _ _; omega), hC st.sc.c3 (by show @Ne Nat _ _; omega), hC st.sc.c4 (by show @Ne Nat _ _; omega), hC st.sc.c5 (by show @Ne Nat _ _; omega), hc⟩, st.hA.seqs hS, st.hD.seqs hS, st.hT.seqs hS, st.hR.seqs hS⟩

theorem perm_sum {a b : List Int} (h : a.Perm b) : a.foldr (· + ·) 0 = b.foldr (· + ·) 0 := by
  induction h with
  | nil => rfl
  | cons x _ ih => simp only [List.foldr_cons, ih]
  | swap x y l => simp only [List.foldr_cons]; omega
  | trans _ _ ih1 ih2 => exact ih1.trans ih2
theorem three_same {d1 d2 d3 : Int} {l : List Int} (hp : l.Perm [d1, d2, d3]) (hs : l.Pairwise (· ≤ ·)) (h1 : d2 ≤ d3 → d2 ≤ d1) (h2 : d3 ≤ d2 → d3 ≤ d1) (h3 : d1 ≤ d3 → d1 ≤ d2) (h4 : d3 ≤ d1 → d3 ≤ d2) (h5 : d1 ≤ d2 → d1 ≤ d3) (h6 : d2 ≤ d1 → d2 ≤ d3) : ∃ a c, l = [a, a, c] := by
  have hl : l.length = 3 := hp.length_eq
  match l, hl with
  | [a, b, c], _ =>
    have hsum : a + b + c = d1 + d2 + d3 := by
      have := perm_sum hp
      simp only [List.foldr_cons, List.foldr_nil] at this
      omega
    have ha : a = d1 ∨ a = d2 ∨ a = d3 := by simpa using hp.mem_iff.mp (List.Mem.head _)
    have m1 : d1 = a ∨ d1 = b ∨ d1 = c := by simpa using hp.mem_iff.mpr (List.Mem.head _)
    have m2 : d2 = a ∨ d2 = b ∨ d2 = c := by simpa using hp.mem_iff.mpr (List.Mem.tail _ (List.Mem.head _))
    have m3 : d3 = a ∨ d3 = b ∨ d3 = c := by simpa using hp.mem_iff.mpr (List.Mem.tail _ (List.Mem.tail _ (List.Mem.head _)))
    have hab : a ≤ b := (List.pairwise_cons.mp hs).1 b (.head _)
    have hbc : b ≤ c := (List.pairwise_cons.mp (List.pairwise_cons.mp hs).2).1 c (.head _)
    have : a = b := by
      rcases ha with e | e | e <;> rcases m1 with f | f | f <;> rcases m2 with k | k | k <;> rcases m3 with n | n | n <;> omega
    exact ⟨a, c, by rw [this]⟩

theorem tuple_A {M : Model} {A : Around} {E : Value → Shared → Prop} {s : Shared} {h₀ : Heap} {L : Addr} {m : Str → Option Value} {news : Led} {vs : List Value} {Q : Value → Shared → Prop} (F : Fr h₀ L s.heap m) (N : News h₀ L s.heap news)
    (h : ∀ T h' new, Fr h₀ L h' m → News h₀ L h' new → (∀ q ∈ news, q ∈ new) → (T, ({ cls := .type "tuple", data := .seq vs.toArray } : Obj)) ∈ new → Q (.ref T) { s with heap := h' }) (hz : vs.length ≤ sizeLine) : wpAny M A (newTuple vs) Q E s :=
  kup_newTuple F N (fun T h' F' N' _ => h T h' _ F' N' (fun q hq => .tail _ hq) (.head _)) hz

/-- the law's end -/
def LawEnd (h₀ : Heap) (L : Addr) (s : Shared) (f : Flow) (s₃ : Shared) : Prop :=
  f = .ret (.bool true) ∧ ∃ h' tk m' all', s₃ = { s with heap := h', toks := tk } ∧ Fr h₀ L h' m' ∧ News h₀ L h' all' ∧ Tab all'
end Mine
end
section
open PySem PySem.W PyProof.Rows
set_option maxRecDepth 100000
set_option maxHeartbeats 8000000
namespace Mine
open PySem PySem.W PySem.Spec PySem.Calls PyProof.Rows

local macro_rules | `(tactic| walk_at "eval ListComp") => `(tactic| refine hold ?_)
local macro_rules | `(tactic| walk_at "call type:enumerate") => `(tactic| refine hold ?_)
local macro_rules | `(tactic| walk_at "binaryOp Add ref ref") => `(tactic| refine hold ?_)
local macro_rules | `(tactic| walk_at "storeName") => `(tactic| refine hold ?_)
local macro_rules | `(tactic| walk_at "subscriptTail") => `(tactic| refine hold ?_)
local macro_rules | `(tactic| walk_at "call builtin:len") => `(tactic| refine hold ?_)
theorem law_S1 {prog : Program} {w : World} {p : Program} {loose : List Str} {mean : ExcName → Option Value} {mg mb : Str → Option Value} {dp un : Nat} {gd : Option (List Code)} {L' fa ls : Addr} {cd : Value} {outer : List Env} {A₀ : Around} {base g : Heap} {s : Shared} {m : Str → Option Value} {all : Led} {vs : List Value} {ns : List Int}
    (C : Cx (hd.heap_39 w.params) p loose mean mg mb lawScope L' outer A₀ base g s.heap m all) (hls : g.IsList ls vs.toArray) (hi : IntsAre vs ns) (h63 : ns.length ≤ 63) (h16 : @LT.lt Nat _ 16 L') (hm : m "script" = some (.ref ls)) (sc : Sc L' none none none none none none all) :
    wpAny (model prog w) (lawA dp un gd L' fa cd outer) (exec S1 (lawE L' fa cd)) (EndS g L' s fun m' all' => m' "script" = some (.ref ls) ∧ ∃ la ab, Tree ab ∧ IntL all' la ab ∧ Sc L' (some (.ref la)) none none none none none all') (fun _ _ => False) s := by
  obtain ⟨B, F, X, N, T, CH, hk⟩ := C
  have F₁ : Fr g L' s.heap (o1 "script" (.ref ls) m) := by simp only [o1_self hm]; exact F
  clear F
  dsimp only [lawScope, lawBody, lawStmt, S1, PySem.Challenge.pw_hc0003_01] at hk ⊢
  repeat' (first | walk1 | (dsimp only; walk1))
  unfold Hold
  refine comp_it (by with_unfolding_all rfl) (by rfl) (by decide) ?_
  repeat' (first | walk1 | (dsimp only; walk1))
  unfold Hold
  rename Fr _ _ _ _ => F₂
  rename News _ _ _ _ => N₂
  refine kmk_add_ints F₂ N₂ (hls.at fun o e => F₂.keep _ _ e) (N₂.isList (.head _)) hi (.cons 0 _ .nil) (fun D us h₃ F₃ N₃ lt₃ hI₃ => ?_) (by have : sizeLine = 2 ^ 24 := rfl; simp; omega)
  clear F₂ N₂
  repeat' (first | walk1 | (dsimp only; walk1))
  unfold Hold
  refine len_list (hls.at fun o e => F₃.keep _ _ e) (by rw [List.size_toArray, hi.length]; omega) ?_
  rw [List.size_toArray, hi.length]
  repeat' (first | walk1 | (dsimp only; walk1))
  unfold Hold
  rename Fr _ _ _ _ => F₄
  rename News _ _ _ _ => N₄
  refine upto_tmp (t := _) F₄ N₄ ⟨_, ⟨0, .head _⟩, hI₃⟩ (by omega) (by rw [List.length_append]; simp; omega) (fun D₂ h₅ new₅ F₅ N₅ sub₅ hD₅ => ?_) (by with_unfolding_all rfl)
  try clear F₃ N₃
  clear F₄ N₄
  repeat' (first | walk1 | (dsimp only; walk1))
  unfold Hold
  have hex : ∃ ks : List Int, ks.length ≤ 12 ∧ IntL new₅ D₂ ks := by
    refine ⟨_, ?_, hD₅⟩
    refine Nat.le_trans (List.length_take_le _ _) ?_
    (repeat' split) <;> omega
  clear hD₅
  obtain ⟨ks, hk12, hD₅⟩ := hex
  obtain ⟨ws, hws, hiw⟩ := hD₅
  have hwl := hiw.length
  refine comp_enum (fun i ys => ∃ zs : List Int, IntsAre ys zs ∧ zs.length = i ∧ ∀ k, k < i → 0 ≤ zs.getD k 0 ∧ zs.getD k 0 ≤ k) rfl (by decide) (by rfl) (by rfl) (by rfl) (by decide) F₅ N₅ hws (by omega) ⟨[], .nil, rfl, fun k hk => absurd hk (Nat.not_lt_zero k)⟩ ?_ ?_
  · rintro i v t oC C₂ m₂ ys h₆ tk₆ E' hv ⟨zs, hz1, hz2, hz3⟩ hC₂ hx hy F₆ N₆
    have hil : i < ks.length := by have := (List.getElem?_eq_some_iff.mp hv).1; omega
    obtain ⟨tv, hv'⟩ := ints_get hiw hil
    obtain rfl : v = .int (ks.getD i 0) tv := Option.some.inj (hv.symm.trans hv')
    generalize ks.getD i 0 = q at *
    clear F₅ N₅
    have hC₂m : (C₂, oC) ∈ [(C₂, oC)] := .head _
    repeat' (first | walk1 | (dsimp only; walk1))
    refine ⟨_, rfl, zs ++ [q.fmod ((i : Int) + 1)], ints_append hz1 (.cons _ _ .nil), by rw [List.length_append, hz2]; rfl, fun k hk => ?_⟩
    rcases Nat.lt_or_ge k i with h | h
    · rw [List.getD_eq_getElem?_getD, List.getElem?_append_left (by omega), ← List.getD_eq_getElem?_getD]
      exact hz3 k h
    · obtain rfl : k = i := by omega
      rw [List.getD_eq_getElem?_getD, List.getElem?_append_right (by omega), hz2, Nat.sub_self]
      have h1 : 0 ≤ q.fmod ((k : Int) + 1) := Int.fmod_nonneg_of_pos _ (by omega)
      have h2 : q.fmod ((k : Int) + 1) < (k : Int) + 1 := Int.fmod_lt_of_pos _ (by omega)
      exact ⟨h1, by show q.fmod ((k : Int) + 1) ≤ k; omega⟩
  · rintro D₃ h₆ tk₆ ys new₆ F₆ N₆ sub₆ lt₆ ⟨n₆, hn₆⟩ ⟨zs, hz1, hz2, hz3⟩
    clear F₅ N₅
    have hbase := sub₆ _ (sub₅ _ (.tail _ (.tail _ (.head _))))
    try dsimp only
    repeat' (first | walk1 | (dsimp only; walk1))
    unfold Hold
    refine kmk_add_ints F₆ N₆ (N₆.isList hbase) (N₆.isList hn₆) (.cons 0 _ .nil) hz1 (fun la us h₇ F₇ N₇ lt₇ hI₇ => ?_) (by have : sizeLine = 2 ^ 24 := rfl; simp; omega)
    clear F₆ N₆
    repeat' (first | walk1 | (dsimp only; walk1))
    unfold Hold
    have old : ∀ q ∈ all, q ∈ (la, W.listOf us.toArray 0) :: new₆ := fun q hq => .tail _ (sub₆ _ (sub₅ _ (.tail _ (.tail _ (.tail _ hq)))))
    have sc₇ := sc.keep (fun q hq _ => old q hq) (sc.tab.mono old)
    obtain ⟨o, ho, dA⟩ := sc₇.c1
    refine store_C F₇ N₇ (x := "above") (o := o) rfl ho dA (fun h₈ o' new₈ F₈ N₈ hold₈ ho' dA' => ?_) rfl rfl
    have hla : la ≠ L' + 1 := news_ne N₇ (.head _) ho fun e => by rw [← e] at dA; cases dA
    have hNF := noFields N₇ ho fun us e => by rw [dA] at e; cases e
    clear F₇ N₇
    repeat' (first | walk1 | (dsimp only; walk1))
    refine ⟨rfl, _, _, _, _, rfl, F₈, N₈, rfl, la, 0 :: zs, ?_, ⟨us, ⟨0, hold₈ _ (.head _) hla⟩, hI₇⟩, sc₇.put1 hold₈ ho' dA' h16 hNF⟩
    refine ⟨by rw [List.length_cons]; omega, rfl, by rw [List.length_cons]; omega, fun p h0 hp => ?_⟩
    obtain ⟨k, rfl⟩ := Nat.exists_eq_add_of_lt h0
    rw [List.length_cons] at hp
    have := hz3 k (by omega)
    rw [show 0 + k + 1 = k + 1 by omega, List.getD_cons_succ]
    omega
end Mine
end
section
open PySem PySem.W PyProof.Rows
set_option maxRecDepth 100000
set_option maxHeartbeats 8000000
namespace Mine
open PySem PySem.W PySem.Spec PySem.Calls PyProof.Rows

section
local macro_rules | `(tactic| walk_at "storeName") => `(tactic| refine hold ?_)
theorem law_S2 {prog : Program} {w : World} {p : Program} {loose : List Str} {mean : ExcName → Option Value} {mg mb : Str → Option Value} {dp un : Nat} {gd : Option (List Code)} {L' fa ls : Addr} {cd : Value} {outer : List Env} {A₀ : Around} {base g : Heap} {s : Shared} {m : Str → Option Value} {all : Led} {la : Addr} {ab : List Int}
    (C : Cx (hd.heap_39 w.params) p loose mean mg mb lawScope L' outer A₀ base g s.heap m all) (h16 : @LT.lt Nat _ 16 L') (hm : m "script" = some (.ref ls)) (hA : IntL all la ab) (sc : Sc L' (some (.ref la)) none none none none none all) :
    wpAny (model prog w) (lawA dp un gd L' fa cd outer) (exec S2 (lawE L' fa cd)) (EndS g L' s fun m' all' => m' "script" = some (.ref ls) ∧ IntL all' la ab ∧ ∃ ld, la ≠ ld ∧ IntL all' ld [0] ∧ Sc L' (some (.ref la)) (some (.ref ld)) none none none none all' ) (fun _ _ => False) s := by
  obtain ⟨B, F, X, N, T, CH, hk⟩ := C
  have F₁ : Fr g L' s.heap (o1 "script" (.ref ls) m) := by simp only [o1_self hm]; exact F
  clear F
  dsimp only [lawScope, lawBody, lawStmt, S2, PySem.Challenge.pw_hc0003_01] at hk ⊢
  repeat' (first | walk1 | (dsimp only; walk1))
  unfold Hold
  rename Fr _ _ _ _ => F₂
  rename News _ _ _ _ => N₂
  rename_i ld h₂ l1
  obtain ⟨o, ho, dA⟩ := sc.c2
  refine store_C F₂ N₂ (x := "depths") (o := o) rfl (.tail _ ho) dA (fun h₈ o' new₈ F₈ N₈ hold₈ ho' dA' => ?_) rfl rfl
  have hld : ld ≠ L' + 1 + 1 := Ne.symm (Nat.ne_of_lt (l1 _ ho))
  have hne : la ≠ L' + 1 + 1 := by
    obtain ⟨_, ⟨_, hq⟩, _⟩ := hA
    exact news_ne N₂ (.tail _ hq) (.tail _ ho) fun e => by rw [← e] at dA; cases dA
  have hlt : la < ld := by
    obtain ⟨_, ⟨_, hq⟩, _⟩ := hA
    exact l1 _ hq
  have hNF := noFields (news_sub N₂ fun q hq => .tail _ hq) ho fun us e => by rw [dA] at e; cases e
  clear F₂ N₂
  repeat' (first | walk1 | (dsimp only; walk1))
  exact ⟨rfl, _, _, _, _, rfl, F₈, N₈, rfl, hA.mono fun q hq e => hold₈ q (.tail _ hq) (e ▸ hne), ld, Nat.ne_of_lt hlt, ⟨_, ⟨0, hold₈ _ (.head _) hld⟩, .cons 0 _ .nil⟩, sc.put2 (fun q hq hn => hold₈ q (.tail _ hq) hn) ho' dA' h16 hNF⟩
end
section
local macro_rules | `(tactic| walk_at "exec For Name Call cons nil") => `(tactic| refine hold ?_)
local macro_rules | `(tactic| walk_at "call builtin:len") => `(tactic| refine hold ?_)
local macro_rules | `(tactic| walk_at "call builtin:list.append") => `(tactic| refine hold ?_)
local macro_rules | `(tactic| walk_at "subscriptTail") => `(tactic| refine hold ?_)
theorem law_S3 {prog : Program} {w : World} {p : Program} {loose : List Str} {mean : ExcName → Option Value} {mg mb : Str → Option Value} {dp un : Nat} {gd : Option (List Code)} {L' fa ls : Addr} {cd : Value} {outer : List Env} {A₀ : Around} {base g : Heap} {s : Shared} {m : Str → Option Value} {all : Led} {la ld : Addr} {ab : List Int} (T₀ : Tree ab)
    (C : Cx (hd.heap_39 w.params) p loose mean mg mb lawScope L' outer A₀ base g s.heap m all) (h16 : @LT.lt Nat _ 16 L') (hm : m "script" = some (.ref ls)) (hA : IntL all la ab) (hne : la ≠ ld) (hD : IntL all ld [0]) (sc : Sc L' (some (.ref la)) (some (.ref ld)) none none none none all) :
    wpAny (model prog w) (lawA dp un gd L' fa cd outer) (exec S3 (lawE L' fa cd)) (EndS g L' s fun m' all' => m' "script" = some (.ref ls) ∧ IntL all' la ab ∧ DepL all' ld ab ∧ Sc L' (some (.ref la)) (some (.ref ld)) none none none none all' ) (fun _ _ => False) s := by
  obtain ⟨B, F, X, N, T, CH, hk⟩ := C
  have F₁ : Fr g L' s.heap (o1 "script" (.ref ls) m) := by simp only [o1_self hm]; exact F
  clear F
  dsimp only [lawScope, lawBody, lawStmt, S3, PySem.Challenge.pw_hc0003_01] at hk ⊢
  have h13 := T₀.len
  have hpos := T₀.pos
  obtain ⟨oA, hoA, dA⟩ := sc.c1
  obtain ⟨oD, hoD, dD⟩ := sc.c2
  refine For_turns F₁ ?_ (hE := PassesOwn.never)
  repeat' (first | walk1 | (dsimp only; walk1))
  unfold Hold
  refine len_IntL N hA (by omega) fun t1 tk1 => ?_
  repeat' (first | walk1 | (dsimp only; walk1))
  rename IsRange _ _ _ _ _ _ _ _ => R₄
  rename Fr _ _ _ _ => F₄
  rename News _ _ _ _ => N₄
  try clear N
  try clear F₁
  have hldm : ∃ o, (ld, o) ∈ all := by obtain ⟨_, ⟨_, hq⟩, _⟩ := hD; exact ⟨_, hq⟩
  have hlist : NoFields all ld := by
    obtain ⟨_, ⟨_, hq⟩, _⟩ := hD
    exact noFields N₄ hq fun us e => by cases e
  have hcells : ∀ q ∈ all, (∃ v, q.2.data = .cell v) → q.1 ≠ ld := by
    obtain ⟨_, ⟨_, hq⟩, _⟩ := hD
    exact fun q hq' ⟨v, hv⟩ => news_ne (o := q.2) N₄ hq' hq fun e => by rw [e] at hv; cases hv
  have h16' : 16 ≠ ld := by
    obtain ⟨ps, hps⟩ := sc.tab.mem
    obtain ⟨_, ⟨_, hq⟩, _⟩ := hD
    exact news_ne N₄ hps hq fun e => by cases e
  have hcA := hcells _ hoA ⟨_, dA⟩
  have hcD := hcells _ hoD ⟨_, dD⟩
  have hldm : ∃ o, (ld, o) ∈ all := by obtain ⟨_, ⟨_, hq⟩, _⟩ := hD; exact ⟨_, hq⟩
  refine for_range (n := ab.length - 1) rfl R₄ (range_ok (by decide) (by decide) (by omega) (by omega)) (by rw [range_len]; omega) F₄ N₄ (fun _ _ => rfl) (fun I i m all' => (∀ q ∈ all, q.1 < I ∧ (q.1 ≠ ld → q ∈ all')) ∧ m "script" = some (.ref ls) ∧ ld < I ∧ ∃ ds, IntL all' ld ds ∧ ds.length = i + 1 ∧ ∀ p, p ≤ i → ds.getD p 0 = (dep ab p : Nat)) ?_ ?_ ?_ ?_
  · rintro I i m a b ⟨h1, h2, h3, ds, h4, h5⟩ hs
    exact ⟨fun q hq => ⟨(h1 q hq).1, fun hn => hs q ((h1 q hq).2 hn) (Nat.ne_of_lt (h1 q hq).1)⟩, h2, h3, ds, h4.mono fun q hq e => hs q hq (e ▸ Nat.ne_of_lt h3), h5⟩
  · intro I hI
    obtain ⟨o, ho⟩ := hldm
    refine ⟨fun q hq => ⟨hI q hq, fun _ => hq⟩, rfl, hI _ ho, [0], hD, rfl, fun p hp => ?_⟩
    obtain rfl : p = 0 := Nat.le_zero.mp hp
    rfl
  · rintro I i t m₂ all' h₃ tk₃ oI hi hI hin hnc hoc ⟨hsub, e1, hldI, ds, hds, hdl, hdv⟩ F₅ N₅
    try clear F₄ N₄ R₄
    replace F₅ : Fr g L' h₃ (o1 "script" (.ref ls) m₂) := by simp only [o1_self e1]; exact F₅
    replace N₅ : News g L' h₃ all' := N₅
    have hA₅ : IntL all' la ab := hA.mono fun q hq e => (hsub q hq).2 (e ▸ hne)
    have hoA₅ := (hsub _ hoA).2 hcA
    have hoD₅ := (hsub _ hoD).2 hcD
    have hlm : ∃ o, (ld, o) ∈ all' ∧ ∃ vs n, o = W.listOf vs n := by obtain ⟨_, ⟨_, hq⟩, _⟩ := hds; exact ⟨_, hq, _, _, rfl⟩
    obtain ⟨_, hlm, lv, ln, rfl⟩ := hlm
    have hk : (1 : Int) + (i : Int) * 1 = ((i + 1 : Nat) : Int) := by omega
    rw [hk]
    repeat' (first | walk1 | (dsimp only; walk1))
    unfold Hold
    rename Fr _ _ _ _ => F₆
    rename News _ _ _ _ => N₆
    refine item_IntL N₆ hA₅ (by omega) (by omega) (by omega) fun t6 => ?_
    rw [Int.toNat_natCast, T₀.par_eq (by omega)]
    have hpl := T₀.par_lt (p := i + 1) (by omega) (by omega)
    repeat' (first | walk1 | (dsimp only; walk1))
    unfold Hold
    refine item_IntL N₆ hds (by omega) (by omega) (by omega) fun t7 => ?_
    rw [Int.toNat_natCast, hdv _ (by omega)]
    repeat' (first | walk1 | (dsimp only; walk1))
    unfold Hold
    refine append_IntL F₆ N₆ hds (by omega) fun h₇ new₇ F₇ N₇ hold₇ hl₇ => ?_
    clear F₆ N₆
    repeat' (first | walk1 | (dsimp only; walk1))
    refine ⟨rfl, _, _, _, _, rfl, F₇, N₇, hold₇ _ hin (Ne.symm (Nat.ne_of_lt hldI)), fun q hq => ⟨(hsub q hq).1, fun hn => hold₇ q ((hsub q hq).2 hn) hn⟩, rfl, hldI, _, hl₇, by rw [List.length_append, hdl]; rfl, fun p hp => ?_⟩
    rcases Nat.lt_or_ge p (i + 1) with h | h
    · rw [List.getD_eq_getElem?_getD, List.getElem?_append_left (by omega), ← List.getD_eq_getElem?_getD]
      exact hdv p (by omega)
    · obtain rfl : p = i + 1 := by omega
      rw [List.getD_eq_getElem?_getD, List.getElem?_append_right (by omega), hdl, Nat.sub_self, dep_up T₀ (p := i + 1) (by omega) (by omega)]
      rfl
  · rintro I h₃ tk₃ m₂ all' hI F₅ N₅ ⟨hsub, e1, hldI, ds, hds, hdl, hdv⟩
    refine ⟨rfl, _, _, _, _, rfl, F₅, N₅, e1, hA.mono fun q hq e => (hsub q hq).2 (e ▸ hne), ⟨ds, hds, by omega, fun p hp => hdv p (by omega)⟩, ?_⟩
    have hkeep : ∀ q ∈ all, q.1 ≠ ld → q ∈ all' := fun q hq hn => (hsub q hq).2 hn
    exact sc.keepBut hkeep hlist h16' hcells
end
end Mine
end
section
open PySem PySem.W PyProof.Rows
set_option maxRecDepth 100000
set_option maxHeartbeats 8000000
namespace Mine
open PySem PySem.W PySem.Spec PySem.Calls PyProof.Rows

section
local macro_rules | `(tactic| walk_at "call ref") => `(tactic| refine hold ?_)
local macro_rules | `(tactic| walk_at "call builtin:len") => `(tactic| refine hold ?_)
local macro_rules | `(tactic| walk_at "storeName") => `(tactic| ((with_reducible show wpAny _ _ (storeName _ (Str.ofString "many") _) _ _ _); refine hold ?_))
theorem law_S4 {prog : Program} {w : World} {p : Program} {loose : List Str} {mean : ExcName → Option Value} {mg mb : Str → Option Value} {dp un : Nat} {gd : Option (List Code)} {L' fa ls : Addr} {cd : Value} {outer : List Env} {A₀ : Around} {base g : Heap} {s : Shared} {m : Str → Option Value} {all : Led} {la ld : Addr} {ab : List Int} (T₀ : Tree ab)
    (C : Cx (hd.heap_39 w.params) p loose mean mg mb lawScope L' outer A₀ base g s.heap m all) (hdp : dp + 40 < recursionLimit) (hun : un + 400 < cLine) (h16 : @LT.lt Nat _ 16 L') (hm : m "script" = some (.ref ls)) (hA : IntL all la ab) (hD : DepL all ld ab) (sc : Sc L' (some (.ref la)) (some (.ref ld)) none none none none all) :
    wpAny (model prog w) (lawA dp un gd L' fa cd outer) (exec S4 (lawE L' fa cd)) (EndS g L' s fun m' all' => m' "script" = some (.ref ls) ∧ IntL all' la ab ∧ DepL all' ld ab ∧ ∃ lt tm, m' "table" = some (.ref lt) ∧ TabL all' lt ab ∧ Sc L' (some (.ref la)) (some (.ref ld)) (some (.int (ab.length : Nat) tm)) none none none all' ) (fun _ _ => False) s := by
  obtain ⟨B, F, X, N, T, CH, hk⟩ := C
  have F₁ : Fr g L' s.heap (o1 "script" (.ref ls) m) := by simp only [o1_self hm]; exact F
  clear F
  dsimp only [lawScope, lawBody, lawStmt, S4, PySem.Challenge.pw_hc0003_01] at hk ⊢
  have h13 := T₀.len
  obtain ⟨oA, hoA, dA⟩ := sc.c1
  repeat' (first | walk1 | (dsimp only; walk1))
  unfold Hold
  rename Fr _ _ _ _ => F₂
  rename News _ _ _ _ => N₂
  refine (kept_spec T₀ hA).use ⟨B, F₂, X, N₂, T, CH, hk⟩ (by omega) (by omega) ?_
  rintro v h₃ tk₃ new₃ F₃ N₃ hold₃ ⟨lt, rfl, hT₃⟩
  replace hold₃ : ∀ q ∈ all, q ∈ new₃ := fun q hq => hold₃ q hq id
  replace hA := hA.mono fun q hq _ => hold₃ q hq
  replace hD := hD.lists fun q hq _ => hold₃ q hq
  replace sc := sc.keep (fun q hq _ => hold₃ q hq) (sc.tab.mono hold₃)
  replace hoA := hold₃ _ hoA
  clear F₂ N₂ hold₃
  repeat' (first | walk1 | (dsimp only; walk1))
  unfold Hold
  refine len_IntL N₃ hA (by omega) fun t1 tk1 => ?_
  repeat' (first | walk1 | (dsimp only; walk1))
  unfold Hold
  rename Fr _ _ _ _ => F₄
  rename News _ _ _ _ => N₄
  replace N₄ := news_sub N₄ fun q hq => .tail _ hq
  obtain ⟨o, ho, dM⟩ := sc.c3
  have hNF := noFields N₄ ho fun us e => by rw [dM] at e; cases e
  refine store_C F₄ N₄ (x := "many") (o := o) rfl ho dM (fun h₈ o' new₈ F₈ N₈ hold₈ ho' dM' => ?_) rfl rfl
  have hS := seqOn_cell N₄ ho dM hold₈
  try clear F₄ N₄
  try clear F₃ N₃
  repeat' (first | walk1 | (dsimp only; walk1))
  exact ⟨rfl, _, _, _, _, rfl, F₈, N₈, rfl, hA.seqs hS, hD.seqs hS, lt, t1, rfl, hT₃.seqs hS, sc.put3 hold₈ ho' dM' h16 hNF⟩
end
section
local macro_rules | `(tactic| walk_at "call ref") => `(tactic| refine hold ?_)
local macro_rules | `(tactic| walk_at "eval ListComp") => `(tactic| refine hold ?_)
local macro_rules | `(tactic| walk_at "CompSrc") => `(tactic| refine hold ?_)
local macro_rules | `(tactic| walk_at "storeName") => `(tactic| ((with_reducible show wpAny _ _ (storeName _ (Str.ofString "rows") _) _ _ _); refine hold ?_))
theorem law_S5 {prog : Program} {w : World} {p : Program} {loose : List Str} {mean : ExcName → Option Value} {mg mb : Str → Option Value} {dp un : Nat} {gd : Option (List Code)} {L' fa ls : Addr} {cd : Value} {outer : List Env} {A₀ : Around} {base g : Heap} {s : Shared} {m : Str → Option Value} {all : Led} {la ld lt : Addr} {tm : Tok} {ab : List Int} (T₀ : Tree ab)
    (C : Cx (hd.heap_39 w.params) p loose mean mg mb lawScope L' outer A₀ base g s.heap m all) (hdp : dp + 40 < recursionLimit) (hun : un + 400 < cLine) (h16 : @LT.lt Nat _ 16 L') (hm : m "script" = some (.ref ls)) (hA : IntL all la ab) (hD : DepL all ld ab) (hmt : m "table" = some (.ref lt)) (hT : TabL all lt ab) (sc : Sc L' (some (.ref la)) (some (.ref ld)) (some (.int (ab.length : Nat) tm)) none none none all) :
    wpAny (model prog w) (lawA dp un gd L' fa cd outer) (exec S5 (lawE L' fa cd)) (EndS g L' s fun m' all' => m' "script" = some (.ref ls) ∧ IntL all' la ab ∧ DepL all' ld ab ∧ m' "table" = some (.ref lt) ∧ TabL all' lt ab ∧ ∃ lr, RowsL all' lr ab ∧ Sc L' (some (.ref la)) (some (.ref ld)) (some (.int (ab.length : Nat) tm)) (some (.ref lr)) none none all' ) (fun _ _ => False) s := by
  obtain ⟨B, F, X, N, T, CH, hk⟩ := C
  have F₁ : Fr g L' s.heap (o1 "script" (.ref ls) m) := by simp only [o1_self hm]; exact F
  clear F
  dsimp only [lawScope, lawBody, lawStmt, S5, PySem.Challenge.pw_hc0003_01] at hk ⊢
  have h13 := T₀.len
  have F₂ : Fr g L' s.heap (o1 "script" (.ref ls) (o1 "table" (.ref lt) m)) := by simp only [o1_self hm, o1_self hmt] at F₁ ⊢; exact F₁
  clear F₁
  obtain ⟨oA, hoA, dA⟩ := sc.c1
  obtain ⟨oM, hoM, dM⟩ := sc.c3
  repeat' (first | walk1 | (dsimp only; walk1))
  unfold Hold
  refine LCg.ListComp_U (F₀ := F₂) (by with_unfolding_all rfl) (by decide) (by rfl) (by decide) (by rfl) ?_
  repeat' (first | walk1 | (dsimp only; walk1))
  unfold Hold
  rename IsRange _ _ _ _ _ _ _ _ => R₇
  rename Fr _ _ _ _ => F₇
  rename News _ _ _ _ => N₇
  refine LCg.CompSrc.range (n := ab.length) rfl F₇ N₇ R₇ (range_ok (by decide) (by decide) (by omega) (by omega)) (by rw [range_len]; omega) (by have : sizeLine = 2 ^ 24 := rfl; omega) fun g' => rest_U (fun k ys a' => (∀ q ∈ all, q ∈ a') ∧ ∃ as : List Addr, ys = as.map Value.ref ∧ as.length = k ∧ ∀ (p : Nat) (a : Addr), as[p]? = some a → IntL a' a (ofN (row ab p))) ?_ ?_ trivial ⟨fun q hq => hq, [], rfl, rfl, fun p a hp => by cases hp⟩
  · rintro k v I₂ oI₂ C₂ oC₂ D₂ m₃ ys news₂ h₈ tk₈ E' hk' ⟨tv, rfl⟩ ⟨hsub₂, as, rfl, hal, hap⟩ _ hC₂ hx₂ F₈ N₈ off₂
    rw [Int.zero_add] at hx₂
    clear F₇ N₇ R₇
    try clear F₂
    try clear N
    have a1 : (I₂, oI₂) ∈ (I₂, oI₂) :: (C₂, oC₂) :: (D₂, LCg.lst (as.map Value.ref)) :: news₂ := .head _
    have a2 : (C₂, oC₂) ∈ (I₂, oI₂) :: (C₂, oC₂) :: (D₂, LCg.lst (as.map Value.ref)) :: news₂ := .tail _ (.head _)
    have a3 : (D₂, LCg.lst (as.map Value.ref)) ∈ (I₂, oI₂) :: (C₂, oC₂) :: (D₂, LCg.lst (as.map Value.ref)) :: news₂ := .tail _ (.tail _ (.head _))
    have a5 : ∀ q ∈ news₂, q ∈ (I₂, oI₂) :: (C₂, oC₂) :: (D₂, LCg.lst (as.map Value.ref)) :: news₂ := fun q hq => .tail _ (.tail _ (.tail _ hq))
    generalize (I₂, oI₂) :: (C₂, oC₂) :: (D₂, LCg.lst (as.map Value.ref)) :: news₂ = all₂ at N₈ a1 a2 a3 a5
    have hoA₈ := a5 _ (hsub₂ _ hoA)
    have hA₈ := hA.mono fun q hq _ => a5 _ (hsub₂ q hq)
    repeat' (first | walk1 | (dsimp only; walk1))
    unfold Hold
    rename Fr _ _ _ _ => F₉
    rename News _ _ _ _ => N₉
    refine (row_spec T₀ hA₈ hk').use ⟨B, F₉, X, N₉, T, CH, hk⟩ (by omega) (by omega) ?_
    rintro v h₁ tk₁ new₁ F₁ N₁ hold₁ ⟨l, rfl, hl, hne⟩
    replace hold₁ : ∀ q ∈ all₂, q ∈ new₁ := fun q hq => hold₁ q hq id
    refine ⟨_, _, _, rfl, F₁, N₁, hold₁ _ a1, hold₁ _ a2, hold₁ _ a3, fun b hb => ⟨trivial, fun q hq => ?_, as ++ [l], ?_, by rw [List.length_append, hal]; rfl, fun p a hp => ?_⟩⟩
    · have z := off₂ q (hsub₂ q hq)
      exact hb q (hold₁ q (a5 q (hsub₂ q hq))) z.1 z.2.1 z.2.2
    · rw [List.map_append]; rfl
    · rcases Nat.lt_or_ge p k with h | h
      · rw [List.getElem?_append_left (by omega)] at hp
        refine (hap p a hp).mono fun q hq _ => ?_
        have z := off₂ q hq
        exact hb q (hold₁ q (a5 q hq)) z.1 z.2.1 z.2.2
      · have hp' := (List.getElem?_eq_some_iff.mp hp).1
        rw [List.length_append, hal] at hp'
        obtain rfl : p = k := by simp at hp'; omega
        rw [List.getElem?_append_right (by omega), hal, Nat.sub_self] at hp
        obtain rfl : l = a := by simpa using hp
        exact hl.mono fun q hq e => hb q hq (e ▸ Ne.symm (hne _ a1)) (e ▸ Ne.symm (hne _ a2)) (e ▸ Ne.symm (hne _ a3))
  · rintro ys a' ⟨hsub₂, as, rfl, hal, hap⟩ D h₈ tk₈ F₈ N₈ off₂
    clear F₇ N₇ R₇
    try clear F₂
    try clear N
    try dsimp only
    have b1 : (D, LCg.lst (as.map Value.ref)) ∈ (D, LCg.lst (as.map Value.ref)) :: a' := .head _
    have b5 : ∀ q ∈ a', q ∈ (D, LCg.lst (as.map Value.ref)) :: a' := fun q hq => .tail _ hq
    generalize (D, LCg.lst (as.map Value.ref)) :: a' = all₂ at N₈ b1 b5
    have sub₂ : ∀ q ∈ all, q ∈ all₂ := fun q hq => b5 _ (hsub₂ q hq)
    replace sc := sc.keep (fun q hq _ => sub₂ q hq) (sc.tab.mono sub₂)
    repeat' (first | walk1 | (dsimp only; walk1))
    unfold Hold
    rename Fr _ _ _ _ => F₉
    rename News _ _ _ _ => N₉
    obtain ⟨o, ho, dR⟩ := sc.c4
    have hNF := noFields N₉ ho fun us e => by rw [dR] at e; cases e
    refine store_C F₉ N₉ (x := "rows") (o := o) rfl ho dR (fun h₁ o' new₁ F₁ N₁ hold₁ ho' dR' => ?_) rfl rfl
    have hS := seqOn_cell N₉ ho dR hold₁
    try clear F₉ N₉
    repeat' (first | walk1 | (dsimp only; walk1))
    refine ⟨rfl, _, _, _, _, rfl, F₁, N₁, rfl, (hA.mono fun q hq _ => sub₂ q hq).seqs hS, (hD.lists fun q hq _ => sub₂ q hq).seqs hS, rfl, (hT.lists fun q hq _ => sub₂ q hq).seqs hS, D, ?_, sc.put4 hold₁ ho' dR' h16 hNF⟩
    exact ⟨as, (show IsL all₂ D (as.map Value.ref) from ⟨_, b1⟩).seqs hS, hal, fun p a hp => ((hap p a hp).mono fun q hq _ => b5 q hq).seqs hS⟩
end
end Mine
end
section
open PySem PySem.W PyProof.Rows
set_option maxRecDepth 100000
set_option maxHeartbeats 8000000
namespace Mine
open PySem PySem.W PySem.Spec PySem.Calls PyProof.Rows

section
local macro_rules | `(tactic| walk_at "call ref") => `(tactic| refine hold ?_)
local macro_rules | `(tactic| walk_at "call builtin:len") => `(tactic| refine hold ?_)
local macro_rules | `(tactic| walk_at "subscriptTail") => `(tactic| refine hold ?_)
local macro_rules | `(tactic| walk_at "exec For Name Call cons nil") => `(tactic| refine hold ?_)
local macro_rules | `(tactic| walk_at "call builtin:sorted") => `(tactic| refine hold ?_)
local macro_rules | `(tactic| walk_at "compareOp NotEq ref ref") => `(tactic| refine hold ?_)
theorem law_S6 {prog : Program} {w : World} {p : Program} {loose : List Str} {mean : ExcName → Option Value} {mg mb : Str → Option Value} {dp un : Nat} {gd : Option (List Code)} {L' fa ls : Addr} {cd : Value} {outer : List Env} {A₀ : Around} {base g : Heap} {s : Shared} {m : Str → Option Value} {all : Led} {la ld lt lr : Addr} {tm : Tok} {ab : List Int} {v5 v6 : Option Value} (T₀ : Tree ab)
    (C : Cx (hd.heap_39 w.params) p loose mean mg mb lawScope L' outer A₀ base g s.heap m all) (hdp : dp + 40 < recursionLimit) (hun : un + 400 < cLine) (h16 : @LT.lt Nat _ 16 L') (hm : m "script" = some (.ref ls)) (hmt : m "table" = some (.ref lt)) (st : LawSt L' la ld lt lr tm ab v5 v6 all) :
    wpAny (model prog w) (lawA dp un gd L' fa cd outer) (exec S6 (lawE L' fa cd)) (EndS g L' s fun m' all' => m' "script" = some (.ref ls) ∧ m' "table" = some (.ref lt) ∧ LawSt L' la ld lt lr tm ab v5 v6 all' ) (fun _ _ => False) s := by
  obtain ⟨B, F, X, N, T, CH, hk⟩ := C
  have F₂ : Fr g L' s.heap (o1 "script" (.ref ls) (o1 "table" (.ref lt) m)) := by simp only [o1_self hm, o1_self hmt]; exact F
  clear F
  dsimp only [lawScope, lawBody, lawStmt, S6, PySem.Challenge.pw_hc0003_01] at hk ⊢
  have h13 := T₀.len
  have stk : ∀ new, (∀ q ∈ all, ¬ q.1 = 16 → q ∈ new) → Tab new → LawSt L' la ld lt lr tm ab v5 v6 new := fun new hs ht => st.keep16 N hs ht
  obtain ⟨oM, hoM, dM⟩ := st.sc.c3
  refine For_turns F₂ ?_ (hE := PassesOwn.never)
  repeat' (first | walk1 | (dsimp only; walk1))
  rename IsRange _ _ _ _ _ _ _ _ => R₄
  rename Fr _ _ _ _ => F₄
  rename News _ _ _ _ => N₄
  try clear N
  try clear F₂
  refine for_range (n := ab.length) rfl R₄ (range_ok (by decide) (by decide) (by omega) (by omega)) (by rw [range_len]; omega) F₄ N₄ (fun _ _ => rfl) (fun I i m all' => (∀ q ∈ all, q.1 < I ∧ (¬ q.1 = 16 → q ∈ all')) ∧ TabX I all' ∧ m "script" = some (.ref ls) ∧ m "table" = some (.ref lt)) ?_ ?_ ?_ ?_
  · rintro I i m a b ⟨h1, h2, h3⟩ hs
    exact ⟨fun q hq => ⟨(h1 q hq).1, fun hn => hs q ((h1 q hq).2 hn) (Nat.ne_of_lt (h1 q hq).1)⟩, h2.mono hs, h3⟩
  · exact fun I hI => ⟨fun q hq => ⟨hI q hq, fun _ => hq⟩, TabX.of_lt st.sc.tab hI, rfl, rfl⟩
  · rintro I i t m₂ all' h₃ tk₃ oI hi hI hin hnc hoc ⟨hsub, hX, e1, e2⟩ F₅ N₅
    try clear F₄ N₄ R₄
    replace F₅ : Fr g L' h₃ (o1 "script" (.ref ls) (o1 "table" (.ref lt) m₂)) := by simp only [o1_self e1, o1_self e2]; exact F₅
    replace N₅ : News g L' h₃ all' := N₅
    have st₅ := stk all' (fun q hq => (hsub q hq).2) hX.tab
    have h16I := hX.1
    have stk₅ : ∀ new, (∀ q ∈ all', ¬ q.1 = 16 → q ∈ new) → Tab new → LawSt L' la ld lt lr tm ab v5 v6 new := fun new hs ht => st₅.keep16 N₅ hs ht
    clear hoM
    obtain ⟨oA, hoA, dA⟩ := st₅.sc.c1
    obtain ⟨oD, hoD, dD⟩ := st₅.sc.c2
    rw [show (0 : Int) + (i : Int) * 1 = ((i : Nat) : Int) by omega]
    have hdi := dep_le T₀ hi
    repeat' (first | walk1 | (dsimp only; walk1))
    unfold Hold
    rename Fr _ _ _ _ => F₆
    rename News _ _ _ _ => N₆
    refine For_turns F₆ ?_ (hE := PassesOwn.never)
    repeat' (first | walk1 | (dsimp only; walk1))
    unfold Hold
    refine item_Dep' N₆ st₅.hD hi h13 fun t6 => ?_
    repeat' (first | walk1 | (dsimp only; walk1))
    rename IsRange _ _ _ _ _ _ _ _ => R₇
    rename Fr _ _ _ _ => F₇
    rename News _ _ _ _ => N₇
    try clear F₆
    try clear N₆
    refine for_range (n := dep ab i + 1) rfl R₇ (range_ok (by decide) (by decide) (by omega) (by omega)) (by rw [range_len]; omega) F₇ N₇ (fun _ _ => rfl) (fun I₂ j m all₂ => (∀ q ∈ all', q.1 < I₂ ∧ (¬ q.1 = 16 → q ∈ all₂)) ∧ TabX I₂ all₂ ∧ m "script" = some (.ref ls) ∧ m "table" = some (.ref lt) ∧ ∃ tp th, m "place" = some (.int (i : Nat) tp) ∧ m "here" = some (.int (anc ab j i : Nat) th)) ?_ ?_ ?_ ?_
    · rintro I i m a b ⟨h1, h2, h3⟩ hs
      exact ⟨fun q hq => ⟨(h1 q hq).1, fun hn => hs q ((h1 q hq).2 hn) (Nat.ne_of_lt (h1 q hq).1)⟩, h2.mono hs, h3⟩
    · exact fun I hI => ⟨fun q hq => ⟨hI q hq, fun _ => hq⟩, TabX.of_lt hX.tab hI, rfl, rfl, _, _, rfl, rfl⟩
    · rintro I₂ j t₂ m₃ all₂ h₈ tk₈ oI₂ hj hI₂ hin₂ hnc₂ hoc₂ ⟨hsub₂, hX₂, f1, f2, tp, th, f3, f4⟩ F₈ N₈
      have st₈ := stk₅ _ (fun q hq => (hsub₂ q hq).2) hX₂.tab
      try clear F₇ N₇ R₇
      try clear N₅
      try clear F₅
      replace F₈ : Fr g L' h₈ (o1 "script" (.ref ls) (o1 "table" (.ref lt) (o1 "place" (.int (i : Nat) tp) (o1 "here" (.int (anc ab j i : Nat) th) m₃)))) := by simp only [o1_self f1, o1_self f2, o1_self f3, o1_self f4]; exact F₈
      replace N₈ : News g L' h₈ all₂ := N₈
      have h16I₂ := hX₂.1
      rw [show (0 : Int) + (j : Int) * 1 = ((j : Nat) : Int) by omega]
      repeat' (first | walk1 | (dsimp only; walk1))
      unfold Hold
      rename Fr _ _ _ _ => F₉
      rename News _ _ _ _ => N₉
      refine (up_spec T₀ st₈.sc.tab st₈.hT hi (by omega)).use ⟨B, F₉, X, N₉, T, CH, hk⟩ (by omega) (by omega) ?_
      rintro v h₁ tk₁ new₁ F₁ N₁ hold₁ ⟨t9, rfl, ht₁⟩
      have st₁ := st₈.keep16 N₉ hold₁ ht₁
      clear F₉ N₉ hoA hoD
      obtain ⟨oA₁, hoA₁, dA₁⟩ := st₁.sc.c1
      repeat' (first | walk1 | (dsimp only; walk1))
      · exfalso
        rename (_ : Int) ≠ _ => hbad
        exact hbad rfl
      unfold Hold
      refine item_IntL N₁ st₁.hA (by omega) (by have := T₀.anc_in hi j; omega) (by have := T₀.anc_in hi j; omega) fun t10 => ?_
      rw [Int.toNat_natCast, T₀.par_eq (T₀.anc_in hi j)]
      repeat' (first | walk1 | (dsimp only; walk1))
      exact ⟨rfl, _, _, _, _, rfl, by assumption, by assumption, hold₁ _ hin₂ (Ne.symm h16I₂), fun q hq => ⟨(hsub₂ q hq).1, fun hn => hold₁ q ((hsub₂ q hq).2 hn) hn⟩, TabX.mk ht₁ (by assumption) (hold₁ _ hin₂ (Ne.symm h16I₂)) hnc₂ h16I₂, rfl, rfl, _, _, rfl, rfl⟩
    · rintro I₂ h₈ tk₈ m₃ all₂ hI₂ F₈ N₈ ⟨hsub₂, hX₂, f1, f2, tp, th, f3, f4⟩
      have st₈ := stk₅ _ (fun q hq => (hsub₂ q hq).2) hX₂.tab
      try clear F₇ N₇ R₇
      try clear N₅
      try clear F₅
      replace F₈ : Fr g L' h₈ (o1 "script" (.ref ls) (o1 "table" (.ref lt) (o1 "place" (.int (i : Nat) tp) m₃))) := by simp only [o1_self f1, o1_self f2, o1_self f3]; exact F₈
      replace N₈ : News g L' h₈ all₂ := N₈
      clear hoA hoD
      obtain ⟨oR, hoR, dR⟩ := st₈.sc.c4
      obtain ⟨oD, hoD, dD⟩ := st₈.sc.c2
      have hin₂ := (hsub₂ _ hin).2 (Ne.symm h16I)
      try dsimp only
      repeat' (first | walk1 | (dsimp only; walk1))
      unfold Hold
      refine item_Row N₈ st₈.hR hi h13 fun ra hra => ?_
      repeat' (first | walk1 | (dsimp only; walk1))
      unfold Hold
      refine item_Row N₈ st₈.hR hi h13 fun rb hrb => ?_
      repeat' (first | walk1 | (dsimp only; walk1))
      unfold Hold
      have hrl := row_len T₀ i hi
      have hrd := row_dep ab i
      obtain ⟨va, hva, hia⟩ := hra
      obtain ⟨vb, hvb, hib⟩ := hrb
      refine kso_sorted F₈ N₈ (isList_of N₈ hvb) hib (by rw [ofN_len]; omega) fun D vs' ns' c h₁ F₁ N₁ lt₁ hi' hl' hp hpw _ => ?_
      obtain rfl : ns' = ofN (row ab i) := sorted_same hp hpw (ofN_rises (row_rises T₀ i hi))
      have st₁ := st₈.all (new := (D, W.listOf vs'.toArray c) :: all₂) fun q hq => .tail _ hq
      clear F₈
      repeat' (first | walk1 | (dsimp only; walk1))
      unfold Hold
      refine ke_ne_ints (isList_of N₁ (hva.mono fun q hq _ => .tail _ hq)) (N₁.isList (.head _)) hia hi' (by show un + 64 < cLine; omega) ?_
      rw [decide_eq_true rfl]
      clear N₈
      have hoR₁ : (L' + 1 + 1 + 1 + 1, oR) ∈ (D, W.listOf vs'.toArray c) :: all₂ := .tail _ hoR
      have hoD₁ : (L' + 1 + 1, oD) ∈ (D, W.listOf vs'.toArray c) :: all₂ := .tail _ hoD
      repeat' (first | walk1 | (dsimp only; walk1))
      unfold Hold
      refine item_Row N₁ st₁.hR hi h13 fun rc hrc => ?_
      repeat' (first | walk1 | (dsimp only; walk1))
      unfold Hold
      refine len_IntL N₁ hrc (by rw [ofN_len]; omega) fun t11 tk11 => ?_
      rw [ofN_len, hrd]
      repeat' (first | walk1 | (dsimp only; walk1))
      unfold Hold
      refine item_Dep' N₁ st₁.hD hi h13 fun t12 => ?_
      repeat' (first | walk1 | (dsimp only; walk1))
      · exfalso
        rename (_ : Int) ≠ _ => hbad
        omega
      refine ⟨rfl, _, _, _, _, rfl, by assumption, by assumption, .tail _ hin₂, fun q hq => ⟨(hsub q hq).1, fun hn => .tail _ ((hsub₂ q ((hsub q hq).2 hn)).2 hn)⟩, ?_, rfl, rfl⟩
      exact TabX.mk st₁.sc.tab N₁ (.tail _ hin₂) hnc h16I
  · rintro I h₈ tk₈ m₃ all₂ hI F₈ N₈ ⟨hsub, hX, f1, f2⟩
    exact ⟨rfl, _, _, _, _, rfl, F₈, N₈, f1, f2, stk _ (fun q hq => (hsub q hq).2) hX.tab⟩
end
end Mine
end
section
open PySem PySem.W PyProof.Rows
set_option maxRecDepth 100000
set_option maxHeartbeats 8000000
namespace Mine
open PySem PySem.W PySem.Spec PySem.Calls PyProof.Rows

section
local macro_rules | `(tactic| walk_at "storeName") => `(tactic| refine hold ?_)
theorem law_S7 {prog : Program} {w : World} {p : Program} {loose : List Str} {mean : ExcName → Option Value} {mg mb : Str → Option Value} {dp un : Nat} {gd : Option (List Code)} {L' fa ls : Addr} {cd : Value} {outer : List Env} {A₀ : Around} {base g : Heap} {s : Shared} {m : Str → Option Value} {all : Led} {la ld lt lr : Addr} {tm : Tok} {ab : List Int} (T₀ : Tree ab)
    (C : Cx (hd.heap_39 w.params) p loose mean mg mb lawScope L' outer A₀ base g s.heap m all) (h16 : @LT.lt Nat _ 16 L') (hm : m "script" = some (.ref ls)) (hmt : m "table" = some (.ref lt)) (st : LawSt L' la ld lt lr tm ab none none all) :
    wpAny (model prog w) (lawA dp un gd L' fa cd outer) (exec S7 (lawE L' fa cd)) (EndS g L' s fun m' all' => m' "script" = some (.ref ls) ∧ m' "table" = some (.ref lt) ∧ ∃ dn, NearT prog w all' dn [] ∧ LawSt L' la ld lt lr tm ab (some (.ref dn)) none all' ) (fun _ _ => False) s := by
  obtain ⟨B, F, X, N, T, CH, hk⟩ := C
  have F₂ : Fr g L' s.heap (o1 "script" (.ref ls) (o1 "table" (.ref lt) m)) := by simp only [o1_self hm, o1_self hmt]; exact F
  clear F
  dsimp only [lawScope, lawBody, lawStmt, S7, PySem.Challenge.pw_hc0003_01] at hk ⊢
  have h13 := T₀.len
  repeat' (first | walk1 | (dsimp only; walk1))
  unfold Hold
  rename Fr _ _ _ _ => F₄
  rename News _ _ _ _ => N₄
  rename_i dn h₁ o₁ l1 lo hs fs hi fi
  have sub : ∀ q ∈ all, q ∈ (dn, o₁) :: all := fun q hq => .tail _ hq
  obtain ⟨o, ho, dN⟩ := st.sc.c5
  refine store_C F₄ N₄ (x := "near") (o := o) rfl (sub _ ho) dN (fun h₈ o' new₈ F₈ N₈ hold₈ ho' dN' => ?_) rfl rfl
  have hne : dn ≠ L' + 1 + 1 + 1 + 1 + 1 := Ne.symm (Nat.ne_of_lt (l1 _ ho))
  have hNF := noFields (news_sub N₄ sub) ho fun us e => by rw [dN] at e; cases e
  have hS := seqOn_cell (news_sub N₄ sub) ho dN fun q hq hn => hold₈ q (sub q hq) hn
  clear F₄ N₄
  repeat' (first | walk1 | (dsimp only; walk1))
  exact ⟨rfl, _, _, _, _, rfl, F₈, N₈, rfl, rfl, dn, TupTab.ofEmpty (hold₈ _ (.head _) hne) lo hi, st.sc.put5 (fun q hq hn => hold₈ q (sub q hq) hn) ho' dN' h16 hNF, st.hA.seqs hS, st.hD.seqs hS, st.hT.seqs hS, st.hR.seqs hS⟩
end
end Mine
end
section
open PySem PySem.W PyProof.Rows
set_option maxRecDepth 100000
set_option maxHeartbeats 8000000
namespace Mine
open PySem PySem.W PySem.Spec PySem.Calls PyProof.Rows

section
local macro_rules | `(tactic| walk_at "exec Assign cons ListComp") => `(tactic| refine hold ?_)
local macro_rules | `(tactic| walk_at "CompSrcT") => `(tactic| refine hold ?_)
local macro_rules | `(tactic| walk_at "subscriptTail") => `(tactic| refine hold ?_)
local macro_rules | `(tactic| walk_at "call ref") => `(tactic| refine hold ?_)
local macro_rules | `(tactic| walk_at "call builtin:len") => `(tactic| refine hold ?_)
theorem law_B1 {prog : Program} {w : World} {p : Program} {loose : List Str} {mean : ExcName → Option Value} {mg mb : Str → Option Value} {dp un : Nat} {gd : Option (List Code)} {L' fa ls : Addr} {cd : Value} {outer : List Env} {A₀ : Around} {base g : Heap} {s : Shared} {m : Str → Option Value} {all : Led} {la ld lt lr dn : Addr} {tm ti tj : Tok} {ab : List Int} {i j : Nat} (T₀ : Tree ab)
    (C : Cx (hd.heap_39 w.params) p loose mean mg mb lawScope L' outer A₀ base g s.heap m all) (hdp : dp + 40 < recursionLimit) (hun : un + 400 < cLine) (h16 : @LT.lt Nat _ 16 L') (hi : i < ab.length) (hj : j < ab.length) (hm : m "script" = some (.ref ls)) (hmt : m "table" = some (.ref lt)) (hmo : m "one" = some (.int (i : Nat) ti)) (st : LawSt L' la ld lt lr tm ab (some (.ref dn)) (some (.int (j : Nat) tj)) all) :
    wpAny (model prog w) (lawA dp un gd L' fa cd outer) (exec B1 (lawE L' fa cd)) (EndS g L' s fun m' all' => m' "script" = some (.ref ls) ∧ m' "table" = some (.ref lt) ∧ m' "one" = some (.int (i : Nat) ti) ∧ (∀ q ∈ all, q ∈ all') ∧ ∃ lb, m' "both" = some (.ref lb) ∧ IntL all' lb (ofN ((row ab i).filter fun q => decide (q ∈ row ab j))) ) (fun _ _ => False) s := by
  obtain ⟨B, F, X, N, T, CH, hk⟩ := C
  have F₂ : Fr g L' s.heap (o1 "script" (.ref ls) (o1 "table" (.ref lt) (o1 "one" (.int (i : Nat) ti) m))) := by simp only [o1_self hm, o1_self hmt, o1_self hmo]; exact F
  clear F
  dsimp only [lawScope, lawBody, lawStmt, S8, S8i, B1, inFor, PySem.Challenge.pw_hc0003_01] at hk ⊢
  have h13 := T₀.len
  obtain ⟨oR, hoR, dR⟩ := st.sc.c4
  obtain ⟨oO, hoO, dO⟩ := st.sc.c6
  refine hold ?_
  unfold Hold
  refine LCt.Assign_ListComp_T (F₀ := F₂) (by rfl) (by with_unfolding_all rfl) (by with_unfolding_all rfl) (by decide) (by rfl) (by decide) (by rfl) (by rfl) (by rfl) ?_
  repeat' (first | walk1 | (dsimp only; walk1))
  unfold Hold
  refine item_Row N st.hR hi h13 fun ra hra => ?_
  obtain ⟨va, ⟨na, hna⟩, hia⟩ := hra
  have hval := hia.length
  rw [ofN_len] at hval
  have hrl := row_len T₀ i hi
  repeat' (first | walk1 | (dsimp only; walk1))
  unfold Hold
  refine LCt.CompSrcT.ledger rfl F₂ N hna (by have : sizeLine = 2 ^ 24 := rfl; rw [List.size_toArray]; omega) fun g' => rest_T (fun k ys a' => (∀ q ∈ all, q ∈ a') ∧ IntsAre ys (ofN (((row ab i).take k).filter fun q => decide (q ∈ row ab j)))) ?_ ?_ (.inr ⟨_, hna, rfl, _, rfl⟩) ⟨fun q hq => hq, .nil⟩
  · rintro k v I₂ oI₂ C₂ oC₂ D₂ m₃ ys news₂ h₈ tk₈ E' hk' hv ⟨hsub₂, hys⟩ _ hC₂ hx₂ F₈ N₈ off₂
    rw [List.size_toArray] at hk'
    have hkr : k < (row ab i).length := by omega
    obtain ⟨tv, hv'⟩ := ints_get hia (k := k) (by rw [ofN_len]; exact hkr)
    rw [ofN_getD] at hv'
    obtain rfl : v = .int ((row ab i).getD k 0 : Nat) tv := by
      have hv2 : va[k]? = some v := by simpa using hv
      exact Option.some.inj (hv2.symm.trans hv')
    have hstep := take_succ_filter (fun q => decide (q ∈ row ab j)) (row ab i) k ((row ab i).getD k 0) (by rw [List.getD_eq_getElem?_getD, List.getElem?_eq_getElem hkr]; rfl)
    generalize (row ab i).getD k 0 = x at *
    clear N F₂ hv hv'
    have a1 : (I₂, oI₂) ∈ (I₂, oI₂) :: (C₂, oC₂) :: (D₂, LCg.lst ys) :: news₂ := .head _
    have a2 : (C₂, oC₂) ∈ (I₂, oI₂) :: (C₂, oC₂) :: (D₂, LCg.lst ys) :: news₂ := .tail _ (.head _)
    have a3 : (D₂, LCg.lst ys) ∈ (I₂, oI₂) :: (C₂, oC₂) :: (D₂, LCg.lst ys) :: news₂ := .tail _ (.tail _ (.head _))
    have a5 : ∀ q ∈ news₂, q ∈ (I₂, oI₂) :: (C₂, oC₂) :: (D₂, LCg.lst ys) :: news₂ := fun q hq => .tail _ (.tail _ (.tail _ hq))
    generalize (I₂, oI₂) :: (C₂, oC₂) :: (D₂, LCg.lst ys) :: news₂ = all₂ at N₈ a1 a2 a3 a5
    have st₈ := st.all fun q hq => a5 q (hsub₂ q hq)
    have hoR₈ := a5 _ (hsub₂ _ hoR)
    have hoO₈ := a5 _ (hsub₂ _ hoO)
    clear hoR hoO
    repeat' (first | walk1 | (dsimp only; walk1))
    unfold Hold
    refine item_Row N₈ st₈.hR hj h13 fun rb hrb => ?_
    repeat' (first | walk1 | (dsimp only; walk1))
    unfold Hold
    rename Fr _ _ _ _ => F₉
    rename News _ _ _ _ => N₉
    have hjl := row_len T₀ j hj
    refine (bisect_spec (.inl rfl) hrb (by rw [ofN_len]; omega) (rises_le T₀ hj)).use ⟨B, F₉, X, N₉, T, CH, hk⟩ (by omega) (by omega) ?_
    rintro v h₁ tk₁ new₁ F₁ N₁ hold₁ ⟨r, t1, rfl, hr⟩
    replace hold₁ : ∀ q ∈ all₂, q ∈ new₁ := fun q hq => hold₁ q hq id
    have hmem := bis_mem (row_rises T₀ j hj) hr
    have st₁ := st₈.all hold₁
    have hoR₁ := hold₁ _ hoR₈
    have hoO₁ := hold₁ _ hoO₈
    replace a1 := hold₁ _ a1
    replace a2 := hold₁ _ a2
    replace a3 := hold₁ _ a3
    replace a5 : ∀ q ∈ news₂, q ∈ new₁ := fun q hq => hold₁ q (a5 q hq)
    clear F₉ N₉ hoR₈ hoO₈ hold₁
    repeat' (first | walk1 | (dsimp only; walk1))
    unfold Hold
    refine item_Row N₁ st₁.hR hj h13 fun rc hrc => ?_
    repeat' (first | walk1 | (dsimp only; walk1))
    unfold Hold
    refine len_IntL N₁ hrc (by rw [ofN_len]; omega) fun t2 tk2 => ?_
    rw [ofN_len]
    repeat' (first | walk1 | (dsimp only; walk1))
    · unfold Hold
      rename ((r : Nat) : Int) < _ => hrlt
      refine item_Row N₁ st₁.hR hj h13 fun rd hrd => ?_
      repeat' (first | walk1 | (dsimp only; walk1))
      unfold Hold
      refine item_Row N₁ st₁.hR hj h13 fun re hre => ?_
      repeat' (first | walk1 | (dsimp only; walk1))
      unfold Hold
      rename Fr _ _ _ _ => F₉
      rename News _ _ _ _ => N₉
      refine (bisect_spec (.inl rfl) hre (by rw [ofN_len]; omega) (rises_le T₀ hj)).use ⟨B, F₉, X, N₉, T, CH, hk⟩ (by omega) (by omega) ?_
      rintro v h₂ tk₂ new₂ F₂ N₂ hold₂ ⟨r', t3, rfl, hr'⟩
      replace hold₂ : ∀ q ∈ new₁, q ∈ new₂ := fun q hq => hold₂ q hq id
      obtain rfl := bis_uniq hr hr'
      replace hrd := hrd.mono fun q hq _ => hold₂ q hq
      replace a1 := hold₂ _ a1
      replace a2 := hold₂ _ a2
      replace a3 := hold₂ _ a3
      replace a5 : ∀ q ∈ news₂, q ∈ new₂ := fun q hq => hold₂ q (a5 q hq)
      clear F₉ N₉ hoR₁ hoO₁
      try clear F₁
      try clear N₁
      repeat' (first | walk1 | (dsimp only; walk1))
      unfold Hold
      refine item_IntL N₂ hrd (by omega) (by rw [ofN_len]; omega) (by omega) fun t4 => ?_
      rw [Int.toNat_natCast, ofN_getD]
      repeat' (first | walk1 | (dsimp only; walk1))
      · rename ((_ : Nat) : Int) = (x : Nat) => heq
        have hin : x ∈ row ab j := hmem.mpr ⟨by omega, by omega⟩
        rw [decide_eq_true hin, if_pos rfl] at hstep
        refine ⟨_, _, _, rfl, by assumption, by assumption, a1, a2, a3, fun b hb => ⟨srcAt_in (n := na) ?_, fun q hq => ?_, ?_⟩⟩
        · have z := off₂ _ (hsub₂ _ hna)
          exact hb _ (a5 _ (hsub₂ _ hna)) z.1 z.2.1 z.2.2
        · have z := off₂ _ (hsub₂ _ hq)
          exact hb _ (a5 _ (hsub₂ _ hq)) z.1 z.2.1 z.2.2
        · rw [hstep]
          unfold ofN
          rw [List.map_append]
          exact ints_append hys (.cons _ _ .nil)
      · rename ¬ ((_ : Nat) : Int) = (x : Nat) => hneq
        have hout : x ∉ row ab j := fun hx => hneq (by have := (hmem.mp hx).2; omega)
        rw [decide_eq_false hout, if_neg Bool.false_ne_true, List.append_nil] at hstep
        refine ⟨_, _, _, rfl, by assumption, by assumption, a1, a2, a3, fun b hb => ⟨srcAt_in (n := na) ?_, fun q hq => ?_, ?_⟩⟩
        · have z := off₂ _ (hsub₂ _ hna)
          exact hb _ (a5 _ (hsub₂ _ hna)) z.1 z.2.1 z.2.2
        · have z := off₂ _ (hsub₂ _ hq)
          exact hb _ (a5 _ (hsub₂ _ hq)) z.1 z.2.1 z.2.2
        · rw [hstep]; exact hys
    · rename ¬ ((r : Nat) : Int) < _ => hrge
      have hout : x ∉ row ab j := fun hx => hrge (by have := (hmem.mp hx).1; omega)
      rw [decide_eq_false hout, if_neg Bool.false_ne_true, List.append_nil] at hstep
      refine ⟨_, _, _, rfl, by assumption, by assumption, a1, a2, a3, fun b hb => ⟨srcAt_in (n := na) ?_, fun q hq => ?_, ?_⟩⟩
      · have z := off₂ _ (hsub₂ _ hna)
        exact hb _ (a5 _ (hsub₂ _ hna)) z.1 z.2.1 z.2.2
      · have z := off₂ _ (hsub₂ _ hq)
        exact hb _ (a5 _ (hsub₂ _ hq)) z.1 z.2.1 z.2.2
      · rw [hstep]; exact hys
  · rintro ys a' ⟨hsub₂, hys⟩ D h₈ tk₈ F₈ N₈ off₂
    rw [List.take_of_length_le (by rw [List.size_toArray]; omega)] at hys
    exact ⟨rfl, _, _, _, _, rfl, F₈, N₈, rfl, rfl, rfl, fun q hq => .tail _ (hsub₂ q hq), D, rfl, ys, ⟨_, .head _⟩, hys⟩
end
end Mine
end
section
open PySem PySem.W PyProof.Rows
set_option maxRecDepth 100000
set_option maxHeartbeats 8000000
namespace Mine
open PySem PySem.W PySem.Spec PySem.Calls PyProof.Rows

section
local macro_rules | `(tactic| walk_at "call ref") => `(tactic| refine hold ?_)
local macro_rules | `(tactic| walk_at "setItem ref ref") => `(tactic| refine hold ?_)
theorem law_B2 {prog : Program} {w : World} {p : Program} {loose : List Str} {mean : ExcName → Option Value} {mg mb : Str → Option Value} {dp un : Nat} {gd : Option (List Code)} {L' fa ls : Addr} {cd : Value} {outer : List Env} {A₀ : Around} {base g : Heap} {s : Shared} {m : Str → Option Value} {all : Led} {la ld lt lr dn : Addr} {tm ti tj : Tok} {ab : List Int} {i j : Nat} {lb : Addr} {bs : List Int} {D : List (PyData × PyData)} (T₀ : Tree ab)
    (C : Cx (hd.heap_39 w.params) p loose mean mg mb lawScope L' outer A₀ base g s.heap m all) (hdp : dp + 40 < recursionLimit) (hun : un + 400 < cLine) (h16 : @LT.lt Nat _ 16 L') (hi : i < ab.length) (hj : j < ab.length) (hm : m "script" = some (.ref ls)) (hmt : m "table" = some (.ref lt)) (hmo : m "one" = some (.int (i : Nat) ti)) (st : LawSt L' la ld lt lr tm ab (some (.ref dn)) (some (.int (j : Nat) tj)) all) (hmb : m "both" = some (.ref lb)) (hB : IntL all lb bs) (hN : NearT prog w all dn D) (hDl : D.length < 2 ^ 20) :
    wpAny (model prog w) (lawA dp un gd L' fa cd outer) (exec B2 (lawE L' fa cd)) (EndS g L' s fun m' all' => m' "script" = some (.ref ls) ∧ m' "table" = some (.ref lt) ∧ m' "one" = some (.int (i : Nat) ti) ∧ m' "both" = some (.ref lb) ∧ IntL all' lb bs ∧ (∀ q ∈ all, ¬ q.1 = 16 → q.1 ≠ dn → q ∈ all') ∧ LawSt L' la ld lt lr tm ab (some (.ref dn)) (some (.int (j : Nat) tj)) all' ∧ ∃ r : Nat, Near ab i j r ∧ NearT prog w all' dn (PyProof.V.putD (pairKey i j) (.int r) D) ) (fun _ _ => False) s := by
  obtain ⟨B, F, X, N, T, CH, hk⟩ := C
  have F₂ : Fr g L' s.heap (o1 "script" (.ref ls) (o1 "table" (.ref lt) (o1 "one" (.int (i : Nat) ti) (o1 "both" (.ref lb) m)))) := by simp only [o1_self hm, o1_self hmt, o1_self hmo, o1_self hmb]; exact F
  clear F
  dsimp only [lawScope, lawBody, lawStmt, S8, S8i, B2, inFor, PySem.Challenge.pw_hc0003_01] at hk ⊢
  have h13 := T₀.len
  obtain ⟨oD, hoD, dD⟩ := st.sc.c2
  obtain ⟨oO, hoO, dO⟩ := st.sc.c6
  repeat' (first | walk1 | (dsimp only; walk1))
  unfold Hold
  rename Fr _ _ _ _ => F₄
  rename News _ _ _ _ => N₄
  refine (nearest_spec T₀ st.sc.tab st.hT st.hD hi hj).use ⟨B, F₄, X, N₄, T, CH, hk⟩ (by omega) (by omega) ?_
  rintro v h₅ tk₅ new₅ F₅ N₅ hold₅ ⟨r, tr, rfl, hnear, ht₅⟩
  have st₅ := st.keep16 N₄ hold₅ ht₅
  have hN₅ := hN.on (dataOn_16 N₄ st.sc.tab hold₅)
  have hB₅ := hB.seqs (seqOn_16 N₄ st.sc.tab hold₅)
  clear F₄ N₄ hoD hoO
  obtain ⟨oN, hoN, dN⟩ := st₅.sc.c5
  obtain ⟨oO', hoO', dO'⟩ := st₅.sc.c6
  repeat' (first | walk1 | (dsimp only; walk1))
  unfold Hold
  rename Fr _ _ _ _ => F₆
  rename News _ _ _ _ => N₆
  have hdict := hN₅
  obtain ⟨_, od, es, ep, _, hod, _, hodd, _⟩ := hdict
  have hne : ∀ q ∈ new₅, q.2.data ≠ od.data → q.1 ≠ dn := fun q hq hn => news_ne (o := q.2) N₆ (.tail _ hq) (.tail _ hod) fun e => hn (by rw [e])
  refine setItem_tupTab (knd := PySem.intKind prog w) (enc := PyData.int) (ks := [(i : Int), (j : Int)]) PyProof.V.keyEnc_int.eq (by show un + 1 < cLine; omega) (PyProof.V.Flat.int _ _) F₆ N₆ (TupTab.cons hN₅ _) (.head _) (TupKeyObj.made (.cons (by simp [PySem.intKind, Value.isInt]) (.cons (by simp [PySem.intKind, Value.isInt]) .nil))) (fun h₇ new₇ F₇ N₇ hT₇ _ hold₇ => ?_) (by have : sizeLine = 2 ^ 24 := rfl; omega)
  have hS : SeqOn new₅ new₇ := fun q hq hu => hold₇ q (.tail _ hq) (hne q hq (by obtain ⟨_, _, hu⟩ := hu; rw [hu, hodd]; exact fun e => by cases e))
  have hC : ∀ q ∈ new₅, (∃ v, q.2.data = .cell v) → q ∈ new₇ := fun q hq hu => hold₇ q (.tail _ hq) (hne q hq (by obtain ⟨_, hu⟩ := hu; rw [hu, hodd]; exact fun e => by cases e))
  have hF : NoFields new₅ dn := fun q hq hu => hne q hq (by obtain ⟨_, hu⟩ := hu; rw [hu, hodd]; exact fun e => by cases e)
  have h16n : 16 ≠ dn := by
    obtain ⟨ps, hps⟩ := ht₅.mem
    exact hF _ hps ⟨_, rfl⟩
  exact ⟨rfl, _, _, _, _, rfl, F₇, N₇, rfl, rfl, rfl, rfl, hB₅.seqs hS, fun q hq h1 h2 => hold₇ q (.tail _ (hold₅ q hq h1)) h2, st₅.on hS hC (ht₅.off (fun q hq hn => hold₇ q (.tail _ hq) hn) h16n hF), r, hnear, hT₇⟩
end
end Mine
end
section
open PySem PySem.W PyProof.Rows
set_option maxRecDepth 100000
set_option maxHeartbeats 8000000
namespace Mine
open PySem PySem.W PySem.Spec PySem.Calls PyProof.Rows

section
local macro_rules | `(tactic| walk_at "compareOp Eq ref ref") => `(tactic| refine hold ?_)
local macro_rules | `(tactic| walk_at "subscriptTail") => `(tactic| refine hold ?_)
local macro_rules | `(tactic| walk_at "call builtin:len") => `(tactic| refine hold ?_)
theorem law_B3 {prog : Program} {w : World} {p : Program} {loose : List Str} {mean : ExcName → Option Value} {mg mb : Str → Option Value} {dp un : Nat} {gd : Option (List Code)} {L' fa ls : Addr} {cd : Value} {outer : List Env} {A₀ : Around} {base g : Heap} {s : Shared} {m : Str → Option Value} {all : Led} {la ld lt lr dn : Addr} {tm ti tj : Tok} {ab : List Int} {i j : Nat} {lb : Addr} {bs : List Int} {D : List (PyData × PyData)} {r : Nat} (T₀ : Tree ab)
    (C : Cx (hd.heap_39 w.params) p loose mean mg mb lawScope L' outer A₀ base g s.heap m all) (hdp : dp + 40 < recursionLimit) (hun : un + 400 < cLine) (h16 : @LT.lt Nat _ 16 L') (hi : i < ab.length) (hj : j < ab.length) (hm : m "script" = some (.ref ls)) (hmt : m "table" = some (.ref lt)) (hmo : m "one" = some (.int (i : Nat) ti)) (st : LawSt L' la ld lt lr tm ab (some (.ref dn)) (some (.int (j : Nat) tj)) all) (hmb : m "both" = some (.ref lb)) (hB : IntL all lb bs) (hN : NearT prog w all dn D) (hbs : bs = ofN (row ab r)) (hr : r < ab.length) (hlk : PySem.Spec.lookup (pairKey i j) D = some (.int r)) :
    wpAny (model prog w) (lawA dp un gd L' fa cd outer) (exec B3 (lawE L' fa cd)) (EndS g L' s fun m' all' => m' "script" = some (.ref ls) ∧ m' "table" = some (.ref lt) ∧ m' "one" = some (.int (i : Nat) ti) ∧ ∀ q ∈ all, q ∈ all' ) (fun _ _ => False) s := by
  obtain ⟨B, F, X, N, T, CH, hk⟩ := C
  have F₂ : Fr g L' s.heap (o1 "script" (.ref ls) (o1 "table" (.ref lt) (o1 "one" (.int (i : Nat) ti) (o1 "both" (.ref lb) m)))) := by simp only [o1_self hm, o1_self hmt, o1_self hmo, o1_self hmb]; exact F
  clear F
  dsimp only [lawScope, lawBody, lawStmt, S8, S8i, B3, inFor, PySem.Challenge.pw_hc0003_01] at hk ⊢
  have h13 := T₀.len
  subst hbs
  obtain ⟨oD, hoD, dD⟩ := st.sc.c2
  obtain ⟨oN, hoN, dN⟩ := st.sc.c5
  obtain ⟨oO, hoO, dO⟩ := st.sc.c6
  have hrl := row_len T₀ r hr
  have hrd := row_dep ab r
  obtain ⟨pre, hpre⟩ := row_last T₀ hr
  have hofn : ofN (row ab r) = ofN pre ++ [(r : Int)] := by rw [hpre]; unfold ofN; rw [List.map_append]; rfl
  repeat' (first | walk1 | (dsimp only; walk1))
  unfold Hold
  rename Fr _ _ _ _ => F₄
  rename News _ _ _ _ => N₄
  rename_i l₁ h₁ lt₁
  obtain ⟨all₁, N₁, hsub, hnil⟩ : ∃ all₁, News g L' h₁ all₁ ∧ (∀ q ∈ all, q ∈ all₁) ∧ IsL all₁ l₁ [] := ⟨_, N₄, fun q hq => .tail _ hq, ⟨0, .head _⟩⟩
  clear N₄
  replace hoD := hsub _ hoD
  replace hoN := hsub _ hoN
  replace hoO := hsub _ hoO
  replace hB := hB.mono fun q hq _ => hsub q hq
  replace hN := hN.on (new := all₁) fun q hq _ => hsub q hq
  replace st := st.all hsub
  have hB' := hB
  obtain ⟨vb, hvb, hib⟩ := hB'
  refine ke_eq_ints (isList_of N₁ hvb) (isList_of N₁ hnil) hib .nil (by show un + 64 < cLine; omega) ?_
  rw [decide_eq_false (by rw [hofn]; simp)]
  repeat' (first | walk1 | (dsimp only; walk1))
  unfold Hold
  rename Fr _ _ _ _ => F₆
  rename News _ _ _ _ => N₆
  rename_i l₂ h₂ lt₂
  obtain ⟨all₂, N₂, hsub₂, hkey⟩ : ∃ all₂, News g L' h₂ all₂ ∧ (∀ q ∈ all₁, q ∈ all₂) ∧ (l₂, ({ cls := .type "tuple", data := .seq [.int (i : Nat) ti, .int (j : Nat) tj].toArray } : Obj)) ∈ all₂ := ⟨_, N₆, fun q hq => .tail _ hq, .head _⟩
  clear N₆
  replace hoD := hsub₂ _ hoD
  replace hB := hB.mono fun q hq _ => hsub₂ q hq
  replace hN := hN.on (new := all₂) fun q hq _ => hsub₂ q hq
  replace st := st.all hsub₂
  have hB₂ : IntL all₂ lb (ofN pre ++ [(r : Int)]) := hofn ▸ hB
  refine item_tupTab (knd := PySem.intKind prog w) (enc := PyData.int) (ks := [(i : Int), (j : Int)]) PyProof.V.keyEnc_int.eq (by show un + 1 < cLine; omega) N₂ hN hkey (TupKeyObj.made (.cons (by simp [PySem.intKind, Value.isInt]) (.cons (by simp [PySem.intKind, Value.isInt]) .nil))) hlk fun v hv => ?_
  obtain ⟨tv, rfl⟩ := PyProof.V.Flat.int_inv hv
  clear hoN hoO
  repeat' (first | walk1 | (dsimp only; walk1))
  unfold Hold
  refine last_IntL N₂ hB₂ fun t3 => ?_
  repeat' (first | walk1 | (dsimp only; walk1))
  · exfalso
    rename (_ : Int) ≠ _ => hbad
    exact hbad rfl
  unfold Hold
  refine last_IntL N₂ hB₂ fun t4 => ?_
  repeat' (first | walk1 | (dsimp only; walk1))
  unfold Hold
  refine item_Dep' N₂ st.hD hr h13 fun t5 => ?_
  repeat' (first | walk1 | (dsimp only; walk1))
  unfold Hold
  refine len_IntL N₂ hB (by rw [ofN_len]; omega) fun t6 tk6 => ?_
  rw [ofN_len, hrd]
  repeat' (first | walk1 | (dsimp only; walk1))
  · exfalso
    rename (_ : Int) ≠ _ => hbad
    omega
  exact ⟨rfl, _, _, _, _, rfl, by assumption, by assumption, rfl, rfl, rfl, fun q hq => hsub₂ q (hsub q hq)⟩
end
end Mine
end
section
open PySem PySem.W PyProof.Rows
set_option maxRecDepth 100000
set_option maxHeartbeats 8000000
namespace Mine
open PySem PySem.W PySem.Spec PySem.Calls PyProof.Rows

section
local macro_rules | `(tactic| walk_at "exec For Name Call cons nil") => `(tactic| refine hold ?_)
local macro_rules | `(tactic| walk_at "storeName") => `(tactic| ((with_reducible show wpAny _ _ (storeName _ (Str.ofString "other") _) _ _ _); refine hold ?_))
theorem law_S8 {prog : Program} {w : World} {p : Program} {loose : List Str} {mean : ExcName → Option Value} {mg mb : Str → Option Value} {dp un : Nat} {gd : Option (List Code)} {L' fa ls : Addr} {cd : Value} {outer : List Env} {A₀ : Around} {base g : Heap} {s : Shared} {m : Str → Option Value} {all : Led} {la ld lt lr dn : Addr} {tm : Tok} {ab : List Int} (T₀ : Tree ab)
    (C : Cx (hd.heap_39 w.params) p loose mean mg mb lawScope L' outer A₀ base g s.heap m all) (hdp : dp + 40 < recursionLimit) (hun : un + 400 < cLine) (h16 : @LT.lt Nat _ 16 L') (hm : m "script" = some (.ref ls)) (hmt : m "table" = some (.ref lt)) (hN : NearT prog w all dn []) (st : LawSt L' la ld lt lr tm ab (some (.ref dn)) none all) :
    wpAny (model prog w) (lawA dp un gd L' fa cd outer) (exec S8 (lawE L' fa cd)) (EndS g L' s fun m' all' => m' "script" = some (.ref ls) ∧ m' "table" = some (.ref lt) ∧ ∃ D v6, NearT prog w all' dn D ∧ NearD ab D (fun x y => x < ab.length ∧ y < ab.length) ∧ LawSt L' la ld lt lr tm ab (some (.ref dn)) v6 all' ) (fun _ _ => False) s := by
  obtain ⟨B, F, X, N, T, CH, hk⟩ := C
  have F₂ : Fr g L' s.heap (o1 "script" (.ref ls) (o1 "table" (.ref lt) m)) := by simp only [o1_self hm, o1_self hmt]; exact F
  clear F
  dsimp only [lawScope, lawBody, lawStmt, S8, PySem.Challenge.pw_hc0003_01] at hk ⊢
  have h13 := T₀.len
  have stk : ∀ new v6, On8 L' dn all new → Tab new → CellIs new (L' + 1 + 1 + 1 + 1 + 1 + 1) v6 → LawSt L' la ld lt lr tm ab (some (.ref dn)) v6 new := fun new v6 hs ht hc => st.keep8 N hN hs ht hc
  obtain ⟨oM, hoM, dM⟩ := st.sc.c3
  obtain ⟨oO, hoO, dO⟩ := st.sc.c6
  refine For_turns F₂ ?_ (hE := PassesOwn.never)
  repeat' (first | walk1 | (dsimp only; walk1))
  rename IsRange _ _ _ _ _ _ _ _ => R₄
  rename Fr _ _ _ _ => F₄
  rename News _ _ _ _ => N₄
  try clear N
  try clear F₂
  refine for_range (n := ab.length) rfl R₄ (range_ok (by decide) (by decide) (by omega) (by omega)) (by rw [range_len]; omega) F₄ N₄ (fun _ _ => rfl) (fun I i m all' => (∀ q ∈ all, q.1 < I ∧ (¬ q.1 = 16 → q.1 ≠ L' + 1 + 1 + 1 + 1 + 1 + 1 → q.1 ≠ dn → q ∈ all')) ∧ TabX I all' ∧ m "script" = some (.ref ls) ∧ m "table" = some (.ref lt) ∧ ∃ D v6, NearX prog w I all' dn D ∧ NearD ab D (fun x y => x < i ∧ y < ab.length) ∧ D.length ≤ i * 13 ∧ L' + 1 + 1 + 1 + 1 + 1 + 1 ≠ I ∧ CellIs all' (L' + 1 + 1 + 1 + 1 + 1 + 1) v6) ?_ ?_ ?_ ?_
  · rintro I i m a b ⟨h1, h2, h3, h4, D, v6, h5, h6, h7, h8, h9⟩ hs
    exact ⟨fun q hq => ⟨(h1 q hq).1, fun n1 n2 n3 => hs q ((h1 q hq).2 n1 n2 n3) (Nat.ne_of_lt (h1 q hq).1)⟩, h2.mono hs, h3, h4, D, v6, h5.mono hs, h6, h7, h8, cell_off h9 hs h8⟩
  · exact fun I hI => ⟨fun q hq => ⟨hI q hq, fun _ _ _ => hq⟩, TabX.of_lt st.sc.tab hI, rfl, rfl, [], none, NearX.of_lt hN hI, fun x y hxy => absurd hxy.1 (Nat.not_lt_zero x), Nat.zero_le _, Nat.ne_of_lt (hI _ hoO), st.sc.c6⟩
  · rintro I i t m₂ all' h₃ tk₃ oI hi hI hin hnc hoc ⟨hsub, hX, e1, e2, D, v6, hNX, hND, hDl, hcI, hc6⟩ F₅ N₅
    try clear F₄ N₄ R₄
    replace F₅ : Fr g L' h₃ (o1 "script" (.ref ls) (o1 "table" (.ref lt) m₂)) := by simp only [o1_self e1, o1_self e2]; exact F₅
    replace N₅ : News g L' h₃ all' := N₅
    have st₅ := stk all' v6 (fun q hq => (hsub q hq).2) hX.tab hc6
    have h16I := hX.1
    have hN₅ := hNX.near
    have stk₅ : ∀ new v6, On8 L' dn all' new → Tab new → CellIs new (L' + 1 + 1 + 1 + 1 + 1 + 1) v6 → LawSt L' la ld lt lr tm ab (some (.ref dn)) v6 new := fun new v6 hs ht hc => st₅.keep8 N₅ hN₅ hs ht hc
    have hIdn : I ≠ dn := by
      obtain ⟨_, od, es, ep, _, hod, _, hodd, _⟩ := hN₅
      refine news_ne N₅ hin hod fun e => ?_
      obtain ⟨us, hu, _⟩ := hnc
      rw [e, hodd] at hu; cases hu
    clear hoM
    obtain ⟨oM, hoM, dM⟩ := st₅.sc.c3
    rw [show (0 : Int) + (i : Int) * 1 = ((i : Nat) : Int) by omega]
    repeat' (first | walk1 | (dsimp only; walk1))
    unfold Hold
    rename Fr _ _ _ _ => F₆
    rename News _ _ _ _ => N₆
    refine For_turns F₆ ?_ (hE := PassesOwn.never)
    repeat' (first | walk1 | (dsimp only; walk1))
    rename IsRange _ _ _ _ _ _ _ _ => R₇
    rename Fr _ _ _ _ => F₇
    rename News _ _ _ _ => N₇
    try clear F₆
    try clear N₆
    refine for_range (n := ab.length) rfl R₇ (range_ok (by decide) (by decide) (by omega) (by omega)) (by rw [range_len]; omega) F₇ N₇ (fun _ _ => rfl) (fun I₂ j m all₂ => (∀ q ∈ all', q.1 < I₂ ∧ (¬ q.1 = 16 → q.1 ≠ L' + 1 + 1 + 1 + 1 + 1 + 1 → q.1 ≠ dn → q ∈ all₂)) ∧ TabX I₂ all₂ ∧ m "script" = some (.ref ls) ∧ m "table" = some (.ref lt) ∧ m "one" = some (.int (i : Nat) t) ∧ ∃ D v6, NearX prog w I₂ all₂ dn D ∧ NearD ab D (fun x y => (x < i ∧ y < ab.length) ∨ (x = i ∧ y < j)) ∧ D.length ≤ i * 13 + j ∧ L' + 1 + 1 + 1 + 1 + 1 + 1 ≠ I₂ ∧ CellIs all₂ (L' + 1 + 1 + 1 + 1 + 1 + 1) v6) ?_ ?_ ?_ ?_
    · rintro I j m a b ⟨h1, h2, h3, h4, h4', D, v6, h5, h6, h7, h8, h9⟩ hs
      exact ⟨fun q hq => ⟨(h1 q hq).1, fun n1 n2 n3 => hs q ((h1 q hq).2 n1 n2 n3) (Nat.ne_of_lt (h1 q hq).1)⟩, h2.mono hs, h3, h4, h4', D, v6, h5.mono hs, h6, h7, h8, cell_off h9 hs h8⟩
    · intro I₂ hI₂
      obtain ⟨o6, ho6, d6⟩ := hc6
      exact ⟨fun q hq => ⟨hI₂ q hq, fun _ _ _ => hq⟩, TabX.of_lt hX.tab hI₂, rfl, rfl, rfl, D, v6, NearX.of_lt hN₅ hI₂, fun x y hxy => hND x y (hxy.resolve_right fun h => absurd h.2 (Nat.not_lt_zero y)), by omega, Nat.ne_of_lt (hI₂ _ ho6), o6, ho6, d6⟩
    · rintro I₂ j t₂ m₃ all₂ h₈ tk₈ oI₂ hj hI₂ hin₂ hnc₂ hoc₂ ⟨hsub₂, hX₂, f1, f2, f3, D₂, v6₂, hNX₂, hND₂, hDl₂, hcI₂, hc6₂⟩ F₈ N₈
      have st₈ := stk₅ _ v6₂ (fun q hq => (hsub₂ q hq).2) hX₂.tab hc6₂
      try clear F₇ N₇ R₇
      try clear N₅
      try clear F₅
      replace F₈ : Fr g L' h₈ (o1 "script" (.ref ls) (o1 "table" (.ref lt) (o1 "one" (.int (i : Nat) t) m₃))) := by simp only [o1_self f1, o1_self f2, o1_self f3]; exact F₈
      replace N₈ : News g L' h₈ all₂ := N₈
      have h16I₂ := hX₂.1
      have hN₈ := hNX₂.near
      have hI₂dn : I₂ ≠ dn := by
        obtain ⟨_, od, es, ep, _, hod, _, hodd, _⟩ := hN₈
        refine news_ne N₈ hin₂ hod fun e => ?_
        obtain ⟨us, hu, _⟩ := hnc₂
        rw [e, hodd] at hu; cases hu
      rw [show (0 : Int) + (j : Int) * 1 = ((j : Nat) : Int) by omega]
      repeat' (first | walk1 | (dsimp only; walk1))
      unfold Hold
      obtain ⟨o6, ho6, d6⟩ := hc6₂
      refine store_C F₈ N₈ (x := "other") (o := o6) rfl ho6 d6 (fun h₉ o6' new₉ F₉ N₉ hold₉ ho6' d6' => ?_) rfl rfl
      have hNF := noFields N₈ ho6 fun us e => by rw [d6] at e; cases e
      have hSq := seqOn_cell N₈ ho6 d6 hold₉
      have st₉ : LawSt L' la ld lt lr tm ab (some (.ref dn)) (some (.int (j : Nat) t₂)) new₉ := ⟨st₈.sc.put6 hold₉ ho6' d6' h16 hNF, st₈.hA.seqs hSq, st₈.hD.seqs hSq, st₈.hT.seqs hSq, st₈.hR.seqs hSq⟩
      have hN₉ := hN₈.on (dataOn_cell N₈ ho6 d6 hold₉)
      try dsimp only
      show wpAny _ _ (execs [B1, B2, B3] (lawE L' fa cd)) _ _ _
      refine seg (law_B1 T₀ ⟨B, F₉, X, N₉, T, CH, hk⟩ hdp hun h16 hi hj rfl rfl rfl st₉) fun h₁ tk₁ m₁ all₁ F₁ N₁ R₁ => ?_
      obtain ⟨g1, g2, g3, hs₁, lb, g4, hB⟩ := R₁
      have st₁ := st₉.all hs₁
      have hN₁ := hN₉.on (new := all₁) fun q hq _ => hs₁ q hq
      refine seg (law_B2 T₀ ⟨B, F₁, X, N₁, T, CH, hk⟩ hdp hun h16 hi hj g1 g2 g3 st₁ g4 hB hN₁ (by omega)) fun h₂ tk₂ m₂ all₃ F₂ N₂ R₂ => ?_
      obtain ⟨k1, k2, k3, k4, hB₂, hs₂, st₂, r, hnear, hN₂⟩ := R₂
      refine seg (law_B3 T₀ ⟨B, F₂, X, N₂, T, CH, hk⟩ hdp hun h16 hi hj k1 k2 k3 st₂ k4 hB₂ hN₂ (by rw [hnear.filt T₀ hi hj]) (mem_in T₀ hi hnear.1) (PyProof.V.lookup_putK_same (keyEnc_tuple PyProof.V.keyEnc_int) _ _ _)) fun h₄ tk₄ m₄ all₄ F₄ N₄ R₄ => ?_
      obtain ⟨l1, l2, l3, hs₄⟩ := R₄
      have hkeep : ∀ q ∈ all₂, ¬ q.1 = 16 → q.1 ≠ L' + 1 + 1 + 1 + 1 + 1 + 1 → q.1 ≠ dn → q ∈ all₄ := fun q hq n1 n2 n3 => hs₄ q (hs₂ q (hs₁ q (hold₉ q hq n2)) n1 n3)
      have hin₄ := hkeep _ hin₂ (Ne.symm h16I₂) (Ne.symm hcI₂) hI₂dn
      have st₄ := st₂.all hs₄
      refine wpAny_execs_nil ?_
      refine ⟨rfl, _, _, _, _, rfl, F₄, N₄, hin₄, fun q hq => ⟨(hsub₂ q hq).1, fun n1 n2 n3 => hkeep q ((hsub₂ q hq).2 n1 n2 n3) n1 n2 n3⟩, TabX.mk st₄.sc.tab N₄ hin₄ hnc₂ h16I₂, l1, l2, l3, _, _, NearX.mk (NearT.on hN₂ fun q hq _ => hs₄ q hq) N₄ hin₄ hnc₂, hND₂.put hnear fun a b hab => ?_, ?_, hcI₂, st₄.sc.c6⟩
      · rcases hab with h | ⟨rfl, h⟩
        · exact .inl (.inl h)
        · rcases Nat.lt_or_ge b j with h' | h'
          · exact .inl (.inr ⟨rfl, h'⟩)
          · exact .inr ⟨rfl, by omega⟩
      · have := put_len (pairKey i j) (.int r) D₂
        omega
    · rintro I₂ h₈ tk₈ m₃ all₂ hI₂ F₈ N₈ ⟨hsub₂, hX₂, f1, f2, f3, D₂, v6₂, hNX₂, hND₂, hDl₂, hcI₂, hc6₂⟩
      have hin₂ := (hsub₂ _ hin).2 (Ne.symm h16I) (Ne.symm hcI) hIdn
      try dsimp only
      refine wpAny_execs_nil ?_
      refine ⟨rfl, _, _, _, _, rfl, F₈, N₈, hin₂, fun q hq => ⟨(hsub q hq).1, fun n1 n2 n3 => (hsub₂ q ((hsub q hq).2 n1 n2 n3)).2 n1 n2 n3⟩, TabX.mk hX₂.tab N₈ hin₂ hnc h16I, f1, f2, D₂, v6₂, NearX.mk hNX₂.near N₈ hin₂ hnc, fun x y hxy => hND₂ x y ?_, by omega, hcI, hc6₂⟩
      rcases Nat.lt_or_ge x i with h | h
      · exact .inl ⟨h, hxy.2⟩
      · exact .inr ⟨by omega, hxy.2⟩
  · rintro I h₈ tk₈ m₃ all₂ hI F₈ N₈ ⟨hsub, hX, e1, e2, D, v6, hNX, hND, hDl, hcI, hc6⟩
    exact ⟨rfl, _, _, _, _, rfl, F₈, N₈, e1, e2, D, v6, hNX.near, hND, stk _ _ (fun q hq => (hsub q hq).2) hX.tab hc6⟩
end
end Mine
end
section
open PySem PySem.W PyProof.Rows
set_option maxRecDepth 100000
set_option maxHeartbeats 8000000
namespace Mine
open PySem PySem.W PySem.Spec PySem.Calls PyProof.Rows

section
local macro_rules | `(tactic| walk_at "eval ListComp") => `(tactic| refine hold ?_)
local macro_rules | `(tactic| walk_at "binaryOp Add ref ref") => `(tactic| refine hold ?_)
local macro_rules | `(tactic| walk_at "subscriptTail") => `(tactic| refine hold ?_)
local macro_rules | `(tactic| walk_at "CompSrc") => `(tactic| refine hold ?_)
local macro_rules | `(tactic| walk_at "storeName") => `(tactic| ((with_reducible show wpAny _ _ (storeName _ (Str.ofString "other") _) _ _ _); refine hold ?_))
theorem law_S9 {prog : Program} {w : World} {p : Program} {loose : List Str} {mean : ExcName → Option Value} {mg mb : Str → Option Value} {dp un : Nat} {gd : Option (List Code)} {L' fa ls : Addr} {cd : Value} {outer : List Env} {A₀ : Around} {base g : Heap} {s : Shared} {m : Str → Option Value} {all : Led} {vs : List Value} {ns : List Int} {la ld lt lr dn : Addr} {tm : Tok} {ab : List Int} {v6 : Option Value} {D : List (PyData × PyData)} (T₀ : Tree ab)
    (C : Cx (hd.heap_39 w.params) p loose mean mg mb lawScope L' outer A₀ base g s.heap m all) (hls : g.IsList ls vs.toArray) (hi : IntsAre vs ns) (h63 : ns.length ≤ 63) (h16 : @LT.lt Nat _ 16 L') (hm : m "script" = some (.ref ls)) (hN : NearT prog w all dn D) (st : LawSt L' la ld lt lr tm ab (some (.ref dn)) v6 all) :
    wpAny (model prog w) (lawA dp un gd L' fa cd outer) (exec S9 (lawE L' fa cd)) (EndS g L' s fun m' all' => NearT prog w all' dn D ∧ ∃ (x y z : Nat) (tx ty tz : Tok), x < ab.length ∧ y < ab.length ∧ z < ab.length ∧ m' "one" = some (.int x tx) ∧ m' "third" = some (.int z tz) ∧ LawSt L' la ld lt lr tm ab (some (.ref dn)) (some (.int (y : Nat) ty)) all' ) (fun _ _ => False) s := by
  obtain ⟨B, F, X, N, T, CH, hk⟩ := C
  have F₁ : Fr g L' s.heap (o1 "script" (.ref ls) m) := by simp only [o1_self hm]; exact F
  clear F
  dsimp only [lawScope, lawBody, lawStmt, S9, PySem.Challenge.pw_hc0003_01] at hk ⊢
  have h13 := T₀.len
  have hpos := T₀.pos
  repeat' (first | walk1 | (dsimp only; walk1))
  unfold Hold
  refine LCg.ListComp_U (F₀ := F₁) (by with_unfolding_all rfl) (by decide) (by rfl) (by decide) (by rfl) ?_
  repeat' (first | walk1 | (dsimp only; walk1))
  unfold Hold
  rename Fr _ _ _ _ => F₂
  rename News _ _ _ _ => N₂
  refine kmk_add_ints F₂ N₂ (hls.at fun o e => F₂.keep _ _ e) (N₂.isList (.head _)) hi (.cons 0 _ (.cons 0 _ (.cons 0 _ .nil))) (fun D us h₃ F₃ N₃ lt₃ hI₃ => ?_) (by have : sizeLine = 2 ^ 24 := rfl; simp; omega)
  clear F₂ N₂
  repeat' (first | walk1 | (dsimp only; walk1))
  unfold Hold
  rename Fr _ _ _ _ => F₄
  rename News _ _ _ _ => N₄
  refine upto_tmp (t := _) F₄ N₄ ⟨_, ⟨0, .head _⟩, hI₃⟩ (by omega) (by rw [List.length_append]; simp; omega) (fun D₂ h₅ new₅ F₅ N₅ sub₅ hD₅ => ?_) (by with_unfolding_all rfl)
  try clear F₃ N₃
  clear F₄ N₄
  have sub : ∀ q ∈ all, q ∈ new₅ := fun q hq => sub₅ _ (.tail _ (.tail _ hq))
  obtain ⟨ks, hkl, hks⟩ : ∃ ks : List Int, ks.length = 3 ∧ IntL new₅ D₂ ks := ⟨_, by rw [List.length_take, List.length_append]; simp, hD₅⟩
  clear hD₅
  obtain ⟨ws, ⟨nw, hnw⟩, hiw⟩ := hks
  have hwl := hiw.length
  replace hN := hN.on (new := new₅) fun q hq _ => sub q hq
  replace st := st.all sub
  obtain ⟨oM, hoM, dM⟩ := st.sc.c3
  repeat' (first | walk1 | (dsimp only; walk1))
  unfold Hold
  refine LCg.CompSrc.ledger rfl F₅ N₅ hnw (by have : sizeLine = 2 ^ 24 := rfl; rw [List.size_toArray]; omega) fun g' => rest_U (fun k ys a' => (∀ q ∈ new₅, q ∈ a') ∧ ∃ zs : List Nat, IntsAre ys (ofN zs) ∧ zs.length = k ∧ ∀ z ∈ zs, z < ab.length) ?_ ?_ (srcAt_in hnw) ⟨fun q hq => hq, [], .nil, rfl, fun z hz => nomatch hz⟩
  · rintro k v I₂ oI₂ C₂ oC₂ D₃ m₃ ys news₂ h₈ tk₈ E' hk' hv ⟨hsub₂, zs, hz1, hz2, hz3⟩ _ hC₂ hx₂ F₈ N₈ off₂
    rw [List.size_toArray] at hk'
    obtain ⟨tv, hv'⟩ := ints_get hiw (k := k) (by omega)
    obtain rfl : v = .int (ks.getD k 0) tv := by
      have hv2 : ws[k]? = some v := by simpa using hv
      exact Option.some.inj (hv2.symm.trans hv')
    generalize ks.getD k 0 = x at *
    clear N₅ F₅ hv hv'
    have a1 : (I₂, oI₂) ∈ (I₂, oI₂) :: (C₂, oC₂) :: (D₃, LCg.lst ys) :: news₂ := .head _
    have a2 : (C₂, oC₂) ∈ (I₂, oI₂) :: (C₂, oC₂) :: (D₃, LCg.lst ys) :: news₂ := .tail _ (.head _)
    have a3 : (D₃, LCg.lst ys) ∈ (I₂, oI₂) :: (C₂, oC₂) :: (D₃, LCg.lst ys) :: news₂ := .tail _ (.tail _ (.head _))
    have a5 : ∀ q ∈ news₂, q ∈ (I₂, oI₂) :: (C₂, oC₂) :: (D₃, LCg.lst ys) :: news₂ := fun q hq => .tail _ (.tail _ (.tail _ hq))
    generalize (I₂, oI₂) :: (C₂, oC₂) :: (D₃, LCg.lst ys) :: news₂ = all₂ at N₈ a1 a2 a3 a5
    have hoM₈ := a5 _ (hsub₂ _ hoM)
    clear hoM
    repeat' (first | walk1 | (dsimp only; walk1))
    have hf1 : 0 ≤ x.fmod (ab.length : Nat) := Int.fmod_nonneg_of_pos _ (by omega)
    have hf2 : x.fmod (ab.length : Nat) < (ab.length : Nat) := Int.fmod_lt_of_pos _ (by omega)
    refine ⟨_, _, _, rfl, by assumption, by assumption, a1, a2, a3, fun b hb => ⟨srcAt_in (n := nw) ?_, fun q hq => ?_, zs ++ [(x.fmod (ab.length : Nat)).toNat], ?_, by rw [List.length_append, hz2]; rfl, fun z hz => ?_⟩⟩
    · have z := off₂ _ (hsub₂ _ hnw)
      exact hb _ (a5 _ (hsub₂ _ hnw)) z.1 z.2.1 z.2.2
    · have z := off₂ _ (hsub₂ _ hq)
      exact hb _ (a5 _ (hsub₂ _ hq)) z.1 z.2.1 z.2.2
    · unfold ofN
      rw [List.map_append]
      refine ints_append hz1 ?_
      show IntsAre _ [Int.ofNat (x.fmod (ab.length : Nat)).toNat]
      rw [show Int.ofNat (x.fmod (ab.length : Nat)).toNat = x.fmod (ab.length : Nat) from Int.toNat_of_nonneg hf1]
      exact .cons _ _ .nil
    · rcases List.mem_append.mp hz with hz | hz
      · exact hz3 z hz
      · rw [List.mem_singleton.mp hz]; omega
  · rintro ys a' ⟨hsub₂, zs, hz1, hz2, hz3⟩ D₃ h₈ tk₈ F₈ N₈ off₂
    rw [List.size_toArray, hwl, hkl] at hz2
    match zs, hz2 with
    | [x, y, z], _ =>
    match ys, hz1 with
    | _, .cons _ tx (.cons _ ty (.cons _ tz .nil)) =>
    have hx := hz3 x (.head _)
    have hy := hz3 y (.tail _ (.head _))
    have hz := hz3 z (.tail _ (.tail _ (.head _)))
    clear N₅ F₅
    have b1 : (D₃, LCg.lst [.int (Int.ofNat x) tx, .int (Int.ofNat y) ty, .int (Int.ofNat z) tz]) ∈ (D₃, LCg.lst [.int (Int.ofNat x) tx, .int (Int.ofNat y) ty, .int (Int.ofNat z) tz]) :: a' := .head _
    have b5 : ∀ q ∈ new₅, q ∈ (D₃, LCg.lst [.int (Int.ofNat x) tx, .int (Int.ofNat y) ty, .int (Int.ofNat z) tz]) :: a' := fun q hq => .tail _ (hsub₂ q hq)
    try dsimp only
    repeat' (first | walk1 | (dsimp only; walk1))
    unfold Hold
    rename Fr _ _ _ _ => F₉
    rename News _ _ _ _ => N₉
    replace hN := hN.on fun q hq _ => b5 q hq
    replace st := st.all b5
    obtain ⟨o6, ho6, d6⟩ := st.sc.c6
    refine store_C F₉ N₉ (x := "other") (o := o6) rfl ho6 d6 (fun h₇ o6' new₇ F₇ N₇ hold₇ ho6' d6' => ?_) rfl rfl
    have hNF := noFields N₉ ho6 fun us e => by rw [d6] at e; cases e
    have hSq := seqOn_cell N₉ ho6 d6 hold₇
    have st₇ : LawSt L' la ld lt lr tm ab (some (.ref dn)) (some (.int (y : Nat) ty)) new₇ := ⟨st.sc.put6 hold₇ ho6' d6' h16 hNF, st.hA.seqs hSq, st.hD.seqs hSq, st.hT.seqs hSq, st.hR.seqs hSq⟩
    have hN₇ := hN.on (dataOn_cell N₉ ho6 d6 hold₇)
    clear F₉ N₉
    repeat' (first | walk1 | (dsimp only; walk1))
    exact ⟨rfl, _, _, _, _, rfl, by assumption, by assumption, hN₇, x, y, z, tx, ty, tz, hx, hy, hz, rfl, rfl, st₇⟩
end
end Mine
end
section
open PySem PySem.W PyProof.Rows
set_option maxRecDepth 100000
set_option maxHeartbeats 8000000
namespace Mine
open PySem PySem.W PySem.Spec PySem.Calls PyProof.Rows

section
local macro_rules | `(tactic| walk_at "eval ListComp") => `(tactic| refine hold ?_)
local macro_rules | `(tactic| walk_at "subscriptTail") => `(tactic| refine hold ?_)
local macro_rules | `(tactic| walk_at "CompSrc") => `(tactic| refine hold ?_)
local macro_rules | `(tactic| walk_at "call builtin:sorted") => `(tactic| refine hold ?_)
local macro_rules | `(tactic| walk_at "newTuple") => `(tactic| refine hold ?_)
local macro_rules | `(tactic| walk_at "no such place") => `(tactic| skip)
theorem law_S10 {prog : Program} {w : World} {p : Program} {loose : List Str} {mean : ExcName → Option Value} {mg mb : Str → Option Value} {dp un : Nat} {gd : Option (List Code)} {L' fa ls : Addr} {cd : Value} {outer : List Env} {A₀ : Around} {base g : Heap} {s : Shared} {m : Str → Option Value} {all : Led} {la ld lt lr dn : Addr} {tm tx ty tz : Tok} {x y z : Nat} {ab : List Int} {D : List (PyData × PyData)} (T₀ : Tree ab)
    (C : Cx (hd.heap_39 w.params) p loose mean mg mb lawScope L' outer A₀ base g s.heap m all) (hun : un + 400 < cLine) (h16 : @LT.lt Nat _ 16 L') (hx : x < ab.length) (hy : y < ab.length) (hz : z < ab.length) (hmo : m "one" = some (.int (x : Nat) tx)) (hmt : m "third" = some (.int (z : Nat) tz)) (hN : NearT prog w all dn D) (hND : NearD ab D (fun x y => x < ab.length ∧ y < ab.length)) (st : LawSt L' la ld lt lr tm ab (some (.ref dn)) (some (.int (y : Nat) ty)) all) :
    wpAny (model prog w) (lawA dp un gd L' fa cd outer) (exec S10 (lawE L' fa cd)) (EndS g L' s fun m' all' => NearT prog w all' dn D ∧ LawSt L' la ld lt lr tm ab (some (.ref dn)) (some (.int (y : Nat) ty)) all' ∧ ∃ l3 a c, m' "three" = some (.ref l3) ∧ IntL all' l3 [a, a, c]) (fun _ _ => False) s := by
  obtain ⟨B, F, X, N, T, CH, hk⟩ := C
  have F₁ : Fr g L' s.heap (o1 "one" (.int (x : Nat) tx) (o1 "third" (.int (z : Nat) tz) m)) := by simp only [o1_self hmo, o1_self hmt]; exact F
  clear F
  dsimp only [lawScope, lawBody, lawStmt, S10, PySem.Challenge.pw_hc0003_01] at hk ⊢
  have h13 := T₀.len
  obtain ⟨r1, n1, k1⟩ := hND x y ⟨hx, hy⟩
  obtain ⟨r2, n2, k2⟩ := hND y z ⟨hy, hz⟩
  obtain ⟨r3, n3, k3⟩ := hND x z ⟨hx, hz⟩
  have i1 := mem_in T₀ hx n1.1
  have i2 := mem_in T₀ hy n2.1
  have i3 := mem_in T₀ hx n3.1
  obtain ⟨oO, hoO, dO⟩ := st.sc.c6
  repeat' (first | walk1 | (dsimp only; walk1))
  unfold Hold
  refine LCg.ListComp_U (F₀ := F₁) (by with_unfolding_all rfl) (by decide) (by rfl) (by decide) (by rfl) ?_
  repeat' (first | walk1 | (dsimp only; walk1))
  unfold Hold
  rename Fr _ _ _ _ => F'
  rename News _ _ _ _ => N'
  refine tuple_A F' N' (fun T1 h1 new1 F1 N1 sub1 hT1 => ?_) (by show 2 ≤ sizeLine; decide)
  clear F' N'
  replace hoO := sub1 _ hoO
  replace hN := hN.on (new := new1) fun q hq _ => sub1 q hq
  replace st := st.all sub1
  repeat' (first | walk1 | (dsimp only; walk1))
  unfold Hold
  rename Fr _ _ _ _ => F'
  rename News _ _ _ _ => N'
  refine tuple_A F' N' (fun T2 h2 new2 F2 N2 sub2 hT2 => ?_) (by show 2 ≤ sizeLine; decide)
  clear F' N'
  replace hoO := sub2 _ hoO
  replace hN := hN.on (new := new2) fun q hq _ => sub2 q hq
  replace st := st.all sub2
  replace hT1 := sub2 _ hT1
  repeat' (first | walk1 | (dsimp only; walk1))
  unfold Hold
  rename Fr _ _ _ _ => F'
  rename News _ _ _ _ => N'
  refine tuple_A F' N' (fun T3 h3 new3 F3 N3 sub3 hT3 => ?_) (by show 2 ≤ sizeLine; decide)
  clear F' N'
  replace hoO := sub3 _ hoO
  replace hN := hN.on (new := new3) fun q hq _ => sub3 q hq
  replace st := st.all sub3
  replace hT1 := sub3 _ hT1
  replace hT2 := sub3 _ hT2
  repeat' (first | walk1 | (dsimp only; walk1))
  unfold Hold
  rename Fr _ _ _ _ => F₄
  rename News _ _ _ _ => N₅
  rename_i lp h₄ lt₄
  obtain ⟨all₄, N₄, sub₄, hlp⟩ : ∃ all₄, News g L' h₄ all₄ ∧ (∀ q ∈ new3, q ∈ all₄) ∧ (lp, W.listOf [Value.ref T1, .ref T2, .ref T3].toArray 0) ∈ all₄ := ⟨_, N₅, fun q hq => .tail _ hq, .head _⟩
  clear N₅ hoO
  replace hN := hN.on (new := all₄) fun q hq _ => sub₄ q hq
  replace st := st.all sub₄
  replace hT1 := sub₄ _ hT1
  replace hT2 := sub₄ _ hT2
  replace hT3 := sub₄ _ hT3
  obtain ⟨oD, hoD, dD⟩ := st.sc.c2
  obtain ⟨oN, hoN, dN⟩ := st.sc.c5
  refine LCg.CompSrc.ledger rfl F₄ N₄ hlp (by show 3 ≤ sizeLine; decide) fun g' => rest_U (fun k ys a' => (∀ q ∈ all₄, q ∈ a') ∧ IntsAre ys ((ofN [dep ab r1, dep ab r2, dep ab r3]).take k)) ?_ ?_ (srcAt_in hlp) ⟨fun q hq => hq, .nil⟩
  · rintro k v I₂ oI₂ C₂ oC₂ D₃ m₃ ys news₂ h₈ tk₈ E' hk' hv ⟨hsub₂, hys⟩ _ hC₂ hx₂ F₈ N₈ off₂
    obtain ⟨P, a, b, ta, tb, r, rfl, hP, hlk, hr, hstep⟩ : ∃ (P : Addr) (a b : Nat) (ta tb : Tok) (r : Nat), v = .ref P ∧ (P, ({ cls := .type "tuple", data := .seq [.int (a : Nat) ta, .int (b : Nat) tb].toArray } : Obj)) ∈ all₄ ∧ PySem.Spec.lookup (pairKey a b) D = some (.int r) ∧ r < ab.length ∧ (ofN [dep ab r1, dep ab r2, dep ab r3]).take (k + 1) = (ofN [dep ab r1, dep ab r2, dep ab r3]).take k ++ [((dep ab r : Nat) : Int)] := by
      match k, hk', hv with
      | 0, _, hv => exact ⟨T1, x, y, tx, ty, r1, (Option.some.inj hv).symm, hT1, k1, i1, rfl⟩
      | 1, _, hv => exact ⟨T2, y, z, ty, tz, r2, (Option.some.inj hv).symm, hT2, k2, i2, rfl⟩
      | 2, _, hv => exact ⟨T3, x, z, tx, tz, r3, (Option.some.inj hv).symm, hT3, k3, i3, rfl⟩
    clear N₄ F₄ hv
    have a1 : (I₂, oI₂) ∈ (I₂, oI₂) :: (C₂, oC₂) :: (D₃, LCg.lst ys) :: news₂ := .head _
    have a2 : (C₂, oC₂) ∈ (I₂, oI₂) :: (C₂, oC₂) :: (D₃, LCg.lst ys) :: news₂ := .tail _ (.head _)
    have a3 : (D₃, LCg.lst ys) ∈ (I₂, oI₂) :: (C₂, oC₂) :: (D₃, LCg.lst ys) :: news₂ := .tail _ (.tail _ (.head _))
    have a5 : ∀ q ∈ news₂, q ∈ (I₂, oI₂) :: (C₂, oC₂) :: (D₃, LCg.lst ys) :: news₂ := fun q hq => .tail _ (.tail _ (.tail _ hq))
    generalize (I₂, oI₂) :: (C₂, oC₂) :: (D₃, LCg.lst ys) :: news₂ = all₂ at N₈ a1 a2 a3 a5
    have hoD₈ := a5 _ (hsub₂ _ hoD)
    have hoN₈ := a5 _ (hsub₂ _ hoN)
    have hN₈ := hN.on (new := all₂) fun q hq _ => a5 q (hsub₂ q hq)
    have st₈ := st.all (new := all₂) fun q hq => a5 q (hsub₂ q hq)
    clear hoD hoN
    repeat' (first | walk1 | (dsimp only; walk1))
    unfold Hold
    refine item_tupTab (knd := PySem.intKind prog w) (enc := PyData.int) (ks := [(a : Int), (b : Int)]) PyProof.V.keyEnc_int.eq (by show un + 1 < cLine; omega) N₈ hN₈ (a5 _ (hsub₂ _ hP)) (TupKeyObj.made (.cons (by simp [PySem.intKind, Value.isInt]) (.cons (by simp [PySem.intKind, Value.isInt]) .nil))) hlk fun v hv => ?_
    obtain ⟨tv, rfl⟩ := PyProof.V.Flat.int_inv hv
    repeat' (first | walk1 | (dsimp only; walk1))
    unfold Hold
    refine item_Dep' N₈ st₈.hD hr h13 fun t5 => ?_
    refine ⟨_, _, _, rfl, by assumption, by assumption, a1, a2, a3, fun b hb => ⟨srcAt_in (n := 0) ?_, fun q hq => ?_, ?_⟩⟩
    · have z := off₂ _ (hsub₂ _ hlp)
      exact hb _ (a5 _ (hsub₂ _ hlp)) z.1 z.2.1 z.2.2
    · have z := off₂ _ (hsub₂ _ hq)
      exact hb _ (a5 _ (hsub₂ _ hq)) z.1 z.2.1 z.2.2
    · rw [hstep]
      exact ints_append hys (.cons _ _ .nil)
  · rintro ys a' ⟨hsub₂, hys⟩ D₃ h₈ tk₈ F₈ N₈ off₂
    replace hys : IntsAre ys [((dep ab r1 : Nat) : Int), ((dep ab r2 : Nat) : Int), ((dep ab r3 : Nat) : Int)] := hys
    clear N₄ F₄
    try dsimp only
    repeat' (first | walk1 | (dsimp only; walk1))
    unfold Hold
    rename Fr _ _ _ _ => F₉
    rename News _ _ _ _ => N₉
    refine kso_sorted F₉ N₉ (N₉.isList (.head _)) hys (by show 3 < 64; decide) fun D₄ vs' ns' c h₁ F₁ N₁ lt₁ hi' hl' hp hpw _ => ?_
    have t1 := Near.three T₀ hy hz n1 n2 n3
    have t2 := Near.three T₀ hy hx n2.symm n1.symm n3.symm
    have t3 := Near.three T₀ hz hy n3 n2.symm n1
    have t4 := Near.three T₀ hz hx n2 n3.symm n1.symm
    have t5 := Near.three T₀ hx hz n1.symm n3 n2
    have t6 := Near.three T₀ hx hy n3.symm n1 n2.symm
    obtain ⟨a, c', rfl⟩ := three_same hp hpw (by omega) (by omega) (by omega) (by omega) (by omega) (by omega)
    clear F₉ N₉
    have b5 : ∀ q ∈ all₄, q ∈ (D₄, W.listOf vs'.toArray c) :: (D₃, LCg.lst ys) :: a' := fun q hq => .tail _ (.tail _ (hsub₂ q hq))
    repeat' (first | walk1 | (dsimp only; walk1))
    exact ⟨rfl, _, _, _, _, rfl, by assumption, by assumption, hN.on fun q hq _ => b5 q hq, st.all b5, D₄, a, c', rfl, vs', ⟨_, .head _⟩, hi'⟩
end
end Mine
end
section
open PySem PySem.W PyProof.Rows
set_option maxRecDepth 100000
set_option maxHeartbeats 8000000
namespace Mine
open PySem PySem.W PySem.Spec PySem.Calls PyProof.Rows

section
local macro_rules | `(tactic| walk_at "subscriptTail") => `(tactic| refine hold ?_)
theorem law_S11 {prog : Program} {w : World} {p : Program} {loose : List Str} {mean : ExcName → Option Value} {mg mb : Str → Option Value} {dp un : Nat} {gd : Option (List Code)} {L' fa ls : Addr} {cd : Value} {outer : List Env} {A₀ : Around} {base g : Heap} {s : Shared} {m : Str → Option Value} {all : Led} {la ld lt lr dn l3 : Addr} {tm : Tok} {a c : Int} {ab : List Int} {v6 : Option Value} {D : List (PyData × PyData)}
    (C : Cx (hd.heap_39 w.params) p loose mean mg mb lawScope L' outer A₀ base g s.heap m all) (hm3 : m "three" = some (.ref l3)) (h3 : IntL all l3 [a, a, c]) (hN : NearT prog w all dn D) (st : LawSt L' la ld lt lr tm ab (some (.ref dn)) v6 all) :
    wpAny (model prog w) (lawA dp un gd L' fa cd outer) (exec S11 (lawE L' fa cd)) (EndS g L' s fun m' all' => NearT prog w all' dn D ∧ LawSt L' la ld lt lr tm ab (some (.ref dn)) v6 all' ) (fun _ _ => False) s := by
  obtain ⟨B, F, X, N, T, CH, hk⟩ := C
  have F₁ : Fr g L' s.heap (o1 "three" (.ref l3) m) := by simp only [o1_self hm3]; exact F
  clear F
  dsimp only [lawScope, lawBody, lawStmt, S11, PySem.Challenge.pw_hc0003_01] at hk ⊢
  repeat' (first | walk1 | (dsimp only; walk1))
  unfold Hold
  refine item_IntL N h3 (by decide) (by show (0 : Int) < 3; decide) (by decide) fun t1 => ?_
  repeat' (first | walk1 | (dsimp only; walk1))
  unfold Hold
  refine item_IntL N h3 (by decide) (by show (1 : Int) < 3; decide) (by decide) fun t2 => ?_
  repeat' (first | walk1 | (dsimp only; walk1))
  · exfalso
    rename (_ : Int) ≠ _ => hbad
    exact hbad rfl
  exact ⟨rfl, _, _, _, _, rfl, by assumption, by assumption, hN, st⟩
end
section
local macro_rules | `(tactic| walk_at "eval ListComp") => `(tactic| refine hold ?_)
local macro_rules | `(tactic| walk_at "subscriptTail") => `(tactic| refine hold ?_)
local macro_rules | `(tactic| walk_at "CompSrcT") => `(tactic| refine hold ?_)
local macro_rules | `(tactic| walk_at "newTuple") => `(tactic| refine hold ?_)
local macro_rules | `(tactic| walk_at "compareOp Eq ref ref") => `(tactic| refine hold ?_)
theorem law_S12 {prog : Program} {w : World} {p : Program} {loose : List Str} {mean : ExcName → Option Value} {mg mb : Str → Option Value} {dp un : Nat} {gd : Option (List Code)} {L' fa ls : Addr} {cd : Value} {outer : List Env} {A₀ : Around} {base g : Heap} {s : Shared} {m : Str → Option Value} {all : Led} {la ld lt lr dn : Addr} {tm : Tok} {ab : List Int} {v6 : Option Value} {D : List (PyData × PyData)} (T₀ : Tree ab)
    (C : Cx (hd.heap_39 w.params) p loose mean mg mb lawScope L' outer A₀ base g s.heap m all) (hun : un + 400 < cLine) (hN : NearT prog w all dn D) (hND : NearD ab D (fun x y => x < ab.length ∧ y < ab.length)) (st : LawSt L' la ld lt lr tm ab (some (.ref dn)) v6 all) :
    wpAny (model prog w) (lawA dp un gd L' fa cd outer) (exec S12 (lawE L' fa cd)) (LawEnd g L' s) (fun _ _ => False) s := by
  obtain ⟨B, F₁, X, N, T, CH, hk⟩ := C
  dsimp only [lawScope, lawBody, lawStmt, S12, PySem.Challenge.pw_hc0003_01] at hk ⊢
  have h13 := T₀.len
  have hpos := T₀.pos
  obtain ⟨oM, hoM, dM⟩ := st.sc.c3
  repeat' (first | walk1 | (dsimp only; walk1))
  unfold Hold
  refine LCt.ListComp_T (F₀ := F₁) (by with_unfolding_all rfl) (by decide) (by rfl) (by decide) (by rfl) ?_
  repeat' (first | walk1 | (dsimp only; walk1))
  unfold Hold
  rename IsRange _ _ _ _ _ _ _ _ => R₇
  rename Fr _ _ _ _ => F₇
  rename News _ _ _ _ => N₇
  obtain ⟨oA, hoA, dA⟩ := st.sc.c1
  obtain ⟨oN, hoN, dN⟩ := st.sc.c5
  refine LCt.CompSrcT.range (n := ab.length - 1) rfl F₇ N₇ R₇ (range_ok (by decide) (by decide) (by omega) (by omega)) (by rw [range_len]; omega) (by have : sizeLine = 2 ^ 24 := rfl; omega) fun g' => rest_T (fun k ys a' => (∀ q ∈ all, q ∈ a') ∧ ys = []) ?_ ?_ trivial ⟨fun q hq => hq, rfl⟩
  · rintro k v I₂ oI₂ C₂ oC₂ D₃ m₃ ys news₂ h₈ tk₈ E' hk' ⟨tv, rfl⟩ ⟨hsub₂, rfl⟩ _ hC₂ hx₂ F₈ N₈ off₂
    rw [show (1 : Int) + (k : Int) = ((k + 1 : Nat) : Int) by omega] at hx₂
    clear N₇ F₇ R₇
    try clear F₁
    try clear N
    have a1 : (I₂, oI₂) ∈ (I₂, oI₂) :: (C₂, oC₂) :: (D₃, LCg.lst []) :: news₂ := .head _
    have a2 : (C₂, oC₂) ∈ (I₂, oI₂) :: (C₂, oC₂) :: (D₃, LCg.lst []) :: news₂ := .tail _ (.head _)
    have a3 : (D₃, LCg.lst []) ∈ (I₂, oI₂) :: (C₂, oC₂) :: (D₃, LCg.lst []) :: news₂ := .tail _ (.tail _ (.head _))
    have a5 : ∀ q ∈ news₂, q ∈ (I₂, oI₂) :: (C₂, oC₂) :: (D₃, LCg.lst []) :: news₂ := fun q hq => .tail _ (.tail _ (.tail _ hq))
    generalize (I₂, oI₂) :: (C₂, oC₂) :: (D₃, LCg.lst []) :: news₂ = all₂ at N₈ a1 a2 a3 a5
    have hoA₈ := a5 _ (hsub₂ _ hoA)
    have hoN₈ := a5 _ (hsub₂ _ hoN)
    have hN₈ := hN.on (new := all₂) fun q hq _ => a5 q (hsub₂ q hq)
    have st₈ := st.all (new := all₂) fun q hq => a5 q (hsub₂ q hq)
    clear hoA hoN hoM
    have hp : k + 1 < ab.length := by omega
    obtain ⟨r, hr, hlk⟩ := hND (k + 1) (par ab (k + 1)) ⟨hp, T₀.par_in hp⟩
    obtain rfl : r = par ab (k + 1) := hr.uniq T₀ hp (Near.self T₀ hp (mem_anc T₀ hp 1))
    repeat' (first | walk1 | (dsimp only; walk1))
    unfold Hold
    refine item_IntL N₈ st₈.hA (by omega) (by omega) (by omega) fun t1 => ?_
    rw [Int.toNat_natCast, T₀.par_eq hp]
    repeat' (first | walk1 | (dsimp only; walk1))
    unfold Hold
    rename Fr _ _ _ _ => F₉
    rename News _ _ _ _ => N₉
    refine tuple_A F₉ N₉ (fun P h₁ new₁ F₁ N₁ sub₁ hP => ?_) (by show 2 ≤ sizeLine; decide)
    try clear F₉ N₉
    try clear F₈ N₈
    replace hoA₈ := sub₁ _ hoA₈
    replace a1 := sub₁ _ a1
    replace a2 := sub₁ _ a2
    replace a3 := sub₁ _ a3
    have hN₁ := hN₈.on (new := new₁) fun q hq _ => sub₁ q hq
    have st₁ := st₈.all sub₁
    clear hoN₈
    repeat' (first | walk1 | (dsimp only; walk1))
    unfold Hold
    refine item_tupTab (knd := PySem.intKind prog w) (enc := PyData.int) (ks := [((k + 1 : Nat) : Int), (par ab (k + 1) : Nat)]) PyProof.V.keyEnc_int.eq (by show un + 1 < cLine; omega) N₁ hN₁ hP (TupKeyObj.made (.cons (by simp [PySem.intKind, Value.isInt]) (.cons (by simp [PySem.intKind, Value.isInt]) .nil))) hlk fun v hv => ?_
    obtain ⟨tv, rfl⟩ := PyProof.V.Flat.int_inv hv
    repeat' (first | walk1 | (dsimp only; walk1))
    unfold Hold
    refine item_IntL N₁ st₁.hA (by omega) (by omega) (by omega) fun t2 => ?_
    rw [Int.toNat_natCast, T₀.par_eq hp]
    repeat' (first | walk1 | (dsimp only; walk1))
    · exfalso
      rename (_ : Int) ≠ _ => hbad
      exact hbad rfl
    refine ⟨_, _, _, rfl, by assumption, by assumption, a1, a2, a3, fun b hb => ⟨trivial, fun q hq => ?_, by first | rfl | trivial⟩⟩
    have z := off₂ _ (hsub₂ _ hq)
    exact hb _ (sub₁ _ (a5 _ (hsub₂ _ hq))) z.1 z.2.1 z.2.2
  · rintro ys a' ⟨hsub₂, rfl⟩ D₃ h₈ tk₈ F₈ N₈ off₂
    clear N₇ F₇ R₇
    try clear F₁
    try clear N
    try dsimp only
    repeat' (first | walk1 | (dsimp only; walk1))
    unfold Hold
    rename Fr _ _ _ _ => F₉
    rename News _ _ _ _ => N₉
    refine ke_eq_ints (xs := []) (ys := []) (ns := []) (ms := []) (N₉.isList (.tail _ (.head _))) (N₉.isList (.head _)) .nil .nil (by show un + 64 < cLine; omega) ?_
    rw [decide_eq_true rfl]
    exact ⟨rfl, _, _, _, _, rfl, F₉, N₉, st.sc.tab.mono fun q hq => .tail _ (.tail _ (hsub₂ q hq))⟩
end
end Mine
end
section
open PySem PySem.W PyProof.Rows
set_option maxRecDepth 100000
set_option maxHeartbeats 8000000
namespace Mine
open PySem PySem.W PySem.Spec PySem.Calls PyProof.Rows
theorem law_all {prog : Program} {w : World} {p : Program} {loose : List Str} {mean : ExcName → Option Value} {mg mb : Str → Option Value} {dp un : Nat} {gd : Option (List Code)} {L' fa ls : Addr} {cd : Value} {outer : List Env} {A₀ : Around} {base g : Heap} {s : Shared} {m : Str → Option Value} {all : Led} {vs : List Value} {ns : List Int}
    (C : Cx (hd.heap_39 w.params) p loose mean mg mb lawScope L' outer A₀ base g s.heap m all) (hdp : dp + 40 < recursionLimit) (hun : un + 400 < cLine) (hls : g.IsList ls vs.toArray) (hi : IntsAre vs ns) (h63 : ns.length ≤ 63) (h16 : @LT.lt Nat _ 16 L') (hm : m "script" = some (.ref ls)) (sc : Sc L' none none none none none none all) :
    wpAny (model prog w) (lawA dp un gd L' fa cd outer) (execs lawBody (lawE L' fa cd)) (LawEnd g L' s) (fun _ _ => False) s := by
  rw [lawBody_eq]
  obtain ⟨B, F, X, N, T, CH, hk⟩ := C
  refine seg (law_S1 ⟨B, F, X, N, T, CH, hk⟩ hls hi h63 h16 hm sc) fun h1 t1 m1 a1 F1 N1 ⟨m1s, la, ab, T₀, hA, sc1⟩ => ?_
  refine seg (law_S2 ⟨B, F1, X, N1, T, CH, hk⟩ h16 m1s hA sc1) fun h2 t2 m2 a2 F2 N2 ⟨m2s, hA2, ld, hne, hD2, sc2⟩ => ?_
  refine seg (law_S3 T₀ ⟨B, F2, X, N2, T, CH, hk⟩ h16 m2s hA2 hne hD2 sc2) fun h3 t3 m3 a3 F3 N3 ⟨m3s, hA3, hD3, sc3⟩ => ?_
  refine seg (law_S4 T₀ ⟨B, F3, X, N3, T, CH, hk⟩ hdp hun h16 m3s hA3 hD3 sc3) fun h4 t4 m4 a4 F4 N4 ⟨m4s, hA4, hD4, lt, tm, m4t, hT4, sc4⟩ => ?_
  refine seg (law_S5 T₀ ⟨B, F4, X, N4, T, CH, hk⟩ hdp hun h16 m4s hA4 hD4 m4t hT4 sc4) fun h5 t5 m5 a5 F5 N5 ⟨m5s, hA5, hD5, m5t, hT5, lr, hR5, sc5⟩ => ?_
  refine seg (law_S6 T₀ ⟨B, F5, X, N5, T, CH, hk⟩ hdp hun h16 m5s m5t ⟨sc5, hA5, hD5, hT5, hR5⟩) fun h6 t6 m6 a6 F6 N6 ⟨m6s, m6t, st6⟩ => ?_
  refine seg (law_S7 T₀ ⟨B, F6, X, N6, T, CH, hk⟩ h16 m6s m6t st6) fun h7 t7 m7 a7 F7 N7 ⟨m7s, m7t, dn, hN7, st7⟩ => ?_
  refine seg (law_S8 T₀ ⟨B, F7, X, N7, T, CH, hk⟩ hdp hun h16 m7s m7t hN7 st7) fun h8 t8 m8 a8 F8 N8 ⟨m8s, m8t, D, v6, hN8, hND, st8⟩ => ?_
  refine seg (law_S9 T₀ ⟨B, F8, X, N8, T, CH, hk⟩ hls hi h63 h16 m8s hN8 st8) fun h9 t9 m9 a9 F9 N9 ⟨hN9, x, y, z, tx, ty, tz, hx, hy, hz, m9o, m9t, st9⟩ => ?_
  refine seg (law_S10 (ls := ls) T₀ ⟨B, F9, X, N9, T, CH, hk⟩ hun h16 hx hy hz m9o m9t hN9 hND st9) fun h10 t10 m10 a10 F10 N10 ⟨hN10, st10, l3, a, c, m10t, h3l⟩ => ?_
  refine seg (law_S11 (ls := ls) ⟨B, F10, X, N10, T, CH, hk⟩ m10t h3l hN10 st10) fun h11 t11 m11 a11 F11 N11 ⟨hN11, st11⟩ => ?_
  refine wpAny_execs_cons (wpAny_mono (law_S12 (ls := ls) T₀ ⟨B, F11, X, N11, T, CH, hk⟩ hun hN11 hND st11) (fun f s' h => ?_) fun _ _ e => e)
  obtain ⟨rfl, h', tk, m', all', rfl, F', N', ht⟩ := h
  exact ⟨rfl, h', tk, m', all', rfl, F', N', ht⟩
end Mine
end
open PySem PySem.W PySem.Spec PySem.Calls PyProof.Rows Mine
set_option maxRecDepth 100000 in
set_option maxHeartbeats 8000000 in
theorem PySem.Challenge.cw_hc0003_01_holds : PySem.Challenge.rw_hc0003_01.Holds := by
  refine Mine.hd ?_
  k_go0
  rename IntsAre _ _ => hInts
  rename ¬ (63 : Int) < _ => h63
  rename_i d6 d5 d4 d3 d2 d1 X0 XX TT KK FF NN l0
  have h63' : _ ≤ 63 := Int.ofNat_le.mp (Int.not_lt.mp h63)
  refine wpAny_mono (law_all (dp := 2 + claimMargin) (un := 7) (gd := some []) ⟨KK, FF, XX, NN, TT, codeHd, rfl⟩ (by decide) (by decide) lifted hInts h63' l0 rfl ?sc) (fun f s' h => ?_) (fun _ _ e => e.elim)
  case sc =>
    exact ⟨.inl (.tail _ (.tail _ (.tail _ (.tail _ (.tail _ (.tail _ (.head _))))))),
      ⟨_, .tail _ (.tail _ (.tail _ (.tail _ (.tail _ (.head _))))), d1⟩,
      ⟨_, .tail _ (.tail _ (.tail _ (.tail _ (.head _)))), d2⟩,
      ⟨_, .tail _ (.tail _ (.tail _ (.head _))), d3⟩,
      ⟨_, .tail _ (.tail _ (.head _)), d4⟩,
      ⟨_, .tail _ (.head _), d5⟩,
      ⟨_, .head _, d6⟩⟩
  obtain ⟨rfl, h', tk, m', all', rfl, F', N', ht⟩ := h
  obtain ⟨ps, hps⟩ := ht.mem
  refine ⟨?_, ⟨ps, (N' _ hps).1⟩, trivial⟩
  clear X0 XX TT KK FF NN d1 d2 d3 d4 d5 d6
  close_w
