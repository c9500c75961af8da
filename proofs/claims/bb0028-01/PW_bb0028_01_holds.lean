import PyProof.Rows.All
import Wide.All
import OpenK.AllK
import Wide.FinOn
import PySem.Challenge.RW_bb0028_01
open PySem PySem.W PyProof.Rows PySem.Calls
set_option Elab.async false
namespace Mine

/-! ## The head: the top's run, once -/
set_option maxRecDepth 100000 in
set_option maxHeartbeats 8000000 in
open_top hd for PySem.Challenge.rw_bb0028_01

/-! ## Three ints out of the script -/
theorem ints_cons {vs : List Value} {n : Int} {ns : List Int} (h : IntsAre vs (n :: ns)) : ∃ t vs', vs = Value.int n t :: vs' ∧ IntsAre vs' ns := by
  cases h with
  | cons a t hr => exact ⟨_, _, rfl, hr⟩
theorem ints_nil {vs : List Value} (h : IntsAre vs []) : vs = [] := by
  cases h; rfl
theorem three {ws : List Value} {ns : List Int} (h : IntsAre ws (List.take 3 (List.take 3 ns ++ [0, 0, 0]))) :
    ∃ a ta b tb c tc, ws = [Value.int a ta, Value.int b tb, Value.int c tc] := by
  have key : ∃ a b c, List.take 3 (List.take 3 ns ++ [0, 0, 0]) = [a, b, c] := by
    match ns with
    | [] => exact ⟨0, 0, 0, rfl⟩
    | [a] => exact ⟨a, 0, 0, rfl⟩
    | [a, b] => exact ⟨a, b, 0, rfl⟩
    | a :: b :: c :: r => exact ⟨a, b, c, by simp⟩
  obtain ⟨a, b, c, e⟩ := key
  rw [e] at h
  obtain ⟨ta, v1, e1, h1⟩ := ints_cons h
  obtain ⟨tb, v2, e2, h2⟩ := ints_cons h1
  obtain ⟨tc, v3, e3, h3⟩ := ints_cons h2
  have e4 := ints_nil h3
  exact ⟨a, ta, b, tb, c, tc, by rw [e1, e2, e3, e4]⟩

/-! ## Contracts: isleap, jwday -/

section
abbrev ClK (prog : Program) (w : World) (K : Frag) (p : Program) (loose : List Str) (mean : ExcName → Option Value) (mg mb : Str → Option Value) (f : Addr) (dd : Nat) (pre : Prop) (vs : List Value) (R : Tok → Value) : Prop :=
  ∀ (dp un : Nat) (gd : Option (List Code)) (cn : Str) (cs : Scope) (a : Addr) (ccd : Value) (cl : List (Str × Addr)) (outer : List Env) (A₀ : Around) (base h₀ : Heap) (L : Addr) (m : Str → Option Value) (news : List (Addr × Obj)) (s : Shared) (Q E : Value → Shared → Prop),
    Below A₀ base outer h₀ → Fr h₀ L s.heap m → K.In h₀ → News h₀ L s.heap news → Top p loose mean mg mb h₀ → cs.kind = .function →
    pre → dp + dd < recursionLimit → un + 8 * dd < cLine → CbRet h₀ L m news s Q R →
      wpAny (model prog w) (ktrTop dp un gd cn cs L a ccd cl outer) (call (.ref f) vs) Q E s

def leapB (y : Int) : Bool := decide (y.fmod 4 = 0) && (!decide (y.fmod 100 = 0) || decide (y.fmod 400 = 0))
def adjI (y m : Int) : Int := if m ≤ 2 then 0 else if leapB y = true then -1 else -2
def toJd (y m d : Int) : Int :=
  1721426 - 1 + 365 * (y - 1) + (y - 1).fdiv 4 + -((y - 1).fdiv 100) + (y - 1).fdiv 400 + ((367 * m - 362).fdiv 12 + adjI y m + d)

set_option maxRecDepth 100000 in
set_option maxHeartbeats 8000000 in
theorem isleap_cl (w : World) (s₀ : Shared) (mg mb : Str → Option Value) (y : Int) (ty : Tok) :
    ClK PySem.Challenge.rw_bb0028_01.row.prog w (hd.heap_39 w.params) hd.view_39 (looseW hd.view_39 []) (ExcName.means s₀.heap) mg mb 21 1 True [.int y ty] (fun _ => .bool (leapB y)) := by
  k_with_none
  k_with "tree" => (unfold leapB; simp_all)
  k_fill
  intro dp un gd cn cs a ccd cl outer A₀ base h₀ L m news s Q E hB hF hK hN hT hk hp hd1 hu hret
  refine wpAny_call ?_
  k_dflt cell_enter
  k_steps
  all_goals cb_end hret
set_option maxRecDepth 100000 in
set_option maxHeartbeats 8000000 in
theorem jwday_cl (w : World) (s₀ : Shared) (mg mb : Str → Option Value) (y : Int) (ty : Tok) :
    ClK PySem.Challenge.rw_bb0028_01.row.prog w (hd.heap_39 w.params) hd.view_39 (looseW hd.view_39 []) (ExcName.means s₀.heap) mg mb 28 1 True [.int y ty] (fun t => .int (y.fmod 7) t) := by
  k_with_none
  k_fill
  intro dp un gd cn cs a ccd cl outer A₀ base h₀ L m news s Q E hB hF hK hN hT hk hp hd1 hu hret
  refine wpAny_call ?_
  k_dflt cell_enter
  k_steps
  all_goals cb_end hret
end

/-! ## Contracts: legal_date, to_jd -/

section
local macro_rules | `(tactic| walk_at "call ref") => `(tactic| (k_here; (with_reducible show wpAny _ _ (call (Value.ref 21) [Value.int _ _]) _ _ _); k_dflt (refine isleap_cl _ _ _ _ _ _ _ _ _ _ _ _ _ _ _ _ _ _ _ _ _ _ _ _ (by k_asm) (by k_asm) (by k_asm) (by k_asm) (by k_asm) (by first | exact rfl | assumption) (by trivial) (by ktr_room) (by ktr_units) ?_); intro t9 h9 tk9 F9 N9; (try dsimp only); (try k_fold)))
local macro_rules | `(tactic| walk_at "call ref") => `(tactic| (k_here; (with_reducible show wpAny _ _ (call (Value.ref 28) [Value.int _ _]) _ _ _); k_dflt (refine jwday_cl _ _ _ _ _ _ _ _ _ _ _ _ _ _ _ _ _ _ _ _ _ _ _ _ (by k_asm) (by k_asm) (by k_asm) (by k_asm) (by k_asm) (by first | exact rfl | assumption) (by trivial) (by ktr_room) (by ktr_units) ?_); intro t9 h9 tk9 F9 N9; (try dsimp only); (try k_fold)))
local macro_rules | `(tactic| walk_at "compareOp In int ref") => `(tactic| (k_here; (with_reducible show wpAny _ _ (compareOp CmpOp.In (Value.int _ _) (Value.ref _)) _ _ _); k_dflt (refine' in_tuple_ints ?k1 ?k2 ?_; (case k1 => kun_tup); (case k2 => first | assumption | ((repeat constructor); done)); k_whole)))
local macro_rules | `(tactic| walk_at "compareOp NotIn int ref") => `(tactic| (k_here; (with_reducible show wpAny _ _ (compareOp CmpOp.NotIn (Value.int _ _) (Value.ref _)) _ _ _); k_dflt (refine' notin_tuple_ints ?k1 ?k2 ?_; (case k1 => kun_tup); (case k2 => first | assumption | ((repeat constructor); done)); k_whole)))
set_option maxRecDepth 100000 in
set_option maxHeartbeats 8000000 in
theorem legal_cl (w : World) (s₀ : Shared) (mg mb : Str → Option Value) (y m d : Int) (ty tm td : Tok) :
    ClK PySem.Challenge.rw_bb0028_01.row.prog w (hd.heap_39 w.params) hd.view_39 (looseW hd.view_39 []) (ExcName.means s₀.heap) mg mb 36 2 (1 ≤ m ∧ m ≤ 12 ∧ 1 ≤ d ∧ d ≤ 28) [.int y ty, .int m tm, .int d td] (fun _ => .bool true) := by
  k_with_none
  k_fill
  intro dp un gd cn cs a ccd cl outer A₀ base h₀ L m news s Q E hB hF hK hN hT hk hp hd1 hu hret
  obtain ⟨hp1, hp2, hp3, hp4⟩ := hp
  refine wpAny_call ?_
  k_dflt cell_enter
  k_steps
  all_goals cb_end hret
set_option maxRecDepth 100000 in
set_option maxHeartbeats 8000000 in
theorem legal29_cl (w : World) (s₀ : Shared) (mg mb : Str → Option Value) (y : Int) (ty tm td : Tok) :
    ClK PySem.Challenge.rw_bb0028_01.row.prog w (hd.heap_39 w.params) hd.view_39 (looseW hd.view_39 []) (ExcName.means s₀.heap) mg mb 36 2 (leapB y = true) [.int y ty, .int 2 tm, .int 29 td] (fun _ => .bool true) := by
  k_with_none
  k_fill
  intro dp un gd cn cs a ccd cl outer A₀ base h₀ L m news s Q E hB hF hK hN hT hk hp hd1 hu hret
  refine wpAny_call ?_
  k_dflt cell_enter
  k_steps
  all_goals cb_end hret
local macro_rules | `(tactic| walk_at "call ref") => `(tactic| (k_here; (with_reducible show wpAny _ _ (call (Value.ref 36) [Value.int _ _, Value.int _ _, Value.int _ _]) _ _ _); k_dflt (refine legal_cl _ _ _ _ _ _ _ _ _ _ _ _ _ _ _ _ _ _ _ _ _ _ _ _ _ _ _ _ (by k_asm) (by k_asm) (by k_asm) (by k_asm) (by k_asm) (by first | exact rfl | assumption) (by (first | assumption | omega)) (by ktr_room) (by ktr_units) ?_); intro t9 h9 tk9 F9 N9; (try dsimp only); (try k_fold)))
local macro_rules | `(tactic| walk_at "call ref") => `(tactic| (k_here; (with_reducible show wpAny _ _ (call (Value.ref 36) [Value.int _ _, Value.int _ _, Value.int _ _]) _ _ _); k_dflt (refine legal29_cl _ _ _ _ _ _ _ _ _ _ _ _ _ _ _ _ _ _ _ _ _ _ _ _ _ _ (by k_asm) (by k_asm) (by k_asm) (by k_asm) (by k_asm) (by first | exact rfl | assumption) (by assumption) (by ktr_room) (by ktr_units) ?_); intro t9 h9 tk9 F9 N9; (try dsimp only); (try k_fold)))
set_option maxRecDepth 100000 in
set_option maxHeartbeats 8000000 in
theorem jd_cl (w : World) (s₀ : Shared) (mg mb : Str → Option Value) (y m d : Int) (ty tm td : Tok) :
    ClK PySem.Challenge.rw_bb0028_01.row.prog w (hd.heap_39 w.params) hd.view_39 (looseW hd.view_39 []) (ExcName.means s₀.heap) mg mb 43 3 (1 ≤ m ∧ m ≤ 12 ∧ 1 ≤ d ∧ d ≤ 28) [.int y ty, .int m tm, .int d td] (fun t => .int (toJd y m d) t) := by
  k_with_none
  k_with "tree" => (unfold toJd adjI; simp_all)
  k_fill
  intro dp un gd cn cs a ccd cl outer A₀ base h₀ L m news s Q E hB hF hK hN hT hk hp hd1 hu hret
  obtain ⟨hp1, hp2, hp3, hp4⟩ := hp
  refine wpAny_call ?_
  k_dflt cell_enter
  k_steps
  all_goals cb_end hret
set_option maxRecDepth 100000 in
set_option maxHeartbeats 8000000 in
theorem jd29_cl (w : World) (s₀ : Shared) (mg mb : Str → Option Value) (y : Int) (ty tm td : Tok) :
    ClK PySem.Challenge.rw_bb0028_01.row.prog w (hd.heap_39 w.params) hd.view_39 (looseW hd.view_39 []) (ExcName.means s₀.heap) mg mb 43 3 (leapB y = true) [.int y ty, .int 2 tm, .int 29 td] (fun t => .int (toJd y 2 29) t) := by
  k_with_none
  k_with "tree" => (unfold toJd adjI; simp_all)
  k_fill
  intro dp un gd cn cs a ccd cl outer A₀ base h₀ L m news s Q E hB hF hK hN hT hk hp hd1 hu hret
  refine wpAny_call ?_
  k_dflt cell_enter
  k_steps
  all_goals cb_end hret
end

/-! ## A comprehension over a range with ends of any size -/
/-- a source that is a range by ones, its ends of any size -/
def AnyRange (prog : Program) (w : World) (A : Around) (h₀ : Heap) (L : Addr) (m : Str → Option Value) (env : Env) (ct elt : Expr) (x : Str) (scope : Scope) (cl : List (Str × Addr)) (Fin : Shared → List Value → List (Addr × Obj) → Prop) (xv : Value) (s₁ : Shared) : Prop :=
  ∃ r a b t u v n news, xv = .ref r ∧ A.handled = none ∧ Fr h₀ L s₁.heap m ∧ News h₀ L s₁.heap news ∧ IsRange s₁.heap r a b 1 t u v ∧ Builtin.Range.rangeSize a b 1 = ((n : Nat) : Int) ∧ n ≤ sizeLine ∧
    ∀ g : Heap, LCt.CompRestT prog w A h₀ L m env ct elt x scope cl { s₁ with heap := g } (fun _ => True) (fun i v => ∃ t, v = .int (a + (i : Int)) t) (Fin { s₁ with heap := g }) n 0 [] news

section
variable {prog : Program} {w : World} {A : Around} {E : Value → Shared → Prop} {s : Shared} {h₀ : Heap} {L : Addr} {m : Str → Option Value} {env : Env}

theorem longWalks {I : Addr} (hh : A.handled = none) (a : Int) (n : Nat) :
    Walks prog w A I [I] [I] n (fun i v => ∃ t, v = .int (a + (i : Int)) t) (fun i h => IsLongIter h I (a + (i : Nat) * 1) ((n : Int) - (i : Nat)) 1) :=
  let W := Walks.longrange (prog := prog) (w := w) hh I a 1 n
  { sub := W.sub, frame := W.frame, done := W.done, self := W.self,
    item := fun i s Q E hi st hQ => W.item i s Q E hi st fun v h' tk hP => hQ v h' tk (by obtain ⟨t, e⟩ := hP; exact ⟨t, by rw [e, Int.mul_one]⟩) }

theorem comp_anyRange {ct elt iter : Expr} {x : Str} {px : Pos} {scope : Scope} {cl : List (Str × Addr)} {pos : Pos} {Q : Value → Shared → Prop} (F₀ : Fr h₀ L s.heap m)
    (hclos : closureFor scope env = pure cl) (hcell : ∀ y ∈ scope.names, y.2 ≠ .cell) (hkind : scope.kind = .function)
    (hnames : ∀ y ∈ scope.names, y.2 = .local → scope.names.lookup y.1 = some .local) (hx : scope.names.lookup x = some .local)
    (h : wpAny (model prog w) A (eval iter env) (AnyRange prog w A h₀ L m env ct elt x scope cl (fun s₂ => LCg.FinE h₀ L m s₂ Q)) E s)
    (hs : ∀ x, foldedSetIterable iter env x = pure x := by intro _; rfl) :
    wpAny (model prog w) A (eval (.ListComp elt [⟨.Name x px, iter, [ct], 0⟩] scope pos) env) Q E s := by
  rw [eval_ListComp]
  refine wpAny_comprehension_free (use := none) rfl hs hclos hkind hnames (wpAny_mono h (fun xv s₁ h₁ => ?_) fun _ _ e => e)
  obtain ⟨r, a, b, t, u, v, n, news, rfl, hh, F, N, hr, hn, hsz, R⟩ := h₁
  have upI : ∀ (ito : Obj), ∀ b ∈ [s₁.heap.objs.size], b < (s₁.heap.push ito).objs.size := fun ito b hb => by
    rw [List.mem_singleton.mp hb, Heap.size_push]; exact Nat.lt_succ_self _
  by_cases hsm : Builtin.Range.small a b 1 = true
  · refine wpAny_pyIter_range hr hsm ?_
    refine LCt.block_T (LCg.range_walks hh a n) hsz (fun i h st => ⟨_, st⟩) LCg.range_st hcell hkind hx (by show IsRangeIter _ _ _ _ _; rw [hn]; simpa using Heap.get?_push_size _ rfl) (upI _)
      (F.keeps fun _ _ e => Heap.get?_push_of_some _ e) (N.grown fun _ _ e => Heap.get?_push_of_some _ e) (Nat.ne_of_lt F.ns.lt) (next_is_new F) (fun p hp => Nat.ne_of_lt (Heap.lt_size (N p hp).1)) trivial (R _) ?_
    intro D C h tk m' ys news' F' N' o1 hn' hC₀ hD₀ hCL hDL hCD offC fin
    refine ⟨m', hn', fun h'' hs'' => fin D h'' tk (F'.change hs'' hCL hC₀) (fun p hp => ?_) o1⟩
    refine ⟨hs''.extBut _ _ ?_ (N' p hp).1, (N' p hp).2⟩
    rcases List.mem_cons.mp hp with rfl | hp
    · exact Ne.symm hCD
    · exact offC p hp
  · refine wpAny_pyIter_longrange hr (by simpa using hsm) ?_
    refine LCt.block_T (St := fun i h => IsLongIter h s₁.heap.objs.size (a + (i : Nat) * 1) ((n : Int) - (i : Nat)) 1) (longWalks hh a n) hsz (fun i h st => ⟨_, st⟩) (fun i h h' o nw st e e' _ _ _ => ?_) hcell hkind hx (by show IsLongIter _ _ _ _ _; rw [hn]; simpa using Heap.get?_push_size _ rfl) (upI _)
      (F.keeps fun _ _ e => Heap.get?_push_of_some _ e) (N.grown fun _ _ e => Heap.get?_push_of_some _ e) (Nat.ne_of_lt F.ns.lt) (next_is_new F) (fun p hp => Nat.ne_of_lt (Heap.lt_size (N p hp).1)) trivial (R _) ?_
    · have st' : h.get? s₁.heap.objs.size = some _ := st
      show h'.get? s₁.heap.objs.size = some _
      rw [e', ← e]; exact st'
    intro D C h tk m' ys news' F' N' o1 hn' hC₀ hD₀ hCL hDL hCD offC fin
    refine ⟨m', hn', fun h'' hs'' => fin D h'' tk (F'.change hs'' hCL hC₀) (fun p hp => ?_) o1⟩
    refine ⟨hs''.extBut _ _ ?_ (N' p hp).1, (N' p hp).2⟩
    rcases List.mem_cons.mp hp with rfl | hp
    · exact Ne.symm hCD
    · exact offC p hp

theorem AnyRange.of {ct elt : Expr} {x : Str} {scope : Scope} {cl : List (Str × Addr)} {Fin : Shared → List Value → List (Addr × Obj) → Prop} {r : Addr} {a b : Int} {t u v : Tok} {n : Nat} {news : List (Addr × Obj)} {s₁ : Shared}
    (hh : A.handled = none) (F : Fr h₀ L s₁.heap m) (N : News h₀ L s₁.heap news) (hr : IsRange s₁.heap r a b 1 t u v) (hn : Builtin.Range.rangeSize a b 1 = ((n : Nat) : Int)) (hsz : n ≤ sizeLine)
    (h : ∀ g, LCt.CompRestT prog w A h₀ L m env ct elt x scope cl { s₁ with heap := g } (fun _ => True) (fun i v => ∃ t, v = .int (a + (i : Int)) t) (Fin { s₁ with heap := g }) n 0 [] news) :
    AnyRange prog w A h₀ L m env ct elt x scope cl Fin (.ref r) s₁ := ⟨r, a, b, t, u, v, n, news, rfl, hh, F, N, hr, hn, hsz, h⟩
end
/-- the items that pass, taken one by one -/
def keepIf (p : Int → Bool) (l : List Int) (k : Int) : List Int := if p k = true then l ++ [k] else l
theorem keepIf_fold (p : Int → Bool) : ∀ (ks l : List Int), ks.foldl (keepIf p) l = l ++ ks.filter p
  | [], l => by simp
  | k :: r, l => by
    rw [List.foldl_cons, keepIf_fold p r, List.filter_cons, keepIf]
    split <;> simp
theorem keepIf_grows (p : Int → Bool) : KPfGrows (keepIf p) := fun l k => by
  unfold keepIf
  split <;> simp
theorem keep_yes {p : Int → Bool} {l : List Int} {k : Int} (h : p k = true) : keepIf p l k = l ++ [k] := if_pos h
theorem keep_no {p : Int → Bool} {l : List Int} {k : Int} (h : ¬ p k = true) : keepIf p l k = l := if_neg h
theorem range_size (a : Int) (n : Int) (h : 0 ≤ n) : Builtin.Range.rangeSize a (a + n) 1 = ((n.toNat : Nat) : Int) := by
  unfold Builtin.Range.rangeSize
  split
  · omega
  · omega

/-! ## A loop that keeps some of a range's ints; small rules -/
/-- the end of a turn that keeps an int in the list at d or leaves it -/
def TookTurn (h₀ : Heap) (L : Addr) (s₁ : Shared) (I : Addr) (it : Obj) (x : Str) (m₀ : Str → Option Value) (q : Addr × Obj) (d : Addr) (post : List (Addr × Obj)) (l' : List Int) (f : Flow) (s₂ : Shared) : Prop :=
  f = .next ∧ ∃ h' tk m' us nn, s₂ = { s₁ with heap := h', toks := tk } ∧ Fr h₀ L h' m' ∧ News h₀ L h' ((I, it) :: q :: (d, W.listOf us.toArray nn) :: post) ∧ (∀ z, z ≠ x → m' z = m₀ z) ∧ IntsAre us l'

section
variable {h₀ h' : Heap} {L I d : Addr} {s₁ : Shared} {it : Obj} {x : Str} {m₀ m' : Str → Option Value} {q : Addr × Obj} {post : List (Addr × Obj)} {l : List Int} {tk nn : Nat} {us : List Value} {p : Int → Bool} {k : Int} {t : Tok}
theorem took_yes (F : Fr h₀ L h' m') (N : News h₀ L h' ((I, it) :: q :: (d, W.listOf (us ++ [Value.int k t]).toArray nn) :: post)) (hi : IntsAre us l) (hm : ∀ z, z ≠ x → m' z = m₀ z) (hp : p k = true) :
    TookTurn h₀ L s₁ I it x m₀ q d post (keepIf p l k) .next { s₁ with heap := h', toks := tk } :=
  ⟨rfl, h', tk, m', _, nn, rfl, F, N, hm, by rw [keep_yes hp]; exact IntsAre.append hi (.cons k t .nil)⟩
theorem took_no (F : Fr h₀ L h' m') (N : News h₀ L h' ((I, it) :: q :: (d, W.listOf us.toArray nn) :: post)) (hi : IntsAre us l) (hm : ∀ z, z ≠ x → m' z = m₀ z) (hp : ¬ p k = true) :
    TookTurn h₀ L s₁ I it x m₀ q d post (keepIf p l k) .next { s₁ with heap := h', toks := tk } :=
  ⟨rfl, h', tk, m', _, nn, rfl, F, N, hm, by rw [keep_no hp]; exact hi⟩
end

/-- the ints of a range with a step -/
def stepKs (a c : Int) (n : Nat) : List Int := (List.range n).map fun (i : Nat) => a + (i : Int) * c

section
variable {prog : Program} {w : World} {A : Around} {E : Value → Shared → Prop} {s : Shared} {env : Env} {h₀ : Heap} {x : Str} {body : List Stmt} {Q : Flow → Shared → Prop}
theorem krs_keep {r : Addr} {a₀ b₀ c : Int} {t₀ u₀ v₀ : Tok} {n : Nat} {m₀ : Str → Option Value} {q : Addr × Obj} {d : Addr} {post : List (Addr × Obj)} {n₀ : Nat} (p : Int → Bool)
    (hh : A.handled = none) (hr : IsRange s.heap r a₀ b₀ c t₀ u₀ v₀) (hsmall : Builtin.Range.small a₀ b₀ c = true) (hn : Builtin.Range.rangeSize a₀ b₀ c = (n : Int)) (F : Fr h₀ env.locals s.heap m₀) (N : News h₀ env.locals s.heap (q :: (d, W.listOf #[] n₀) :: post))
    (turn : ∀ (k : Int) (t : Tok) (l : List Int) (us : List Value) (nn : Nat) (I : Addr) (it : Obj) (h : Heap) (tk : Nat), (∀ p ∈ q :: (d, W.listOf #[] n₀) :: post, p.1 < I) → k ∈ stepKs a₀ c n → IntsAre us l → us.length ≤ n → Fr h₀ env.locals h (fun y => if y = x then some (.int k t) else m₀ y) →
      News h₀ env.locals h ((I, it) :: q :: (d, W.listOf us.toArray nn) :: post) →
      wpAny (model prog w) A (execs body env) (TookTurn h₀ env.locals { s with heap := h, toks := tk } I it x m₀ q d post (keepIf p l k)) E { s with heap := h, toks := tk })
    (done : ∀ (us : List Value) (nn : Nat) (u : Option Value) (h : Heap) (tk : Nat), IntsAre us ((stepKs a₀ c n).filter p) → us.length ≤ n → Fr h₀ env.locals h (fun y => if y = x then u else m₀ y) → News h₀ env.locals h (q :: (d, W.listOf us.toArray nn) :: post) → Q .next { s with heap := h, toks := tk }) :
    wpAny (model prog w) A (pyIter (.ref r)) (fun it s₂ => LoopAtV prog w A h₀ env x body Q E it s₂) E s := by
  refine krs_iter hh hr hsmall hn F N fun I hI => ?_
  have hIof : ∀ (us : List Value) (nn : Nat), ∀ p ∈ q :: (d, W.listOf us.toArray nn) :: post, p.1 ≠ I := by
    intro us nn p hp
    rcases List.mem_cons.mp hp with rfl | hp
    · exact Nat.ne_of_lt (hI p List.mem_cons_self)
    · rcases List.mem_cons.mp hp with rfl | hp
      · exact Nat.ne_of_lt (hI (d, W.listOf #[] n₀) (List.mem_cons_of_mem _ List.mem_cons_self))
      · exact Nat.ne_of_lt (hI p (List.mem_cons_of_mem _ (List.mem_cons_of_mem _ hp)))
  have key : ∀ (j i : Nat) (m : Str → Option Value) (us : List Value) (nn : Nat), i + j = n → (∀ z, z ≠ x → m z = m₀ z) → IntsAre us (((stepKs a₀ c n).take i).foldl (keepIf p) []) →
      KrsRest prog w A E h₀ env x body Q s I a₀ c n j i m (q :: (d, W.listOf us.toArray nn) :: post) := by
    intro j
    induction j with
    | zero =>
      intro i m us nn hij hm hi
      have e : i = n := by omega
      subst e
      refine KrsRest.zero fun h tk F' N' => ?_
      have el : (stepKs a₀ c i).take i = stepKs a₀ c i := List.take_of_length_le (by simp [stepKs])
      rw [el, keepIf_fold, List.nil_append] at hi
      refine done us nn (m x) h tk hi (by rw [hi.length]; exact Nat.le_trans (List.length_filter_le _ _) (by simp [stepKs])) ?_ N'
      have em : (fun y => if y = x then m x else m₀ y) = m := by
        funext y
        by_cases hy : y = x
        · rw [if_pos hy, hy]
        · rw [if_neg hy, hm y hy]
      rw [em]; exact F'
    | succ j ih =>
      intro i m us nn hij hm hi
      have hin : i < n := by omega
      refine KrsRest.succ rfl fun t h tk F' N' => ?_
      have em : (fun y => if y = x then some (Value.int (a₀ + (i : Int) * c) t) else m y) = fun y => if y = x then some (Value.int (a₀ + (i : Int) * c) t) else m₀ y := by
        funext y
        by_cases hy : y = x
        · rw [if_pos hy, if_pos hy]
        · rw [if_neg hy, if_neg hy, hm y hy]
      rw [em] at F'
      have hk : (stepKs a₀ c n)[i]? = some (a₀ + (i : Int) * c) := by simp [stepKs, hin]
      have hlen : us.length ≤ n := by
        rw [hi.length, keepIf_fold, List.nil_append]
        exact Nat.le_trans (List.length_filter_le _ _) (by rw [List.length_take]; omega)
      refine wpAny_mono (turn _ t _ us nn I _ h tk hI (List.mem_of_getElem? hk) hi hlen F' N') (fun f s₂ hq => ?_) fun _ _ e => e
      obtain ⟨rfl, h', tk', m', us', nn', rfl, F₂, N₂, hm', hi'⟩ := hq
      refine ⟨h', tk', m', _, rfl, F₂, N₂, hIof us' nn', ih (i + 1) m' us' nn' (by omega) hm' ?_⟩
      rw [List.take_add_one, hk, List.foldl_append]
      exact hi'
  exact key n 0 m₀ [] n₀ (by omega) (fun _ _ => rfl) (by simpa using IntsAre.nil)
end

theorem ne_above {a b : Addr} {l : List (Addr × Obj)} (h : ∀ p ∈ l, p.1 < a) (hab : @LE.le Nat _ a b) : ∀ p ∈ l, p.1 ≠ b := fun p hp => Nat.ne_of_lt (Nat.lt_of_lt_of_le (h p hp) hab)

section
variable {prog : Program} {w : World} {A : Around} {E : Value → Shared → Prop} {s : Shared}
theorem item_first {value slice : Expr} {l : Addr} {vs : List Value} {n : Int} {ns : List Int} {u : Tok} {Q : Value → Shared → Prop} (hl : s.heap.IsList l vs.toArray) (hi : IntsAre vs (n :: ns)) (h : ∀ t, Q (.int n t) s)
    (hs : subscripted slice false (.ref l) (.int 0 u) = operate [.ref l, .int 0 u] (getItem (.ref l) (.int 0 u)) := by with_unfolding_all rfl) :
    wpAny (model prog w) A (subscriptTail value slice (.ref l) (.int 0 u)) Q E s :=
  item_list_intsT hl hi (Int.le_refl 0) (by simp) (by decide) h hs
theorem notin_hit {t : Addr} {items : Array Value} {ns : List Int} {x : Int} {u : Tok} {Q : Value → Shared → Prop} (ht : IsTup s.heap t items) (hi : IntsAre items.toList ns) (hx : ns.any (· == x) = true)
    (h : Q (.bool false) s) : wpAny (model prog w) A (compareOp .NotIn (.int x u) (.ref t)) Q E s :=
  notin_tuple_ints ht hi (by rw [hx]; exact h)
theorem truth_some {l : Addr} {vs : List Value} {n : Int} {ns : List Int} {Q : Bool → Shared → Prop} (hl : s.heap.IsList l vs.toArray) (hi : IntsAre vs (n :: ns)) (hfit : ns.length < 1000)
    (h : Q true { s with toks := s.toks + 1 + 1 }) : wpAny (model prog w) A (truthy (.ref l)) Q E s :=
  truthy_ints_fit hl hi (by simp; omega) (by simpa using h)
end

section
variable {prog : Program} {w : World} {A : Around} {E : Value → Shared → Prop} {s : Shared} {h₀ : Heap} {L l : Addr} {m : Str → Option Value} {news : List (Addr × Obj)} {vs : List Value} {ns : List Int} {value slice : Expr} {Q : Value → Shared → Prop} {t : Tok}
theorem slice_upto {y : Int} (F : Fr h₀ L s.heap m) (N : News h₀ L s.heap news) (hl : s.heap.IsList l vs.toArray) (hi' : IntsAre vs ns) (hz : ns.length ≤ 1000) (hy : 0 ≤ y)
    (h : ∀ D ws h', Fr h₀ L h' m → News h₀ L h' ((D, W.listOf (List.toArray ws) 0) :: news) → (∀ p ∈ news, p.1 < D) → IntsAre ws (ns.take y.toNat) → Q (.ref D) { s with heap := h' })
    (hs : subscripted slice false (.ref l) (.ref s.heap.objs.size) = operate [.ref s.heap.objs.size, .ref l] (getItem (.ref l) (.ref s.heap.objs.size))) (ht : ∀ r, letTemporaryGo value (.ref l) r = pure ()) :
    wpAny (model prog w) A (subscriptTail value slice (.ref l) (.ref s.heap.objs.size)) Q E { s with heap := s.heap.push { cls := .type "slice", data := .fields #[.none, .int y t, .none] } } :=
  kmk_slice_ints F N hl .none (.int _ _) hi' (kmk_upto hi' hy) rfl (fun D ws h' F' N' l1 hi _ _ => h D ws h' F' N' l1 hi) hs ht (by rw [List.size_toArray, hi'.length, PySem.sizeLine_eq]; omega)
end

section
variable {prog : Program} {w : World} {A : Around} {E : Value → Shared → Prop} {s : Shared} {h₀ : Heap} {L l : Addr} {m : Str → Option Value} {news : List (Addr × Obj)} {vs : List Value} {ns : List Int} {Q : Value → Shared → Prop}
theorem sorted_known (W : List Int) (F : Fr h₀ L s.heap m) (N : News h₀ L s.heap news) (hl : s.heap.IsList l vs.toArray) (hi : IntsAre vs ns) (h64 : ns.length < 64) (hp : ns.Perm W) (hW : W.Pairwise (· ≤ ·))
    (h : ∀ D vs' c h', Fr h₀ L h' m → News h₀ L h' ((D, PySem.W.listOf vs'.toArray c) :: news) → (∀ q ∈ news, q.1 < D) → IntsAre vs' W → Q (.ref D) { s with heap := h' }) :
    wpAny (model prog w) A (call (.builtin "sorted") [.ref l]) Q E s :=
  kso_sorted F N hl hi h64 fun D vs' ns' c h' F' N' l1 hi' _ hp' hs' _ => by
    have e : ns' = W := (hp'.trans hp).eq_of_pairwise (fun a b _ _ h1 h2 => Int.le_antisymm h1 h2) hs' hW
    exact h D vs' c h' F' N' l1 (e ▸ hi')
end

/-! ## Plain law: day numbers and leap days -/
def leapDays (y n : Int) : Int := (((rangeKs y n.toNat).filter leapB).length : Int)
theorem leapB_iff (y : Int) : leapB y = true ↔ (y % 4 = 0 ∧ (y % 100 ≠ 0 ∨ y % 400 = 0)) := by
  unfold leapB
  rw [Int.fmod_eq_emod_of_nonneg _ (by decide), Int.fmod_eq_emod_of_nonneg _ (by decide), Int.fmod_eq_emod_of_nonneg _ (by decide)]
  simp
/-- leap years up to n, from a far origin -/
def upTo (n : Int) : Int := n / 4 - n / 100 + n / 400
theorem upTo_step (n : Int) : upTo n - upTo (n - 1) = if leapB n = true then 1 else 0 := by
  unfold upTo
  by_cases h : leapB n = true
  · rw [if_pos h]; rw [leapB_iff] at h; omega
  · rw [if_neg h]; rw [leapB_iff] at h; omega
/-- the day number's part that turns by the year alone: from the year z on -/
theorem toJd_early (y mo d : Int) (h : ¬ 2 < mo) : toJd y mo d = 1721425 + 365 * (y - 1) + upTo (y - 1) + ((367 * mo - 362).fdiv 12 + d) := by
  unfold toJd adjI upTo
  rw [if_pos (by omega)]
  rw [Int.fdiv_eq_ediv_of_nonneg (y - 1) (by decide), Int.fdiv_eq_ediv_of_nonneg (y - 1) (by decide), Int.fdiv_eq_ediv_of_nonneg (y - 1) (by decide)]
  omega
theorem toJd_late (y mo d : Int) (h : 2 < mo) : toJd y mo d = 1721425 + 365 * (y - 1) + upTo y + ((367 * mo - 362).fdiv 12 + d - 2) := by
  have hs := upTo_step y
  unfold toJd adjI
  rw [if_neg (by omega)]
  rw [Int.fdiv_eq_ediv_of_nonneg (y - 1) (by decide), Int.fdiv_eq_ediv_of_nonneg (y - 1) (by decide), Int.fdiv_eq_ediv_of_nonneg (y - 1) (by decide)]
  have e : upTo (y - 1) = (y - 1) / 4 - (y - 1) / 100 + (y - 1) / 400 := rfl
  split at hs <;> rename_i hl <;> simp only [hl, if_true, if_false] <;> (try simp only [Bool.false_eq_true, if_false]) <;> omega
/-- leap days from the year z on, k years -/
def gone (z k : Int) : Int := upTo (z + k - 1) - upTo (z - 1)
theorem leapDays_succ (y : Int) (n : Nat) : leapDays y ((n : Int) + 1) = leapDays y n + if leapB (y + n) = true then 1 else 0 := by
  unfold leapDays
  have e1 : ((n : Int) + 1).toNat = n + 1 := by omega
  have e2 : ((n : Int)).toNat = n := by omega
  rw [e1, e2]
  have e3 : rangeKs y (n + 1) = rangeKs y n ++ [y + (n : Int)] := by
    unfold rangeKs
    rw [List.range_succ, List.map_append]; rfl
  rw [e3, List.filter_append, List.length_append, List.filter_cons]
  split <;> simp
theorem leapDays_gone (y : Int) : ∀ n : Nat, leapDays y n = gone y n
  | 0 => by simp [leapDays, gone, rangeKs]
  | n + 1 => by
    have h := leapDays_succ y n
    have hs := upTo_step (y + n)
    have ih := leapDays_gone y n
    rw [Int.natCast_succ, h, ih]
    unfold gone
    have e1 : y + ((n : Int) + 1) - 1 = y + n := by omega
    rw [e1]
    omega
theorem jd_shift (y mo d k : Int) : toJd (y + k) mo d = toJd y mo d + 365 * k + gone (y + 1 - (if 2 < mo then 0 else 1)) k := by
  by_cases h : 2 < mo
  · rw [if_pos h, toJd_late _ _ _ h, toJd_late _ _ _ h]
    unfold gone
    rw [show y + 1 - 0 + k - 1 = y + k by omega, show y + 1 - 0 - 1 = y by omega]
    omega
  · rw [if_neg h, toJd_early _ _ _ h, toJd_early _ _ _ h]
    unfold gone
    rw [show y + 1 - 1 + k - 1 = y + k - 1 by omega, show y + 1 - 1 - 1 = y - 1 by omega]
    omega
theorem gone_round (z q k : Int) : gone (z + 400 * q) k = gone z k := by
  unfold gone upTo
  omega

/-! ## Plain law: the first return of a birthday's weekday -/
theorem fmod7 (a : Int) : a.fmod 7 = a % 7 := Int.fmod_eq_emod_of_nonneg _ (by decide)
/-- the weekday comes back behind k years -/
def back (z k : Int) : Bool := decide ((k + gone z k) % 7 = 0)
theorem back_round (z k : Int) : back z k = back (z % 400) k := by
  have e : z = z % 400 + 400 * (z / 400) := by omega
  unfold back
  conv => lhs; rw [e, gone_round]
def toldE (y mo d k : Int) : Bool := decide ((toJd (y + k) mo d).fmod 7 = (toJd y mo d).fmod 7)
theorem toldE_back (y mo d k : Int) : toldE y mo d k = back (y + 1 - (if 2 < mo then 0 else 1)) k := by
  unfold toldE back
  rw [jd_shift, fmod7, fmod7]
  generalize gone _ k = g
  generalize toJd y mo d = j
  exact decide_eq_decide.mpr (by omega)
def firstIn (vs l : List Int) : Bool := match l with
  | v :: _ => vs.any (· == v)
  | [] => false
theorem firstIn_some {vs l : List Int} (h : firstIn vs l = true) : ∃ v r, l = v :: r ∧ vs.any (· == v) = true := by
  match l, h with
  | v :: r, h => exact ⟨v, r, rfl, h⟩
theorem early_all : (List.range 400).all (fun n => firstIn [5, 6, 7, 11, 12] ((rangeKs 1 12).filter (back (n : Int)))) = true := by decide +kernel
theorem early_back (z : Int) : firstIn [5, 6, 7, 11, 12] ((rangeKs 1 12).filter (back z)) = true := by
  have h := List.all_eq_true.mp early_all (z % 400).toNat (List.mem_range.mpr (by omega))
  have e : (((z % 400).toNat : Nat) : Int) = z % 400 := by omega
  rw [e] at h
  rw [show back z = back (z % 400) from funext fun k => back_round z k]
  exact h
theorem bornEarly (y mo d : Int) : ∃ v r, (rangeKs 1 12).filter (toldE y mo d) = v :: r ∧ ([5, 6, 7, 11, 12] : List Int).any (· == v) = true ∧ (0 ≤ v ∧ v ≤ 1000) ∧ toJd (y + v) mo d = toJd y mo d + 365 * v + leapDays (y + 1 - (if 2 < mo then 0 else 1)) v := by
  have h := early_back (y + 1 - (if 2 < mo then 0 else 1))
  rw [← show toldE y mo d = back (y + 1 - (if 2 < mo then 0 else 1)) from funext fun k => toldE_back y mo d k] at h
  obtain ⟨v, r, e, hv⟩ := firstIn_some h
  have hb : 0 ≤ v ∧ v ≤ 1000 := by
    simp only [List.any_cons, List.any_nil, Bool.or_false, Bool.or_eq_true, beq_iff_eq] at hv
    omega
  refine ⟨v, r, e, hv, hb, ?_⟩
  have hd := leapDays_gone (y + 1 - (if 2 < mo then 0 else 1)) v.toNat
  rw [show ((v.toNat : Nat) : Int) = v by omega] at hd
  rw [jd_shift, hd]

def told29 (yr k : Int) : Bool := leapB (yr + k) && decide ((toJd (yr + k) 2 29).fmod 7 = (toJd yr 2 29).fmod 7)
theorem leapB_round (y : Int) : leapB y = leapB (y % 400) := by
  rw [Bool.eq_iff_iff, leapB_iff, leapB_iff]; omega
def back29 (z k : Int) : Bool := leapB (z + k) && back z k
theorem told29_back (yr k : Int) : told29 yr k = back29 yr k := by
  have h := toldE_back yr 2 29 k
  rw [if_neg (by decide), show yr + 1 - 1 = yr by omega] at h
  show (leapB (yr + k) && toldE yr 2 29 k) = _
  rw [h]; rfl
theorem back29_round (z k : Int) : back29 z k = back29 (z % 400) k := by
  unfold back29
  rw [back_round, leapB_round (z + k), leapB_round (z % 400 + k)]
  have e : (z % 400 + k) % 400 = (z + k) % 400 := by omega
  rw [e]
theorem late_all : (List.range 400).all (fun n => !leapB (n : Int) || firstIn [12, 28, 40] ((stepKs 4 4 10).filter (back29 (n : Int)))) = true := by decide +kernel
theorem born29 (yr : Int) (h : leapB yr = true) : ∃ v r, (stepKs 4 4 10).filter (told29 yr) = v :: r ∧ (v = 12 ∨ v = 28 ∨ v = 40) ∧ leapB (yr + v) = true ∧ toJd (yr + v) 2 29 = toJd yr 2 29 + 365 * v + leapDays (yr + 1) v := by
  have hk := List.all_eq_true.mp late_all (yr % 400).toNat (List.mem_range.mpr (by omega))
  have e : (((yr % 400).toNat : Nat) : Int) = yr % 400 := by omega
  rw [e, ← leapB_round, h, Bool.not_true, Bool.false_or, ← show back29 yr = back29 (yr % 400) from funext fun k => back29_round yr k] at hk
  rw [← show told29 yr = back29 yr from funext fun k => told29_back yr k] at hk
  obtain ⟨v, r, e2, hv⟩ := firstIn_some hk
  have hv' : v = 12 ∨ v = 28 ∨ v = 40 := by
    simp only [List.any_cons, List.any_nil, Bool.or_false, Bool.or_eq_true, beq_iff_eq] at hv
    omega
  have hm : v ∈ (stepKs 4 4 10).filter (told29 yr) := by rw [e2]; exact List.mem_cons_self
  have ht := (List.mem_filter.mp hm).2
  have hl : leapB (yr + v) = true := by
    unfold told29 at ht
    rw [Bool.and_eq_true] at ht
    exact ht.1
  refine ⟨v, r, e2, hv', hl, ?_⟩
  have hd := leapDays_gone (yr + 1) v.toNat
  rw [show ((v.toNat : Nat) : Int) = v by omega] at hd
  rw [jd_shift, hd, if_neg (by decide)]
  have s1 := upTo_step yr
  have s2 := upTo_step (yr + v)
  rw [if_pos h] at s1
  rw [if_pos hl] at s2
  unfold gone
  rw [show yr + 1 - 1 + v - 1 = yr + v - 1 by omega, show yr + 1 - 1 - 1 = yr - 1 by omega, show yr + 1 + v - 1 = yr + v by omega, show yr + 1 - 1 = yr by omega]
  omega

/-! ## Contracts: _law_long, weeks_per_year -/

section
/- the walk keeps its table of lines till their number turns: rows that serve nothing make the number a new one -/
local macro_rules | `(tactic| walk_at "none 0") => `(tactic| fail)
local macro_rules | `(tactic| walk_at "call ref") => `(tactic| (k_here; (with_reducible show wpAny _ _ (call (Value.ref 21) [Value.int _ _]) _ _ _); k_dflt (refine isleap_cl _ _ _ _ _ _ _ _ _ _ _ _ _ _ _ _ _ _ _ _ _ _ _ _ (by k_asm) (by k_asm) (by k_asm) (by k_asm) (by k_asm) (by first | exact rfl | assumption) (by trivial) (by ktr_room) (by ktr_units) ?_); intro t9 h9 tk9 F9 N9; (try dsimp only); (try k_fold)))
local macro_rules | `(tactic| walk_at "call ref") => `(tactic| (k_here; (with_reducible show wpAny _ _ (call (Value.ref 28) [Value.int _ _]) _ _ _); k_dflt (refine jwday_cl _ _ _ _ _ _ _ _ _ _ _ _ _ _ _ _ _ _ _ _ _ _ _ _ (by k_asm) (by k_asm) (by k_asm) (by k_asm) (by k_asm) (by first | exact rfl | assumption) (by trivial) (by ktr_room) (by ktr_units) ?_); intro t9 h9 tk9 F9 N9; (try dsimp only); (try k_fold)))
local macro_rules | `(tactic| walk_at "call ref") => `(tactic| (k_here; (with_reducible show wpAny _ _ (call (Value.ref 36) [Value.int _ _, Value.int _ _, Value.int _ _]) _ _ _); k_dflt (refine legal_cl _ _ _ _ _ _ _ _ _ _ _ _ _ _ _ _ _ _ _ _ _ _ _ _ _ _ _ _ (by k_asm) (by k_asm) (by k_asm) (by k_asm) (by k_asm) (by first | exact rfl | assumption) (by (first | assumption | omega)) (by ktr_room) (by ktr_units) ?_); intro t9 h9 tk9 F9 N9; (try dsimp only); (try k_fold)))
local macro_rules | `(tactic| walk_at "call ref") => `(tactic| (k_here; (with_reducible show wpAny _ _ (call (Value.ref 36) [Value.int _ _, Value.int _ _, Value.int _ _]) _ _ _); k_dflt (refine legal29_cl _ _ _ _ _ _ _ _ _ _ _ _ _ _ _ _ _ _ _ _ _ _ _ _ _ _ (by k_asm) (by k_asm) (by k_asm) (by k_asm) (by k_asm) (by first | exact rfl | assumption) (by assumption) (by ktr_room) (by ktr_units) ?_); intro t9 h9 tk9 F9 N9; (try dsimp only); (try k_fold)))
local macro_rules | `(tactic| walk_at "call ref") => `(tactic| (k_here; (with_reducible show wpAny _ _ (call (Value.ref 43) [Value.int _ _, Value.int _ _, Value.int _ _]) _ _ _); k_dflt (refine jd_cl _ _ _ _ _ _ _ _ _ _ _ _ _ _ _ _ _ _ _ _ _ _ _ _ _ _ _ _ (by k_asm) (by k_asm) (by k_asm) (by k_asm) (by k_asm) (by first | exact rfl | assumption) (by (first | assumption | omega)) (by ktr_room) (by ktr_units) ?_); intro t9 h9 tk9 F9 N9; (try dsimp only); (try k_fold)))
local macro_rules | `(tactic| walk_at "call ref") => `(tactic| (k_here; (with_reducible show wpAny _ _ (call (Value.ref 43) [Value.int _ _, Value.int _ _, Value.int _ _]) _ _ _); k_dflt (refine jd29_cl _ _ _ _ _ _ _ _ _ _ _ _ _ _ _ _ _ _ _ _ _ _ _ _ _ _ (by k_asm) (by k_asm) (by k_asm) (by k_asm) (by k_asm) (by first | exact rfl | assumption) (by assumption) (by ktr_room) (by ktr_units) ?_); intro t9 h9 tk9 F9 N9; (try dsimp only); (try k_fold)))

theorem long_leap (y : Int) : leapB y = decide (y.fmod (if y.fmod 100 = 0 then 400 else 4) = 0) := by
  unfold leapB
  rw [Int.fmod_eq_emod_of_nonneg _ (by decide), Int.fmod_eq_emod_of_nonneg _ (by decide), Int.fmod_eq_emod_of_nonneg _ (by decide)]
  by_cases h : y % 100 = 0
  · rw [if_pos h, Int.fmod_eq_emod_of_nonneg _ (by decide), decide_eq_true h]
    by_cases h2 : y % 400 = 0
    · have : y % 4 = 0 := by omega
      simp [h2, this]
    · simp [h2]
  · rw [if_neg h, Int.fmod_eq_emod_of_nonneg _ (by decide), decide_eq_false h]
    simp
def weeksI (y : Int) : Int := if (toJd y 1 1).fmod 7 = 3 then 53 else if (toJd y 1 1).fmod 7 = 2 then (if leapB y = true then 53 else 52) else 52
set_option maxRecDepth 100000 in
set_option maxHeartbeats 8000000 in
theorem long_cl (w : World) (s₀ : Shared) (mg mb : Str → Option Value) (y : Int) (ty : Tok) :
    ClK PySem.Challenge.rw_bb0028_01.row.prog w (hd.heap_39 w.params) hd.view_39 (looseW hd.view_39 []) (ExcName.means s₀.heap) mg mb 57 1 True [.int y ty] (fun _ => .bool (leapB y)) := by
  k_with_none
  k_with "tree" => (rw [long_leap]; simp_all)
  k_fill
  intro dp un gd cn cs a ccd cl outer A₀ base h₀ L m news s Q E hB hF hK hN hT hk hp hd1 hu hret
  refine wpAny_call ?_
  k_dflt cell_enter
  k_steps
  all_goals cb_end hret
set_option maxRecDepth 100000 in
set_option maxHeartbeats 8000000 in
theorem weeks_cl (w : World) (s₀ : Shared) (mg mb : Str → Option Value) (y : Int) (ty : Tok) :
    ClK PySem.Challenge.rw_bb0028_01.row.prog w (hd.heap_39 w.params) hd.view_39 (looseW hd.view_39 []) (ExcName.means s₀.heap) mg mb 50 4 True [.int y ty] (fun t => .int (weeksI y) t) := by
  k_with_none
  k_with "tree" => (unfold weeksI; simp_all)
  k_fill
  intro dp un gd cn cs a ccd cl outer A₀ base h₀ L m news s Q E hB hF hK hN hT hk hp hd1 hu hret
  refine wpAny_call ?_
  k_dflt cell_enter
  k_steps
  all_goals cb_end hret
end

/-! ## Plain law: the wheel of 28 years -/
def skipB (y : Int) : Bool := decide (y.fmod 100 = 0) && !decide (y.fmod 400 = 0)
def noSkip (Y : Int) : Prop := ¬0 < (List.foldl (keepIf skipB) [] (rangeKs Y (Y + 29 - Y).toNat)).length
theorem skipB_iff (y : Int) : skipB y = true ↔ (y % 100 = 0 ∧ y % 400 ≠ 0) := by
  unfold skipB
  rw [Int.fmod_eq_emod_of_nonneg _ (by decide), Int.fmod_eq_emod_of_nonneg _ (by decide)]
  simp
theorem noSkip_at {Y : Int} (h : noSkip Y) {k : Int} (h0 : 0 ≤ k) (h1 : k < 29) : ¬ ((Y + k) % 100 = 0 ∧ (Y + k) % 400 ≠ 0) := by
  intro hs
  apply h
  rw [keepIf_fold, List.nil_append]
  refine List.length_pos_of_mem (a := Y + k) (List.mem_filter.mpr ⟨?_, (skipB_iff _).mpr hs⟩)
  unfold rangeKs
  exact List.mem_map.mpr ⟨k.toNat, List.mem_range.mpr (by omega), by omega⟩
theorem leap4 {Y : Int} (h : noSkip Y) {k : Int} (h0 : 0 ≤ k) (h1 : k < 29) : leapB (Y + k) = true ↔ (Y + k) % 4 = 0 := by
  have := noSkip_at h h0 h1
  rw [leapB_iff]
  omega
/-- leap days where every fourth year has one -/
def quad (z k : Int) : Int := (z + k - 1) / 4 - (z - 1) / 4
theorem gone_quad {Y z : Int} (h : noSkip Y) (hz : z = Y ∨ z = Y + 1) : ∀ n : Nat, (n : Int) ≤ 28 → gone z n = quad z n
  | 0, _ => by simp [gone, quad]
  | n + 1, hn => by
    have ih := gone_quad h hz n (by omega)
    have hs := upTo_step (z + n)
    have hl : leapB (z + n) = true ↔ (z + (n : Int)) % 4 = 0 := by
      rcases hz with e | e
      · rw [e]; exact leap4 h (by omega) (by omega)
      · have := leap4 h (k := 1 + (n : Int)) (by omega) (by omega)
        rw [e, show Y + 1 + (n : Int) = Y + (1 + n) by omega]
        exact this
    unfold gone quad at *
    rw [Int.natCast_succ, show z + ((n : Int) + 1) - 1 = z + n by omega]
    by_cases h4 : (z + (n : Int)) % 4 = 0
    · rw [if_pos (hl.mpr h4)] at hs
      omega
    · rw [if_neg (fun q => h4 (hl.mp q))] at hs
      omega
/-- the weekday k years behind -/
def dayOf (w z k : Int) : Int := (w + k + quad z k) % 7
theorem quad_round (z k : Int) : quad z k = quad (z % 4) k := by
  unfold quad; omega
theorem day_at {Y : Int} (h : noSkip Y) (mo d : Int) {k : Int} (h0 : 0 ≤ k) (h1 : k < 29) :
    (toJd (Y + k) mo d).fmod 7 = dayOf ((toJd Y mo d) % 7) ((Y + 1 - (if 2 < mo then 0 else 1)) % 4) k := by
  have hg := gone_quad (z := Y + 1 - (if 2 < mo then 0 else 1)) h (by split <;> omega) k.toNat (by omega)
  rw [show ((k.toNat : Nat) : Int) = k by omega] at hg
  unfold dayOf
  rw [fmod7, jd_shift, hg, ← quad_round]
  generalize quad _ k = g
  generalize toJd Y mo d = j
  omega
theorem days_map {Y : Int} (h : noSkip Y) (mo d : Int) : List.map (fun k' => (toJd (Y + k') mo d).fmod 7) (rangeKs 0 ((29 : Int) - 0).toNat) =
    List.map (dayOf ((toJd Y mo d) % 7) ((Y + 1 - (if 2 < mo then 0 else 1)) % 4)) (rangeKs 0 29) := by
  refine List.map_congr_left fun k hk => ?_
  have := mem_rangeKs hk
  exact day_at h mo d (by omega) (by omega)
def countsOk (w z : Int) : Bool := decide (List.map (fun k' => ((List.count k' (List.take 28 (List.map (dayOf w z) (rangeKs 0 29))) : Nat) : Int)) (rangeKs 0 7) = [4, 4, 4, 4, 4, 4, 4])
def backOk (w z : Int) : Bool := decide ((List.map (dayOf w z) (rangeKs 0 29)).getD 28 0 = (List.map (dayOf w z) (rangeKs 0 29)).getD 0 0)
theorem wheel_all : (List.range 7).all (fun w => (List.range 4).all fun z => countsOk w z && backOk w z) = true := by decide +kernel
theorem wheel_at (a b : Int) : countsOk (a % 7) (b % 4) = true ∧ backOk (a % 7) (b % 4) = true := by
  have h := List.all_eq_true.mp wheel_all (a % 7).toNat (List.mem_range.mpr (by omega))
  have h2 := List.all_eq_true.mp h (b % 4).toNat (List.mem_range.mpr (by omega))
  rw [show (((a % 7).toNat : Nat) : Int) = a % 7 by omega, show (((b % 4).toNat : Nat) : Int) = b % 4 by omega, Bool.and_eq_true] at h2
  exact h2
theorem wheel_counts (Y mo dd : Int) (h : noSkip Y) : List.map (fun k' => ((List.count k' (List.take (Int.toNat 28) (List.map (fun k' => (toJd (Y + k') mo dd).fmod 7) (rangeKs 0 ((29 : Int) - 0).toNat))) : Nat) : Int)) (rangeKs 0 ((7 : Int) - 0).toNat) = [4, 4, 4, 4, 4, 4, 4] := by
  rw [days_map h]
  exact of_decide_eq_true (wheel_at _ _).1
theorem wheel_back (Y mo dd : Int) (h : noSkip Y) : (List.map (fun k' => (toJd (Y + k') mo dd).fmod 7) (rangeKs 0 ((29 : Int) - 0).toNat)).getD (Int.toNat 28) 0 = (List.map (fun k' => (toJd (Y + k') mo dd).fmod 7) (rangeKs 0 ((29 : Int) - 0).toNat)).getD (Int.toNat 0) 0 := by
  rw [days_map h]
  exact of_decide_eq_true (wheel_at _ _).2
def weeksW : List Int := List.replicate 23 52 ++ List.replicate 5 53
theorem weeksW_up : weeksW.Pairwise (· ≤ ·) := by decide
def weeksAt (w z k : Int) : Int := if dayOf w z k = 3 then 53 else if dayOf w z k = 2 then (if (z + k) % 4 = 0 then 53 else 52) else 52
theorem weeks_at {Y : Int} (h : noSkip Y) {k : Int} (h0 : 0 ≤ k) (h1 : k < 28) : weeksI (Y + k) = weeksAt ((toJd Y 1 1) % 7) (Y % 4) k := by
  have hd := day_at h 1 1 h0 (show k < 29 by omega)
  rw [if_neg (by decide), show Y + 1 - 1 = Y by omega] at hd
  have hl := leap4 h h0 (show k < 29 by omega)
  unfold weeksI weeksAt
  rw [hd]
  have e : (Y % 4 + k) % 4 = (Y + k) % 4 := by omega
  rw [e]
  by_cases h4 : (Y + k) % 4 = 0
  · rw [if_pos h4, if_pos (hl.mpr h4)]
  · rw [if_neg h4, if_neg (fun q => h4 (hl.mp q))]
theorem weeks_all : (List.range 7).all (fun w => (List.range 4).all fun z => (List.map (weeksAt (w : Int) (z : Int)) (rangeKs 0 28)).isPerm weeksW) = true := by decide +kernel
theorem weeks_perm (Y : Int) (h : noSkip Y) : (List.map (fun k' => weeksI (Y + k')) (rangeKs 0 ((28 : Int) - 0).toNat)).Perm weeksW := by
  have e : List.map (fun k' => weeksI (Y + k')) (rangeKs 0 ((28 : Int) - 0).toNat) = List.map (weeksAt ((toJd Y 1 1) % 7) (Y % 4)) (rangeKs 0 28) := by
    refine List.map_congr_left fun k hk => ?_
    have := mem_rangeKs hk
    exact weeks_at h (by omega) (by omega)
  rw [e]
  have h1 := List.all_eq_true.mp weeks_all ((toJd Y 1 1) % 7).toNat (List.mem_range.mpr (by omega))
  have h2 := List.all_eq_true.mp h1 (Y % 4).toNat (List.mem_range.mpr (by omega))
  rw [show ((((toJd Y 1 1) % 7).toNat : Nat) : Int) = (toJd Y 1 1) % 7 by omega, show (((Y % 4).toNat : Nat) : Int) = Y % 4 by omega] at h2
  exact List.isPerm_iff.mp h2

/-! ## Contract: _law_leap_days -/

section
/- the walk keeps its table of lines till their number turns: rows that serve nothing make the number a new one -/
local macro_rules | `(tactic| walk_at "none 0") => `(tactic| fail)
local macro_rules | `(tactic| walk_at "none 1") => `(tactic| fail)
local macro_rules | `(tactic| walk_at "call ref") => `(tactic| (k_here; (with_reducible show wpAny _ _ (call (Value.ref 57) [Value.int _ _]) _ _ _); k_dflt (refine long_cl _ _ _ _ _ _ _ _ _ _ _ _ _ _ _ _ _ _ _ _ _ _ _ _ (by k_asm) (by k_asm) (by k_asm) (by k_asm) (by k_asm) (by first | exact rfl | assumption) (by trivial) (by ktr_room) (by ktr_units) ?_); intro t9 h9 tk9 F9 N9; (try dsimp only); (try k_fold)))
local macro_rules | `(tactic| walk_at "eval ListComp") => `(tactic| (k_here; k_dflt (refine comp_anyRange (F₀ := by k_asm) (by with_unfolding_all rfl) (by decide) (by rfl) (by decide) (by rfl) ?_)))
local macro_rules | `(tactic| walk_at "AnyRange") => `(tactic| (k_here; k_dflt (refine AnyRange.of (by rfl) (by k_asm) (by k_asm) (by assumption) (rangeSize_nat _ _) (by rw [PySem.sizeLine_eq]; omega) ?_; intro g'; (refine' kci_range (keepIf leapB) (fun k' t' I' oI' C' oC' D' m' ys' l' h' tk' E' hlo' hhi' hI' hC' hx' F' N' off' ne' => ?_) ?_ (keepIf_grows _)); (all_goals (try (simp only [LCg.Off3, and_true] at off'))); (all_goals (try ((show KPfMark → _); intro hMark'))); kcf_last)))
local macro_rules | `(tactic| walk_at "CompEnd") => `(tactic| (refine LCg.CompEnd.intro (by assumption) (by assumption) _ (fun _ hp => hp) (by first | assumption | ((simp only [LCg.Off3, and_true]; assumption))) True.intro ?_))
local macro_rules | `(tactic| walk_at "KCiEl") => `(tactic| ((refine kci_el (keep_yes ?kce) (by with_unfolding_all rfl) (by with_unfolding_all rfl)); (first | assumption | (simp_all; done))))
local macro_rules | `(tactic| walk_at "KCiNo") => `(tactic| ((refine kci_no (keep_no ?kce) (by with_unfolding_all rfl)); (first | assumption | (simp_all; done))))
set_option maxRecDepth 100000 in
set_option maxHeartbeats 8000000 in
theorem days_cl (w : World) (s₀ : Shared) (mg mb : Str → Option Value) (y n : Int) (ty tn : Tok) :
    ClK PySem.Challenge.rw_bb0028_01.row.prog w (hd.heap_39 w.params) hd.view_39 (looseW hd.view_39 []) (ExcName.means s₀.heap) mg mb 62 4 (0 ≤ n ∧ n ≤ 1000) [.int y ty, .int n tn] (fun t => .int (leapDays y n) t) := by
  k_with_none
  k_with "tree" => (unfold leapDays; rw [keepIf_fold, show y + n - y = n by omega, List.nil_append])
  k_fill
  intro dp un gd cn cs a ccd cl outer A₀ base h₀ L m news s Q E hB hF hK hN hT hk hp hd1 hu hret
  obtain ⟨hp1, hp2⟩ := hp
  refine wpAny_call ?_
  k_dflt cell_enter
  k_steps
  all_goals cb_end hret
end

/-! ## Contract: _law_born_on_the_29th -/

section
/-- years to go to the next leap year, this one counted -/
def toLeap (y : Int) : Nat := if leapB (y + (-y) % 4) = true then ((-y) % 4).toNat else ((-y) % 4).toNat + 4
theorem toLeap_falls (y : Int) (h : leapB y = false) : toLeap (y + 1) < toLeap y := by
  have h' : ¬ (y % 4 = 0 ∧ (y % 100 ≠ 0 ∨ y % 400 = 0)) := by rw [← leapB_iff, h]; simp
  unfold toLeap
  by_cases h4 : y % 4 = 0
  · have e1 : (-y) % 4 = 0 := by omega
    have e2 : (-(y + 1)) % 4 = 3 := by omega
    rw [e1, e2, if_pos (by rw [leapB_iff]; omega), if_neg (by rw [leapB_iff]; omega)]
    decide
  · have e1 : y + 1 + (-(y + 1)) % 4 = y + (-y) % 4 := by omega
    rw [e1]
    have e2 : ((-(y + 1)) % 4).toNat < ((-y) % 4).toNat := by omega
    split <;> omega
local macro_rules | `(tactic| walk_at "call ref") => `(tactic| (k_here; (with_reducible show wpAny _ _ (call (Value.ref 21) [Value.int _ _]) _ _ _); k_dflt (refine isleap_cl _ _ _ _ _ _ _ _ _ _ _ _ _ _ _ _ _ _ _ _ _ _ _ _ (by k_asm) (by k_asm) (by k_asm) (by k_asm) (by k_asm) (by first | exact rfl | assumption) (by trivial) (by ktr_room) (by ktr_units) ?_); intro t9 h9 tk9 F9 N9; (try dsimp only); (try k_fold)))
local macro_rules | `(tactic| walk_at "call ref") => `(tactic| (k_here; (with_reducible show wpAny _ _ (call (Value.ref 28) [Value.int _ _]) _ _ _); k_dflt (refine jwday_cl _ _ _ _ _ _ _ _ _ _ _ _ _ _ _ _ _ _ _ _ _ _ _ _ (by k_asm) (by k_asm) (by k_asm) (by k_asm) (by k_asm) (by first | exact rfl | assumption) (by trivial) (by ktr_room) (by ktr_units) ?_); intro t9 h9 tk9 F9 N9; (try dsimp only); (try k_fold)))
local macro_rules | `(tactic| walk_at "call ref") => `(tactic| (k_here; (with_reducible show wpAny _ _ (call (Value.ref 43) [Value.int _ _, Value.int _ _, Value.int _ _]) _ _ _); k_dflt (refine jd29_cl _ _ _ _ _ _ _ _ _ _ _ _ _ _ _ _ _ _ _ _ _ _ _ _ _ _ (by k_asm) (by k_asm) (by k_asm) (by k_asm) (by k_asm) (by first | exact rfl | assumption) (by assumption) (by ktr_room) (by ktr_units) ?_); intro t9 h9 tk9 F9 N9; (try dsimp only); (try k_fold)))
local macro_rules | `(tactic| walk_at "call ref") => `(tactic| (k_here; (with_reducible show wpAny _ _ (call (Value.ref 57) [Value.int _ _]) _ _ _); k_dflt (refine long_cl _ _ _ _ _ _ _ _ _ _ _ _ _ _ _ _ _ _ _ _ _ _ _ _ (by k_asm) (by k_asm) (by k_asm) (by k_asm) (by k_asm) (by first | exact rfl | assumption) (by trivial) (by ktr_room) (by ktr_units) ?_); intro t9 h9 tk9 F9 N9; (try dsimp only); (try k_fold)))
local macro_rules | `(tactic| walk_at "call ref") => `(tactic| (k_here; (with_reducible show wpAny _ _ (call (Value.ref 62) [Value.int _ _, Value.int _ _]) _ _ _); k_dflt (refine days_cl _ _ _ _ _ _ _ _ _ _ _ _ _ _ _ _ _ _ _ _ _ _ _ _ _ _ (by k_asm) (by k_asm) (by k_asm) (by k_asm) (by k_asm) (by first | exact rfl | assumption) (by (first | assumption | omega)) (by ktr_room) (by ktr_units) ?_); intro t9 h9 tk9 F9 N9; (try dsimp only); (try k_fold)))
local macro_rules | `(tactic| walk_at "compareOp In int ref") => `(tactic| (k_here; (with_reducible show wpAny _ _ (compareOp CmpOp.In (Value.int _ _) (Value.ref _)) _ _ _); k_dflt (refine' in_tuple_ints ?k1 ?k2 ?_; (case k1 => kun_tup); (case k2 => first | assumption | ((repeat constructor); done)); k_whole)))
local macro_rules | `(tactic| walk_at "compareOp NotIn int ref") => `(tactic| (k_here; (with_reducible show wpAny _ _ (compareOp CmpOp.NotIn (Value.int _ _) (Value.ref _)) _ _ _); k_dflt (refine' notin_tuple_ints ?k1 ?k2 ?_; (case k1 => kun_tup); (case k2 => first | assumption | ((repeat constructor); done)); k_whole)))
local macro_rules | `(tactic| walk_at "exec While UnaryOp cons nil") => `(tactic| (k_while (fun _ (_ : Int) => True) (fun _ yr => toLeap yr) "year"))
local macro_rules | `(tactic| walk_at "pyIter ref") => `(tactic| (k_here; (with_reducible show wpAny _ _ (pyIter (Value.ref _)) (fun it s₂ => LoopAtV _ _ _ _ _ _ _ _ _ it s₂) _ _); (rename Fr _ _ _ _ => lF'); (rename News _ _ _ _ => lN'); (rename IsRange _ _ _ _ _ _ _ _ => rgX); (rename Int => yr); (with_unfolding_all refine krs_keep (n := 10) (told29 yr) (by rfl) rgX (by first | decide | rfl) (by first | decide | rfl) lF' lN' ?_ ?_); (all_goals (try clear lF' lN')); (all_goals (first | (intro k' t' l' us' nn' I' it' h' tk' l1' hk' hi' hlen' F' N'; (try k_lt l1')) | (intro us' nn' u' h' tk' hi' hlen' F' N'; obtain ⟨v', r', e', hv', hl', hj'⟩ := born29 yr (by assumption); rw [e'] at hi'; rcases hv' with hv1 | hv1 | hv1 <;> subst hv1))); (all_goals (try k_fold))))
local macro_rules | `(tactic| walk_at "call builtin:list.append") => `(tactic| (k_here; k_dflt (show wpAny _ _ (call (Value.builtin _) [Value.ref _, _]) _ _ _); k_dflt (refine append_K (by k_asm) (by k_asm) (by k_upd) ?_ (by rw [PySem.sizeLine_eq]; simp only [List.size_toArray]; omega)); intro h' F' N'))
local macro_rules | `(tactic| walk_at "truthy ref") => `(tactic| (k_here; (with_reducible show wpAny _ _ (truthy (Value.ref _)) _ _ _); k_dflt (refine truth_some (by is_list) (by assumption) (by have hz := IntsAre.length (by assumption); simp only [List.length_cons] at hz; omega) ?_)))
local macro_rules | `(tactic| walk_at "subscriptTail Name Constant ref int") => `(tactic| (k_here; (with_reducible show wpAny _ _ (subscriptTail _ _ (Value.ref _) (Value.int _ _)) _ _ _); k_dflt (refine item_first (by is_list) (by assumption) ?_ (by with_unfolding_all rfl)); intro _))
local macro_rules | `(tactic| walk_at "TookTurn") => `(tactic| ((rename News _ _ _ _ => nE'); (try simp only [List.push_toArray] at nE'); first
  | (refine took_yes (by assumption) nE' (by assumption) (by intro z hz; simp [hz]) ?_; (simp_all [told29]; done))
  | (refine took_no (by assumption) nE' (by assumption) (by intro z hz; simp [hz]) ?_; (simp_all [told29]; done))))
set_option maxRecDepth 100000 in
set_option maxHeartbeats 8000000 in
theorem b29_cl (w : World) (s₀ : Shared) (mg mb : Str → Option Value) (y : Int) (ty : Tok) :
    ClK PySem.Challenge.rw_bb0028_01.row.prog w (hd.heap_39 w.params) hd.view_39 (looseW hd.view_39 []) (ExcName.means s₀.heap) mg mb 74 8 True [.int y ty] (fun _ => .bool true) := by
  k_with_none
  k_with "measure" => (exact toLeap_falls _ (by simp_all))
  k_fill
  intro dp un gd cn cs a ccd cl outer A₀ base h₀ L m news s Q E hB hF hK hN hT hk hp hd1 hu hret
  refine wpAny_call ?_
  k_dflt cell_enter
  k_steps
  all_goals cb_end hret
end

/-! ## Contract: _law_born_early -/

section
/- the walk keeps its table of lines till their number turns: rows that serve nothing make the number a new one -/
local macro_rules | `(tactic| walk_at "none 0") => `(tactic| fail)
theorem toldE_yes {y mo d k : Int} (h : (toJd (y + k) mo d).fmod 7 = (toJd y mo d).fmod 7) : toldE y mo d k = true := decide_eq_true h
theorem toldE_no {y mo d k : Int} (h : (toJd (y + k) mo d).fmod 7 ≠ (toJd y mo d).fmod 7) : ¬ toldE y mo d k = true := fun e => h (of_decide_eq_true e)
local macro_rules | `(tactic| walk_at "call ref") => `(tactic| (k_here; (with_reducible show wpAny _ _ (call (Value.ref 28) [Value.int _ _]) _ _ _); k_dflt (refine jwday_cl _ _ _ _ _ _ _ _ _ _ _ _ _ _ _ _ _ _ _ _ _ _ _ _ (by k_asm) (by k_asm) (by k_asm) (by k_asm) (by k_asm) (by first | exact rfl | assumption) (by trivial) (by ktr_room) (by ktr_units) ?_); intro t9 h9 tk9 F9 N9; (try dsimp only); (try k_fold)))
local macro_rules | `(tactic| walk_at "call ref") => `(tactic| (k_here; (with_reducible show wpAny _ _ (call (Value.ref 43) [Value.int _ _, Value.int _ _, Value.int _ _]) _ _ _); k_dflt (refine jd_cl _ _ _ _ _ _ _ _ _ _ _ _ _ _ _ _ _ _ _ _ _ _ _ _ _ _ _ _ (by k_asm) (by k_asm) (by k_asm) (by k_asm) (by k_asm) (by first | exact rfl | assumption) (by (first | assumption | omega)) (by ktr_room) (by ktr_units) ?_); intro t9 h9 tk9 F9 N9; (try dsimp only); (try k_fold)))
local macro_rules | `(tactic| walk_at "call ref") => `(tactic| (k_here; (with_reducible show wpAny _ _ (call (Value.ref 62) [Value.int _ _, Value.int _ _]) _ _ _); k_dflt (refine days_cl _ _ _ _ _ _ _ _ _ _ _ _ _ _ _ _ _ _ _ _ _ _ _ _ _ _ (by k_asm) (by k_asm) (by k_asm) (by k_asm) (by k_asm) (by first | exact rfl | assumption) (by (first | assumption | omega)) (by ktr_room) (by ktr_units) ?_); intro t9 h9 tk9 F9 N9; (try dsimp only); (try k_fold)))
local macro_rules | `(tactic| walk_at "compareOp In int ref") => `(tactic| (k_here; (with_reducible show wpAny _ _ (compareOp CmpOp.In (Value.int _ _) (Value.ref _)) _ _ _); k_dflt (refine' in_tuple_ints ?k1 ?k2 ?_; (case k1 => kun_tup); (case k2 => first | assumption | ((repeat constructor); done)); k_whole)))
local macro_rules | `(tactic| walk_at "compareOp NotIn int ref") => `(tactic| (k_here; (with_reducible show wpAny _ _ (compareOp CmpOp.NotIn (Value.int _ _) (Value.ref _)) _ _ _); k_dflt (refine' notin_tuple_ints ?k1 ?k2 ?_; (case k1 => kun_tup); (case k2 => first | assumption | ((repeat constructor); done)); k_whole)))
local macro_rules | `(tactic| walk_at "compareOp NotIn int ref") => `(tactic| (k_here; (with_reducible show wpAny _ _ (compareOp CmpOp.NotIn (Value.int _ _) (Value.ref _)) _ _ _); k_dflt (refine notin_hit (by kun_tup) (by first | assumption | ((repeat constructor); done)) (by assumption) ?_)))

local macro_rules | `(tactic| k_all) => `(tactic| k_extra "k_all")
local macro_rules | `(tactic| walk_at "CompSrcT") => `(tactic| k_extra "CompSrcT")
local macro_rules | `(tactic| walk_at "KPfDone") => `(tactic| k_extra "KPfDone")
local macro_rules | `(tactic| walk_at "CompEnd") => `(tactic| (refine LCg.CompEnd.intro (by assumption) (by assumption) _ (fun _ hp => hp) (by first | assumption | ((simp only [LCg.Off3, and_true]; assumption))) True.intro ?_))
local macro_rules | `(tactic| walk_at "KCiEl") => `(tactic| ((refine kci_el (keep_yes (toldE_yes (by assumption))) (by with_unfolding_all rfl) (by with_unfolding_all rfl))))
local macro_rules | `(tactic| walk_at "KCiNo") => `(tactic| ((refine kci_no (keep_no (toldE_no (by assumption))) (by with_unfolding_all rfl))))
local macro_rules | `(tactic| walk_at "truthy ref") => `(tactic| (k_here; (with_reducible show wpAny _ _ (truthy (Value.ref _)) _ _ _); k_dflt (refine truth_some (by is_list) (by assumption) (by have hz := IntsAre.length (by assumption); simp only [List.length_cons] at hz; omega) ?_)))
local macro_rules | `(tactic| walk_at "subscriptTail Name Constant ref int") => `(tactic| (k_here; (with_reducible show wpAny _ _ (subscriptTail _ _ (Value.ref _) (Value.int _ _)) _ _ _); k_dflt (refine item_first (by is_list) (by assumption) ?_ (by with_unfolding_all rfl)); intro _))
set_option maxRecDepth 100000 in
set_option maxHeartbeats 8000000 in
theorem early_cl (w : World) (s₀ : Shared) (mg mb : Str → Option Value) (y mo d : Int) (ty tm td : Tok) :
    ClK PySem.Challenge.rw_bb0028_01.row.prog w (hd.heap_39 w.params) hd.view_39 (looseW hd.view_39 []) (ExcName.means s₀.heap) mg mb 67 8 (1 ≤ mo ∧ mo ≤ 12 ∧ 1 ≤ d ∧ d ≤ 28) [.int y ty, .int mo tm, .int d td] (fun _ => .bool true) := by
  k_with_none
  k_with "k_all" => (exact ne_above l1 (by first | omega | (simp only []; omega)))
  k_with "CompSrcT" => (k_here; k_dflt (refine LCt.CompSrcT.range (n := 12) (by rfl) (by k_asm) (by k_asm) (by assumption) (by first | decide | rfl) (by first | decide | rfl) (by rw [PySem.sizeLine_eq]; omega) ?_; intro g'; (refine' kci_range (keepIf (toldE y mo d)) (fun k' t' I' oI' C' oC' D' m' ys' l' h' tk' E' hlo' hhi' hI' hC' hx' F' N' off' ne' => ?_) ?_ (keepIf_grows _)); (all_goals (try (simp only [LCg.Off3, and_true] at off'))); (all_goals (try ((show KPfMark → _); intro hMark'))); kcf_last))
  k_with "KPfDone" => (unfold KPfDone; intro ys9 hI9 hB9; rw [keepIf_fold, List.nil_append] at hI9; obtain ⟨v9, r9, e9, hv9, hb9, hj9⟩ := bornEarly y mo d; rw [e9] at hI9; clear e9)
  k_fill
  intro dp un gd cn cs a ccd cl outer A₀ base h₀ L m news s Q E hB hF hK hN hT hk hp hd1 hu hret
  obtain ⟨hp1, hp2, hp3, hp4⟩ := hp
  refine wpAny_call ?_
  k_dflt (refine' code_defC ?k1 ?k2 ?k3 ?k4 ?k5 ?kA ?kF ?kK ?k6 ?k7 ?k8 ?k9 ?kB ?kD ?_ ?c2 ?c3 ?c4; (case kA => exact rfl); (case kF => exact rfl); (case kK => assumption); (case k1 => k_asm); (case k2 => k_asm); (case k3 => k_asm); (case k4 => k_asm); (case k5 => k_asm); (case k6 => k_is); (case k7 => k_is); (case k8 => ktr_room); (case k9 => exact BindsTo.of_eq rfl); (case kB => exact rfl); (case kD => decide +kernel); (case c2 => exact rfl); (case c3 => exact rfl); (case c4 => exact rfl); k_whole; intro g' L' h' tk' cells' FG' F' N' Y' B' X' T' l1; (try k_lt l1); k_cells Y'; (try simp only [List.cons_append, List.nil_append] at N'); (try dsimp only); (try k_lift B'); (try k_fold))
  k_steps
  all_goals cb_end hret
end

/-! ## The law -/

section
theorem skip_yes {y : Int} (h : y.fmod 100 = 0) (h' : y.fmod 400 ≠ 0) : skipB y = true := by unfold skipB; rw [decide_eq_true h, decide_eq_false h']; rfl
theorem skip_no1 {y : Int} (h : y.fmod 100 ≠ 0) : ¬ skipB y = true := by unfold skipB; rw [decide_eq_false h]; simp
theorem skip_no2 {y : Int} (h : y.fmod 400 = 0) : ¬ skipB y = true := by unfold skipB; rw [decide_eq_true h]; simp

section
variable {prog : Program} {w : World} {A : Around} {E : Value → Shared → Prop} {s : Shared}
theorem ne_ints_eq {a b : Addr} {vs us : List Value} {ns ms : List Int} {Q : Value → Shared → Prop} (hl : s.heap.IsList a vs.toArray) (hi : IntsAre vs ns) (hl' : s.heap.IsList b us.toArray) (hi' : IntsAre us ms) (hu : A.units + 64 < cLine) (e : ns = ms)
    (h : Q (.bool false) s) : wpAny (model prog w) A (compareOp .NotEq (.ref a) (.ref b)) Q E s :=
  ne_intsK hl hi hl' hi' hu (by rw [decide_eq_true e]; exact h)
theorem eq_ints_eq {a b : Addr} {vs us : List Value} {ns ms : List Int} {Q : Value → Shared → Prop} (hl : s.heap.IsList a vs.toArray) (hi : IntsAre vs ns) (hl' : s.heap.IsList b us.toArray) (hi' : IntsAre us ms) (hu : A.units + 64 < cLine) (e : ns = ms)
    (h : Q (.bool true) s) : wpAny (model prog w) A (compareOp .Eq (.ref a) (.ref b)) Q E s :=
  eq_intsK hl hi hl' hi' hu (by rw [decide_eq_true e]; exact h)
theorem ne_int_eq {a b : Int} {t u : Tok} {Q : Value → Shared → Prop} (e : a = b) (h : Q (.bool false) s) : wpAny (model prog w) A (compareOp .NotEq (.int a t) (.int b u)) Q E s :=
  ne_int (by rw [e]; simpa using h)
end
local macro_rules | `(tactic| walk_at "call ref") => `(tactic| (k_here; (with_reducible show wpAny _ _ (call (Value.ref 28) [Value.int _ _]) _ _ _); k_dflt (refine jwday_cl _ _ _ _ _ _ _ _ _ _ _ _ _ _ _ _ _ _ _ _ _ _ _ _ (by k_asm) (by k_asm) (by k_asm) (by k_asm) (by k_asm) (by first | exact rfl | assumption) (by trivial) (by ktr_room) (by ktr_units) ?_); intro t9 h9 tk9 F9 N9; (try dsimp only); (try k_fold)))
local macro_rules | `(tactic| walk_at "call ref") => `(tactic| (k_here; (with_reducible show wpAny _ _ (call (Value.ref 43) [Value.int _ _, Value.int _ _, Value.int _ _]) _ _ _); k_dflt (refine jd_cl _ _ _ _ _ _ _ _ _ _ _ _ _ _ _ _ _ _ _ _ _ _ _ _ _ _ _ _ (by k_asm) (by k_asm) (by k_asm) (by k_asm) (by k_asm) (by first | exact rfl | assumption) (by (first | assumption | omega)) (by ktr_room) (by ktr_units) ?_); intro t9 h9 tk9 F9 N9; (try dsimp only); (try k_fold)))
local macro_rules | `(tactic| walk_at "call ref") => `(tactic| (k_here; (with_reducible show wpAny _ _ (call (Value.ref 50) [Value.int _ _]) _ _ _); k_dflt (refine weeks_cl _ _ _ _ _ _ _ _ _ _ _ _ _ _ _ _ _ _ _ _ _ _ _ _ (by k_asm) (by k_asm) (by k_asm) (by k_asm) (by k_asm) (by first | exact rfl | assumption) (by trivial) (by ktr_room) (by ktr_units) ?_); intro t9 h9 tk9 F9 N9; (try dsimp only); (try k_fold)))
local macro_rules | `(tactic| walk_at "call ref") => `(tactic| (k_here; (with_reducible show wpAny _ _ (call (Value.ref 67) [Value.int _ _, Value.int _ _, Value.int _ _]) _ _ _); k_dflt (refine early_cl _ _ _ _ _ _ _ _ _ _ _ _ _ _ _ _ _ _ _ _ _ _ _ _ _ _ _ _ (by k_asm) (by k_asm) (by k_asm) (by k_asm) (by k_asm) (by first | exact rfl | assumption) (by (first | assumption | omega)) (by ktr_room) (by ktr_units) ?_); intro t9 h9 tk9 F9 N9; (try dsimp only); (try k_fold)))
local macro_rules | `(tactic| walk_at "call ref") => `(tactic| (k_here; (with_reducible show wpAny _ _ (call (Value.ref 74) [Value.int _ _]) _ _ _); k_dflt (refine b29_cl _ _ _ _ _ _ _ _ _ _ _ _ _ _ _ _ _ _ _ _ _ _ _ _ (by k_asm) (by k_asm) (by k_asm) (by k_asm) (by k_asm) (by first | exact rfl | assumption) (by trivial) (by ktr_room) (by ktr_units) ?_); intro t9 h9 tk9 F9 N9; (try dsimp only); (try k_fold)))

local macro_rules | `(tactic| walk_at "assign Tuple") => `(tactic| k_extra "assign Tuple")
local macro_rules | `(tactic| walk_at "eval ListComp") => `(tactic| (k_here; (with_reducible show wpAny _ _ (eval (Expr.ListComp (Expr.Name _ _) _ _ _) _) _ _ _); k_dflt (refine comp_anyRange (F₀ := by k_asm) (by with_unfolding_all rfl) (by decide) (by rfl) (by decide) (by rfl) ?_)))
local macro_rules | `(tactic| walk_at "AnyRange") => `(tactic| (k_here; k_dflt (refine AnyRange.of (by rfl) (by k_asm) (by k_asm) (by assumption) (rangeSize_nat _ _) (by rw [PySem.sizeLine_eq]; omega) ?_; intro g'; (refine' kci_range (keepIf skipB) (fun k' t' I' oI' C' oC' D' m' ys' l' h' tk' E' hlo' hhi' hI' hC' hx' F' N' off' ne' => ?_) ?_ (keepIf_grows _)); (all_goals (try (simp only [LCg.Off3, and_true] at off'))); (all_goals (try ((show KPfMark → _); intro hMark'))); kcf_last)))
local macro_rules | `(tactic| walk_at "CompEnd") => `(tactic| (refine LCg.CompEnd.intro (by assumption) (by assumption) _ (fun _ hp => hp) (by first | assumption | ((simp only [LCg.Off3, and_true]; assumption))) True.intro ?_))
local macro_rules | `(tactic| walk_at "KCiEl") => `(tactic| (refine kci_el (keep_yes (skip_yes (by assumption) (by assumption))) (by with_unfolding_all rfl) (by with_unfolding_all rfl)))
local macro_rules | `(tactic| walk_at "KCiNo") => `(tactic| (refine kci_no (keep_no (by first | exact skip_no1 (by assumption) | exact skip_no2 (by assumption))) (by with_unfolding_all rfl)))

local macro_rules | `(tactic| walk_at "subscriptTail Name Slice ref ref") => `(tactic| (k_here; (rename IntsAre _ (List.map _ (rangeKs 0 _)) => hIm); (k_dflt (refine slice_upto (by k_asm) (by k_asm) (by kmk_list) hIm (by simp [rangeKs]) (by decide) ?_ (by with_unfolding_all rfl) (by kmk_pure))); intro D' ws' h' F' N' l1 hI'; (try k_lt l1); (try k_sweep)))

local macro_rules | `(tactic| walk_at "compareOp NotEq ref ref") => `(tactic| (k_here; (rename IntsAre _ (List.map _ (rangeKs 0 (Int.toNat (7 - 0)))) => hIc); k_dflt (refine ne_ints_eq (by is_list) hIc (by is_list) (by l_ints) (by units_room) (wheel_counts _ _ _ (by assumption)) ?_)))
local macro_rules | `(tactic| walk_at "compareOp NotEq int int") => `(tactic| (k_here; k_dflt (refine ne_int_eq (wheel_back _ _ _ (by assumption)) ?_)))
local macro_rules | `(tactic| walk_at "call builtin:sorted") => `(tactic| (k_here; (rename IntsAre _ (List.map _ (rangeKs 0 (Int.toNat (28 - 0)))) => hIw); k_dflt (refine sorted_known weeksW (by k_asm) (by k_asm) (by is_list) hIw (by simp [rangeKs]) (weeks_perm _ (by assumption)) weeksW_up ?_); intro D' v' c' h' F' N' l1 i'; (try k_lt l1); (try k_sweep)))
local macro_rules | `(tactic| walk_at "compareOp Eq ref ref") => `(tactic| (k_here; (rename IntsAre _ weeksW => hIv); k_dflt (refine eq_ints_eq (by is_list) hIv (by is_list) (by l_ints) (by units_room) (by rfl) ?_)))
set_option maxRecDepth 100000 in
set_option maxHeartbeats 8000000 in
theorem law_holds : PySem.Challenge.rw_bb0028_01.Holds := by
  k_with_none
  k_with "assign Tuple" => (k_here; (with_reducible show wpAny _ _ (assign (Expr.Tuple _ _ _) _ (Value.ref _)) _ _ _); (rename IntsAre _ (List.take 3 (List.take 3 _ ++ [0, 0, 0])) => hI3); obtain ⟨a3, ta3, b3, tb3, c3, tc3, e3⟩ := three hI3; subst e3; (have hb0 := fmod_lo b3 (n := 12) (by decide)); (have hb1 := fmod_hi b3 (n := 12) (by decide)); (have hc0 := fmod_lo c3 (n := 28) (by decide)); (have hc1 := fmod_hi c3 (n := 28) (by decide)); k_dflt (refine kun_list (by k_asm) (by k_asm) (by kun_lst) rfl rfl rfl ?_); clear hI3; intro h' F' N'; (try k_sweep))
  exact hd (by w_strict (k_go0; (all_goals try k_fold); k_steps))
end
end Mine

set_option maxRecDepth 100000 in
set_option maxHeartbeats 8000000 in
theorem PySem.Challenge.cw_bb0028_01_holds : PySem.Challenge.rw_bb0028_01.Holds := by
  exact Mine.law_holds
