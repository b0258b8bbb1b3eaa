import PyProof.Rows.All
import Wide.All
import OpenK.AllK
import Wide.FinOn
import PySem.Challenge.RW_xi0015_01
open PySem PySem.W PyProof.Rows
set_option Elab.async false
set_option linter.unusedVariables false
namespace Mine
set_option maxRecDepth 100000
set_option maxHeartbeats 8000000
open_top hd for PySem.Challenge.rw_xi0015_01
end Mine
namespace Mine
/-- the law's definition, read off the row's program -/
def lawDef : Option (Scope × List Stmt) := match Challenge.pw_xi0015_01.main.body.getLast? with
  | some (.FunctionDef _ _ body _ _ _ sc _ _ _) => some (sc, body)
  | _ => none
def lawScope : Scope := (lawDef.getD (default, [])).1
def lawBody : List Stmt := (lawDef.getD (default, [])).2
def stmt (k : Nat) : Stmt := lawBody.getD k (.Pass default)
end Mine
namespace Mine
set_option maxRecDepth 100000

/-- the around of the law's own frame -/
abbrev lawA (L fa : Addr) (cd : Value) : Around := callerA.deeper (envOfC (Str.ofString "law") lawScope L fa cd)

section
variable {prog : Program} {w : World} {A : Around} {s : Shared} {K : Frag}

/-- a def without cells is called; what stands (but for the hidden ones) stands behind it -/
theorem own_call {R : Result → Shared → Prop} {name qual : Str} {params : Arguments} {body : List Stmt} {scope : Scope} {dV kV doc pm cdv ct oc : Value} {an od : Option Addr} {osl : Array (Option Value)} {f : Addr} {args : Args} {binds : List (Str × Value)}
    {p : Program} {loose : List Str} {mean : ExcName → Option Value} {mg mb : Str → Option Value} (hid : List (Addr × Obj))
    (X : K.In (hideAll s.heap (hid.map (·.1)))) (T : Top p loose mean mg mb (hideAll s.heap (hid.map (·.1)))) (hh : ∀ q ∈ hid, s.heap.get? q.1 = some q.2)
    (ho : K.lookup f = some ⟨oc, od, .func (fnOf name qual params body scope dV kV doc pm an cdv ct), osl⟩) (hcd : codeIn K cdv qual = true) (hroom : A.depth < recursionLimit)
    (hbind : BindsTo s (fnOf name qual params body scope dV kV doc pm an cdv ct) args binds) (hloc : ∀ y ∈ binds, scope.names.lookup y.1 = some .local)
    (hco : scope.isCoroutine = false) (hgen : scope.isGenerator = false) (hk : scope.kind = .function) (hcell : ∀ x ∈ scope.names, x.2 ≠ .cell)
    (h : ∀ L' h₁, L' = s.heap.objs.size → Fr (hideAll s.heap (hid.map (·.1))) L' h₁ (fun y => binds.reverse.lookup y) → News (hideAll s.heap (hid.map (·.1))) L' h₁ hid →
      wpAny (model prog w) (A.deeper (envOf qual scope L' f cdv)) (execs body (envOf qual scope L' f cdv))
        (fun fl s' => R (.ok (.ret (match fl with | .ret v => v | _ => .none))) s')
        (fun e s' => wpAny (model prog w) (A.deeper (envOf qual scope L' f cdv)) (leaving (envOf qual scope L' f cdv) e) (fun _ s'' => R (.error e) s'') (fun e' s'' => R (.error e') s'') s')
        { s with heap := h₁, toks := s.toks + binds.length }) :
    codeAny (model prog w) A (.call (.ref f) args) R s := by
  have up : ∀ b o, (hideAll s.heap (hid.map (·.1))).get? b = some o → s.heap.get? b = some o := fun b o e => of_hideAll _ e
  refine codeAny_call_def (fd := fnOf name qual params body scope dV kV doc pm an cdv ct) (body := body) (binds := binds) hroom (up _ _ (X _ _ ho)) rfl (T.nolimit.keeps up) (codeRec_of (fun a o e => up _ _ (X a o e)) hcd) rfl hbind hcell hloc (fun h₁ hns hk₁ => ?_) hco hgen hk
  exact h _ h₁ rfl ⟨hns, fun b o e => hk₁ b o (of_hideAll _ e), Nat.le_of_eq (hideAll_size _ _)⟩
    (fun q hq => ⟨hk₁ _ _ (hh q hq), Nat.ne_of_lt (Heap.lt_size (hh q hq)), hideAll_none _ (List.mem_map_of_mem hq)⟩)
end

theorem own_call0 {prog : Program} {w : World} {A : Around} {s : Shared} {K : Frag} {R : Result → Shared → Prop} {name qual : Str} {params : Arguments} {body : List Stmt} {scope : Scope} {dV kV doc pm cdv ct oc : Value} {an od : Option Addr} {osl : Array (Option Value)} {f : Addr} {args : Args} {binds : List (Str × Value)}
    {p : Program} {loose : List Str} {mean : ExcName → Option Value} {mg mb : Str → Option Value}
    (X : K.In s.heap) (T : Top p loose mean mg mb s.heap)
    (ho : K.lookup f = some ⟨oc, od, .func (fnOf name qual params body scope dV kV doc pm an cdv ct), osl⟩) (hcd : codeIn K cdv qual = true) (hroom : A.depth < recursionLimit)
    (hbind : BindsTo s (fnOf name qual params body scope dV kV doc pm an cdv ct) args binds) (hloc : ∀ y ∈ binds, scope.names.lookup y.1 = some .local)
    (hco : scope.isCoroutine = false) (hgen : scope.isGenerator = false) (hk : scope.kind = .function) (hcell : ∀ x ∈ scope.names, x.2 ≠ .cell)
    (h : ∀ L' h₁, L' = s.heap.objs.size → Fr s.heap L' h₁ (fun y => binds.reverse.lookup y) → News s.heap L' h₁ [] →
      wpAny (model prog w) (A.deeper (envOf qual scope L' f cdv)) (execs body (envOf qual scope L' f cdv))
        (fun fl s' => R (.ok (.ret (match fl with | .ret v => v | _ => .none))) s')
        (fun e s' => wpAny (model prog w) (A.deeper (envOf qual scope L' f cdv)) (leaving (envOf qual scope L' f cdv) e) (fun _ s'' => R (.error e) s'') (fun e' s'' => R (.error e') s'') s')
        { s with heap := h₁, toks := s.toks + binds.length }) :
    codeAny (model prog w) A (.call (.ref f) args) R s := own_call [] X T (fun _ h => nomatch h) ho hcd hroom hbind hloc hco hgen hk hcell h

/-- what stood before stands still -/
def Grow (h h' : Heap) : Prop := ∀ b o, h.get? b = some o → h'.get? b = some o
end Mine
namespace Mine
set_option maxRecDepth 100000

theorem Grow.refl (h : Heap) : Grow h h := fun _ _ e => e
theorem Grow.trans {h h' h'' : Heap} (x : Grow h h') (y : Grow h' h'') : Grow h h'' := fun b o e => y b o (x b o e)
theorem Grow.push (h : Heap) (o : Obj) : Grow h (h.push o) := fun _ _ e => Heap.get?_push_of_some _ e

/-- the places of the law's own frame that change -/
def marks (L : Addr) : List Addr := [L, L + 1, L + 1 + 1, L + 1 + 1 + 1, L + 1 + 1 + 1 + 1, 79, 72]
/-- what does not change any more: all but the frame, its cells, the two tables -/
def still (L : Addr) (h : Heap) : Heap := hideAll h (marks L)
theorem still_le (L : Addr) (h : Heap) : Grow (still L h) h := fun _ _ e => of_hideAll _ e
theorem still_get {L a : Addr} {h : Heap} {o : Obj} (e : h.get? a = some o) (n : a ∉ marks L) : (still L h).get? a = some o := hideAll_get _ e n
theorem still_not {L a : Addr} {h : Heap} {o : Obj} (e : (still L h).get? a = some o) : a ∉ marks L := fun q => by
  have := hideAll_none (marks L) (h := h) q
  rw [still] at e
  rw [this] at e; cases e
theorem still_grow {L : Addr} {h h' : Heap} (k : ∀ b o, b ∉ marks L → h.get? b = some o → h'.get? b = some o) : Grow (still L h) (still L h') :=
  fun b o e => still_get (k b o (still_not e) (still_le L h b o e)) (still_not e)

/-- the state of the law's frame -/
structure LawSt (base : Heap) (L : Addr) (h : Heap) (m : Str → Option Value) (cc cp co ck : Option Value) (tt : Array Value × Array Value) : Prop where
  fr : Fr base L h m
  c1 : h.IsCell (L + 1) cc
  c2 : h.IsCell (L + 1 + 1) cp
  c3 : h.IsCell (L + 1 + 1 + 1) co
  c4 : h.IsCell (L + 1 + 1 + 1 + 1) ck
  t1 : h.get? 79 = some (tabObj tt.1)
  t2 : h.get? 72 = some (tabObj tt.2)

section
variable {base : Heap} {L : Addr} {h h' : Heap} {m : Str → Option Value} {cc cp co ck : Option Value} {tt : Array Value × Array Value}
theorem LawSt.fresh (S : LawSt base L h m cc cp co ck tt) {D : Addr} (e : h.get? D = none) : D ∉ marks L := by
  intro q
  obtain ⟨oL, _, _, hL, _⟩ := S.fr.ns
  obtain ⟨o1, h1, _⟩ := S.c1
  obtain ⟨o2, h2, _⟩ := S.c2
  obtain ⟨o3, h3, _⟩ := S.c3
  obtain ⟨o4, h4, _⟩ := S.c4
  have h5 := S.t1
  have h6 := S.t2
  simp only [marks, List.mem_cons, List.not_mem_nil, or_false] at q
  rcases q with rfl | rfl | rfl | rfl | rfl | rfl | rfl
  · rw [hL] at e; cases e
  · rw [h1] at e; cases e
  · rw [h2] at e; cases e
  · rw [h3] at e; cases e
  · rw [h4] at e; cases e
  · rw [h5] at e; cases e
  · rw [h6] at e; cases e
/-- nothing of the old goes -/
theorem LawSt.grow (S : LawSt base L h m cc cp co ck tt) (k : Grow h h') : LawSt base L h' m cc cp co ck tt where
  fr := S.fr.keeps k
  c1 := S.c1.keeps k
  c2 := S.c2.keeps k
  c3 := S.c3.keeps k
  c4 := S.c4.keeps k
  t1 := k _ _ S.t1
  t2 := k _ _ S.t2
/-- the frame alone turns -/
theorem LawSt.frame (S : LawSt base L h m cc cp co ck tt) {m' : Str → Option Value} (n : h'.Ns L m') (k : ∀ b o, b ≠ L → h.get? b = some o → h'.get? b = some o) (l1 : @LT.lt Nat _ 79 L) (l2 : @LT.lt Nat _ 72 L) : LawSt base L h' m' cc cp co ck tt where
  fr := ⟨n, fun b o e => k b o (Nat.ne_of_lt (Nat.lt_of_lt_of_le (Heap.lt_size e) S.fr.above)) (S.fr.keep b o e), S.fr.above⟩
  c1 := let ⟨o, e, d⟩ := S.c1; ⟨o, k _ _ (neN (by omega)) e, d⟩
  c2 := let ⟨o, e, d⟩ := S.c2; ⟨o, k _ _ (neN (by omega)) e, d⟩
  c3 := let ⟨o, e, d⟩ := S.c3; ⟨o, k _ _ (neN (by omega)) e, d⟩
  c4 := let ⟨o, e, d⟩ := S.c4; ⟨o, k _ _ (neN (by omega)) e, d⟩
  t1 := k _ _ (neN (by omega)) S.t1
  t2 := k _ _ (neN (by omega)) S.t2
theorem LawSt.stillOld (S : LawSt base L h m cc cp co ck tt) : ∀ b o, h.get? b = none → h'.get? b = some o → (still L h').get? b = some o :=
  fun _ _ e e' => still_get e' (S.fresh e)
end
end Mine
namespace Mine
set_option maxRecDepth 100000

/-- a tuple of two ints, of three -/
def Tup2 (h : Heap) (a : Addr) (i j : Int) : Prop := ∃ t u, IsTup h a #[.int i t, .int j u]
def Tup3 (h : Heap) (a : Addr) (i j k : Int) : Prop := ∃ t u v, IsTup h a #[.int i t, .int j u, .int k v]
theorem Tup2.keeps {h h' : Heap} {a : Addr} {i j : Int} (x : Tup2 h a i j) (k : Grow h h') : Tup2 h' a i j := let ⟨t, u, y⟩ := x; ⟨t, u, y.keeps k⟩
theorem Tup3.keeps {h h' : Heap} {a : Addr} {i j l : Int} (x : Tup3 h a i j l) (k : Grow h h') : Tup3 h' a i j l := let ⟨t, u, v, y⟩ := x; ⟨t, u, v, y.keeps k⟩

/-- the pairs that the law asks of -/
def InSix (i j : Int) : Prop := 0 ≤ i ∧ i < 6 ∧ 0 ≤ j ∧ j < 6 ∧ i ≠ j

section
variable {prog : Program} {w : World}

/-- d is the dict of the colours c; the colours' tokens lie in 1 .. T - 1 -/
def Cols (prog : Program) (w : World) (h : Heap) (d : Addr) (c : Int → Int → Int) (T : Nat) : Prop :=
  ∃ xs, h.DictOfH (tupleKind (PySem.intKind prog w)) d xs ∧ ∀ i j, InSix i j → ∃ a t, atKey xs [i, j] = some (a, .int (c i j) t) ∧ @LT.lt Nat _ 0 t ∧ @LT.lt Nat _ t T

theorem tupleKey_keeps {h h' : Heap} {ks : List Int} {a : Addr} (x : IsTupleKey (PySem.intKind prog w) h ks a) (k : Grow h h') : IsTupleKey (PySem.intKind prog w) h' ks a :=
  let ⟨o, it, n, e, r⟩ := x; ⟨o, it, n, k _ _ e, r⟩
theorem dictOfH_keeps {h h' : Heap} {d : Addr} {xs : List (List Int × Addr × Value)} (x : h.DictOfH (tupleKind (PySem.intKind prog w)) d xs) (k : Grow h h') : h'.DictOfH (tupleKind (PySem.intKind prog w)) d xs :=
  let ⟨o, es, ep, e, a, b, c, f, g⟩ := x; ⟨o, es, ep, k _ _ e, a, b, c, fun y hy => tupleKey_keeps (f y hy) k, g⟩
theorem Cols.keeps {h h' : Heap} {d : Addr} {c : Int → Int → Int} {T : Nat} (x : Cols prog w h d c T) (k : Grow h h') : Cols prog w h' d c T :=
  let ⟨xs, y, r⟩ := x; ⟨xs, dictOfH_keeps y k, r⟩
theorem key_of_tup {h : Heap} {a : Addr} {i j : Int} (x : Tup2 h a i j) : IsTupleKey (PySem.intKind prog w) h [i, j] a := by
  obtain ⟨t, u, o, e, hc, n, hd⟩ := x
  refine ⟨o, _, n, e, hc, hd, ?_⟩
  refine .cons ?_ (.cons ?_ .nil)
  · show Value.isInt i (.int i t) = true
    simp [Value.isInt]
  · show Value.isInt j (.int j u) = true
    simp [Value.isInt]

variable {A : Around} {E : Value → Shared → Prop} {s : Shared} {env : Env}

/-- an item of a tuple at a written place -/
theorem ev_item {e : Expr} {p2 p3 : Pos} {kk : Nat} {a : Addr} {vs : List Value} {k : Int} {j : Nat} {v : Value} {Q : Value → Shared → Prop}
    (he : ∀ Q E, Q (.ref a) s → wpAny (model prog w) A (eval e env) Q E s) (ht : IsTup s.heap a vs.toArray) (h1 : -(2 ^ 63) ≤ k) (h2 : k < 2 ^ 63) (hj : seqIndex? k vs.length = some j) (hv : vs[j]? = some v)
    (h : Q v { s with toks := s.toks + 1 })
    (hs : subscripted (.Constant (.int k) kk p2) false (.ref a) (.int k s.toks) = operate [.ref a, .int k s.toks] (getItem (.ref a) (.int k s.toks)) := by with_unfolding_all rfl) :
    wpAny (model prog w) A (eval (.Subscript e (.Constant (.int k) kk p2) p3) env) Q E s :=
  Subscript_ (he _ _ (wpAny_Constant_int (item_tupleT (s := { s with toks := s.toks + 1 }) ht h1 h2 hj hv h hs)))

/-- a pair is made -/
theorem ev_pair {e1 e2 : Expr} {k : Nat} {pos : Pos} {i j : Int} {Q : Value → Shared → Prop}
    (hst : starEach [e1, e2] env = [(false, eval e1 env), (false, eval e2 env)])
    (h1 : ∀ Q : Value → Shared → Prop, (∀ t n, Q (.int i t) { s with toks := n }) → wpAny (model prog w) A (eval e1 env) Q E s)
    (h2 : ∀ n, ∀ Q : Value → Shared → Prop, (∀ t n, Q (.int j t) { s with toks := n }) → wpAny (model prog w) A (eval e2 env) Q E { s with toks := n })
    (h : ∀ t u n, Q (.ref s.heap.objs.size) { s with heap := s.heap.push { cls := .type "tuple", data := .seq #[.int i t, .int j u] }, toks := n }) :
    wpAny (model prog w) A (eval (.Tuple [e1, e2] k pos) env) Q E s := by
  have s2 : starEach [e2] env = [(false, eval e2 env)] := by
    have := hst
    cases e1 <;> simp_all [starEach]
  refine wpAny_Tuple (wpAny_items_cons (h1 _ fun t n => wpAny_items_cons (h2 n _ fun u n' => wpAny_items_nil ⟨by size_fits, h t u n'⟩) (by rw [s2]; rfl)) (by rw [hst, s2]))

theorem pushed_tup (h : Heap) (i j : Int) (t u : Tok) : Tup2 (h.push { cls := .type "tuple", data := .seq #[.int i t, .int j u] }) h.objs.size i j := ⟨t, u, IsTup.new h _⟩

/-- the colour of a pair whose tuple stands -/
theorem col_tail {value slice : Expr} {d a : Addr} {c : Int → Int → Int} {T : Nat} {i j : Int} {Q : Value → Shared → Prop} (hu : A.units + 1 < cLine) (C : Cols prog w s.heap d c T) (ha : Tup2 s.heap a i j) (hij : InSix i j)
    (h : ∀ t n, @LT.lt Nat _ 0 t → @LT.lt Nat _ t T → Q (.int (c i j) t) { s with toks := n })
    (hs : subscripted slice false (.ref d) (.ref a) = operate [.ref d, .ref a] (getItem (.ref d) (.ref a)) := by with_unfolding_all rfl)
    (hg : ∀ r, letTemporaryGo value (.ref d) r = pure () := by intro _; with_unfolding_all rfl) :
    wpAny (model prog w) A (subscriptTail value slice (.ref d) (.ref a)) Q E s := by
  obtain ⟨xs, hd, hc⟩ := C
  obtain ⟨b, t, hk, h0, h1⟩ := hc i j hij
  exact subscriptTail_builtin hd.typeIs slot_dict_getitem.lookup (wpAny_getItem_heap (knd := tupleKind (PySem.intKind prog w)) (tupleKind_room_in1 hu) (key_of_tup ha) hd hk (h t _ h0 h1)) hs hg

/-- colour[e1, e2] -/
theorem ev_col {x : Str} {p1 p2 p3 : Pos} {e1 e2 : Expr} {k : Nat} {d : Addr} {c : Int → Int → Int} {T : Nat} {i j : Int} {Q : Value → Shared → Prop} (hu : A.units + 1 < cLine) (C : Cols prog w s.heap d c T) (hij : InSix i j)
    (hx : ∀ Q E, Q (.ref d) s → wpAny (model prog w) A (eval (.Name x p1) env) Q E s)
    (hst : starEach [e1, e2] env = [(false, eval e1 env), (false, eval e2 env)])
    (h1 : ∀ Q : Value → Shared → Prop, (∀ t n, Q (.int i t) { s with toks := n }) → wpAny (model prog w) A (eval e1 env) Q E s)
    (h2 : ∀ n, ∀ Q : Value → Shared → Prop, (∀ t n, Q (.int j t) { s with toks := n }) → wpAny (model prog w) A (eval e2 env) Q E { s with toks := n })
    (h : ∀ h' t n, Grow s.heap h' → @LT.lt Nat _ 0 t → @LT.lt Nat _ t T → Q (.int (c i j) t) { s with heap := h', toks := n }) :
    wpAny (model prog w) A (eval (.Subscript (.Name x p1) (.Tuple [e1, e2] k p2) p3) env) Q E s :=
  Subscript_ (hx _ _ (ev_pair hst h1 h2 fun t u n => col_tail (s := { s with heap := s.heap.push { cls := .type "tuple", data := .seq #[.int i t, .int j u] }, toks := n }) hu (C.keeps (.push _ _)) (pushed_tup ..) hij
    (fun t' n' a b => h _ _ _ (.push _ _) a b)))

/-- colour[line], the pair by a name -/
theorem ev_colN {x y : Str} {p1 p2 p3 : Pos} {d a : Addr} {c : Int → Int → Int} {T : Nat} {i j : Int} {Q : Value → Shared → Prop} (hu : A.units + 1 < cLine) (C : Cols prog w s.heap d c T) (hij : InSix i j) (ha : Tup2 s.heap a i j)
    (hx : ∀ Q E, Q (.ref d) s → wpAny (model prog w) A (eval (.Name x p1) env) Q E s)
    (hy : ∀ Q E, Q (.ref a) s → wpAny (model prog w) A (eval (.Name y p2) env) Q E s)
    (h : ∀ t n, @LT.lt Nat _ 0 t → @LT.lt Nat _ t T → Q (.int (c i j) t) { s with toks := n }) :
    wpAny (model prog w) A (eval (.Subscript (.Name x p1) (.Name y p2) p3) env) Q E s :=
  Subscript_ (hx _ _ (hy _ _ (col_tail hu C ha hij h)))
end
end Mine
namespace Mine
set_option maxRecDepth 100000
section
variable {prog : Program} {w : World} {A : Around} {s : Shared}

theorem letOwned_name (x : Str) (px : Pos) (it v : Value) : letOwnedTupleGo (.Name x px) it v = pure () := rfl

/-- a turn of the innermost clause -/
theorem turn_leaf {elt : Expr} {gens : List Comprehension} {scope : Scope} {pos : Pos} {depth : Nat} {x : Str} {px : Pos} {iter : Expr} {it acc : Value} {env : Env} {K : Fin → Shared → Prop} {E : Value → Shared → Prop}
    (hg : gens[depth]? = some ⟨.Name x px, iter, [], 0⟩) (hn : gens[depth + 1]? = none)
    (h : wpAny (model prog w) A (pyNext it) (fun r s₁ => match r with
      | none => K (.done .next) s₁
      | some v => wpAny (model prog w) A (assign (.Name x px) env v) (fun _ s₂ => wpAny (model prog w) A (eval elt env) (fun y s₃ =>
          wpAny (model prog w) A (call (.builtin "list.append") [acc, y]) (fun _ s₄ => K (.again (.compLoop (.ListComp elt gens scope pos) depth it acc env)) s₄) E s₃) E s₂) E s₁) E s) :
    wpAny (model prog w) A (compTurn (.ListComp elt gens scope pos) depth it acc env) K E s := by
  unfold compTurn
  simp only [hg, hn, bne_self_eq_false, Bool.false_eq_true, if_false, letOwned_name, List.forIn_nil, pure_bind, if_true]
  refine wpAny_bind (wpAny_standAt (wpAny_bind (wpAny_mono h (fun r s₁ h₁ => ?_) fun _ _ e => e)))
  cases r with
  | none => exact wpAny_pure h₁
  | some v =>
    refine wpAny_bind (wpAny_mono h₁ (fun _ s₂ h₂ => ?_) fun _ _ e => e)
    refine wpAny_bind (wpAny_bind (wpAny_mono h₂ (fun y s₃ h₃ => wpAny_bind (wpAny_mono h₃ (fun _ s₄ h₄ => wpAny_pure ?_) fun _ _ e => e)) fun _ _ e => e))
    exact wpAny_pure h₄

/-- a turn of an outer clause -/
theorem turn_inner {elt : Expr} {gens : List Comprehension} {scope : Scope} {pos : Pos} {depth : Nat} {x : Str} {px : Pos} {iter t' iter' : Expr} {ifs' : List Expr} {it acc : Value} {env : Env} {K : Fin → Shared → Prop} {E : Value → Shared → Prop}
    (hg : gens[depth]? = some ⟨.Name x px, iter, [], 0⟩) (hn : gens[depth + 1]? = some ⟨t', iter', ifs', 0⟩) (hs : ∀ v, foldedSetIterable iter' env v = pure v)
    (h : wpAny (model prog w) A (pyNext it) (fun r s₁ => match r with
      | none => K (.done .next) s₁
      | some v => wpAny (model prog w) A (assign (.Name x px) env v) (fun _ s₂ => wpAny (model prog w) A (eval iter' env) (fun y s₃ =>
          wpAny (model prog w) A (pyIter y) (fun it' s₄ => codeAny (model prog w) A (.compStart (.ListComp elt gens scope pos) (depth + 1) it' acc env) (fun r s₅ => match r with
            | .ok _ => K (.again (.compLoop (.ListComp elt gens scope pos) depth it acc env)) s₅
            | .error _ => False) s₄) E s₃) E s₂) E s₁) E s) :
    wpAny (model prog w) A (compTurn (.ListComp elt gens scope pos) depth it acc env) K E s := by
  unfold compTurn
  simp only [hg, hn, bne_self_eq_false, Bool.false_eq_true, if_false, letOwned_name, List.forIn_nil, pure_bind, if_true]
  refine wpAny_bind (wpAny_standAt (wpAny_bind (wpAny_mono h (fun r s₁ h₁ => ?_) fun _ _ e => e)))
  cases r with
  | none => exact wpAny_pure h₁
  | some v =>
    refine wpAny_bind (wpAny_mono h₁ (fun _ s₂ h₂ => ?_) fun _ _ e => e)
    refine wpAny_bind (wpAny_mono h₂ (fun y s₃ h₃ => wpAny_bind (wpAny_standAt (wpAny_bind (wpAny_of_eq (hs y) ?_)))) fun _ _ e => e)
    refine wpAny_bind (wpAny_holding (wpAny_mono h₃ (fun it' s₄ h₄ => ?_) fun _ _ e => e))
    refine wpAny_bind (wpAny_runOwn (codeAny_mono h₄ fun r s₅ h₅ => ?_))
    cases r with
    | error e => exact h₅.elim
    | ok f => exact wpAny_pure h₅

theorem under_loop {A : Around} {elt : Expr} {gens : List Comprehension} {scope : Scope} {pos : Pos} {depth : Nat} {it acc : Value} {env : Env} : A.under (.compLoop (.ListComp elt gens scope pos) depth it acc env) = A := rfl
theorem under_start {A : Around} {elt : Expr} {gens : List Comprehension} {scope : Scope} {pos : Pos} {depth : Nat} {it acc : Value} {env : Env} : A.under (.compStart (.ListComp elt gens scope pos) depth it acc env) = A := rfl

theorem comp_start {elt : Expr} {gens : List Comprehension} {scope : Scope} {pos : Pos} {depth : Nat} {t iter : Expr} {ifs : List Expr} {it acc : Value} {env : Env} {R : Result → Shared → Prop}
    (hg : gens[depth]? = some ⟨t, iter, ifs, 0⟩) (hself : ∀ (Q : Value → Shared → Prop) E, Q it s → wpAny (model prog w) A (pyIter it) Q E s)
    (h : codeAny (model prog w) A (.compLoop (.ListComp elt gens scope pos) depth it acc env) R s) :
    codeAny (model prog w) A (.compStart (.ListComp elt gens scope pos) depth it acc env) R s := by
  refine codeAny_of_tree ?_
  show wpAny _ A ((compStart (.ListComp elt gens scope pos) depth it acc env).onRaise (fun x => do noteFrame x env; standAt theWindowsPlace)) _ _ s
  refine wpAny_notedAt ?_
  unfold compStart
  simp only [clausesOf, hg, Option.elim_some, bne_self_eq_false, Bool.false_eq_true, if_false]
  refine wpAny_bind (wpAny_askSetting ?_)
  split
  · exact wpAny_bind (wpAny_pure (wpAny_pure (And.intro rfl h)))
  · exact wpAny_bind (wpAny_rule (wpAny_bind (wpAny_standAt (wpAny_bind (hself _ _ (wpAny_pure (And.intro rfl h)))))))

/-- what holds at the head of a clause's loop -/
def AtHead (C : Addr) (s : Shared) (St : Nat → Heap → Prop) (J : Nat → Heap → (Str → Option Value) → Prop) (i : Nat) (s' : Shared) : Prop :=
  ∃ h tk m, s' = { s with heap := h, toks := tk } ∧ St i h ∧ h.Ns C m ∧ J i h m

section
variable {elt : Expr} {gens : List Comprehension} {scope : Scope} {pos : Pos} {depth : Nat} {x : Str} {px : Pos} {iter : Expr} {I D : Addr} {cenv : Env} {R : Result → Shared → Prop}
    {fp : List Addr} {n : Nat} {P : Nat → Value → Prop} {St : Nat → Heap → Prop} (W : Walks prog w A I fp [I] n P St)
    (hx : cenv.kindOf x = some .local) (hp : (cenv.scope.kind == .class || (cenv.scope.kind == .module && cenv.locals != cenv.globals)) = false) (hC : cenv.locals ∉ fp)
    (J : Nat → Heap → (Str → Option Value) → Prop)
    (hJ : ∀ i h h' m m', St i h → h.Ns cenv.locals m → J i h m → (∀ b o, b ≠ I → b ≠ cenv.locals → h.get? b = some o → h'.get? b = some o) → (∀ y, y ≠ x → m' y = m y) → J i h' m')
include W hx hp hC hJ

theorem loop_bind {i : Nat} {h : Heap} {tk : Nat} {m : Str → Option Value} {Q' : Value → Shared → Prop} {E : Value → Shared → Prop} {Rn : Shared → Prop}
    (hst : St i h) (hns : h.Ns cenv.locals m) (hj : J i h m) (hi : i ≤ n)
    (turn : ∀ v h' m' tk', i < n → P i v → St (i + 1) h' → h'.Ns cenv.locals m' → m' x = some v → J i h' m' → Q' v { s with heap := h', toks := tk' })
    (done : ∀ h' tk', i = n → J n h' m → h'.Ns cenv.locals m → Rn { s with heap := h', toks := tk' }) :
    wpAny (model prog w) A (pyNext (.ref I)) (fun r s₁ => match r with
      | none => Rn s₁
      | some v => wpAny (model prog w) A (assign (.Name x px) cenv v) (fun _ s₂ => Q' v s₂) E s₁) E { s with heap := h, toks := tk } := by
  have hIf : I ∈ fp := W.sub I (List.mem_singleton.mpr rfl)
  have hCI : cenv.locals ≠ I := fun q => hC (q ▸ hIf)
  by_cases hlt : i < n
  · refine W.item i _ _ _ hlt hst fun v h₁ tk₁ hPv hst₁ hk₁ => ?_
    refine wpAny_assign_Name (wpAny_storeName_local hx (hns.at' fun o e => hk₁ _ o (by simpa using hCI) e) (fun h₂ hn₂ hs₂ => ?_) hp)
    refine turn v h₂ _ _ hlt hPv (W.frame _ _ _ hst₁ fun b hb o e => hs₂.extBut b o (fun q => hC (q ▸ hb)) e) hn₂ (by simp) (hJ _ _ _ _ _ hst hns hj (fun b o hbI hbC e => hs₂.extBut b o hbC (hk₁ b o (by simpa using hbI) e)) fun y hy => by simp [hy])
  · obtain rfl : i = n := Nat.le_antisymm hi (Nat.not_lt.mp hlt)
    refine W.done _ _ _ hst fun h₂ tk₂ hk₂ => ?_
    exact done h₂ tk₂ rfl (hJ _ _ _ _ _ hst hns hj (fun b o hbI _ e => hk₂ b o (by simpa using hbI) e) fun _ _ => rfl) (hns.at' fun o e => hk₂ _ o (by simpa using hCI) e)

/-- the innermost clause: its element is walked, and joins the list D -/
theorem loop_leaf (hg : gens[depth]? = some ⟨.Name x px, iter, [], 0⟩) (hn : gens[depth + 1]? = none) (hDf : D ∉ fp) (hDC : D ≠ cenv.locals)
    (turn : ∀ i v h m tk (E : Value → Shared → Prop), i < n → P i v → St (i + 1) h → h.Ns cenv.locals m → m x = some v → J i h m →
      wpAny (model prog w) A (eval elt cenv) (fun y s₃ => ∃ h₃ tk₃ ys, s₃ = { s with heap := h₃, toks := tk₃ } ∧ Grow h h₃ ∧ h₃.PlainList D ys ∧ ys.size ≤ sizeLine ∧
        ∀ h₄, Heap.SameBut D h₃ h₄ → h₄.PlainList D (ys.push y) → J (i + 1) h₄ m) E { s with heap := h, toks := tk })
    (done : ∀ h tk m, J n h m → h.Ns cenv.locals m → R (.ok .next) { s with heap := h, toks := tk })
    {h₀ : Heap} {tk₀ : Nat} {m₀ : Str → Option Value} (hst : St 0 h₀) (hns : h₀.Ns cenv.locals m₀) (hj : J 0 h₀ m₀) :
    codeAny (model prog w) A (.compLoop (.ListComp elt gens scope pos) depth (.ref I) (.ref D) cenv) R { s with heap := h₀, toks := tk₀ } := by
  refine codeAny_loop rfl (fun k s' => ∃ i, i ≤ n ∧ k = n - i ∧ AtHead cenv.locals s St J i s') ?_ n ⟨0, Nat.zero_le _, rfl, h₀, tk₀, m₀, rfl, hst, hns, hj⟩
  rintro k s' ⟨i, hi, rfl, h, tk, m, rfl, hst', hns', hj'⟩
  show wpAny _ A ((compTurn (.ListComp elt gens scope pos) depth (.ref I) (.ref D) cenv).onRaise (fun x => do noteFrame x cenv; theTreesLotGoes x)) _ _ _
  refine wpAny_noted (turn_leaf hg hn ?_)
  refine loop_bind W hx hp hC J hJ hst' hns' hj' hi (fun v h' m' tk' hlt hPv hst₂ hn₂ hm₂ hj₂ => ?_) (fun h' tk' e hj₂ hn₂ => done h' tk' m hj₂ hn₂)
  refine wpAny_mono (turn i v h' m' tk' _ hlt hPv hst₂ hn₂ hm₂ hj₂) (fun y s₃ h₃ => ?_) fun _ _ e => e
  obtain ⟨h₃, tk₃, ys, rfl, hk₃, hD₃, hz, hJ₄⟩ := h₃
  refine wpAny_list_append_plain (hsz := hz) hD₃ fun h₄ hl₄ hs₄ => ⟨rfl, n - (i + 1), by omega, i + 1, hlt, rfl, h₄, tk₃, m', rfl, ?_, ?_, hJ₄ _ hs₄ hl₄⟩
  · exact W.frame _ _ _ hst₂ fun b hb o e => hs₄.extBut b o (fun q => hDf (q ▸ hb)) (hk₃ b o e)
  · exact (hn₂.keeps hk₃).sameBut hs₄ (Ne.symm hDC)

/-- an outer clause: the next clause's loop is walked -/
theorem loop_inner {t' iter' : Expr} {ifs' : List Expr} (hg : gens[depth]? = some ⟨.Name x px, iter, [], 0⟩) (hn : gens[depth + 1]? = some ⟨t', iter', ifs', 0⟩) (hs : ∀ v, foldedSetIterable iter' cenv v = pure v)
    (turn : ∀ i v h m tk (E : Value → Shared → Prop), i < n → P i v → St (i + 1) h → h.Ns cenv.locals m → m x = some v → J i h m →
      wpAny (model prog w) A (eval iter' cenv) (fun y s₃ => wpAny (model prog w) A (pyIter y) (fun it' s₄ => codeAny (model prog w) A (.compStart (.ListComp elt gens scope pos) (depth + 1) it' (.ref D) cenv) (fun r s₅ => match r with
        | .ok _ => AtHead cenv.locals s St J (i + 1) s₅
        | .error _ => False) s₄) E s₃) E { s with heap := h, toks := tk })
    (done : ∀ h tk m, J n h m → h.Ns cenv.locals m → R (.ok .next) { s with heap := h, toks := tk })
    {h₀ : Heap} {tk₀ : Nat} {m₀ : Str → Option Value} (hst : St 0 h₀) (hns : h₀.Ns cenv.locals m₀) (hj : J 0 h₀ m₀) :
    codeAny (model prog w) A (.compLoop (.ListComp elt gens scope pos) depth (.ref I) (.ref D) cenv) R { s with heap := h₀, toks := tk₀ } := by
  refine codeAny_loop rfl (fun k s' => ∃ i, i ≤ n ∧ k = n - i ∧ AtHead cenv.locals s St J i s') ?_ n ⟨0, Nat.zero_le _, rfl, h₀, tk₀, m₀, rfl, hst, hns, hj⟩
  rintro k s' ⟨i, hi, rfl, h, tk, m, rfl, hst', hns', hj'⟩
  show wpAny _ A ((compTurn (.ListComp elt gens scope pos) depth (.ref I) (.ref D) cenv).onRaise (fun x => do noteFrame x cenv; theTreesLotGoes x)) _ _ _
  refine wpAny_noted (turn_inner hg hn hs ?_)
  refine loop_bind W hx hp hC J hJ hst' hns' hj' hi (fun v h' m' tk' hlt hPv hst₂ hn₂ hm₂ hj₂ => ?_) (fun h' tk' e hj₂ hn₂ => done h' tk' m hj₂ hn₂)
  refine wpAny_mono (turn i v h' m' tk' _ hlt hPv hst₂ hn₂ hm₂ hj₂) (fun y s₃ h₃ => wpAny_mono h₃ (fun it' s₄ h₄ => codeAny_mono h₄ fun r s₅ h₅ => ?_) fun _ _ e => e) fun _ _ e => e
  cases r with
  | error e => exact h₅.elim
  | ok f => exact ⟨rfl, n - (i + 1), by omega, i + 1, hlt, rfl, h₅⟩
end
end
end Mine
namespace Mine
set_option maxRecDepth 100000
section
variable {prog : Program} {w : World} {A : Around} {E : Value → Shared → Prop} {s : Shared} {env : Env}

/-- the end of a comprehension that a local name takes -/
def CompFin (env : Env) (y : Str) (Q : Flow → Shared → Prop) (D C : Addr) (s' : Shared) : Prop :=
  env.locals ≠ C ∧ ∃ mC m, s'.heap.Ns C mC ∧ s'.heap.Ns env.locals m ∧ ∀ h'' tk, h''.Ns env.locals (fun z => if z = y then some (.ref D) else m z) →
    (∀ b o, b ≠ env.locals → b ≠ C → s'.heap.get? b = some o → h''.get? b = some o) → Q .next { s' with heap := h'', toks := tk }

theorem assign_comp {elt target iter : Expr} {ifs : List Expr} {gs : List Comprehension} {y : Str} {py : Pos} {scope : Scope} {cl : List (Str × Addr)} {pos spos : Pos} {Q : Flow → Shared → Prop}
    (hsw : swapsWith (.ListComp elt (⟨target, iter, ifs, 0⟩ :: gs) scope pos) (some (.Name y py)) spos.line env = pure true)
    (hclos : closureFor scope env = pure cl) (hcell : ∀ z ∈ scope.names, z.2 ≠ .cell) (hkind : scope.kind = .function)
    (hnames : ∀ z ∈ scope.names, z.2 = .local → scope.names.lookup z.1 = some .local)
    (hy : env.kindOf y = some .local) (hp : (env.scope.kind == .class || (env.scope.kind == .module && env.locals != env.globals)) = false)
    (h : wpAny (model prog w) A (eval iter env) (fun xv s₁ => wpAny (model prog w) A (pyIter xv) (fun it s₂ =>
      ∀ D C h₁ tk, D ≠ C → s₂.heap.objs.size ≤ D → s₂.heap.objs.size ≤ C → Grow s₂.heap h₁ → h₁.PlainList D #[] → h₁.Ns C (fun _ => none) →
        codeAny (model prog w) A (.compStart (.ListComp elt (⟨target, iter, ifs, 0⟩ :: gs) scope pos) 0 it (.ref D) (compEnvC scope cl C env)) (fun r s' => match r with
          | .ok _ => CompFin env y Q D C s'
          | .error _ => False) { s₂ with heap := h₁, toks := tk }) E s₁) E s)
    (hs : ∀ x, foldedSetIterable iter env x = pure x := by intro _; rfl) :
    wpAny (model prog w) A (exec (.Assign [.Name y py] (.ListComp elt (⟨target, iter, ifs, 0⟩ :: gs) scope pos) spos) env) Q E s := by
  rw [exec_Assign_Name_used _ _ _ _ hsw]
  refine wpAny_bind (wpAny_standAt (wpAny_bind ?_))
  show wpAny _ A (do let _ ← comprehension (.ListComp elt (⟨target, iter, ifs, 0⟩ :: gs) scope pos) scope env _ (newList []) false (eval iter env) (some (assign (.Name y py) env))) _ _ s
  refine wpAny_bind (wpAny_mono (wpAny_comprehension_free (use := some (assign (.Name y py) env)) (Q := fun _ s' => Q .next s') rfl hs hclos hkind hnames
    (wpAny_mono h (fun xv s₁ h₁ => wpAny_mono h₁ (fun it s₂ h₂ => ?_) fun _ _ e => e) fun _ _ e => e)) (fun _ s' hq => wpAny_pure (wpAny_pure hq)) fun _ _ e => e)
  refine wpAny_newObj_type (wpAny_newFunctionEnv hcell (by intro y hy; simp at hy) (fun h₁ hns₁ hsb₁ => ?_) hkind)
  dsimp only at hns₁ hsb₁ ⊢
  generalize hH2 : s₂.heap.push { cls := .type "list", dict := none, data := .seq ([] : List Value).toArray } = H2 at hns₁ hsb₁ ⊢
  have hC : H2.objs.size = s₂.heap.objs.size + 1 := by rw [← hH2, Heap.size_push]
  have hDC : s₂.heap.objs.size ≠ H2.objs.size := by rw [hC]; exact Nat.ne_of_lt (Nat.lt_succ_self _)
  have old : Grow s₂.heap h₁ := fun b o e => hsb₁.extBut b o (by rw [hC]; exact Nat.ne_of_lt (Nat.lt_succ_of_lt (Heap.lt_size e))) (Heap.get?_push_of_some _ (hH2 ▸ Heap.get?_push_of_some _ e))
  have hacc : h₁.PlainList s₂.heap.objs.size #[] := ⟨_, hsb₁.extBut _ _ hDC (Heap.get?_push_of_some _ (hH2 ▸ Heap.get?_push_size _ rfl))⟩
  have z := h₂ s₂.heap.objs.size H2.objs.size h₁ (s₂.toks + ([] : List (Str × Value)).length) hDC (Nat.le_refl _) (by rw [hC]; exact Nat.le_succ _) old hacc hns₁
  refine codeAny_mono z fun r s' hr => ?_
  cases r with
  | error e => exact hr.elim
  | ok f =>
    obtain ⟨hLC, mC, m, hC', hm, hQ⟩ := hr
    show wpAny _ A (assign (.Name y py) env (.ref s₂.heap.objs.size)) _ _ _
    refine wpAny_assign_Name (wpAny_storeName_local hy hm (fun h₂ hn₂ hs₂ => ?_) hp)
    exact ⟨mC, hC'.sameBut hs₂ (Ne.symm hLC), fun h₃ hs₃ => hQ h₃ _ (hn₂.sameBut hs₃ hLC) fun b o h1 h2 e => hs₃.extBut b o h2 (hs₂.extBut b o h1 e)⟩
end
end Mine
namespace Mine
set_option maxRecDepth 100000

/-- at b stands no tuple -/
def NoTup (h : Heap) (b : Addr) : Prop := ∀ o, h.get? b = some o → ¬ (o.cls = .type "tuple" ∧ ∃ it n, o.data = .seq it n)
theorem noTup_ns {h : Heap} {C : Addr} {m : Str → Option Value} (x : h.Ns C m) : NoTup h C := fun o e q => by
  obtain ⟨o', es, ep, e', hd, _⟩ := x
  rw [e'] at e
  cases e
  obtain ⟨_, it, n, hd'⟩ := q
  rw [hd'] at hd; cases hd
theorem noTup_range {h : Heap} {I : Addr} {a b c : Int} (x : IsRangeIter h I a b c) : NoTup h I := fun o e q => by
  have x' : h.get? I = some _ := x
  rw [x'] at e
  cases e
  exact absurd (show Value.type "range_iterator" = Value.type "tuple" from q.1) (by decide)
theorem noTup_list {h : Heap} {I : Addr} {ys : Array Value} (x : h.PlainList I ys) : NoTup h I := fun o e q => by
  obtain ⟨n, x'⟩ := x
  rw [x'] at e
  cases e
  exact absurd (show Value.type "list" = Value.type "tuple" from q.1) (by decide)
theorem noTup_listIter {h : Heap} {I l : Addr} {i : Nat} (x : h.IsListIter I l i) : NoTup h I := fun o e q => by
  obtain ⟨o', e', hc, hd⟩ := x
  rw [e'] at e
  cases e
  rw [hc] at q
  exact absurd q.1 (by decide)
theorem noTup_tupIter {h : Heap} {I l : Addr} {i : Nat} (x : IsTupIter h I l i) : NoTup h I := fun o e q => by
  obtain ⟨o', e', hc, hd⟩ := x
  rw [e'] at e
  cases e
  rw [hc] at q
  exact absurd q.1 (by decide)

/-- all but the places of S stands still -/
def But (S : List Addr) (h h' : Heap) : Prop := ∀ b o, b ∉ S → h.get? b = some o → h'.get? b = some o
theorem But.tup {S : List Addr} {h h' : Heap} {a : Addr} {vs : Array Value} (k : But S h h') (hS : ∀ b ∈ S, NoTup h b) (x : IsTup h a vs) : IsTup h' a vs := by
  obtain ⟨o, e, hc, n, hd⟩ := x
  exact ⟨o, k a o (fun q => hS a q o e ⟨hc, vs, n, hd⟩) e, hc, n, hd⟩
theorem But.tup2 {S : List Addr} {h h' : Heap} {a : Addr} {i j : Int} (k : But S h h') (hS : ∀ b ∈ S, NoTup h b) (x : Tup2 h a i j) : Tup2 h' a i j := let ⟨t, u, y⟩ := x; ⟨t, u, k.tup hS y⟩
theorem But.tup3 {S : List Addr} {h h' : Heap} {a : Addr} {i j l : Int} (k : But S h h') (hS : ∀ b ∈ S, NoTup h b) (x : Tup3 h a i j l) : Tup3 h' a i j l := let ⟨t, u, v, y⟩ := x; ⟨t, u, v, k.tup hS y⟩

theorem paired_imp {α β : Type} {F G : α → β → Prop} {as : List α} {bs : List β} (x : Paired F as bs) (k : ∀ a b, F a b → G a b) : Paired G as bs := by
  induction x with
  | nil => exact .nil
  | cons h _ ih => exact .cons (k _ _ h) ih

/-- the values vs are the pairs ps, tuples made at N or behind -/
def Pairs (h : Heap) (N : Nat) (vs : List Value) (ps : List (Int × Int)) : Prop := Paired (fun v p => ∃ a, v = .ref a ∧ @LE.le Nat _ N a ∧ Tup2 h a p.1 p.2) vs ps
def Triples (h : Heap) (N : Nat) (vs : List Value) (ps : List (Int × Int × Int)) : Prop := Paired (fun v p => ∃ a, v = .ref a ∧ @LE.le Nat _ N a ∧ Tup3 h a p.1 p.2.1 p.2.2) vs ps
theorem Pairs.but {S : List Addr} {h h' : Heap} {N : Nat} {vs : List Value} {ps : List (Int × Int)} (x : Pairs h N vs ps) (k : But S h h') (hS : ∀ b ∈ S, NoTup h b) : Pairs h' N vs ps :=
  paired_imp x fun _ _ ⟨a, e, l, t⟩ => ⟨a, e, l, k.tup2 hS t⟩
theorem Triples.but {S : List Addr} {h h' : Heap} {N : Nat} {vs : List Value} {ps : List (Int × Int × Int)} (x : Triples h N vs ps) (k : But S h h') (hS : ∀ b ∈ S, NoTup h b) : Triples h' N vs ps :=
  paired_imp x fun _ _ ⟨a, e, l, t⟩ => ⟨a, e, l, k.tup3 hS t⟩
theorem Pairs.keeps {h h' : Heap} {N : Nat} {vs : List Value} {ps : List (Int × Int)} (x : Pairs h N vs ps) (k : Grow h h') : Pairs h' N vs ps :=
  paired_imp x fun _ _ ⟨a, e, l, t⟩ => ⟨a, e, l, t.keeps k⟩
theorem Triples.keeps {h h' : Heap} {N : Nat} {vs : List Value} {ps : List (Int × Int × Int)} (x : Triples h N vs ps) (k : Grow h h') : Triples h' N vs ps :=
  paired_imp x fun _ _ ⟨a, e, l, t⟩ => ⟨a, e, l, t.keeps k⟩

section
variable {prog : Program} {w : World} {A : Around} {E : Value → Shared → Prop} {s : Shared} {env : Env}

/-- for .. in range(e) -/
theorem src_range1 {x : Str} {p1 p2 : Pos} {e : Expr} {k : Int} {Q : Value → Shared → Prop} (hk0 : 0 ≤ k) (hk1 : k < 1000)
    (hx : ∀ Q E, Q (.type "range") s → wpAny (model prog w) A (eval (.Name x p1) env) Q E s)
    (he : ∀ Q : Value → Shared → Prop, (∀ t n, Q (.int k t) { s with toks := n }) → wpAny (model prog w) A (eval e env) Q E s)
    (hst : starEach [e] env = [(false, eval e env)])
    (h : ∀ I h₂ tk, Grow s.heap h₂ → @LE.le Nat _ s.heap.objs.size I → @LT.lt Nat _ I h₂.objs.size → IsRangeIter h₂ I 0 k 1 → Q (.ref I) { s with heap := h₂, toks := tk }) :
    wpAny (model prog w) A (eval (.Call (.Name x p1) [e] [] p2) env) (fun xv s₁ => wpAny (model prog w) A (pyIter xv) Q E s₁) E s := by
  refine Call_ (hx _ _ (callWith_type1 (wpAny_items_cons (he _ fun t n => wpAny_items_nil ?_) (by rw [hst]; rfl)) (by rw [hst]; rfl)))
  refine call_range_1 ?_
  refine wpAny_pyIter_range (IsRange.new ..) (small_one (by omega) (by omega) (by omega) (by omega)) ?_
  refine h _ _ _ ((Grow.push _ _).trans (Grow.push _ _)) ?_ ?_ ?_
  · show _ ≤ (Heap.push _ _).objs.size
    rw [Heap.size_push]; exact Nat.le_succ _
  · exact Nat.lt_of_lt_of_le (Nat.lt_succ_self _) (Nat.le_of_eq (Heap.size_push _ _).symm)
  · have e : Builtin.Range.rangeSize 0 k 1 = k := by rw [rangeSize_one]; split <;> omega
    show Heap.get? _ _ = _
    rw [e]
    exact Heap.get?_push_size _ rfl
end
end Mine
namespace Mine
set_option maxRecDepth 100000
section
variable {prog : Program} {w : World} {A : Around} {E : Value → Shared → Prop} {s : Shared} {env : Env}

theorem nm_local {x : Str} {p : Pos} {v : Value} {m : Str → Option Value} {Q : Value → Shared → Prop} (hk : env.scope.kind = .function) (hl : env.kindOf x = some .local) (hn : s.heap.Ns env.locals m) (hv : m x = some v)
    (h : Q v s) (hd : (x == ("__debug__" : Str)) = false := by decide) : wpAny (model prog w) A (eval (.Name x p) env) Q E s := wpAny_Name (wpAny_loadName_local hk hl hn hv h) hd

theorem ev_two {x1 x2 : Str} {p1 p2 pos : Pos} {k : Nat} {v1 v2 : Value} {m : Str → Option Value} {Q : Value → Shared → Prop} (hk : env.scope.kind = .function) (hn : s.heap.Ns env.locals m)
    (l1 : env.kindOf x1 = some .local) (l2 : env.kindOf x2 = some .local) (e1 : m x1 = some v1) (e2 : m x2 = some v2)
    (d1 : (x1 == ("__debug__" : Str)) = false) (d2 : (x2 == ("__debug__" : Str)) = false)
    (h : Q (.ref s.heap.objs.size) { s with heap := s.heap.push { cls := .type "tuple", data := .seq #[v1, v2] } }) :
    wpAny (model prog w) A (eval (.Tuple [.Name x1 p1, .Name x2 p2] k pos) env) Q E s :=
  wpAny_Tuple (wpAny_items_cons (nm_local hk l1 hn e1 (wpAny_items_cons (nm_local hk l2 hn e2 (wpAny_items_nil ⟨by size_fits, h⟩) d2)) d1))
theorem ev_three {x1 x2 x3 : Str} {p1 p2 p3 pos : Pos} {k : Nat} {v1 v2 v3 : Value} {m : Str → Option Value} {Q : Value → Shared → Prop} (hk : env.scope.kind = .function) (hn : s.heap.Ns env.locals m)
    (l1 : env.kindOf x1 = some .local) (l2 : env.kindOf x2 = some .local) (l3 : env.kindOf x3 = some .local) (e1 : m x1 = some v1) (e2 : m x2 = some v2) (e3 : m x3 = some v3)
    (d1 : (x1 == ("__debug__" : Str)) = false) (d2 : (x2 == ("__debug__" : Str)) = false) (d3 : (x3 == ("__debug__" : Str)) = false)
    (h : Q (.ref s.heap.objs.size) { s with heap := s.heap.push { cls := .type "tuple", data := .seq #[v1, v2, v3] } }) :
    wpAny (model prog w) A (eval (.Tuple [.Name x1 p1, .Name x2 p2, .Name x3 p3] k pos) env) Q E s :=
  wpAny_Tuple (wpAny_items_cons (nm_local hk l1 hn e1 (wpAny_items_cons (nm_local hk l2 hn e2 (wpAny_items_cons (nm_local hk l3 hn e3 (wpAny_items_nil ⟨by size_fits, h⟩) d3)) d2)) d1))

theorem But.refl (S : List Addr) (h : Heap) : But S h h := fun _ _ _ e => e
theorem But.trans {S : List Addr} {h h' h'' : Heap} (x : But S h h') (y : But S h' h'') : But S h h'' := fun b o n e => y b o n (x b o n e)
theorem But.mono {S S' : List Addr} {h h' : Heap} (x : But S h h') (k : ∀ b ∈ S, b ∈ S') : But S' h h' := fun b o n e => x b o (fun q => n (k b q)) e
theorem Grow.but {S : List Addr} {h h' : Heap} (x : Grow h h') : But S h h' := fun b o _ e => x b o e
theorem sameBut_but {S : List Addr} {a : Addr} {h h' : Heap} (x : Heap.SameBut a h h') (k : a ∈ S) : But S h h' := fun b o n e => x.extBut b o (fun q => n (q ▸ k)) e

theorem pairs_snoc {h : Heap} {N : Nat} {ys : Array Value} {ps : List (Int × Int)} {a : Addr} {p : Int × Int} (x : Pairs h N ys.toList ps) (l : @LE.le Nat _ N a) (t : Tup2 h a p.1 p.2) : Pairs h N (ys.push (.ref a)).toList (ps ++ [p]) := by
  rw [Array.toList_push]; exact Paired.snoc x ⟨a, rfl, l, t⟩
theorem triples_snoc {h : Heap} {N : Nat} {ys : Array Value} {ps : List (Int × Int × Int)} {a : Addr} {p : Int × Int × Int} (x : Triples h N ys.toList ps) (l : @LE.le Nat _ N a) (t : Tup3 h a p.1 p.2.1 p.2.2) : Triples h N (ys.push (.ref a)).toList (ps ++ [p]) := by
  rw [Array.toList_push]; exact Paired.snoc x ⟨a, rfl, l, t⟩

def upto (n : Nat) : List Int := (List.range n).map Int.ofNat
theorem upto_succ (n : Nat) : upto (n + 1) = upto n ++ [(n : Int)] := by simp [upto, List.range_succ]
theorem upto_length (n : Nat) : (upto n).length = n := by simp [upto]
theorem upto_zero : upto 0 = [] := rfl

/-- for j in range(k): the pairs (j, k) join the list -/
theorem pairs_leaf {gens : List Comprehension} {scope : Scope} {pos : Pos} {depth : Nat} {x1 x2 : Str} {px q1 q2 q3 : Pos} {kk : Nat} {iter : Expr} {I D : Addr} {cenv : Env} {R : Result → Shared → Prop} (hh : A.handled = none)
    (hg : gens[depth]? = some ⟨.Name x1 px, iter, [], 0⟩) (hn : gens[depth + 1]? = none) (hk : cenv.scope.kind = .function)
    (l1 : cenv.kindOf x1 = some .local) (l2 : cenv.kindOf x2 = some .local) (h12 : x2 ≠ x1) (d1 : (x1 == ("__debug__" : Str)) = false) (d2 : (x2 == ("__debug__" : Str)) = false)
    {n N : Nat} {h : Heap} {tk : Nat} {m : Str → Option Value} {t : Tok} {ys : Array Value} {ps : List (Int × Int)} (hn1000 : n < 1000)
    (hDI : D ≠ I) (hDC : D ≠ cenv.locals) (hCI : cenv.locals ≠ I) (hI : IsRangeIter h I 0 (n : Int) 1) (hns : h.Ns cenv.locals m) (hm : m x2 = some (.int (n : Int) t)) (hD : h.PlainList D ys) (hys : Pairs h N ys.toList ps) (hz : ps.length < 100000) (hN : @LE.le Nat _ N D)
    (done : ∀ h' tk' m' ys', But [I, D, cenv.locals] h h' → h'.Ns cenv.locals m' → (∀ y, y ≠ x1 → m' y = m y) → h'.PlainList D ys' → Pairs h' N ys'.toList (ps ++ (upto n).map fun j => (j, (n : Int))) → R (.ok .next) { s with heap := h', toks := tk' }) :
    codeAny (model prog w) A (.compLoop (.ListComp (.Tuple [.Name x1 q1, .Name x2 q2] kk q3) gens scope pos) depth (.ref I) (.ref D) cenv) R { s with heap := h, toks := tk } := by
  have W := LCg.range_walks (prog := prog) (w := w) (I := I) hh 0 n
  refine loop_leaf W l1 (by simp [hk]) (by simpa using hCI) (fun i g m' => (∀ y, y ≠ x1 → m' y = m y) ∧ But [I, D, cenv.locals] h g ∧ ∃ ys', g.PlainList D ys' ∧ Pairs g N ys'.toList (ps ++ (upto i).map fun j => (j, (n : Int))))
    ?_ hg hn (by simpa using hDI) hDC ?_ ?_ (by simpa using hI) hns ⟨fun _ _ => rfl, .refl _ _, ys, hD, by simpa [upto_zero] using hys⟩
  · rintro i g g' m' m'' hst hns' ⟨hm', hb, ys', hD', hp⟩ k km
    have kB : But [I, cenv.locals] g g' := fun b o nb e => k b o (fun q => nb (by simp [q])) (fun q => nb (by simp [q])) e
    refine ⟨fun y hy => (km y hy).trans (hm' y hy), hb.trans (kB.mono (by simp)), ys', ?_, hp.but kB ?_⟩
    · obtain ⟨nn, e⟩ := hD'
      exact ⟨nn, k _ _ hDI hDC e⟩
    · intro b hb'
      simp only [List.mem_cons, List.not_mem_nil, or_false] at hb'
      rcases hb' with rfl | rfl
      · exact noTup_range hst
      · exact noTup_ns hns'
  · rintro i v g m' tk' E' hi ⟨t', rfl⟩ hst hns' hmx ⟨hm', hb, ys', hD', hp⟩
    refine ev_two hk hns' l1 l2 hmx ((hm' x2 h12).trans hm) d1 d2 ⟨_, _, ys', rfl, .push _ _, ?_, ?_, ?_⟩
    · obtain ⟨nn, e⟩ := hD'; exact ⟨nn, Heap.get?_push_of_some _ e⟩
    · have := hp.length
      simp only [List.length_append, List.length_map, upto_length, Array.length_toList] at this
      rw [this]; rw [sizeLine_eq]; omega
    · intro h₄ hs₄ hl₄
      have hlt : @LT.lt Nat _ D g.objs.size := by obtain ⟨nn, e⟩ := hD'; exact Heap.lt_size e
      have hD3 : (g.push { cls := .type "tuple", data := .seq #[.int (0 + (i : Int)) t', .int (n : Int) t] }).PlainList D ys' := by obtain ⟨nn, e⟩ := hD'; exact ⟨nn, Heap.get?_push_of_some _ e⟩
      have b4 : But [D] (g.push { cls := .type "tuple", data := .seq #[.int (0 + (i : Int)) t', .int (n : Int) t] }) h₄ := sameBut_but hs₄ (by simp)
      have nD : ∀ b ∈ [D], NoTup (g.push { cls := .type "tuple", data := .seq #[.int (0 + (i : Int)) t', .int (n : Int) t] }) b := fun b hb' => by
        rw [List.mem_singleton.mp hb']; exact noTup_list hD3
      refine ⟨hm', (hb.trans (Grow.push _ _).but).trans (b4.mono (by simp)), _, hl₄, ?_⟩
      rw [upto_succ, List.map_append, ← List.append_assoc]
      refine pairs_snoc ((hp.keeps (Grow.push _ _)).but b4 nD) (by show @LE.le Nat _ N g.objs.size; omega) (b4.tup2 nD ?_)
      have := pushed_tup g (0 + (i : Int)) (n : Int) t' t
      simpa using this
  · rintro g tk' m' ⟨hm', hb, ys', hD', hp⟩ hns'
    exact done g tk' m' ys' hb hns' hm' hD' hp
end
end Mine
namespace Mine
set_option maxRecDepth 100000
section
variable {prog : Program} {w : World} {A : Around} {E : Value → Shared → Prop} {s : Shared} {env : Env}

theorem But.fresh {S : List Addr} {I : Addr} {h h₂ h' : Heap} (k1 : Grow h h₂) (hI : @LE.le Nat _ h.objs.size I) (k : But (I :: S) h₂ h') : But S h h' := fun b o n e =>
  k b o (fun q => by
    rcases List.mem_cons.mp q with q | q
    · have := Heap.lt_size e
      rw [q] at this
      exact absurd this (Nat.not_lt.mpr hI)
    · exact n q) (k1 b o e)

def pairsTo : Nat → List (Int × Int)
  | 0 => []
  | k + 1 => pairsTo k ++ (upto k).map fun j => (j, (k : Int))
def triTo2 (k : Nat) : Nat → List (Int × Int × Int)
  | 0 => []
  | j + 1 => triTo2 k j ++ (upto j).map fun i => (i, (j : Int), (k : Int))
def triTo : Nat → List (Int × Int × Int)
  | 0 => []
  | k + 1 => triTo k ++ triTo2 k k
theorem pairsTo_len (k : Nat) : (pairsTo k).length ≤ k * k := by
  induction k with
  | zero => exact Nat.le_refl _
  | succ k ih => simp only [pairsTo, List.length_append, List.length_map, upto_length]; rw [Nat.succ_mul, Nat.mul_succ]; omega

/-- for k in range(n) for j in range(k): the pairs (j, k) -/
theorem pairs_outer {gens : List Comprehension} {scope : Scope} {pos : Pos} {x1 x2 : Str} {px1 px2 q1 q2 q3 r1 r2 r3 : Pos} {kk : Nat} {iter : Expr} {I D : Addr} {cenv : Env} {R : Result → Shared → Prop} (hh : A.handled = none)
    (hg : gens = [⟨.Name x2 px2, iter, [], 0⟩, ⟨.Name x1 px1, .Call (.Name "range" r1) [.Name x2 r2] [] r3, [], 0⟩]) (hk : cenv.scope.kind = .function)
    (l1 : cenv.kindOf x1 = some .local) (l2 : cenv.kindOf x2 = some .local) (h12 : x2 ≠ x1) (d1 : (x1 == ("__debug__" : Str)) = false) (d2 : (x2 == ("__debug__" : Str)) = false)
    {n N : Nat} {h : Heap} {tk : Nat} {m : Str → Option Value} (hn300 : n < 300)
    (hrange : ∀ (p : Pos) (s' : Shared) (Q : Value → Shared → Prop) E, But [I, D, cenv.locals] h s'.heap → Q (.type "range") s' → wpAny (model prog w) A (eval (.Name "range" p) cenv) Q E s')
    (hDI : D ≠ I) (hDC : D ≠ cenv.locals) (hCI : cenv.locals ≠ I) (hI : IsRangeIter h I 0 (n : Int) 1) (hns : h.Ns cenv.locals m) (hD : h.PlainList D #[]) (hN : @LE.le Nat _ N D)
    (done : ∀ h' tk' m' ys', But [I, D, cenv.locals] h h' → h'.Ns cenv.locals m' → h'.PlainList D ys' → Pairs h' N ys'.toList (pairsTo n) → R (.ok .next) { s with heap := h', toks := tk' }) :
    codeAny (model prog w) A (.compLoop (.ListComp (.Tuple [.Name x1 q1, .Name x2 q2] kk q3) gens scope pos) 0 (.ref I) (.ref D) cenv) R { s with heap := h, toks := tk } := by
  have W := LCg.range_walks (prog := prog) (w := w) (I := I) hh 0 n
  refine loop_inner W l2 (by simp [hk]) (by simpa using hCI) (fun i g m' => But [I, D, cenv.locals] h g ∧ ∃ ys', g.PlainList D ys' ∧ Pairs g N ys'.toList (pairsTo i))
    ?_ (depth := 0) (iter := iter) (px := px2) (by rw [hg]; rfl) (t' := .Name x1 px1) (iter' := .Call (.Name "range" r1) [.Name x2 r2] [] r3) (ifs' := []) (by rw [hg]; rfl) (fun _ => rfl) ?_ ?_ (by simpa using hI) hns ⟨.refl _ _, #[], hD, .nil⟩
  · rintro i g g' m' m'' hst hns' ⟨hb, ys', hD', hp⟩ k _
    have kB : But [I, cenv.locals] g g' := fun b o nb e => k b o (fun q => nb (by simp [q])) (fun q => nb (by simp [q])) e
    refine ⟨hb.trans (kB.mono (by simp)), ys', ?_, hp.but kB ?_⟩
    · obtain ⟨nn, e⟩ := hD'
      exact ⟨nn, k _ _ hDI hDC e⟩
    · intro b hb'
      simp only [List.mem_cons, List.not_mem_nil, or_false] at hb'
      rcases hb' with rfl | rfl
      · exact noTup_range hst
      · exact noTup_ns hns'
  · rintro i v g m' tk' E' hi ⟨t', rfl⟩ hst hns' hmx ⟨hb, ys', hD', hp⟩
    have e0 : (0 + (i : Int)) = (i : Int) := by omega
    rw [e0] at hmx
    refine src_range1 (k := (i : Int)) (by omega) (by omega) (fun Q E hq => hrange _ _ _ _ hb hq) (fun Q hq => nm_local hk l2 hns' hmx (hq _ _) d2) rfl ?_
    intro I2 h₂ tk₂ kg hI2 hI2' hr2
    replace hI2 : @LE.le Nat _ g.objs.size I2 := hI2
    replace kg : Grow g h₂ := kg
    have hltD : @LT.lt Nat _ D g.objs.size := by obtain ⟨nn, e⟩ := hD'; exact Heap.lt_size e
    have hltC : @LT.lt Nat _ cenv.locals g.objs.size := hns'.lt
    have hst1 : IsRangeIter g I _ _ _ := hst
    have hltI : @LT.lt Nat _ I g.objs.size := Heap.lt_size hst1
    have hrs : g.get? I = some _ := hst
    refine comp_start (depth := 0 + 1) (t := .Name x1 px1) (iter := .Call (.Name "range" r1) [.Name x2 r2] [] r3) (ifs := []) (by rw [hg]; rfl) (fun Q E hq => (LCg.range_walks (prog := prog) (w := w) (I := I2) hh 0 i).self 0 _ _ _ (by simpa using hr2) hq) ?_
    refine pairs_leaf (s := { s with heap := g, toks := tk' }) (iter := .Call (.Name "range" r1) [.Name x2 r2] [] r3) (px := px1) hh (by rw [hg]; rfl) (by rw [hg]; rfl) hk l1 l2 h12 d1 d2 (n := i) (by omega) (neN (by omega)) hDC (neN (by omega)) hr2 (hns'.keeps kg) hmx
      (by obtain ⟨nn, e⟩ := hD'; exact ⟨nn, kg _ _ e⟩) (hp.keeps kg) (by have h1 := pairsTo_len i; have h2 : i * i ≤ 300 * 300 := Nat.mul_le_mul (by omega) (by omega); omega) hN ?_
    intro h' tk'' m'' ys'' hb' hns'' hm'' hD'' hp''
    have hB : But [D, cenv.locals] g h' := But.fresh kg hI2 hb'
    refine ⟨h', tk'', m'', rfl, ?_, hns'', hb.trans (hB.mono (by simp)), ys'', hD'', hp''⟩
    show h'.get? I = some _
    refine hB I _ ?_ hrs
    simp only [List.mem_cons, List.not_mem_nil, or_false, not_or]
    exact ⟨Ne.symm hDI, Ne.symm hCI⟩
  · rintro g tk' m' ⟨hb, ys', hD', hp⟩ hns'
    exact done g tk' m' ys' hb hns' hD' hp
end
end Mine
namespace Mine
set_option maxRecDepth 100000
section
variable {prog : Program} {w : World} {A : Around} {E : Value → Shared → Prop} {s : Shared} {env : Env}
theorem pushed_tup3 (h : Heap) (i j k : Int) (t u v : Tok) : Tup3 (h.push { cls := .type "tuple", data := .seq #[.int i t, .int j u, .int k v] }) h.objs.size i j k := ⟨t, u, v, IsTup.new h _⟩
theorem triTo2_len (k j : Nat) : (triTo2 k j).length ≤ j * j := by
  induction j with
  | zero => exact Nat.le_refl _
  | succ j ih => simp only [triTo2, List.length_append, List.length_map, upto_length]; rw [Nat.succ_mul, Nat.mul_succ]; omega
theorem triTo_len (k : Nat) : (triTo k).length ≤ k * (k * k) := by
  induction k with
  | zero => exact Nat.le_refl _
  | succ k ih =>
    simp only [triTo, List.length_append]
    have h1 := triTo2_len k k
    have h2 : k * k ≤ (k + 1) * (k + 1) := Nat.mul_le_mul (Nat.le_succ _) (Nat.le_succ _)
    have h3 : k * (k * k) ≤ k * ((k + 1) * (k + 1)) := Nat.mul_le_mul (Nat.le_refl _) h2
    rw [Nat.succ_mul]
    omega
/-- for i in range(j): the triples (i, j, k) join the list -/
theorem tri_leaf {gens : List Comprehension} {scope : Scope} {pos : Pos} {depth : Nat} {x1 x2 x3 : Str} {px q1 q2 q3 q4 : Pos} {kk : Nat} {iter : Expr} {I D : Addr} {cenv : Env} {R : Result → Shared → Prop} (hh : A.handled = none)
    (hg : gens[depth]? = some ⟨.Name x1 px, iter, [], 0⟩) (hn : gens[depth + 1]? = none) (hk : cenv.scope.kind = .function)
    (l1 : cenv.kindOf x1 = some .local) (l2 : cenv.kindOf x2 = some .local) (l3 : cenv.kindOf x3 = some .local) (h12 : x2 ≠ x1) (h13 : x3 ≠ x1) (d1 : (x1 == ("__debug__" : Str)) = false) (d2 : (x2 == ("__debug__" : Str)) = false) (d3 : (x3 == ("__debug__" : Str)) = false)
    {n N : Nat} {h : Heap} {tk : Nat} {m : Str → Option Value} {t u : Tok} {c : Int} {ys : Array Value} {ps : List (Int × Int × Int)} (hn1000 : n < 1000)
    (hDI : D ≠ I) (hDC : D ≠ cenv.locals) (hCI : cenv.locals ≠ I) (hI : IsRangeIter h I 0 (n : Int) 1) (hns : h.Ns cenv.locals m) (hm : m x2 = some (.int (n : Int) t)) (hm3 : m x3 = some (.int c u)) (hD : h.PlainList D ys) (hys : Triples h N ys.toList ps) (hz : ps.length < 100000) (hN : @LE.le Nat _ N D)
    (done : ∀ h' tk' m' ys', But [I, D, cenv.locals] h h' → h'.Ns cenv.locals m' → (∀ y, y ≠ x1 → m' y = m y) → h'.PlainList D ys' → Triples h' N ys'.toList (ps ++ (upto n).map fun j => (j, (n : Int), c)) → R (.ok .next) { s with heap := h', toks := tk' }) :
    codeAny (model prog w) A (.compLoop (.ListComp (.Tuple [.Name x1 q1, .Name x2 q2, .Name x3 q3] kk q4) gens scope pos) depth (.ref I) (.ref D) cenv) R { s with heap := h, toks := tk } := by
  have W := LCg.range_walks (prog := prog) (w := w) (I := I) hh 0 n
  refine loop_leaf W l1 (by simp [hk]) (by simpa using hCI) (fun i g m' => (∀ y, y ≠ x1 → m' y = m y) ∧ But [I, D, cenv.locals] h g ∧ ∃ ys', g.PlainList D ys' ∧ Triples g N ys'.toList (ps ++ (upto i).map fun j => (j, (n : Int), c)))
    ?_ hg hn (by simpa using hDI) hDC ?_ ?_ (by simpa using hI) hns ⟨fun _ _ => rfl, .refl _ _, ys, hD, by simpa [upto_zero] using hys⟩
  · rintro i g g' m' m'' hst hns' ⟨hm', hb, ys', hD', hp⟩ k km
    have kB : But [I, cenv.locals] g g' := fun b o nb e => k b o (fun q => nb (by simp [q])) (fun q => nb (by simp [q])) e
    refine ⟨fun y hy => (km y hy).trans (hm' y hy), hb.trans (kB.mono (by simp)), ys', ?_, hp.but kB ?_⟩
    · obtain ⟨nn, e⟩ := hD'
      exact ⟨nn, k _ _ hDI hDC e⟩
    · intro b hb'
      simp only [List.mem_cons, List.not_mem_nil, or_false] at hb'
      rcases hb' with rfl | rfl
      · exact noTup_range hst
      · exact noTup_ns hns'
  · rintro i v g m' tk' E' hi ⟨t', rfl⟩ hst hns' hmx ⟨hm', hb, ys', hD', hp⟩
    refine ev_three hk hns' l1 l2 l3 hmx ((hm' x2 h12).trans hm) ((hm' x3 h13).trans hm3) d1 d2 d3 ⟨_, _, ys', rfl, .push _ _, ?_, ?_, ?_⟩
    · obtain ⟨nn, e⟩ := hD'; exact ⟨nn, Heap.get?_push_of_some _ e⟩
    · have := hp.length
      simp only [List.length_append, List.length_map, upto_length, Array.length_toList] at this
      rw [this]; rw [sizeLine_eq]; omega
    · intro h₄ hs₄ hl₄
      have hlt : @LT.lt Nat _ D g.objs.size := by obtain ⟨nn, e⟩ := hD'; exact Heap.lt_size e
      have hD3 : (g.push { cls := .type "tuple", data := .seq #[.int (0 + (i : Int)) t', .int (n : Int) t, .int c u] }).PlainList D ys' := by obtain ⟨nn, e⟩ := hD'; exact ⟨nn, Heap.get?_push_of_some _ e⟩
      have b4 : But [D] (g.push { cls := .type "tuple", data := .seq #[.int (0 + (i : Int)) t', .int (n : Int) t, .int c u] }) h₄ := sameBut_but hs₄ (by simp)
      have nD : ∀ b ∈ [D], NoTup (g.push { cls := .type "tuple", data := .seq #[.int (0 + (i : Int)) t', .int (n : Int) t, .int c u] }) b := fun b hb' => by
        rw [List.mem_singleton.mp hb']; exact noTup_list hD3
      refine ⟨hm', (hb.trans (Grow.push _ _).but).trans (b4.mono (by simp)), _, hl₄, ?_⟩
      rw [upto_succ, List.map_append, ← List.append_assoc]
      refine triples_snoc ((hp.keeps (Grow.push _ _)).but b4 nD) (by show @LE.le Nat _ N g.objs.size; omega) (b4.tup3 nD ?_)
      have := pushed_tup3 g (0 + (i : Int)) (n : Int) c t' t u
      simpa using this
  · rintro g tk' m' ⟨hm', hb, ys', hD', hp⟩ hns'
    exact done g tk' m' ys' hb hns' hm' hD' hp
/-- for j in range(k) for i in range(j): the triples (i, j, k) -/
theorem tri_mid {gens : List Comprehension} {scope : Scope} {pos : Pos} {x1 x2 x3 : Str} {px1 px2 q1 q2 q3 q4 r1 r2 r3 : Pos} {g0 : Comprehension} {kk : Nat} {iter : Expr} {I D : Addr} {cenv : Env} {R : Result → Shared → Prop} (hh : A.handled = none)
    (hg : gens = [g0, ⟨.Name x2 px2, iter, [], 0⟩, ⟨.Name x1 px1, .Call (.Name "range" r1) [.Name x2 r2] [] r3, [], 0⟩]) (hk : cenv.scope.kind = .function)
    (l1 : cenv.kindOf x1 = some .local) (l2 : cenv.kindOf x2 = some .local) (l3 : cenv.kindOf x3 = some .local) (h12 : x2 ≠ x1) (h13 : x3 ≠ x1) (h23 : x3 ≠ x2) (d1 : (x1 == ("__debug__" : Str)) = false) (d2 : (x2 == ("__debug__" : Str)) = false) (d3 : (x3 == ("__debug__" : Str)) = false)
    {n N : Nat} {h : Heap} {tk : Nat} {m : Str → Option Value} {u : Tok} {ys : Array Value} {ps : List (Int × Int × Int)} (hn300 : n < 30) (hps : ps.length < 10000)
    (hrange : ∀ (p : Pos) (s' : Shared) (Q : Value → Shared → Prop) E, But [I, D, cenv.locals] h s'.heap → Q (.type "range") s' → wpAny (model prog w) A (eval (.Name "range" p) cenv) Q E s')
    (hDI : D ≠ I) (hDC : D ≠ cenv.locals) (hCI : cenv.locals ≠ I) (hI : IsRangeIter h I 0 (n : Int) 1) (hns : h.Ns cenv.locals m) (hm : m x3 = some (.int (n : Int) u)) (hD : h.PlainList D ys) (hys : Triples h N ys.toList ps) (hN : @LE.le Nat _ N D)
    (done : ∀ h' tk' m' ys', But [I, D, cenv.locals] h h' → h'.Ns cenv.locals m' → (∀ y, y ≠ x1 → y ≠ x2 → m' y = m y) → h'.PlainList D ys' → Triples h' N ys'.toList (ps ++ triTo2 n n) → R (.ok .next) { s with heap := h', toks := tk' }) :
    codeAny (model prog w) A (.compLoop (.ListComp (.Tuple [.Name x1 q1, .Name x2 q2, .Name x3 q3] kk q4) gens scope pos) 1 (.ref I) (.ref D) cenv) R { s with heap := h, toks := tk } := by
  have W := LCg.range_walks (prog := prog) (w := w) (I := I) hh 0 n
  refine loop_inner W l2 (by simp [hk]) (by simpa using hCI) (fun i g m' => (∀ y, y ≠ x1 → y ≠ x2 → m' y = m y) ∧ But [I, D, cenv.locals] h g ∧ ∃ ys', g.PlainList D ys' ∧ Triples g N ys'.toList (ps ++ triTo2 n i))
    ?_ (depth := 1) (iter := iter) (px := px2) (by rw [hg]; rfl) (t' := .Name x1 px1) (iter' := .Call (.Name "range" r1) [.Name x2 r2] [] r3) (ifs' := []) (by rw [hg]; rfl) (fun _ => rfl) ?_ ?_ (by simpa using hI) hns ⟨fun _ _ _ => rfl, .refl _ _, ys, hD, by simpa [triTo2] using hys⟩
  · rintro i g g' m' m'' hst hns' ⟨hm', hb, ys', hD', hp⟩ k km
    have kB : But [I, cenv.locals] g g' := fun b o nb e => k b o (fun q => nb (by simp [q])) (fun q => nb (by simp [q])) e
    refine ⟨fun y h1 h2 => (km y h2).trans (hm' y h1 h2), hb.trans (kB.mono (by simp)), ys', ?_, hp.but kB ?_⟩
    · obtain ⟨nn, e⟩ := hD'
      exact ⟨nn, k _ _ hDI hDC e⟩
    · intro b hb'
      simp only [List.mem_cons, List.not_mem_nil, or_false] at hb'
      rcases hb' with rfl | rfl
      · exact noTup_range hst
      · exact noTup_ns hns'
  · rintro i v g m' tk' E' hi ⟨t', rfl⟩ hst hns' hmx ⟨hm', hb, ys', hD', hp⟩
    have e0 : (0 + (i : Int)) = (i : Int) := by omega
    rw [e0] at hmx
    refine src_range1 (k := (i : Int)) (by omega) (by omega) (fun Q E hq => hrange _ _ _ _ hb hq) (fun Q hq => nm_local hk l2 hns' hmx (hq _ _) d2) rfl ?_
    intro I2 h₂ tk₂ kg hI2 hI2' hr2
    replace hI2 : @LE.le Nat _ g.objs.size I2 := hI2
    replace kg : Grow g h₂ := kg
    have hltD : @LT.lt Nat _ D g.objs.size := by obtain ⟨nn, e⟩ := hD'; exact Heap.lt_size e
    have hltC : @LT.lt Nat _ cenv.locals g.objs.size := hns'.lt
    have hst1 : IsRangeIter g I _ _ _ := hst
    have hltI : @LT.lt Nat _ I g.objs.size := Heap.lt_size hst1
    have hrs : g.get? I = some _ := hst
    refine comp_start (depth := 1 + 1) (t := .Name x1 px1) (iter := .Call (.Name "range" r1) [.Name x2 r2] [] r3) (ifs := []) (by rw [hg]; rfl) (fun Q E hq => (LCg.range_walks (prog := prog) (w := w) (I := I2) hh 0 i).self 0 _ _ _ (by simpa using hr2) hq) ?_
    refine tri_leaf (x3 := x3) (c := (n : Int)) (u := u) (N := N) (ps := ps ++ triTo2 n i) (s := { s with heap := g, toks := tk' }) (iter := .Call (.Name "range" r1) [.Name x2 r2] [] r3) (px := px1) hh (by rw [hg]; rfl) (by rw [hg]; rfl) hk l1 l2 l3 h12 h13 d1 d2 d3 (n := i) (by omega) (neN (by omega)) hDC (neN (by omega)) hr2 (hns'.keeps kg) hmx ((hm' x3 h13 h23).trans hm)
      (by obtain ⟨nn, e⟩ := hD'; exact ⟨nn, kg _ _ e⟩) (hp.keeps kg) (by have h1 := triTo2_len n i; have h2 : i * i ≤ 30 * 30 := Nat.mul_le_mul (by omega) (by omega); rw [List.length_append]; omega) hN ?_
    intro h' tk'' m'' ys'' hb' hns'' hm'' hD'' hp''
    have hB : But [D, cenv.locals] g h' := But.fresh kg hI2 hb'
    refine ⟨h', tk'', m'', rfl, ?_, hns'', fun y h1 h2 => (hm'' y h1).trans (hm' y h1 h2), hb.trans (hB.mono (by simp)), ys'', hD'', ?_⟩
    rotate_left
    · rw [triTo2, ← List.append_assoc]; exact hp''
    show h'.get? I = some _
    refine hB I _ ?_ hrs
    simp only [List.mem_cons, List.not_mem_nil, or_false, not_or]
    exact ⟨Ne.symm hDI, Ne.symm hCI⟩
  · rintro g tk' m' ⟨hm', hb, ys', hD', hp⟩ hns'
    exact done g tk' m' ys' hb hns' hm' hD' hp
/-- for k in range(n) for j in range(k) for i in range(j): the triples (i, j, k) -/
theorem tri_outer {gens : List Comprehension} {scope : Scope} {pos : Pos} {x1 x2 x3 : Str} {px1 px2 px3 q1 q2 q3 q4 r1 r2 r3 r4 r5 r6 : Pos} {kk : Nat} {iter : Expr} {I D : Addr} {cenv : Env} {R : Result → Shared → Prop} (hh : A.handled = none)
    (hg : gens = [⟨.Name x3 px3, iter, [], 0⟩, ⟨.Name x2 px2, .Call (.Name "range" r1) [.Name x3 r2] [] r3, [], 0⟩, ⟨.Name x1 px1, .Call (.Name "range" r4) [.Name x2 r5] [] r6, [], 0⟩]) (hk : cenv.scope.kind = .function)
    (l1 : cenv.kindOf x1 = some .local) (l2 : cenv.kindOf x2 = some .local) (l3 : cenv.kindOf x3 = some .local) (h12 : x2 ≠ x1) (h13 : x3 ≠ x1) (h23 : x3 ≠ x2) (d1 : (x1 == ("__debug__" : Str)) = false) (d2 : (x2 == ("__debug__" : Str)) = false) (d3 : (x3 == ("__debug__" : Str)) = false)
    {n N : Nat} {h : Heap} {tk : Nat} {m : Str → Option Value} (hn300 : n < 10)
    (hrange : ∀ (p : Pos) (s' : Shared) (Q : Value → Shared → Prop) E, But [I, D, cenv.locals] h s'.heap → Q (.type "range") s' → wpAny (model prog w) A (eval (.Name "range" p) cenv) Q E s')
    (hDI : D ≠ I) (hDC : D ≠ cenv.locals) (hCI : cenv.locals ≠ I) (hI : IsRangeIter h I 0 (n : Int) 1) (hns : h.Ns cenv.locals m) (hD : h.PlainList D #[]) (hN : @LE.le Nat _ N D)
    (done : ∀ h' tk' m' ys', But [I, D, cenv.locals] h h' → h'.Ns cenv.locals m' → h'.PlainList D ys' → Triples h' N ys'.toList (triTo n) → R (.ok .next) { s with heap := h', toks := tk' }) :
    codeAny (model prog w) A (.compLoop (.ListComp (.Tuple [.Name x1 q1, .Name x2 q2, .Name x3 q3] kk q4) gens scope pos) 0 (.ref I) (.ref D) cenv) R { s with heap := h, toks := tk } := by
  have W := LCg.range_walks (prog := prog) (w := w) (I := I) hh 0 n
  refine loop_inner W l3 (by simp [hk]) (by simpa using hCI) (fun i g m' => But [I, D, cenv.locals] h g ∧ ∃ ys', g.PlainList D ys' ∧ Triples g N ys'.toList (triTo i))
    ?_ (depth := 0) (iter := iter) (px := px3) (by rw [hg]; rfl) (t' := .Name x2 px2) (iter' := .Call (.Name "range" r1) [.Name x3 r2] [] r3) (ifs' := []) (by rw [hg]; rfl) (fun _ => rfl) ?_ ?_ (by simpa using hI) hns ⟨.refl _ _, #[], hD, .nil⟩
  · rintro i g g' m' m'' hst hns' ⟨hb, ys', hD', hp⟩ k _
    have kB : But [I, cenv.locals] g g' := fun b o nb e => k b o (fun q => nb (by simp [q])) (fun q => nb (by simp [q])) e
    refine ⟨hb.trans (kB.mono (by simp)), ys', ?_, hp.but kB ?_⟩
    · obtain ⟨nn, e⟩ := hD'
      exact ⟨nn, k _ _ hDI hDC e⟩
    · intro b hb'
      simp only [List.mem_cons, List.not_mem_nil, or_false] at hb'
      rcases hb' with rfl | rfl
      · exact noTup_range hst
      · exact noTup_ns hns'
  · rintro i v g m' tk' E' hi ⟨t', rfl⟩ hst hns' hmx ⟨hb, ys', hD', hp⟩
    have e0 : (0 + (i : Int)) = (i : Int) := by omega
    rw [e0] at hmx
    refine src_range1 (k := (i : Int)) (by omega) (by omega) (fun Q E hq => hrange _ _ _ _ hb hq) (fun Q hq => nm_local hk l3 hns' hmx (hq _ _) d3) rfl ?_
    intro I2 h₂ tk₂ kg hI2 hI2' hr2
    replace hI2 : @LE.le Nat _ g.objs.size I2 := hI2
    replace kg : Grow g h₂ := kg
    have hltD : @LT.lt Nat _ D g.objs.size := by obtain ⟨nn, e⟩ := hD'; exact Heap.lt_size e
    have hltC : @LT.lt Nat _ cenv.locals g.objs.size := hns'.lt
    have hst1 : IsRangeIter g I _ _ _ := hst
    have hltI : @LT.lt Nat _ I g.objs.size := Heap.lt_size hst1
    have hrs : g.get? I = some _ := hst
    refine comp_start (depth := 0 + 1) (t := .Name x2 px2) (iter := .Call (.Name "range" r1) [.Name x3 r2] [] r3) (ifs := []) (by rw [hg]; rfl) (fun Q E hq => (LCg.range_walks (prog := prog) (w := w) (I := I2) hh 0 i).self 0 _ _ _ (by simpa using hr2) hq) ?_
    refine tri_mid (s := { s with heap := g, toks := tk' }) (x3 := x3) (ps := triTo i) (N := N) (u := t') (iter := .Call (.Name "range" r1) [.Name x3 r2] [] r3) (px1 := px1) (px2 := px2) (r1 := r4) (r2 := r5) (r3 := r6) hh hg hk l1 l2 l3 h12 h13 h23 d1 d2 d3 (n := i) (by omega) ?_
      (fun p s' Q E hb' hq => hrange p s' Q E (hb.trans ((But.fresh kg hI2 hb').mono (by simp))) hq) (neN (by omega)) hDC (neN (by omega)) hr2 (hns'.keeps kg) hmx
      (by obtain ⟨nn, e⟩ := hD'; exact ⟨nn, kg _ _ e⟩) (hp.keeps kg) hN ?_
    · have h1 := triTo_len i
      have h2 : i * (i * i) ≤ 10 * (10 * 10) := Nat.mul_le_mul (by omega) (Nat.mul_le_mul (by omega) (by omega))
      omega
    intro h' tk'' m'' ys'' hb' hns'' hm'' hD'' hp''
    have hB : But [D, cenv.locals] g h' := But.fresh kg hI2 hb'
    refine ⟨h', tk'', m'', rfl, ?_, hns'', hb.trans (hB.mono (by simp)), ys'', hD'', hp''⟩
    show h'.get? I = some _
    refine hB I _ ?_ hrs
    simp only [List.mem_cons, List.not_mem_nil, or_false, not_or]
    exact ⟨Ne.symm hDI, Ne.symm hCI⟩
  · rintro g tk' m' ⟨hb, ys', hD', hp⟩ hns'
    exact done g tk' m' ys' hb hns' hD' hp
end
end Mine
namespace Mine
set_option maxRecDepth 100000

abbrev lawEnv (L fa : Addr) (cd : Value) : Env := envOfC (Str.ofString "law") lawScope L fa cd
abbrev lawProg : Program := Challenge.rw_xi0015_01.row.prog

/-- what stands below the law's frame -/
structure Ctx (w : World) (base : Heap) (L : Addr) (mg mb : Str → Option Value) (mean : ExcName → Option Value) (loose : List Str) : Prop where
  X : (hd.heap_39 w.params).In base
  T : Top topProg loose mean mg mb base
  B : Below callerA base [] base
  l79 : @LT.lt Nat _ 79 L
  l72 : @LT.lt Nat _ 72 L
  n79 : base.get? 79 = none
  n72 : base.get? 72 = none
  c79 : CodeHd base 83 79
  c72 : CodeHd base 76 72

section
variable {w : World} {base : Heap} {L fa : Addr} {cd : Value} {mg mb : Str → Option Value} {mean : ExcName → Option Value} {loose : List Str} {A : Around} {E : Value → Shared → Prop} {s : Shared} {env : Env}

theorem nm_builtin {x : Str} {p : Pos} {v : Value} {Q : Value → Shared → Prop} (c : Ctx w base L mg mb mean loose) (hg : env.globals = mainGlobals) (hb : env.builtins = builtinsNs) (hk : env.scope.kind = .function) (hx : env.kindOf x = some .globalImplicit)
    (kp : Grow base s.heap) (e : nsIn (hd.heap_39 w.params) mainGlobals x = some none) (hv : bootBuiltins x = some v) (hn : x ≠ "__name__") (hd : (x == ("__debug__" : Str)) = false) (h : Q v s) : wpAny (model lawProg w) A (eval (.Name x p) env) Q E s :=
  Calls.Name_function_global hk hx (Calls.loadGlobal_builtin (by rw [hg]; exact c.T.g.keeps kp) (mg_none_of c.X c.T.g e) (by rw [hb]; exact c.T.b.keeps kp) ((c.T.builtins x hn).trans hv) h) hd
theorem nm_global {x : Str} {p : Pos} {v : Value} {Q : Value → Shared → Prop} (c : Ctx w base L mg mb mean loose) (hg : env.globals = mainGlobals) (hk : env.scope.kind = .function) (hx : env.kindOf x = some .globalImplicit)
    (kp : Grow base s.heap) (e : nsIn (hd.heap_39 w.params) mainGlobals x = some (some v)) (hd : (x == ("__debug__" : Str)) = false) (h : Q v s) : wpAny (model lawProg w) A (eval (.Name x p) env) Q E s :=
  Calls.Name_function_global hk hx (Calls.loadGlobal_global (by rw [hg]; exact c.T.g.keeps kp) (mg_of c.X c.T.g e) h) hd

theorem K_range : nsIn (hd.heap_39 w.params) mainGlobals (Str.ofString "range") = some none := by kernel_rfl
end
end Mine
namespace Mine
set_option maxRecDepth 100000
section
variable {w : World} {base : Heap} {L fa : Addr} {cd : Value} {mg mb : Str → Option Value} {mean : ExcName → Option Value} {loose : List Str} {A : Around} {E : Value → Shared → Prop} {s : Shared} {env : Env}
  {m : Str → Option Value} {cc cp co ck : Option Value} {tt : Array Value × Array Value}

theorem LawSt.lt (S : LawSt base L s.heap m cc cp co ck tt) : @LT.lt Nat _ L s.heap.objs.size := S.fr.ns.lt


theorem none_of_le {h : Heap} {a : Addr} (e : @LE.le Nat _ h.objs.size a) : h.get? a = none := Heap.get?_none_of_le e

/-- behind a comprehension: the frame has the name, the rest of the old stands -/
theorem comp_end {h h' h'' : Heap} {m'' : Str → Option Value} {C : Addr} (c : Ctx w base L mg mb mean loose) (S : LawSt base L h m cc cp co ck tt) (k1 : Grow h h') (hn : h''.Ns L m'')
    (k2 : ∀ b o, b ≠ L → b ≠ C → h'.get? b = some o → h''.get? b = some o) (hC : @LE.le Nat _ h.objs.size C) : LawSt base L h'' m'' cc cp co ck tt ∧ Grow (still L h) (still L h'') := by
  have k : ∀ b o, b ≠ L → h.get? b = some o → h''.get? b = some o := fun b o n e => k2 b o n (fun q => by have := Heap.lt_size e; rw [q] at this; exact absurd this (Nat.not_lt.mpr hC)) (k1 b o e)
  exact ⟨S.frame hn k c.l79 c.l72, still_grow fun b o n e => k b o (fun q => n (by rw [q]; exact List.mem_cons_self)) e⟩
theorem new_still {h h' h'' : Heap} {C D : Addr} {o : Obj} (S : LawSt base L h m cc cp co ck tt) (k2 : ∀ b o, b ≠ L → b ≠ C → h'.get? b = some o → h''.get? b = some o) (hD : @LE.le Nat _ h.objs.size D) (hDC : D ≠ C) (e : h'.get? D = some o) :
    (still L h'').get? D = some o := by
  have n := S.fresh (none_of_le hD)
  exact still_get (k2 D o (fun q => n (by rw [q]; exact List.mem_cons_self)) hDC e) n
theorem new_tup {h h' h'' : Heap} {C a : Addr} {vs : Array Value} {mC : Str → Option Value} (S : LawSt base L h m cc cp co ck tt) (k2 : ∀ b o, b ≠ L → b ≠ C → h'.get? b = some o → h''.get? b = some o) (ha : @LE.le Nat _ h.objs.size a) (hC : h'.Ns C mC) (x : IsTup h' a vs) : IsTup (still L h'') a vs := by
  obtain ⟨o, e, hc, n, hd⟩ := x
  exact ⟨o, new_still S k2 ha (fun q => noTup_ns hC o (by rw [← q]; exact e) ⟨hc, vs, n, hd⟩) e, hc, n, hd⟩
theorem new_pairs {h h' h'' : Heap} {C : Addr} {N : Nat} {vs : List Value} {ps : List (Int × Int)} {mC : Str → Option Value} (S : LawSt base L h m cc cp co ck tt) (k2 : ∀ b o, b ≠ L → b ≠ C → h'.get? b = some o → h''.get? b = some o) (hN : @LE.le Nat _ h.objs.size N) (hC : h'.Ns C mC)
    (x : Pairs h' N vs ps) : Pairs (still L h'') 0 vs ps :=
  paired_imp x fun _ _ ⟨a, e, l, t, u, y⟩ => ⟨a, e, Nat.zero_le _, t, u, new_tup S k2 (Nat.le_trans hN l) hC y⟩
theorem new_triples {h h' h'' : Heap} {C : Addr} {N : Nat} {vs : List Value} {ps : List (Int × Int × Int)} {mC : Str → Option Value} (S : LawSt base L h m cc cp co ck tt) (k2 : ∀ b o, b ≠ L → b ≠ C → h'.get? b = some o → h''.get? b = some o) (hN : @LE.le Nat _ h.objs.size N) (hC : h'.Ns C mC)
    (x : Triples h' N vs ps) : Triples (still L h'') 0 vs ps :=
  paired_imp x fun _ _ ⟨a, e, l, t, u, v, y⟩ => ⟨a, e, Nat.zero_le _, t, u, v, new_tup S k2 (Nat.le_trans hN l) hC y⟩
theorem but_new {S : List Addr} {h h' : Heap} (k : But S h h') {h0 : Heap} (g : Grow h0 h) (hS : ∀ b ∈ S, @LE.le Nat _ h0.objs.size b) : Grow h0 h' := fun b o e =>
  k b o (fun q => absurd (Heap.lt_size e) (Nat.not_lt.mpr (hS b q))) (g b o e)

set_option maxHeartbeats 1000000 in
theorem st_lines {Q : Flow → Shared → Prop} (c : Ctx w base L mg mb mean loose) (hh : A.handled = none) (S : LawSt base L s.heap m cc cp co ck tt)
    (k : ∀ D h' tk vs, LawSt base L h' (fun z => if z = Str.ofString "lines" then some (.ref D) else m z) cc cp co ck tt → Grow (still L s.heap) (still L h') → (still L h').PlainList D vs → Pairs (still L h') 0 vs.toList (pairsTo 6) → Q .next { s with heap := h', toks := tk }) :
    wpAny (model lawProg w) A (exec (stmt 1) (lawEnv L fa cd)) Q E s := by
  show wpAny _ _ (exec (.Assign [.Name _ _] (.ListComp _ (⟨_, _, _, _⟩ :: _) _ _) _) _) _ _ _
  refine assign_comp (cl := []) rfl rfl (by decide) rfl (by decide) rfl rfl ?_
  have hb : Grow base s.heap := S.fr.keep
  refine src_range1 (k := 6) (by omega) (by omega) (fun Q E hq => nm_builtin c rfl rfl rfl rfl hb K_range (by decide +kernel) (by decide) (by decide) hq) (fun Q hq => wpAny_Constant_int (hq _ _)) rfl ?_
  intro I h₂ tk₂ kg hI hI' hr D C h₁ tk₁ hDC hD hC k₁ hDl hCn
  dsimp only at hD hC k₁ hI ⊢
  have hL := S.lt
  refine comp_start (depth := 0) (by exact rfl) (fun Q E hq => (LCg.range_walks (prog := lawProg) (w := w) (I := I) hh 0 6).self 0 _ _ _ (by exact k₁ _ _ hr) hq) ?_
  refine pairs_outer (N := D) (n := 6) (I := I) (x1 := Str.ofString "j") (x2 := Str.ofString "k") (s := { s with heap := h₂, toks := tk₂ }) hh (by exact rfl) rfl rfl rfl (by decide) (by decide) (by decide) (by omega) ?_ (neN (by omega)) (neN hDC) (neN (Nat.ne_of_gt (Nat.lt_of_lt_of_le hI' hC))) (k₁ _ _ hr) hCn hDl (Nat.le_refl _) ?_
  · intro p s' Q E hb' hq
    have g' : Grow s.heap s'.heap := but_new (S := [I, D, C]) hb' (kg.trans k₁) (by intro b hb0; simp only [List.mem_cons, List.not_mem_nil, or_false] at hb0; rcases hb0 with rfl | rfl | rfl <;> omega)
    exact nm_builtin c rfl rfl rfl rfl (hb.trans g') K_range (by decide +kernel) (by decide) (by decide) hq
  · intro h' tk' m' ys' hb' hn' hD' hp'
    have g' : Grow s.heap h' := but_new (S := [I, D, C]) hb' (kg.trans k₁) (by intro b hb0; simp only [List.mem_cons, List.not_mem_nil, or_false] at hb0; rcases hb0 with rfl | rfl | rfl <;> omega)
    refine ⟨(show @Ne Nat L C by omega), m', m, hn', S.fr.ns.keeps g', fun h'' tk'' hn'' k2 => ?_⟩
    obtain ⟨S', gs⟩ := comp_end c S g' hn'' k2 (by omega)
    obtain ⟨nn, e⟩ := hD'
    exact k D h'' tk'' ys' S' gs ⟨nn, new_still S k2 (by omega) hDC e⟩ (new_pairs S k2 (by omega) hn' hp')
end
end Mine
namespace Mine
set_option maxRecDepth 100000
section
variable {w : World} {base : Heap} {L fa : Addr} {cd : Value} {mg mb : Str → Option Value} {mean : ExcName → Option Value} {loose : List Str} {A : Around} {E : Value → Shared → Prop} {s : Shared} {env : Env}
  {m : Str → Option Value} {cc cp co ck : Option Value} {tt : Array Value × Array Value}

set_option maxHeartbeats 1000000 in
theorem st_threes {Q : Flow → Shared → Prop} (c : Ctx w base L mg mb mean loose) (hh : A.handled = none) (S : LawSt base L s.heap m cc cp co ck tt)
    (k : ∀ D h' tk vs, LawSt base L h' (fun z => if z = Str.ofString "threes" then some (.ref D) else m z) cc cp co ck tt → Grow (still L s.heap) (still L h') → (still L h').PlainList D vs → Triples (still L h') 0 vs.toList (triTo 6) → Q .next { s with heap := h', toks := tk }) :
    wpAny (model lawProg w) A (exec (stmt 4) (lawEnv L fa cd)) Q E s := by
  show wpAny _ _ (exec (.Assign [.Name _ _] (.ListComp _ (⟨_, _, _, _⟩ :: _) _ _) _) _) _ _ _
  refine assign_comp (cl := []) rfl rfl (by decide) rfl (by decide) rfl rfl ?_
  have hb : Grow base s.heap := S.fr.keep
  refine src_range1 (k := 6) (by omega) (by omega) (fun Q E hq => nm_builtin c rfl rfl rfl rfl hb K_range (by decide +kernel) (by decide) (by decide) hq) (fun Q hq => wpAny_Constant_int (hq _ _)) rfl ?_
  intro I h₂ tk₂ kg hI hI' hr D C h₁ tk₁ hDC hD hC k₁ hDl hCn
  dsimp only at hD hC k₁ hI ⊢
  have hL := S.lt
  refine comp_start (depth := 0) (by exact rfl) (fun Q E hq => (LCg.range_walks (prog := lawProg) (w := w) (I := I) hh 0 6).self 0 _ _ _ (by exact k₁ _ _ hr) hq) ?_
  refine tri_outer (N := D) (n := 6) (I := I) (x1 := Str.ofString "i") (x2 := Str.ofString "j") (x3 := Str.ofString "k") (s := { s with heap := h₂, toks := tk₂ }) hh (by exact rfl) rfl rfl rfl rfl (by decide) (by decide) (by decide) (by decide) (by decide) (by decide) (by omega) ?_ (neN (by omega)) (neN hDC) (neN (Nat.ne_of_gt (Nat.lt_of_lt_of_le hI' hC))) (k₁ _ _ hr) hCn hDl (Nat.le_refl _) ?_
  · intro p s' Q E hb' hq
    have g' : Grow s.heap s'.heap := but_new (S := [I, D, C]) hb' (kg.trans k₁) (by intro b hb0; simp only [List.mem_cons, List.not_mem_nil, or_false] at hb0; rcases hb0 with rfl | rfl | rfl <;> omega)
    exact nm_builtin c rfl rfl rfl rfl (hb.trans g') K_range (by decide +kernel) (by decide) (by decide) hq
  · intro h' tk' m' ys' hb' hn' hD' hp'
    have g' : Grow s.heap h' := but_new (S := [I, D, C]) hb' (kg.trans k₁) (by intro b hb0; simp only [List.mem_cons, List.not_mem_nil, or_false] at hb0; rcases hb0 with rfl | rfl | rfl <;> omega)
    refine ⟨(show @Ne Nat L C by omega), m', m, hn', S.fr.ns.keeps g', fun h'' tk'' hn'' k2 => ?_⟩
    obtain ⟨S', gs⟩ := comp_end c S g' hn'' k2 (by omega)
    obtain ⟨nn, e⟩ := hD'
    exact k D h'' tk'' ys' S' gs ⟨nn, new_still S k2 (by omega) hDC e⟩ (new_triples S k2 (by omega) hn' hp')
end
end Mine
namespace Mine
set_option maxRecDepth 100000
section
variable {w : World} {base : Heap} {L fa : Addr} {cd : Value} {mg mb : Str → Option Value} {mean : ExcName → Option Value} {loose : List Str} {s : Shared}
  {m : Str → Option Value} {cc cp co ck : Option Value} {tt : Array Value × Array Value}

theorem lawBelow (c : Ctx w base L mg mb mean loose) (F : Fr base L s.heap m) : Below (lawA L fa cd) base [lawEnv L fa cd] s.heap := by
  have hnew : base.get? L = none := by
    cases hq : base.get? L with
    | none => rfl
    | some o => exact absurd (Nat.lt_of_lt_of_le (Heap.lt_size hq) F.above) (Nat.lt_irrefl _)
  refine ⟨Around.frames_deeper c.B.stack, fun b o e => F.keep b o e, ?_⟩
  exact .cons (by show ScopeKind.function ≠ ScopeKind.module; decide) rfl F.ns hnew (c.B.frames.of_keeps fun b o e _ => ⟨o, F.keep b o e, rfl⟩)

/-- the goal of a call from the law's frame: what stood stands -/
abbrev CallTo (w : World) (L fa : Addr) (cd : Value) (f : Addr) (vs : List Value) (Q : Value → Shared → Prop) (E : Value → Shared → Prop) (s : Shared) : Prop :=
  wpAny (model lawProg w) (lawA L fa cd) (call (.ref f) vs) Q E s
set_option maxHeartbeats 1000000 in
theorem c_add {x k : Int} {t u : Tok} {Q : Value → Shared → Prop} {E : Value → Shared → Prop} (c : Ctx w base L mg mb mean loose) (F : Fr base L s.heap m) 
    (h : ∀ h' n, Grow s.heap h' → @LT.lt Nat _ s.toks n → Q (.int (x + k) n) { s with heap := h', toks := n + 1 }) : CallTo w L fa cd 21 [.int x t, .int k u] Q E s := by
  have B' : Below (lawA L fa cd) base [lawEnv L fa cd] s.heap := lawBelow c F
  have X' : (hd.heap_39 w.params).In s.heap := c.X.keeps F.keep
  have T' : Top topProg loose mean mg mb s.heap := c.T.keeps F.keep
  refine wpAny_call ?_
  show codeAny (model Challenge.rw_xi0015_01.row.prog w) _ _ _ _
  revert X'
  k_fill
  intro X'
  refine' own_call0 X' T' ?ho ?hcd ?hroom ?hbind ?hloc ?hco ?hgen ?hk ?hcell ?_
  case ho => k_is
  case hcd => k_is
  case hroom => k_room
  case hbind => exact BindsTo.of_eq rfl
  case hloc => exact locs rfl
  case hco => exact rfl
  case hgen => exact rfl
  case hk => exact rfl
  case hcell => decide
  intro L' h' hL' F' N'
  refine wpAny_with_toks (n := s.toks + 2) (Nat.le_refl _) ?_
  try dsimp only
  k_fold
  k_steps
  all_goals (refine h _ _ ?_ ?_; exact Fr.keep (by assumption); exact Nat.lt_of_succ_le (Nat.le_of_succ_le_succ (by assumption)))

set_option maxHeartbeats 1000000 in
theorem c_and {x k : Int} {t u : Tok} {Q : Value → Shared → Prop} {E : Value → Shared → Prop} (c : Ctx w base L mg mb mean loose) (F : Fr base L s.heap m) 
    (h : ∀ h' n, Grow s.heap h' → @LT.lt Nat _ s.toks n → Q (.int (Builtin.bitAnd x k) n) { s with heap := h', toks := n + 1 }) : CallTo w L fa cd 28 [.int x t, .int k u] Q E s := by
  have B' : Below (lawA L fa cd) base [lawEnv L fa cd] s.heap := lawBelow c F
  have X' : (hd.heap_39 w.params).In s.heap := c.X.keeps F.keep
  have T' : Top topProg loose mean mg mb s.heap := c.T.keeps F.keep
  refine wpAny_call ?_
  show codeAny (model Challenge.rw_xi0015_01.row.prog w) _ _ _ _
  revert X'
  k_fill
  intro X'
  refine' own_call0 X' T' ?ho ?hcd ?hroom ?hbind ?hloc ?hco ?hgen ?hk ?hcell ?_
  case ho => k_is
  case hcd => k_is
  case hroom => k_room
  case hbind => exact BindsTo.of_eq rfl
  case hloc => exact locs rfl
  case hco => exact rfl
  case hgen => exact rfl
  case hk => exact rfl
  case hcell => decide
  intro L' h' hL' F' N'
  refine wpAny_with_toks (n := s.toks + 2) (Nat.le_refl _) ?_
  try dsimp only
  k_fold
  k_steps
  all_goals (refine h _ _ ?_ ?_; exact Fr.keep (by assumption); exact Nat.lt_of_succ_le (Nat.le_of_succ_le_succ (by assumption)))

set_option maxHeartbeats 1000000 in
theorem c_mul {x k : Int} {t u : Tok} {Q : Value → Shared → Prop} {E : Value → Shared → Prop} (c : Ctx w base L mg mb mean loose) (F : Fr base L s.heap m) (hm : IntMulOk x k)
    (h : ∀ h' n, Grow s.heap h' → @LT.lt Nat _ s.toks n → Q (.int (x * k) n) { s with heap := h', toks := n + 1 }) : CallTo w L fa cd 35 [.int x t, .int k u] Q E s := by
  have B' : Below (lawA L fa cd) base [lawEnv L fa cd] s.heap := lawBelow c F
  have X' : (hd.heap_39 w.params).In s.heap := c.X.keeps F.keep
  have T' : Top topProg loose mean mg mb s.heap := c.T.keeps F.keep
  refine wpAny_call ?_
  show codeAny (model Challenge.rw_xi0015_01.row.prog w) _ _ _ _
  revert X'
  k_fill
  intro X'
  refine' own_call0 X' T' ?ho ?hcd ?hroom ?hbind ?hloc ?hco ?hgen ?hk ?hcell ?_
  case ho => k_is
  case hcd => k_is
  case hroom => k_room
  case hbind => exact BindsTo.of_eq rfl
  case hloc => exact locs rfl
  case hco => exact rfl
  case hgen => exact rfl
  case hk => exact rfl
  case hcell => decide
  intro L' h' hL' F' N'
  refine wpAny_with_toks (n := s.toks + 2) (Nat.le_refl _) ?_
  try dsimp only
  k_fold
  k_steps
  all_goals (refine h _ _ ?_ ?_; exact Fr.keep (by assumption); exact Nat.lt_of_succ_le (Nat.le_of_succ_le_succ (by assumption)))

set_option maxHeartbeats 1000000 in
theorem c_sub {x k : Int} {t u : Tok} {Q : Value → Shared → Prop} {E : Value → Shared → Prop} (c : Ctx w base L mg mb mean loose) (F : Fr base L s.heap m) 
    (h : ∀ h' n, Grow s.heap h' → @LT.lt Nat _ s.toks n → Q (.int (x - k) n) { s with heap := h', toks := n + 1 }) : CallTo w L fa cd 49 [.int x t, .int k u] Q E s := by
  have B' : Below (lawA L fa cd) base [lawEnv L fa cd] s.heap := lawBelow c F
  have X' : (hd.heap_39 w.params).In s.heap := c.X.keeps F.keep
  have T' : Top topProg loose mean mg mb s.heap := c.T.keeps F.keep
  refine wpAny_call ?_
  show codeAny (model Challenge.rw_xi0015_01.row.prog w) _ _ _ _
  revert X'
  k_fill
  intro X'
  refine' own_call0 X' T' ?ho ?hcd ?hroom ?hbind ?hloc ?hco ?hgen ?hk ?hcell ?_
  case ho => k_is
  case hcd => k_is
  case hroom => k_room
  case hbind => exact BindsTo.of_eq rfl
  case hloc => exact locs rfl
  case hco => exact rfl
  case hgen => exact rfl
  case hk => exact rfl
  case hcell => decide
  intro L' h' hL' F' N'
  refine wpAny_with_toks (n := s.toks + 2) (Nat.le_refl _) ?_
  try dsimp only
  k_fold
  k_steps
  all_goals (refine h _ _ ?_ ?_; exact Fr.keep (by assumption); exact Nat.lt_of_succ_le (Nat.le_of_succ_le_succ (by assumption)))

set_option maxHeartbeats 1000000 in
theorem c_rshift {x k : Int} {t u : Tok} {Q : Value → Shared → Prop} {E : Value → Shared → Prop} (c : Ctx w base L mg mb mean loose) (F : Fr base L s.heap m) (hk0 : 0 ≤ k)
    (h : ∀ h' n, Grow s.heap h' → @LT.lt Nat _ s.toks n → Q (.int (x.fdiv (2 ^ k.toNat)) n) { s with heap := h', toks := n + 1 }) : CallTo w L fa cd 42 [.int x t, .int k u] Q E s := by
  have B' : Below (lawA L fa cd) base [lawEnv L fa cd] s.heap := lawBelow c F
  have X' : (hd.heap_39 w.params).In s.heap := c.X.keeps F.keep
  have T' : Top topProg loose mean mg mb s.heap := c.T.keeps F.keep
  refine wpAny_call ?_
  show codeAny (model Challenge.rw_xi0015_01.row.prog w) _ _ _ _
  revert X'
  k_fill
  intro X'
  refine' own_call0 X' T' ?ho ?hcd ?hroom ?hbind ?hloc ?hco ?hgen ?hk ?hcell ?_
  case ho => k_is
  case hcd => k_is
  case hroom => k_room
  case hbind => exact BindsTo.of_eq rfl
  case hloc => exact locs rfl
  case hco => exact rfl
  case hgen => exact rfl
  case hk => exact rfl
  case hcell => decide
  intro L' h' hL' F' N'
  refine wpAny_with_toks (n := s.toks + 2) (Nat.le_refl _) ?_
  try dsimp only
  k_fold
  k_steps
  all_goals (refine h _ _ ?_ ?_; exact Fr.keep (by assumption); exact Nat.lt_of_succ_le (Nat.le_of_succ_le_succ (by assumption)))

end
end Mine
namespace Mine
set_option maxRecDepth 100000

def isFun : Option Obj → Bool
  | some o => match o.data with | .func _ => true | _ => false
  | none => false
theorem isFun_of {o : Option Obj} (h : isFun o = true) : ∃ b fd, o = some b ∧ b.data = .func fd := by
  unfold isFun at h
  split at h
  · split at h
    · rename_i b _ fd e; exact ⟨b, fd, rfl, e⟩
    · cases h
  · cases h
section
variable {w : World}
theorem K_add : nsIn (hd.heap_39 w.params) mainGlobals (Str.ofString "add") = some (some (.ref 21)) := by kernel_rfl
theorem K_and : nsIn (hd.heap_39 w.params) mainGlobals (Str.ofString "and_") = some (some (.ref 28)) := by kernel_rfl
theorem K_mul : nsIn (hd.heap_39 w.params) mainGlobals (Str.ofString "mul") = some (some (.ref 35)) := by kernel_rfl
theorem K_rshift : nsIn (hd.heap_39 w.params) mainGlobals (Str.ofString "rshift") = some (some (.ref 42)) := by kernel_rfl
theorem K_sub : nsIn (hd.heap_39 w.params) mainGlobals (Str.ofString "sub") = some (some (.ref 49)) := by kernel_rfl
theorem K_countOf : nsIn (hd.heap_39 w.params) mainGlobals (Str.ofString "countOf") = some (some (.ref 56)) := by kernel_rfl
theorem K_int_divmod : nsIn (hd.heap_39 w.params) mainGlobals (Str.ofString "int_divmod") = some (some (.ref 98)) := by kernel_rfl
theorem K_reduce : nsIn (hd.heap_39 w.params) mainGlobals (Str.ofString "reduce") = some (some (.ref 107)) := by kernel_rfl
theorem K_dedup : nsIn (hd.heap_39 w.params) mainGlobals (Str.ofString "_deduplicate") = some (some (.ref 115)) := by kernel_rfl
theorem K_len : nsIn (hd.heap_39 w.params) mainGlobals (Str.ofString "len") = some none := by kernel_rfl
theorem K_tuple : nsIn (hd.heap_39 w.params) mainGlobals (Str.ofString "tuple") = some none := by kernel_rfl
theorem K_list : nsIn (hd.heap_39 w.params) mainGlobals (Str.ofString "list") = some none := by kernel_rfl
theorem K_sorted : nsIn (hd.heap_39 w.params) mainGlobals (Str.ofString "sorted") = some none := by kernel_rfl
theorem F_21 : isFun ((hd.heap_39 w.params).lookup 21) = true := by kernel_rfl
theorem F_28 : isFun ((hd.heap_39 w.params).lookup 28) = true := by kernel_rfl
theorem F_35 : isFun ((hd.heap_39 w.params).lookup 35) = true := by kernel_rfl
theorem F_42 : isFun ((hd.heap_39 w.params).lookup 42) = true := by kernel_rfl
theorem F_49 : isFun ((hd.heap_39 w.params).lookup 49) = true := by kernel_rfl
theorem F_56 : isFun ((hd.heap_39 w.params).lookup 56) = true := by kernel_rfl
theorem F_98 : isFun ((hd.heap_39 w.params).lookup 98) = true := by kernel_rfl
theorem F_107 : isFun ((hd.heap_39 w.params).lookup 107) = true := by kernel_rfl
theorem F_115 : isFun ((hd.heap_39 w.params).lookup 115) = true := by kernel_rfl
end

section
variable {w : World} {base : Heap} {L fa : Addr} {cd : Value} {mg mb : Str → Option Value} {mean : ExcName → Option Value} {loose : List Str} {A : Around} {E : Value → Shared → Prop} {s : Shared} {env : Env}
  {m : Str → Option Value} {cc cp co ck : Option Value} {tt : Array Value × Array Value}

/-- a def of the program is called -/
theorem ev_fun {x : Str} {p1 p2 : Pos} {e : Expr} {es : List Expr} {f : Addr} {Q : Value → Shared → Prop} (c : Ctx w base L mg mb mean loose) (hg : env.globals = mainGlobals) (hk : env.scope.kind = .function) (hx : env.kindOf x = some .globalImplicit)
    (kp : Grow base s.heap) (en : nsIn (hd.heap_39 w.params) mainGlobals x = some (some (.ref f))) (hf : isFun ((hd.heap_39 w.params).lookup f) = true) (hd : (x == ("__debug__" : Str)) = false)
    (he : starEach (e :: es) env = (false, eval e env) :: starEach es env)
    (h : wpAny (model lawProg w) A (spliced (backTo p2 (starEach (e :: es) env))) (fun vs s₁ => Grow base s₁.heap ∧ wpAny (model lawProg w) A (call (.ref f) vs) Q E s₁) E s) :
    wpAny (model lawProg w) A (eval (.Call (.Name x p1) (e :: es) [] p2) env) Q E s := by
  obtain ⟨o, fd, e1, e2⟩ := isFun_of hf
  refine Call_ (nm_global c hg hk hx kp en hd (callWith_def (o := o) e2 (wpAny_mono h (fun vs s₁ h₁ => ⟨h₁.1 _ _ (c.X _ _ e1), h₁.2⟩) fun _ _ x => x) he))

theorem ev_fun2 {x : Str} {p1 p2 : Pos} {e1 e2 : Expr} {f : Addr} {Q : Value → Shared → Prop} (c : Ctx w base L mg mb mean loose) (hg : env.globals = mainGlobals) (hk : env.scope.kind = .function) (hx : env.kindOf x = some .globalImplicit)
    (kp : Grow base s.heap) (en : nsIn (hd.heap_39 w.params) mainGlobals x = some (some (.ref f))) (hf : isFun ((hd.heap_39 w.params).lookup f) = true) (hd : (x == ("__debug__" : Str)) = false)
    (hst : starEach [e1, e2] env = [(false, eval e1 env), (false, eval e2 env)])
    (h : wpAny (model lawProg w) A (eval e1 env) (fun v1 s₁ => wpAny (model lawProg w) A (eval e2 env) (fun v2 s₂ => Grow base s₂.heap ∧ wpAny (model lawProg w) A (call (.ref f) [v1, v2]) Q E s₂) E s₁) E s) :
    wpAny (model lawProg w) A (eval (.Call (.Name x p1) [e1, e2] [] p2) env) Q E s := by
  have s2 : starEach [e2] env = [(false, eval e2 env)] := by
    have := hst
    cases e1 <;> simp_all [starEach]
  refine ev_fun c hg hk hx kp en hf hd (by rw [hst, s2]) (wpAny_items_cons (wpAny_mono h (fun v1 s₁ h₁ => ?_) fun _ _ x => x) (by rw [hst, s2]))
  exact wpAny_items_cons (wpAny_mono h₁ (fun v2 s₂ h₂ => wpAny_items_nil h₂) fun _ _ x => x) (by rw [s2]; rfl)

theorem Below.grow : True := trivial

/-- colour = {} -/
theorem st_colour {Q : Flow → Shared → Prop} (S : LawSt base L s.heap m cc cp co ck tt)
    (k : ∀ d h', LawSt base L h' m (some (.ref d)) cp co ck tt → Grow (still L s.heap) (still L h') → (still L s.heap).get? d = none → d ∉ marks L → h'.DictOfH (tupleKind (PySem.intKind lawProg w)) d [] → Q .next { s with heap := h' }) :
    wpAny (model lawProg w) A (exec (stmt 2) (lawEnv L fa cd)) Q E s := by
  show wpAny _ _ (exec (.Assign [.Name _ _] (.Dict [] [] _) _) _) _ _ _
  refine wpAny_Assign_Name (wpAny_Dict_empty ?_)
  have S' := S.grow (Grow.push s.heap { cls := .type "dict", data := .dict #[] })
  refine wpAny_storeName_cell (c := L + 1) (v₀ := cc) rfl rfl rfl S'.c1 fun h' hc hs => ?_
  have hd0 : s.heap.get? s.heap.objs.size = none := Heap.get?_none_of_le (Nat.le_refl _)
  have nd := S.fresh hd0
  have hL : @LT.lt Nat _ L (L + 1) := Nat.lt_succ_self _
  have kb : But [L + 1] (s.heap.push { cls := .type "dict", data := .dict #[] }) h' := sameBut_but hs (by simp)
  have k1 : ∀ b o, b ≠ L + 1 → s.heap.get? b = some o → h'.get? b = some o := fun b o n e => kb b o (by simpa using n) (Heap.get?_push_of_some _ e)
  refine k s.heap.objs.size h' ?_ ?_ ?_ nd ?_
  · refine ⟨⟨S'.fr.ns.sameBut hs (neN (by omega)), ?_, S.fr.above⟩, hc, ?_, ?_, ?_, ?_, ?_⟩
    · intro b o e
      have := Heap.lt_size e
      have hb : @LT.lt Nat _ b L := Nat.lt_of_lt_of_le this S.fr.above
      exact k1 b o (neN (by omega)) (S.fr.keep b o e)
    · obtain ⟨o, e, d⟩ := S'.c2; exact ⟨o, kb _ _ (by simp only [List.mem_singleton]; exact neN (by omega)) e, d⟩
    · obtain ⟨o, e, d⟩ := S'.c3; exact ⟨o, kb _ _ (by simp only [List.mem_singleton]; exact neN (by omega)) e, d⟩
    · obtain ⟨o, e, d⟩ := S'.c4; exact ⟨o, kb _ _ (by simp only [List.mem_singleton]; exact neN (by omega)) e, d⟩
    · have e := S'.t1
      refine kb _ _ ?_ e
      simp only [List.mem_singleton]
      intro q
      obtain ⟨o, e2, d⟩ := S'.c1
      rw [← q, e] at e2; cases e2; cases d
    · have e := S'.t2
      refine kb _ _ ?_ e
      simp only [List.mem_singleton]
      intro q
      obtain ⟨o, e2, d⟩ := S'.c1
      rw [← q, e] at e2; cases e2; cases d
  · exact still_grow fun b o n e => k1 b o (fun q => n (by rw [q]; simp [marks])) e
  · cases e : (still L s.heap).get? s.heap.objs.size with
    | none => rfl
    | some o => have := still_le L _ _ _ e; rw [hd0] at this; cases this
  · have x := Heap.DictOfH.new (knd := tupleKind (PySem.intKind lawProg w)) s.heap
    obtain ⟨o, es, ep, e, a1, a2, a3, a4, a5⟩ := x
    exact ⟨o, es, ep, kb _ _ (by simp only [List.mem_singleton]; intro q; exact nd (by rw [q]; simp [marks])) e, a1, a2, a3, (by simp), a5⟩

/-- products = [] -/
theorem st_products {Q : Flow → Shared → Prop} (c : Ctx w base L mg mb mean loose) (S : LawSt base L s.heap m cc cp co ck tt)
    (k : ∀ P h' tk, LawSt base L h' (fun z => if z = Str.ofString "products" then some (.ref P) else m z) cc cp co ck tt → Grow (still L s.heap) (still L h') → (still L s.heap).get? P = none → P ∉ marks L → h'.PlainList P #[] → Q .next { s with heap := h', toks := tk }) :
    wpAny (model lawProg w) A (exec (stmt 6) (lawEnv L fa cd)) Q E s := by
  show wpAny _ _ (exec (.Assign [.Name _ _] (.List [] _) _) _) _ _ _
  refine wpAny_Assign_Name (wpAny_List (wpAny_items_nil ⟨Nat.zero_le _, ?_⟩))
  have S' := S.grow (Grow.push s.heap { cls := .type "list", data := .seq ([] : List Value).toArray })
  refine wpAny_storeName_local rfl S'.fr.ns (fun h' hn hs => ?_) rfl
  have hd0 : s.heap.get? s.heap.objs.size = none := Heap.get?_none_of_le (Nat.le_refl _)
  have nd := S.fresh hd0
  have kb : ∀ b o, b ≠ L → (s.heap.push { cls := .type "list", data := .seq ([] : List Value).toArray }).get? b = some o → h'.get? b = some o := fun b o n e => hs.extBut b o n e
  refine k s.heap.objs.size h' _ (S'.frame hn kb c.l79 c.l72) ?_ ?_ nd ?_
  · exact still_grow fun b o n e => kb b o (fun q => n (by rw [q]; simp [marks])) (Heap.get?_push_of_some _ e)
  · cases e : (still L s.heap).get? s.heap.objs.size with
    | none => rfl
    | some o => have := still_le L _ _ _ e; rw [hd0] at this; cases this
  · exact ⟨0, kb _ _ (fun q => nd (by rw [q]; simp [marks])) (Heap.get?_push_size _ rfl)⟩

theorem atKey_self {K : Type} [DecidableEq K] {xs : List (K × Addr × Value)} {k : K} {a : Addr} {v : Value} : ∃ a', atKey (storedH xs k a v) k = some (a', v) := by
  have h := kvsOf_storedH xs k a v
  have h2 := valueAt_kvsOf (storedH xs k a v) k
  cases e : atKey xs k with
  | none =>
    rw [storedH_new e]
    refine ⟨a, ?_⟩
    have : xs.find? (fun x => decide (x.1 = k)) = none := by simpa [atKey] using e
    simp [atKey, List.find?_append, this]
  | some p =>
    rw [storedH_old e]
    refine ⟨p.1, ?_⟩
    clear h h2
    induction xs with
    | nil => simp [atKey] at e
    | cons x rest ih =>
      by_cases hx : x.1 = k
      · simp only [atKey, List.map_cons, List.find?_cons, hx, decide_true, Option.map_some, Option.some.injEq] at e ⊢
        simp [putAt, hx, ← e]
      · have e' : atKey rest k = some p := by simpa [atKey, List.find?_cons, hx] using e
        have := ih e'
        simpa [atKey, List.find?_cons, putAt, hx] using this
theorem atKey_other {K : Type} [DecidableEq K] {xs : List (K × Addr × Value)} {k k' : K} {a : Addr} {v : Value} (n : k' ≠ k) : atKey (storedH xs k a v) k' = atKey xs k' := by
  cases e : atKey xs k with
  | none =>
    rw [storedH_new e]
    simp only [atKey, List.find?_append]
    cases xs.find? (fun x => decide (x.1 = k')) with
    | none => simp [Ne.symm n]
    | some _ => rfl
  | some p =>
    rw [storedH_old e]
    clear e
    induction xs with
    | nil => rfl
    | cons x rest ih =>
      by_cases hx : x.1 = k
      · have h1 : ¬ x.1 = k' := fun q => n (q.symm.trans hx)
        simpa [atKey, List.find?_cons, putAt, hx, h1, Ne.symm n] using ih
      · by_cases h1 : x.1 = k'
        · simp [atKey, List.find?_cons, putAt, hx, h1, n]
        · simpa [atKey, List.find?_cons, putAt, hx, h1] using ih
end
end Mine
namespace Mine
set_option maxRecDepth 100000
section
variable {prog : Program} {w : World} {A : Around} {R : Result → Shared → Prop} {E : Value → Shared → Prop} {s : Shared} {env : Env}

/-- for x in range(n): the value's token is told -/
theorem for_range {target : Expr} {body : List Stmt} {I : Addr} {n : Nat} (hh : A.handled = none) (J : Nat → Shared → Prop)
    (hI : ∀ i s, J i s → IsRangeIter s.heap I (i : Int) ((n : Int) - (i : Int)) 1)
    (turn : ∀ i (s : Shared) (E : Value → Shared → Prop), i < n → J i s → ∀ h', Heap.SameBut I s.heap h' → IsRangeIter h' I ((i + 1 : Nat) : Int) ((n : Int) - ((i + 1 : Nat) : Int)) 1 →
      wpAny (model prog w) A (assign target env (.int (i : Int) s.toks)) (fun _ s₂ => wpAny (model prog w) A (execs body env) (fun f s₃ => match f with
        | .next | .cont => J (i + 1) s₃
        | .brk => R (.ok .next) s₃
        | .ret v => R (.ok (.ret v)) s₃) E s₂) E { s with heap := h', toks := s.toks + 1 })
    (done : ∀ s, J n s → ∀ h', Heap.ExtBut I s.heap h' → R (.ok .next) { s with heap := h' })
    {i : Nat} (hi : i ≤ n) (h : J i s) (ht : ∀ v, letOwnedTupleGo target (.ref I) v = pure () := by intro _; rfl) :
    codeAny (model prog w) A (.forLoop target (.ref I) body [] env) R s := by
  refine codeAny_forLoop (fun k s' => ∃ i, i ≤ n ∧ k = n - i ∧ J i s') ?_ (n - i) ⟨i, hi, rfl, h⟩ ht
  rintro k s' ⟨i, hi, rfl, hj⟩
  by_cases hlt : i < n
  · refine wpAny_pyNext_range_item (hI i s' hj) (by omega) fun h' hr hs => ?_
    have hr' : IsRangeIter h' I ((i + 1 : Nat) : Int) ((n : Int) - ((i + 1 : Nat) : Int)) 1 := by
      have e1 : ((i + 1 : Nat) : Int) = (i : Int) + 1 := by omega
      have e2 : (n : Int) - ((i + 1 : Nat) : Int) = (n : Int) - (i : Int) - 1 := by omega
      rw [e2, e1]; exact hr
    refine wpAny_mono (turn i s' _ hlt hj h' hs hr') (fun _ s₂ h₂ => wpAny_mono h₂ (fun f s₃ h₃ => ?_) fun _ _ e => e) fun _ _ e => e
    cases f with
    | next => exact ⟨n - (i + 1), by omega, i + 1, hlt, rfl, h₃⟩
    | cont => exact ⟨n - (i + 1), by omega, i + 1, hlt, rfl, h₃⟩
    | brk => exact h₃
    | ret v => exact h₃
  · obtain rfl : i = n := Nat.le_antisymm hi (Nat.not_lt.mp hlt)
    refine wpAny_pyNext_range_end hh (hI i s' hj) (by omega) fun h' hx => ?_
    show wpAny _ _ (execs [] env) _ _ _
    exact wpAny_pure (done s' hj h' hx)
end

def bit (x : Int) (r : Nat) : Int := Builtin.bitAnd (x.fdiv (2 ^ r)) 1

/-- the colours of the first n lines stand in the dict -/
def Coloured (xs : List (List Int × Addr × Value)) (x : Int) (n T : Nat) : Prop :=
  ∀ r p, r < n → (pairsTo 6)[r]? = some p → (∃ a t, atKey xs [p.1, p.2] = some (a, .int (bit x r) t) ∧ @LT.lt Nat _ 0 t ∧ @LT.lt Nat _ t T) ∧ (∃ a t, atKey xs [p.2, p.1] = some (a, .int (bit x r) t) ∧ @LT.lt Nat _ 0 t ∧ @LT.lt Nat _ t T)
theorem Coloured.mono {xs : List (List Int × Addr × Value)} {x : Int} {n T T' : Nat} (c : Coloured xs x n T) (h : T ≤ T') : Coloured xs x n T' := fun r p hr hp =>
  let ⟨⟨a, t, e, h0, h1⟩, ⟨b, u, f, h2, h3⟩⟩ := c r p hr hp
  ⟨⟨a, t, e, h0, Nat.lt_of_lt_of_le h1 h⟩, ⟨b, u, f, h2, Nat.lt_of_lt_of_le h3 h⟩⟩

def apart (p q : Int × Int) : Bool := [q.1, q.2] != [p.1, p.2] && [q.1, q.2] != [p.2, p.1] && [q.2, q.1] != [p.1, p.2] && [q.2, q.1] != [p.2, p.1]
theorem pairs_apart0 : (List.range 15).all (fun r => (List.range r).all fun r' => apart ((pairsTo 6).getD r (0, 0)) ((pairsTo 6).getD r' (0, 0))) = true := by decide +kernel
theorem pairs_apart (r : Nat) (hr : r < 15) (r' : Nat) (hr' : r' < r) (p : Int × Int) (hp : (pairsTo 6)[r]? = some p) (q : Int × Int) (hq : (pairsTo 6)[r']? = some q) : [q.1, q.2] ≠ [p.1, p.2] ∧ [q.1, q.2] ≠ [p.2, p.1] ∧ [q.2, q.1] ≠ [p.1, p.2] ∧ [q.2, q.1] ≠ [p.2, p.1] := by
  have h := List.all_eq_true.mp (List.all_eq_true.mp pairs_apart0 r (List.mem_range.mpr hr)) r' (List.mem_range.mpr hr')
  rw [List.getD_eq_getElem?_getD, List.getD_eq_getElem?_getD, hp, hq] at h
  simp only [apart, Bool.and_eq_true, bne_iff_ne, Option.getD_some] at h
  exact ⟨h.1.1.1, h.1.1.2, h.1.2, h.2⟩
theorem pairs_two0 : (pairsTo 6).all (fun p => p.1 != p.2 && decide (0 ≤ p.1) && decide (p.1 < p.2) && decide (p.2 < 6)) = true := by decide +kernel
theorem pairs_two (r : Nat) (p : Int × Int) (hp : (pairsTo 6)[r]? = some p) : p.1 ≠ p.2 := by
  have h := List.all_eq_true.mp pairs_two0 p (List.mem_of_getElem? hp)
  simp only [Bool.and_eq_true, bne_iff_ne] at h
  exact h.1.1.1
theorem pairs_len : (pairsTo 6).length = 15 := by decide +kernel

theorem Coloured.step {xs : List (List Int × Addr × Value)} {x : Int} {n T t : Nat} {p : Int × Int} {a b : Addr} (c : Coloured xs x n T) (hn : n < 15) (hp : (pairsTo 6)[n]? = some p) (h0 : @LT.lt Nat _ 0 t) (h1 : @LT.lt Nat _ t T) :
    Coloured (storedH (storedH xs [p.1, p.2] a (.int (bit x n) t)) [p.2, p.1] b (.int (bit x n) t)) x (n + 1) T := by
  intro r q hr hq
  by_cases hrn : r = n
  · subst hrn
    rw [hp] at hq
    cases hq
    obtain ⟨a1, e1⟩ := atKey_self (xs := storedH xs [p.1, p.2] a (.int (bit x r) t)) (k := [p.2, p.1]) (a := b) (v := .int (bit x r) t)
    obtain ⟨a2, e2⟩ := atKey_self (xs := xs) (k := [p.1, p.2]) (a := a) (v := .int (bit x r) t)
    refine ⟨⟨a2, t, ?_, h0, h1⟩, ⟨a1, t, e1, h0, h1⟩⟩
    rw [atKey_other]; exact e2
    intro e
    exact pairs_two r p hp (by injection e)
  · obtain ⟨x1, x2, x3, x4⟩ := pairs_apart n hn r (by omega) p hp q hq
    obtain ⟨⟨a1, t1, e1, y⟩, ⟨a2, t2, e2, z⟩⟩ := c r q (by omega) hq
    exact ⟨⟨a1, t1, by rw [atKey_other x2, atKey_other x1]; exact e1, y⟩, ⟨a2, t2, by rw [atKey_other x4, atKey_other x3]; exact e2, z⟩⟩

/-- the place of a line among the lines -/
def lineNo (i j : Int) : Nat := if i < j then (j * (j - 1) / 2 + i).toNat else (i * (i - 1) / 2 + j).toNat
theorem six_cases0 : (List.range 6).all (fun i => (List.range 6).all fun j => i == j || (decide (lineNo (i : Int) (j : Int) < 15) && ((pairsTo 6)[lineNo i j]? == some ((i : Int), (j : Int)) || (pairsTo 6)[lineNo i j]? == some ((j : Int), (i : Int))))) = true := by decide +kernel
theorem six_cases (i : Nat) (hi : i < 6) (j : Nat) (hj : j < 6) (n : i ≠ j) : lineNo i j < 15 ∧ (((pairsTo 6)[lineNo i j]? = some ((i : Int), (j : Int))) ∨ ((pairsTo 6)[lineNo i j]? = some ((j : Int), (i : Int)))) := by
  have h := List.all_eq_true.mp (List.all_eq_true.mp six_cases0 i (List.mem_range.mpr hi)) j (List.mem_range.mpr hj)
  simp only [Bool.or_eq_true, Bool.and_eq_true, beq_iff_eq, decide_eq_true_eq] at h
  rcases h with h | h
  · exact absurd h n
  · exact h
/-- the colour of the line between i and j -/
def col (x i j : Int) : Int := bit x (lineNo i j)
theorem Coloured.cols {w : World} {h : Heap} {d : Addr} {xs : List (List Int × Addr × Value)} {x : Int} {T : Nat} (c : Coloured xs x 15 T) (hd : h.DictOfH (tupleKind (PySem.intKind lawProg w)) d xs) : Cols lawProg w h d (col x) T := by
  refine ⟨xs, hd, fun i j hij => ?_⟩
  obtain ⟨h1, h2, h3, h4, h5⟩ := hij
  obtain ⟨i, rfl⟩ := Int.eq_ofNat_of_zero_le h1
  obtain ⟨j, rfl⟩ := Int.eq_ofNat_of_zero_le h3
  obtain ⟨hl, hp⟩ := six_cases i (by omega) j (by omega) (by omega)
  rcases hp with hp | hp
  · exact (c _ _ hl hp).1
  · exact (c _ _ hl hp).2
end Mine
namespace Mine
set_option maxRecDepth 100000
section
variable {w : World} {base : Heap} {L d : Addr} {h h' : Heap} {m : Str → Option Value} {cc cp co ck : Option Value} {tt : Array Value × Array Value} {g0 : Heap} {B : List Addr} {xs : List (List Int × Addr × Value)}

theorem LawSt.but (S : LawSt base L h m cc cp co ck tt) (k : But B h h') (hB : ∀ b ∈ B, b ∉ marks L ∧ base.get? b = none) : LawSt base L h' m cc cp co ck tt := by
  have n : ∀ {b}, b ∈ marks L → b ∉ B := fun hb q => (hB _ q).1 hb
  refine ⟨⟨?_, fun b o e => k b o (fun q => by have := (hB _ q).2; rw [this] at e; cases e) (S.fr.keep b o e), S.fr.above⟩, ?_, ?_, ?_, ?_, ?_, ?_⟩
  · obtain ⟨o, es, ep, e, r⟩ := S.fr.ns; exact ⟨o, es, ep, k _ _ (n (by simp [marks])) e, r⟩
  · obtain ⟨o, e, r⟩ := S.c1; exact ⟨o, k _ _ (n (by simp [marks])) e, r⟩
  · obtain ⟨o, e, r⟩ := S.c2; exact ⟨o, k _ _ (n (by simp [marks])) e, r⟩
  · obtain ⟨o, e, r⟩ := S.c3; exact ⟨o, k _ _ (n (by simp [marks])) e, r⟩
  · obtain ⟨o, e, r⟩ := S.c4; exact ⟨o, k _ _ (n (by simp [marks])) e, r⟩
  · exact k _ _ (n (by simp [marks])) S.t1
  · exact k _ _ (n (by simp [marks])) S.t2
theorem grow_but (g : Grow g0 (still L h)) (k : But B h h') (hB : ∀ b ∈ B, g0.get? b = none) : Grow g0 (still L h') := fun b o e =>
  still_get (k b o (fun q => by rw [hB b q] at e; cases e) (still_le L h b o (g b o e))) (still_not (g b o e))
theorem grow_frame (g : Grow g0 (still L h)) (k : ∀ b o, b ≠ L → h.get? b = some o → h'.get? b = some o) : Grow g0 (still L h') := fun b o e =>
  still_get (k b o (fun q => still_not (g b o e) (by rw [q]; simp [marks])) (still_le L h b o (g b o e))) (still_not (g b o e))
theorem still_mono (k : Grow h h') : Grow (still L h) (still L h') := still_grow fun b o _ e => k b o e
theorem still_frame (k : ∀ b o, b ≠ L → h.get? b = some o → h'.get? b = some o) : Grow (still L h) (still L h') := still_grow fun b o n e => k b o (fun q => n (by rw [q]; simp [marks])) e
theorem still_noTup {b : Addr} (x : NoTup h b) : NoTup (still L h) b := fun o e => x o (still_le L h b o e)
theorem key_but {ks : List Int} {a : Addr} (k : But B h h') (hB : ∀ b ∈ B, NoTup h b) (x : IsTupleKey (PySem.intKind lawProg w) h ks a) : IsTupleKey (PySem.intKind lawProg w) h' ks a := by
  obtain ⟨o, it, n, e, hc, hd, r⟩ := x
  exact ⟨o, it, n, k _ _ (fun q => hB a q o e ⟨hc, it, n, hd⟩) e, hc, hd, r⟩
theorem still_but (k : But B h h') : But B (still L h) (still L h') := fun b o n e => still_get (k b o n (still_le L h b o e)) (still_not e)
theorem dict_but (hd : d ∉ B) (k : But B h h') (hB : ∀ b ∈ B, NoTup h b) (x : (still L h).DictOfH (tupleKind (PySem.intKind lawProg w)) d xs) : (still L h').DictOfH (tupleKind (PySem.intKind lawProg w)) d xs := by
  obtain ⟨o, es, ep, e, a1, a2, a3, a4, a5⟩ := x
  exact ⟨o, es, ep, still_but k _ _ hd e, a1, a2, a3, fun y hy => key_but (still_but k) (fun b hb => still_noTup (hB b hb)) (a4 y hy), a5⟩
theorem dict_up (x : (still L h).DictOfH (tupleKind (PySem.intKind lawProg w)) d xs) : h.DictOfH (tupleKind (PySem.intKind lawProg w)) d xs := dictOfH_keeps x (still_le L h)
theorem dict_store {ks : List Int} {a : Addr} {v : Value} (hd : d ∉ marks L) (hs : Heap.SameBut d h h') (x : (still L h).DictOfH (tupleKind (PySem.intKind lawProg w)) d xs) (hk : IsTupleKey (PySem.intKind lawProg w) (still L h) ks a)
    (y : h'.DictOfH (tupleKind (PySem.intKind lawProg w)) d (storedH xs ks a v)) : (still L h').DictOfH (tupleKind (PySem.intKind lawProg w)) d (storedH xs ks a v) := by
  obtain ⟨o, es, ep, e, a1, a2, a3, a4, a5⟩ := y
  have nt : ∀ b ∈ [d], NoTup (still L h) b := by
    intro b hb o e q
    rw [List.mem_singleton.mp hb] at e
    obtain ⟨o', _, _, e', _, hd', _⟩ := x
    rw [e'] at e; cases e
    obtain ⟨_, it, n, q⟩ := q
    rw [hd'] at q; cases q
  have kb : But [d] (still L h) (still L h') := still_but (sameBut_but hs (by simp))
  refine ⟨o, es, ep, still_get e hd, a1, a2, a3, fun z hz => ?_, a5⟩
  obtain ⟨_, _, _, _, _, _, _, a4', _⟩ := x
  rcases mem_storedH hz with ⟨y, hy, e1, e2⟩ | ⟨e1, e2⟩
  · rw [e1, e2]; exact key_but kb nt (a4' y hy)
  · rw [e1, e2]; exact key_but kb nt hk
theorem noTup_dict (x : h.DictOfH (tupleKind (PySem.intKind lawProg w)) d xs) : NoTup h d := by
  intro o e q
  obtain ⟨o', _, _, e', _, hd', _⟩ := x
  rw [e'] at e; cases e
  obtain ⟨_, it, n, q⟩ := q
  rw [hd'] at q; cases q
end
section
variable {w : World} {base : Heap} {L fa : Addr} {cd : Value} {mg mb : Str → Option Value} {mean : ExcName → Option Value} {loose : List Str} {E : Value → Shared → Prop} {s : Shared}
  {m : Str → Option Value} {cc cp co ck : Option Value} {tt : Array Value × Array Value}

theorem lawUnits : (lawA L fa cd).units = 7 := rfl
theorem lawRoom : (lawA L fa cd).units + 1 < cLine := by rw [lawUnits]; decide

/-- a local name of the law's frame takes a value -/
theorem law_store {x : Str} {v : Value} {p : Pos} {Q : Unit → Shared → Prop} (c : Ctx w base L mg mb mean loose) (hx : (lawEnv L fa cd).kindOf x = some .local) (S : LawSt base L s.heap m cc cp co ck tt)
    (k : ∀ h', LawSt base L h' (fun z => if z = x then some v else m z) cc cp co ck tt → (∀ b o, b ≠ L → s.heap.get? b = some o → h'.get? b = some o) → Q () { s with heap := h', toks := s.toks + 1 }) :
    wpAny (model lawProg w) (lawA L fa cd) (assign (.Name x p) (lawEnv L fa cd) v) Q E s := by
  refine wpAny_assign_Name (wpAny_storeName_local hx S.fr.ns (fun h' hn hs => ?_) rfl)
  have kb : ∀ b o, b ≠ L → s.heap.get? b = some o → h'.get? b = some o := fun b o n e => hs.extBut b o n e
  exact k h' (S.frame hn kb c.l79 c.l72) kb
/-- a local name of the law's frame is read -/
theorem law_name {x : Str} {v : Value} {p : Pos} {Q : Value → Shared → Prop} (S : LawSt base L s.heap m cc cp co ck tt) (hx : (lawEnv L fa cd).kindOf x = some .local) (hv : m x = some v) (h : Q v s)
    (hd : (x == ("__debug__" : Str)) = false := by decide) : wpAny (model lawProg w) (lawA L fa cd) (eval (.Name x p) (lawEnv L fa cd)) Q E s :=
  nm_local rfl hx S.fr.ns hv h hd
theorem law_colour {d : Addr} {p : Pos} {Q : Value → Shared → Prop} (S : LawSt base L s.heap m (some (.ref d)) cp co ck tt) (h : Q (.ref d) s) :
    wpAny (model lawProg w) (lawA L fa cd) (eval (.Name (Str.ofString "colour") p) (lawEnv L fa cd)) Q E s :=
  wpAny_Name (wpAny_loadName_cell (c := L + 1) rfl rfl rfl S.c1 h)

/-- colour[x, y] = v in the law's frame -/
theorem law_set {d : Addr} {x y : Str} {p1 p2 p3 p4 p5 : Pos} {kk : Nat} {i j : Int} {t u : Tok} {v : Value} {xs : List (List Int × Addr × Value)} {Q : Unit → Shared → Prop} (S : LawSt base L s.heap m (some (.ref d)) cp co ck tt)
    (hd : d ∉ marks L) (hb : base.get? d = none) (D : (still L s.heap).DictOfH (tupleKind (PySem.intKind lawProg w)) d xs) (hxs : xs.length ≤ sizeLine) (lx : (lawEnv L fa cd).kindOf x = some .local) (ly : (lawEnv L fa cd).kindOf y = some .local)
    (ex : m x = some (.int i t)) (ey : m y = some (.int j u)) (dx : (x == ("__debug__" : Str)) = false) (dy : (y == ("__debug__" : Str)) = false)
    (k : ∀ h' tk a, LawSt base L h' m (some (.ref d)) cp co ck tt → But [d] s.heap h' → s.toks ≤ tk → (still L h').DictOfH (tupleKind (PySem.intKind lawProg w)) d (storedH xs [i, j] a v) → Q () { s with heap := h', toks := tk }) :
    wpAny (model lawProg w) (lawA L fa cd) (assign (.Subscript (.Name (Str.ofString "colour") p1) (.Tuple [.Name x p2, .Name y p3] kk p4) p5) (lawEnv L fa cd) v) Q E s := by
  rw [assign_Subscript]
  refine wpAny_bind (wpAny_holding (law_colour S (wpAny_bind (wpAny_holding (ev_two rfl S.fr.ns lx ly ex ey dx dy (wpAny_bind (wpAny_standAt (wpAny_bind (wpAny_holding ?_)))))))))
  have k0 : Grow s.heap (s.heap.push { cls := .type "tuple", data := .seq #[.int i t, .int j u] }) := .push _ _
  have D1 : (still L (s.heap.push { cls := .type "tuple", data := .seq #[.int i t, .int j u] })).DictOfH (tupleKind (PySem.intKind lawProg w)) d xs := dictOfH_keeps D (still_mono k0)
  have nm := S.fresh (D := s.heap.objs.size) (Heap.get?_none_of_le (Nat.le_refl _))
  have t1 : IsTupleKey (PySem.intKind lawProg w) (still L (s.heap.push { cls := .type "tuple", data := .seq #[.int i t, .int j u] })) [i, j] s.heap.objs.size := by
    refine key_of_tup ⟨t, u, ?_⟩
    obtain ⟨o, e, r⟩ := IsTup.new s.heap #[.int i t, .int j u]
    exact ⟨o, still_get e nm, r⟩
  refine wpAny_setItem_heap (k := [i, j]) (hsz := hxs) (tupleKind_room_in1 lawRoom) (tupleKey_keeps t1 (still_le L _)) (dict_up D1) fun h' hd' hs' => ?_
  refine wpAny_release ?_
  have kb : But [d] s.heap h' := fun b o n e => sameBut_but hs' (by simp) b o n (k0 b o e)
  refine k h' _ _ (S.but kb (by intro b hb'; rw [List.mem_singleton.mp hb']; exact ⟨hd, hb⟩)) kb (Nat.le_add_right _ _) (dict_store hd hs' D1 t1 hd')
end
end Mine
namespace Mine
set_option maxRecDepth 100000
section
variable {w : World} {base : Heap} {L fa : Addr} {cd : Value} {mg mb : Str → Option Value} {mean : ExcName → Option Value} {loose : List Str} {E : Value → Shared → Prop} {s : Shared}
  {m : Str → Option Value} {cc cp co ck : Option Value} {tt : Array Value × Array Value}

theorem pairs_get {h : Heap} {N : Nat} {vs : List Value} {ps : List (Int × Int)} (x : Pairs h N vs ps) {r : Nat} {p : Int × Int} (hp : ps[r]? = some p) : ∃ a, vs[r]? = some (.ref a) ∧ Tup2 h a p.1 p.2 := by
  induction x generalizing r with
  | nil => simp at hp
  | cons h1 _ ih =>
    cases r with
    | zero =>
      simp only [List.getElem?_cons_zero, Option.some.injEq] at hp ⊢
      subst hp
      obtain ⟨a, e, _, y⟩ := h1
      exact ⟨a, e, y⟩
    | succ r => simp only [List.getElem?_cons_succ] at hp ⊢; exact ih hp

def keep3 (m' m : Str → Option Value) : Prop := ∀ z, z ≠ Str.ofString "turn" → z ≠ Str.ofString "j" → z ≠ Str.ofString "k" → m' z = m z

/-- one turn of the colouring -/
theorem colour_turn {d D : Addr} {g0 : Heap} {vs : Array Value} {xs : List (List Int × Addr × Value)} {x : Int} {t0 : Tok} {n : Nat} {p1 p2 p3 p4 p5 p6 p7 p8 p9 p10 p11 p12 p13 p14 p15 p16 p17 p18 p19 p20 p21 p22 p23 p24 p25 : Pos} {k1 k2 k3 k4 : Nat} {Q : Flow → Shared → Prop}
    (c : Ctx w base L mg mb mean loose) (hn : n < 15) {t : Tok} (S : LawSt base L s.heap m (some (.ref d)) cp co ck tt) (hd : d ∉ marks L) (hb : base.get? d = none) (hg : g0.get? d = none)
    (G : Grow g0 (still L s.heap)) (hl : g0.PlainList D vs) (hp : Pairs g0 0 vs.toList (pairsTo 6)) (ml : m (Str.ofString "lines") = some (.ref D)) (mt : m (Str.ofString "turn") = some (.int (n : Int) t)) (md : m (Str.ofString "drawn") = some (.int x t0))
    (Dx : (still L s.heap).DictOfH (tupleKind (PySem.intKind lawProg w)) d xs) (hxs : xs.length ≤ 2 * n) (Cx : Coloured xs x n s.toks)
    (k : ∀ h' tk m' xs', LawSt base L h' m' (some (.ref d)) cp co ck tt → keep3 m' m → But [L, d] s.heap h' → (still L h').DictOfH (tupleKind (PySem.intKind lawProg w)) d xs' → xs'.length ≤ 2 * (n + 1) → Coloured xs' x (n + 1) tk → Q .next { s with heap := h', toks := tk }) :
    wpAny (model lawProg w) (lawA L fa cd) (execs [
      .Assign [.Tuple [.Name (Str.ofString "j") p1, .Name (Str.ofString "k") p2] k1 p3] (.Subscript (.Name (Str.ofString "lines") p4) (.Name (Str.ofString "turn") p5) p6) p7,
      .Assign [.Subscript (.Name (Str.ofString "colour") p8) (.Tuple [.Name (Str.ofString "j") p9, .Name (Str.ofString "k") p10] k2 p11) p12,
               .Subscript (.Name (Str.ofString "colour") p13) (.Tuple [.Name (Str.ofString "k") p14, .Name (Str.ofString "j") p15] k3 p16) p17]
        (.Call (.Name (Str.ofString "and_") p18) [.Call (.Name (Str.ofString "rshift") p19) [.Name (Str.ofString "drawn") p20, .Name (Str.ofString "turn") p21] [] p22, .Constant (.int 1) k4 p23] [] p24) p25] (lawEnv L fa cd)) Q E s := by
  have hL := S.lt
  obtain ⟨q, hq⟩ : ∃ q, (pairsTo 6)[n]? = some q := ⟨_, List.getElem?_eq_getElem (by rw [pairs_len]; exact hn)⟩
  obtain ⟨a, ha, ht⟩ := pairs_get hp hq
  have up : Grow g0 s.heap := G.trans (still_le L _)
  have hlist : s.heap.IsList D vs := by obtain ⟨nn, e⟩ := hl; exact ⟨_, up _ _ e, rfl, nn, rfl⟩
  have ha' : vs[((n : Int)).toNat]? = some (.ref a) := by simpa using ha
  obtain ⟨t1, t2, ht⟩ := ht
  refine wpAny_execs_cons (Assign_Tuple (Subscript_ (law_name S rfl ml (law_name S rfl mt (item_list hlist (by omega) (by omega) ha' ?_)))))
  refine wpAny_assign_Tuple (items := #[.int q.1 t1, .int q.2 t2]) rfl (ht.keeps up) rfl rfl fun h1 he1 => ?_
  have kg1 : Grow s.heap h1 := fun b o e => he1 b o (Nat.ne_of_lt (Heap.lt_size e)) e
  have S1 := S.grow kg1
  show wpAny _ _ (assignInOrder [assign (.Name (Str.ofString "j") p1) (lawEnv L fa cd), assign (.Name (Str.ofString "k") p2) (lawEnv L fa cd)] [.int q.1 t1, .int q.2 t2]) _ _ _
  refine assignInOrder_cons (law_store (s := { s with heap := h1 }) c rfl S1 fun h2 S2 k2 => assignInOrder_cons (law_store (s := { s with heap := h2, toks := s.toks + 1 }) c rfl S2 fun h3 S3 k3 => assignInOrder_nil ?_))
  dsimp only at k2 k3
  have kb3 : But [L] s.heap h3 := fun b o nb e => by
    have nb' : b ≠ L := by simpa using nb
    exact k3 b o nb' (k2 b o nb' (kg1 b o e))
  have D3 : (still L h3).DictOfH (tupleKind (PySem.intKind lawProg w)) d xs := dictOfH_keeps Dx (still_frame fun b o nb e => kb3 b o (by simpa using nb) e)
  have G3 : Grow g0 (still L h3) := grow_frame G fun b o nb e => kb3 b o (by simpa using nb) e
  have gb : Grow base h3 := S3.fr.keep
  refine wpAny_execs_cons (wpAny_Assign_two ?_)
  refine ev_fun2 c rfl rfl rfl gb K_and F_28 (by decide) rfl ?_
  refine ev_fun2 c rfl rfl rfl gb K_rshift F_42 (by decide) rfl ?_
  refine law_name (s := { s with heap := h3, toks := s.toks + 1 + 1 }) S3 rfl (v := .int x t0) (by simp only [show (Str.ofString "drawn" = Str.ofString "k") = False by decide, show (Str.ofString "drawn" = Str.ofString "j") = False by decide, if_false]; exact md) ?_
  refine law_name (s := { s with heap := h3, toks := s.toks + 1 + 1 }) S3 rfl (v := .int n t) (by simp only [show (Str.ofString "turn" = Str.ofString "k") = False by decide, show (Str.ofString "turn" = Str.ofString "j") = False by decide, if_false]; exact mt) ?_
  refine ⟨gb, c_rshift (s := { s with heap := h3, toks := s.toks + 1 + 1 }) c S3.fr (by omega) fun h4 n4 g4 l4 => ?_⟩
  dsimp only at g4 l4
  have S4 := S3.grow g4
  refine wpAny_Constant_int ?_
  refine ⟨S4.fr.keep, c_and (s := { s with heap := h4, toks := n4 + 1 + 1 }) c S4.fr fun h5 n5 g5 l5 => ?_⟩
  dsimp only at g5 l5
  have S5 := S4.grow g5
  have D5 : (still L h5).DictOfH (tupleKind (PySem.intKind lawProg w)) d xs := dictOfH_keeps D3 (still_mono (g4.trans g5))
  have ebit : Builtin.bitAnd (x.fdiv (2 ^ (n : Int).toNat)) 1 = bit x n := rfl
  rw [ebit]
  refine law_set (s := { s with heap := h5, toks := n5 + 1 }) (i := q.1) (j := q.2) (t := t1) (u := t2) S5 hd hb D5 (by rw [sizeLine_eq]; omega) rfl rfl ?_ ?_ (by decide) (by decide) fun h6 n6 a6 S6 k6 l6 D6 => ?_
  · simp only [show (Str.ofString "j" = Str.ofString "k") = False by decide, if_false, if_true]
  · simp only [if_true]
  dsimp only at k6 l6
  refine law_set (s := { s with heap := h6, toks := n6 }) (i := q.2) (j := q.1) (t := t2) (u := t1) S6 hd hb D6 ?_ rfl rfl ?_ ?_ (by decide) (by decide) fun h7 n7 a7 S7 k7 l7 D7 => ?_
  · have : (storedH xs [q.1, q.2] a6 (.int (bit x n) n5)).length ≤ xs.length + 1 := by unfold storedH; split <;> simp
    rw [sizeLine_eq]; omega
  · simp only [if_true]
  · simp only [show (Str.ofString "j" = Str.ofString "k") = False by decide, if_false, if_true]
  dsimp only at k7 l7
  show wpAny _ _ (execs [] _) _ _ _
  refine wpAny_pure (k h7 n7 _ _ S7 ?_ ?_ D7 ?_ ?_)
  · intro z h1 h2 h3
    simp only [h2, h3, if_false]
  · intro b o nb e
    simp only [List.mem_cons, List.not_mem_nil, or_false, not_or] at nb
    exact k7 b o (by simpa using nb.2) (k6 b o (by simpa using nb.2) (g5 b o (g4 b o (kb3 b o (by simpa using nb.1) e))))
  · have h1 : (storedH xs [q.1, q.2] a6 (.int (bit x n) n5)).length ≤ xs.length + 1 := by unfold storedH; split <;> simp
    have h2 : (storedH (storedH xs [q.1, q.2] a6 (.int (bit x n) n5)) [q.2, q.1] a7 (.int (bit x n) n5)).length ≤ (storedH xs [q.1, q.2] a6 (.int (bit x n) n5)).length + 1 := by
      generalize storedH xs [q.1, q.2] a6 (.int (bit x n) n5) = ys
      unfold storedH; split <;> simp
    omega
  · exact (Cx.mono (T' := n7) (by omega)).step hn hq (by omega) (by omega)
end
end Mine
namespace Mine
set_option maxRecDepth 100000
section
variable {w : World} {base : Heap} {L fa : Addr} {cd : Value} {mg mb : Str → Option Value} {mean : ExcName → Option Value} {loose : List Str} {E : Value → Shared → Prop} {s : Shared}
  {m : Str → Option Value} {cc cp co ck : Option Value} {tt : Array Value × Array Value}

theorem still_none {h : Heap} {a : Addr} (e : h.get? a = none) : (still L h).get? a = none := by
  cases e' : (still L h).get? a with
  | none => rfl
  | some o => have := still_le L _ _ _ e'; rw [e] at this; cases this
theorem none_below {g h : Heap} {a : Addr} (G : Grow g h) (e : h.get? a = none) : g.get? a = none := by
  cases e' : g.get? a with
  | none => rfl
  | some o => have := G _ _ e'; rw [e] at this; cases this
theorem cols_still {d : Addr} {h : Heap} {xs : List (List Int × Addr × Value)} {x : Int} {T : Nat} (D : (still L h).DictOfH (tupleKind (PySem.intKind lawProg w)) d xs) (c : Coloured xs x 15 T) : Cols lawProg w (still L h) d (col x) T := c.cols D

/-- the colours are told -/
theorem st_loop {d D : Addr} {g0 : Heap} {vs : Array Value} {x : Int} {t0 : Tok} {Q : Flow → Shared → Prop} (c : Ctx w base L mg mb mean loose) (S : LawSt base L s.heap m (some (.ref d)) cp co ck tt) (hd : d ∉ marks L) (hb : base.get? d = none) (hg : g0.get? d = none)
    (G : Grow g0 (still L s.heap)) (hl : g0.PlainList D vs) (hp : Pairs g0 0 vs.toList (pairsTo 6)) (ml : m (Str.ofString "lines") = some (.ref D)) (md : m (Str.ofString "drawn") = some (.int x t0))
    (Dx : (still L s.heap).DictOfH (tupleKind (PySem.intKind lawProg w)) d [])
    (k : ∀ h' tk m', LawSt base L h' m' (some (.ref d)) cp co ck tt → keep3 m' m → Grow g0 (still L h') → Cols lawProg w (still L h') d (col x) tk → Q .next { s with heap := h', toks := tk }) :
    wpAny (model lawProg w) (lawA L fa cd) (exec (stmt 3) (lawEnv L fa cd)) Q E s := by
  show wpAny _ _ (exec (.For (.Name _ _) (.Call (.Name _ _) [.Constant (.int 15) _ _] [] _) [.Assign [.Tuple [.Name _ _, .Name _ _] _ _] (.Subscript (.Name _ _) (.Name _ _) _) _,
      .Assign [.Subscript (.Name _ _) (.Tuple [.Name _ _, .Name _ _] _ _) _, .Subscript (.Name _ _) (.Tuple [.Name _ _, .Name _ _] _ _) _]
        (.Call (.Name _ _) [.Call (.Name _ _) [.Name _ _, .Name _ _] [] _, .Constant (.int 1) _ _] [] _) _] [] _) _) _ _ _
  refine wpAny_For ?_
  refine src_range1 (k := 15) (by omega) (by omega) (fun Q E hq => nm_builtin c rfl rfl rfl rfl S.fr.keep K_range (by decide +kernel) (by decide) (by decide) hq) (fun Q hq => wpAny_Constant_int (hq _ _)) rfl ?_
  intro I h₂ tk₂ kg hI hI' hr
  have hI0 : s.heap.get? I = none := none_of_le hI
  have nI := S.fresh hI0
  have bI : base.get? I = none := none_below S.fr.keep hI0
  have gI : g0.get? I = none := none_below G (still_none hI0)
  have hdI : d ≠ I := fun q => by obtain ⟨o, _, _, e, _⟩ := dict_up Dx; rw [q, hI0] at e; cases e
  have hLI : L ≠ I := fun q => nI (by rw [← q]; simp [marks])
  have S2 := S.grow kg
  refine for_range (n := 15) (i := 0) rfl (fun i s' => ∃ h tk m' xs, s' = { s with heap := h, toks := tk } ∧ LawSt base L h m' (some (.ref d)) cp co ck tt ∧ keep3 m' m ∧ Grow g0 (still L h) ∧ IsRangeIter h I (i : Int) ((15 : Nat) - (i : Int)) 1 ∧
    (still L h).DictOfH (tupleKind (PySem.intKind lawProg w)) d xs ∧ xs.length ≤ 2 * i ∧ Coloured xs x i tk) ?_ ?_ ?_ (Nat.zero_le _) ⟨h₂, tk₂, m, [], rfl, S2, fun _ _ _ _ => rfl, G.trans (still_mono kg), by simpa using hr, dictOfH_keeps Dx (still_mono kg), Nat.zero_le _, fun r p hr => absurd hr (Nat.not_lt_zero _)⟩
  · rintro i s' ⟨h, tk, m', xs, rfl, _, _, _, hr', _⟩
    exact hr'
  · rintro i s' E hi ⟨h, tk, m', xs, rfl, S', km, G', hr', D', hl', C'⟩ h' hs' hr2
    dsimp only at hs'
    have kb : But [I] h h' := sameBut_but hs' (by simp)
    have S3 := S'.but kb (by intro b hb'; rw [List.mem_singleton.mp hb']; exact ⟨nI, bI⟩)
    have G3 := grow_but G' kb (by intro b hb'; rw [List.mem_singleton.mp hb']; exact gI)
    have D3 := dict_but (by simpa using hdI) kb (by intro b hb'; rw [List.mem_singleton.mp hb']; exact noTup_range hr') D'
    refine law_store (s := { s with heap := h', toks := tk + 1 }) c rfl S3 fun h4 S4 k4 => ?_
    dsimp only at k4
    have G4 : Grow g0 (still L h4) := grow_frame G3 k4
    refine colour_turn (s := { s with heap := h4, toks := tk + 1 + 1 }) (x := x) (t := tk) (t0 := t0) (xs := xs) c hi S4 hd hb hg G4 hl hp ?_ ?_ ?_ (dictOfH_keeps D3 (still_frame k4)) hl' (C'.mono (by show tk ≤ tk + 1 + 1; omega)) ?_
    · simp only [show (Str.ofString "lines" = Str.ofString "turn") = False by decide, if_false]
      rw [km _ (by decide) (by decide) (by decide)]; exact ml
    · simp only [if_true]
    · simp only [show (Str.ofString "drawn" = Str.ofString "turn") = False by decide, if_false]
      rw [km _ (by decide) (by decide) (by decide)]; exact md
    · intro h5 tk5 m5 xs5 S5 km5 k5 D5 l5 C5
      refine ⟨h5, tk5, m5, xs5, rfl, S5, ?_, ?_, ?_, D5, l5, C5⟩
      · intro z h1 h2 h3
        rw [km5 z h1 h2 h3]
        simp only [h1, if_false]
        exact km z h1 h2 h3
      · intro b o e
        have e4 := G4 b o e
        have nb := still_not e4
        refine still_get (k5 b o ?_ (still_le L _ _ _ e4)) nb
        simp only [List.mem_cons, List.not_mem_nil, or_false, not_or]
        refine ⟨fun q => nb (by rw [q]; simp [marks]), fun q => ?_⟩
        rw [q, hg] at e; cases e
      · have hr3 : h'.get? I = some _ := hr2
        show h5.get? I = some _
        refine k5 I _ ?_ (k4 I _ (Ne.symm hLI) hr3)
        simp only [List.mem_cons, List.not_mem_nil, or_false, not_or]
        exact ⟨Ne.symm hLI, Ne.symm hdI⟩
  · rintro s' ⟨h, tk, m', xs, rfl, S', km, G', hr', D', hl', C'⟩ h' hx
    dsimp only at hx
    have kb : But [I] h h' := fun b o nb e => hx b o (by simpa using nb) e
    have S3 := S'.but kb (by intro b hb'; rw [List.mem_singleton.mp hb']; exact ⟨nI, bI⟩)
    have G3 := grow_but G' kb (by intro b hb'; rw [List.mem_singleton.mp hb']; exact gI)
    have D3 := dict_but (by simpa using hdI) kb (by intro b hb'; rw [List.mem_singleton.mp hb']; exact noTup_range hr') D'
    exact k h' tk m' S3 km G3 (C'.cols D3)
end
end Mine
namespace Mine
set_option maxRecDepth 100000
section
variable {w : World} {A : Around} {E : Value → Shared → Prop} {s : Shared} {env : Env}

/-- colour[three[a], three[b]] -/
theorem ev_colT {x y : Str} {p1 p2 p3 p4 p5 p6 p7 p8 p9 : Pos} {k1 k2 k3 : Nat} {d a : Addr} {c : Int → Int → Int} {T : Nat} {n1 n2 : Int} {vs : List Value} {t1 t2 : Tok} {c1 c2 : Nat} {m : Str → Option Value} {Q : Value → Shared → Prop} (hu : A.units + 1 < cLine)
    (C : Cols lawProg w s.heap d c T) (hij : InSix n1 n2) (hk : env.scope.kind = .function) (ly : env.kindOf y = some .local) (hn : s.heap.Ns env.locals m) (hm : m y = some (.ref a)) (dy : (y == ("__debug__" : Str)) = false)
    (hx : ∀ Q E, Q (.ref d) s → wpAny (model lawProg w) A (eval (.Name x p1) env) Q E s)
    (ht : IsTup s.heap a vs.toArray) (e1 : vs[c1]? = some (.int n1 t1)) (e2 : vs[c2]? = some (.int n2 t2)) (h1 : c1 < 100) (h2 : c2 < 100)
    (h : ∀ h' t n, Grow s.heap h' → @LT.lt Nat _ 0 t → @LT.lt Nat _ t T → Q (.int (c n1 n2) t) { s with heap := h', toks := n }) :
    wpAny (model lawProg w) A (eval (.Subscript (.Name x p1) (.Tuple [.Subscript (.Name y p2) (.Constant (.int (c1 : Int)) k1 p3) p4, .Subscript (.Name y p5) (.Constant (.int (c2 : Int)) k2 p6) p7] k3 p8) p9) env) Q E s := by
  have l1 : c1 < vs.length := (List.getElem?_eq_some_iff.mp e1).1
  have l2 : c2 < vs.length := (List.getElem?_eq_some_iff.mp e2).1
  refine ev_col hu C hij hx rfl ?_ ?_ h
  · intro Q hq
    exact ev_item (fun Q E hq => nm_local hk ly hn hm hq dy) ht (by omega) (by omega) (seqIndex_of (by omega) (by omega)) (by simpa using e1) (hq _ _)
  · intro n Q hq
    exact ev_item (s := { s with toks := n }) (fun Q E hq => nm_local hk ly hn hm hq dy) ht (by omega) (by omega) (seqIndex_of (by omega) (by omega)) (by simpa using e2) (hq _ _)

def tripOf (g : Heap) : Value → Int × Int × Int
  | .ref a => match g.get? a with
    | some o => match o.data with
      | .seq it _ => match it.toList with
        | [.int i _, .int j _, .int k _] => (i, j, k)
        | _ => (0, 0, 0)
      | _ => (0, 0, 0)
    | none => (0, 0, 0)
  | _ => (0, 0, 0)
theorem tripOf_eq {g : Heap} {a : Addr} {i j k : Int} (x : Tup3 g a i j k) : tripOf g (.ref a) = (i, j, k) := by
  obtain ⟨t, u, v, o, e, hc, n, hd⟩ := x
  simp [tripOf, e, hd]

theorem triples_filter {g : Heap} {N : Nat} (p : Int × Int × Int → Bool) {vs : List Value} {ps : List (Int × Int × Int)} (x : Triples g N vs ps) : Triples g N (vs.filter fun v => p (tripOf g v)) (ps.filter p) := by
  induction x with
  | nil => exact .nil
  | cons h1 _ ih =>
    obtain ⟨a, rfl, l, t⟩ := h1
    have e := tripOf_eq t
    simp only [List.filter_cons, e]
    split
    · exact .cons ⟨a, rfl, l, t⟩ ih
    · exact ih
theorem triples_mem {g : Heap} {N : Nat} {vs : List Value} {ps : List (Int × Int × Int)} (x : Triples g N vs ps) {v : Value} (hv : v ∈ vs) : ∃ a p, v = .ref a ∧ p ∈ ps ∧ Tup3 g a p.1 p.2.1 p.2.2 := by
  induction x with
  | nil => cases hv
  | cons h1 _ ih =>
    rcases List.mem_cons.mp hv with rfl | hv
    · obtain ⟨a, e, _, t⟩ := h1
      exact ⟨a, _, e, List.mem_cons_self, t⟩
    · obtain ⟨a, p, e, hp, t⟩ := ih hv
      exact ⟨a, p, e, List.mem_cons_of_mem _ hp, t⟩
theorem paired_eq {vs ys : List Value} (x : Paired (fun v y => y = v) vs ys) : ys = vs := by
  induction x with
  | nil => rfl
  | cons h _ ih => rw [h, ih]
end
section
variable {w : World} {base : Heap} {L fa : Addr} {cd : Value} {mg mb : Str → Option Value} {mean : ExcName → Option Value} {loose : List Str} {E : Value → Shared → Prop} {s : Shared}
  {m : Str → Option Value} {cc cp co ck : Option Value} {tt : Array Value × Array Value}

/-- y = [x for x in src if ..], over a list of triples -/
theorem st_filter {x y src : Str} {px py pe ps' : Pos} {ifs : List Expr} {scope : Scope} {cl : List (Str × Addr)} {pos spos : Pos} {D : Addr} {g0 : Heap} {vs : Array Value} {ps : List (Int × Int × Int)} (pz : Int × Int × Int → Bool) {Q : Flow → Shared → Prop}
    (hsw : swapsWith (.ListComp (.Name x pe) [⟨.Name x px, .Name src ps', ifs, 0⟩] scope pos) (some (.Name y py)) spos.line (lawEnv L fa cd) = pure true)
    (hclos : closureFor scope (lawEnv L fa cd) = pure cl) (hcell : ∀ z ∈ scope.names, z.2 ≠ .cell) (hkind : scope.kind = .function)
    (hnames : ∀ z ∈ scope.names, z.2 = .local → scope.names.lookup z.1 = some .local) (hx : scope.names.lookup x = some .local)
    (hy : (lawEnv L fa cd).kindOf y = some .local) (hsrc : (lawEnv L fa cd).kindOf src = some .local) (dsrc : (src == ("__debug__" : Str)) = false) (dx : (x == ("__debug__" : Str)) = false)
    (c : Ctx w base L mg mb mean loose) (S : LawSt base L s.heap m cc cp co ck tt) (G : Grow g0 (still L s.heap)) (hl : g0.PlainList D vs) (hp : Triples g0 0 vs.toList ps) (hlen : ps.length < 100000) (ms : m src = some (.ref D))
    (htest : ∀ C a p s₃ m₃ E', @LE.le Nat _ s.heap.objs.size C → p ∈ ps → Tup3 g0 a p.1 p.2.1 p.2.2 → s₃.heap.Ns C m₃ → m₃ x = some (.ref a) → Grow s.heap s₃.heap → s.toks ≤ s₃.toks →
      wpAny (model lawProg w) (lawA L fa cd) (forIn ifs true fun c r => if r = true then do let ok ← isTrue c (compEnvC scope cl C (lawEnv L fa cd)) (eval c (compEnvC scope cl C (lawEnv L fa cd))); pure (ForInStep.yield ok) else pure (ForInStep.yield r))
        (fun ok s₄ => ok = pz p ∧ Keeps s₃ s₄) E' s₃)
    (k : ∀ D' h' tk ys, LawSt base L h' (fun z => if z = y then some (.ref D') else m z) cc cp co ck tt → Grow (still L s.heap) (still L h') → (still L h').PlainList D' ys → Triples (still L h') 0 ys.toList (ps.filter pz) → Q .next { s with heap := h', toks := tk }) :
    wpAny (model lawProg w) (lawA L fa cd) (exec (.Assign [.Name y py] (.ListComp (.Name x pe) [⟨.Name x px, .Name src ps', ifs, 0⟩] scope pos) spos) (lawEnv L fa cd)) Q E s := by
  have up : Grow g0 s.heap := G.trans (still_le L _)
  have hlist : s.heap.IsList D vs := by obtain ⟨nn, e⟩ := hl; exact ⟨_, up _ _ e, rfl, nn, rfl⟩
  have hlt : @LT.lt Nat _ D s.heap.objs.size := by obtain ⟨_, e, _⟩ := hlist; exact Heap.lt_size e
  have hvl : vs.size = ps.length := by have := Paired.length hp; simpa using this
  refine wpAny_Assign_ListComp_free (fun v => pz (tripOf g0 v)) (fun v y => y = v) hsw hclos hcell hkind hnames hx hy rfl ?_
  refine law_name S hsrc ms (wpAny_pyIter_list hlist ?_) dsrc
  have kp : Grow s.heap (s.heap.push { cls := .type "list_iterator", data := .fields #[.ref D, .int 0 0] }) := .push _ _
  refine ⟨s.heap.objs.size, [s.heap.objs.size, D], [s.heap.objs.size], vs.size, _, _, m, rfl, Walks.list (A := lawA L fa cd) rfl s.heap.objs.size D (Nat.ne_of_lt hlt) vs, by rw [hvl, sizeLine_eq]; omega, ⟨⟨_, Heap.get?_push_size _ rfl, rfl, rfl⟩, hlist.push _⟩, ?_, ?_, S.fr.ns.keeps kp, ?_, ?_⟩
  · intro b hb
    show @LT.lt Nat _ b (s.heap.push _).objs.size
    rw [Heap.size_push]
    rcases List.mem_cons.mp hb with rfl | hb
    · exact Nat.lt_succ_self _
    · rw [List.mem_singleton.mp hb]; exact Nat.lt_succ_of_lt hlt
  · show L ∉ [s.heap.objs.size]
    have := S.lt
    simp only [List.mem_singleton]
    exact neN (Nat.ne_of_lt this)
  · have old : ∀ {s₃ : Shared}, (∀ b o, b ∉ [s.heap.objs.size] → (s.heap.push { cls := .type "list_iterator", data := .fields #[.ref D, .int 0 0] }).get? b = some o → s₃.heap.get? b = some o) → Grow s.heap s₃.heap := fun hk b o e =>
      hk b o (by simp only [List.mem_singleton]; exact neN (Nat.ne_of_lt (Heap.lt_size e))) (kp b o e)
    constructor
    · intro C i v s₃ m₃ E' hC hv hn hm hk htk
      obtain ⟨a, p, rfl, hp1, t1⟩ := triples_mem hp (List.mem_of_getElem? (by simpa using hv))
      have := htest C a p s₃ m₃ E' (Nat.le_trans (Nat.le_succ _) (by rw [Heap.size_push] at hC; exact hC)) hp1 t1 hn hm (old hk) htk
      rw [tripOf_eq t1]
      exact this
    · intro C i v s₃ m₃ E' hC hv hpv hn hm hk htk
      refine nm_local (m := m₃) (v := v) ?_ ?_ hn hm ⟨rfl, _, _, rfl, fun _ _ e => e⟩ dx
      · simp [compEnvC, relabel, hkind]
      · exact lookup_relabel_local hx
  · intro D' h' tk ys vs' hD' hL' hP' hlen' hvs hF hn hk
    have hvs' : vs' = vs.toList := by
      refine List.ext_getElem? fun j => ?_
      by_cases hj : j < vs'.length
      · have h1 := hvs j vs'[j] (List.getElem?_eq_getElem hj)
        rw [List.getElem?_eq_getElem hj]
        simpa using h1.symm
      · rw [List.getElem?_eq_none (Nat.not_lt.mp hj), List.getElem?_eq_none (by rw [Array.length_toList, ← hlen']; exact Nat.not_lt.mp hj)]
    have hys := paired_eq hF
    have hD0 : s.heap.get? D' = none := none_below kp hD'
    have nD := S.fresh hD0
    have kL : ∀ b o, b ≠ L → s.heap.get? b = some o → h'.get? b = some o := fun b o n e => hk b o n (by simp only [List.mem_singleton]; exact neN (Nat.ne_of_lt (Heap.lt_size e))) (kp b o e)
    refine k D' h' tk ys (S.frame hn kL c.l79 c.l72) (still_frame kL) ?_ ?_
    · obtain ⟨nn, e⟩ := hP'; exact ⟨nn, still_get e nD⟩
    · rw [hys, hvs']
      exact ((triples_filter pz hp).keeps G).keeps (still_frame kL)
end
end Mine
namespace Mine
set_option maxRecDepth 100000

theorem tri_mem0 : (triTo 6).all (fun p => decide (0 ≤ p.1) && decide (p.1 < p.2.1) && decide (p.2.1 < p.2.2) && decide (p.2.2 < 6)) = true := by decide +kernel
theorem tri_mem {p : Int × Int × Int} (h : p ∈ triTo 6) : 0 ≤ p.1 ∧ p.1 < p.2.1 ∧ p.2.1 < p.2.2 ∧ p.2.2 < 6 := by
  have := List.all_eq_true.mp tri_mem0 p h
  simp only [Bool.and_eq_true, decide_eq_true_eq] at this
  exact ⟨this.1.1.1, this.1.1.2, this.1.2, this.2⟩
/-- the three is of one colour -/
def mono (x : Int) (p : Int × Int × Int) : Bool := col x p.1 p.2.1 == col x p.2.1 p.2.2 && col x p.2.1 p.2.2 == col x p.1 p.2.2
def same (x : Int) : List (Int × Int × Int) := (triTo 6).filter (mono x)

section
variable {w : World} {base : Heap} {L fa : Addr} {cd : Value} {mg mb : Str → Option Value} {mean : ExcName → Option Value} {loose : List Str} {E : Value → Shared → Prop} {s : Shared}
  {m : Str → Option Value} {cc cp co ck : Option Value} {tt : Array Value × Array Value}

theorem free_colour {A : Around} {env : Env} {d : Addr} {p : Pos} {Q : Value → Shared → Prop} (hk : env.scope.kind = .function) (hl : env.kindOf (Str.ofString "colour") = some .cell) (hc : env.cells.lookup (Str.ofString "colour") = some (L + 1))
    (hcell : s.heap.IsCell (L + 1) (some (.ref d))) (h : Q (.ref d) s) : wpAny (model lawProg w) A (eval (.Name (Str.ofString "colour") p) env) Q E s :=
  wpAny_Name (wpAny_loadName_cell (c := L + 1) hk hl hc hcell h)

set_option maxHeartbeats 1000000 in
theorem st_same {d D : Addr} {g0 : Heap} {vs : Array Value} {x : Int} {T : Nat} {Q : Flow → Shared → Prop} (c : Ctx w base L mg mb mean loose) (S : LawSt base L s.heap m (some (.ref d)) cp co ck tt)
    (G : Grow g0 (still L s.heap)) (hl : g0.PlainList D vs) (hp : Triples g0 0 vs.toList (triTo 6)) (ml : m (Str.ofString "threes") = some (.ref D)) (hc : Cols lawProg w g0 d (col x) T)
    (k : ∀ D' h' tk ys, LawSt base L h' (fun z => if z = Str.ofString "same" then some (.ref D') else m z) (some (.ref d)) cp co ck tt → Grow (still L s.heap) (still L h') → (still L h').PlainList D' ys → Triples (still L h') 0 ys.toList (same x) → Q .next { s with heap := h', toks := tk }) :
    wpAny (model lawProg w) (lawA L fa cd) (exec (stmt 5) (lawEnv L fa cd)) Q E s := by
  show wpAny _ _ (exec (.Assign [.Name _ _] (.ListComp (.Name _ _) [⟨.Name _ _, .Name _ _, [_], 0⟩] _ _) _) _) _ _ _
  refine st_filter (cl := [(Str.ofString "colour", L + 1)]) (mono x) rfl rfl (by decide) rfl (by decide) (by decide) rfl rfl (by decide) (by decide) c S G hl hp (by decide +kernel) ml ?_ k
  intro C a p s₃ m₃ E' hC hps htup hn hm hk htk
  obtain ⟨i0, i1, i2, i3⟩ := tri_mem hps
  have up : Grow g0 s₃.heap := (G.trans (still_le L _)).trans hk
  obtain ⟨t1, t2, t3, ht⟩ := htup
  have ht' : IsTup s₃.heap a [Value.int p.1 t1, .int p.2.1 t2, .int p.2.2 t3].toArray := ht.keeps up
  have hcell : s₃.heap.IsCell (L + 1) (some (.ref d)) := S.c1.keeps hk
  have hc3 : Cols lawProg w s₃.heap d (col x) T := hc.keeps up
  refine wpAny_tests_one (isTrue_chain ?_)
  refine ev_colT (vs := [Value.int p.1 t1, .int p.2.1 t2, .int p.2.2 t3]) (t1 := t1) (t2 := t2) (c1 := 0) (c2 := 1) (m := m₃) (c := col x) (T := T) (d := d) (a := a) lawRoom hc3 ⟨i0, by omega, by omega, by omega, by omega⟩ rfl rfl hn hm (by decide) (fun Q E hq => free_colour rfl rfl rfl hcell hq) ht' rfl rfl (by decide) (by decide) fun h4 u4 n4 g4 _ _ => ?_
  refine test_link (ev_colT (s := { s₃ with heap := h4, toks := n4 }) (vs := [Value.int p.1 t1, .int p.2.1 t2, .int p.2.2 t3]) (t1 := t2) (t2 := t3) (c1 := 1) (c2 := 2) (m := m₃) (c := col x) (T := T) (d := d) (a := a) lawRoom (hc3.keeps g4) ⟨by omega, by omega, by omega, by omega, by omega⟩ rfl rfl (hn.keeps g4) hm (by decide) (fun Q E hq => free_colour rfl rfl rfl (hcell.keeps g4) hq) (ht'.keeps g4) rfl rfl (by decide) (by decide) fun h5 u5 n5 g5 _ _ => ?_)
  dsimp only at g5
  refine eq_int (wpAny_truthy_bool ?_)
  split
  · rename_i h1
    refine test_last (ev_colT (s := { s₃ with heap := h5, toks := n5 }) (vs := [Value.int p.1 t1, .int p.2.1 t2, .int p.2.2 t3]) (t1 := t1) (t2 := t3) (c1 := 0) (c2 := 2) (m := m₃) (c := col x) (T := T) (d := d) (a := a) lawRoom (hc3.keeps (g4.trans g5)) ⟨by omega, by omega, by omega, by omega, by omega⟩ rfl rfl (hn.keeps (g4.trans g5)) hm (by decide) (fun Q E hq => free_colour rfl rfl rfl (hcell.keeps (g4.trans g5)) hq) (ht'.keeps (g4.trans g5)) rfl rfl (by decide) (by decide) fun h6 u6 n6 g6 _ _ => ?_)
    dsimp only at g6
    refine eq_int (wpAny_truthy_bool ⟨?_, h6, n6, rfl, (g4.trans g5).trans g6⟩)
    unfold mono
    rw [h1, Bool.true_and]
  · rename_i h1
    refine ⟨?_, h5, n5, rfl, g4.trans g5⟩
    unfold mono
    rw [Bool.eq_false_iff.mpr h1, Bool.false_and]
end
end Mine
namespace Mine
set_option maxRecDepth 100000
section
variable {prog : Program} {w : World} {M : Model} {A : Around} {R : Result → Shared → Prop} {E : Value → Shared → Prop} {s : Shared} {env : Env}

/-- two ints of which the one is older -/
theorem is_ints {n b : Int} {t u : Tok} {Q : Value → Shared → Prop} (h0 : @LT.lt Nat _ 0 t) (h1 : @LT.lt Nat _ t u) (hs : smallInt n = true) (h : Q (.bool (n == b)) s) : wpAny M A (compareOp .Is (.int n t) (.int b u)) Q E s := by
  have t0 : (t == 0) = false := by rw [beq_eq_false_iff_ne]; exact Nat.ne_of_gt h0
  have u0 : (u == 0) = false := by rw [beq_eq_false_iff_ne]; exact Nat.ne_of_gt (Nat.lt_trans h0 h1)
  have tu : (t == u) = false := by rw [beq_eq_false_iff_ne]; exact Nat.ne_of_lt h1
  show wpAny M A (do return .bool (← isSame (.int n t) (.int b u))) Q E s
  refine wpAny_bind ?_
  show wpAny M A (if (n == b && smallInt n) = true then isSame.cachedInt t u else isSame.created (n == b) t u) _ E s
  cases e : n == b with
  | true =>
    rw [hs]
    simp only [Bool.and_self, if_true]
    unfold isSame.cachedInt
    rw [t0, u0]
    simp only [Bool.or_self, Bool.false_eq_true, if_false]
    exact wpAny_bind (wpAny_rule (wpAny_pure (wpAny_pure (e ▸ h))))
  | false =>
    simp only [Bool.false_and, Bool.false_eq_true, if_false]
    unfold isSame.created
    rw [t0, u0, tu]
    simp only [Bool.or_self, Bool.false_eq_true, if_false, Bool.not_false, if_true]
    exact wpAny_pure (wpAny_pure (e ▸ h))

theorem isList_grow {h h' : Heap} {D : Addr} {vs : Array Value} (x : h.IsList D vs) (g : Grow h h') : h'.IsList D vs := let ⟨o, e, r⟩ := x; ⟨o, g _ _ e, r⟩
/-- for x in a list or tuple -/
theorem for_walks {target : Expr} {body : List Stmt} {I : Addr} {fp wr : List Addr} {n : Nat} {P : Nat → Value → Prop} {St : Nat → Heap → Prop} (W : Walks prog w A I fp wr n P St) (J : Nat → Shared → Prop)
    (hJ : ∀ i s, J i s → St i s.heap)
    (turn : ∀ i (s : Shared) (E : Value → Shared → Prop), i < n → J i s → ∀ v h' tk, P i v → St (i + 1) h' → (∀ b o, b ∉ wr → s.heap.get? b = some o → h'.get? b = some o) → s.toks ≤ tk →
      wpAny (model prog w) A (assign target env v) (fun _ s₂ => wpAny (model prog w) A (execs body env) (fun f s₃ => match f with
        | .next | .cont => J (i + 1) s₃
        | .brk => R (.ok .next) s₃
        | .ret v => R (.ok (.ret v)) s₃) E s₂) E { s with heap := h', toks := tk })
    (done : ∀ s, J n s → ∀ h' tk, (∀ b o, b ∉ wr → s.heap.get? b = some o → h'.get? b = some o) → s.toks ≤ tk → R (.ok .next) { s with heap := h', toks := tk })
    {i : Nat} (hi : i ≤ n) (h : J i s) (ht : ∀ v, letOwnedTupleGo target (.ref I) v = pure () := by intro _; rfl) :
    codeAny (model prog w) A (.forLoop target (.ref I) body [] env) R s := by
  refine codeAny_forLoop (fun k s' => ∃ i, i ≤ n ∧ k = n - i ∧ J i s') ?_ (n - i) ⟨i, hi, rfl, h⟩ ht
  rintro k s' ⟨i, hi, rfl, hj⟩
  by_cases hlt : i < n
  · refine wpAny_with_toks (n := s'.toks) (Nat.le_refl _) (W.item i s' _ _ hlt (hJ i s' hj) fun v h' tk hPv hst hk htk => ?_)
    refine wpAny_mono (turn i s' _ hlt hj v h' tk hPv hst hk htk) (fun _ s₂ h₂ => wpAny_mono h₂ (fun f s₃ h₃ => ?_) fun _ _ e => e) fun _ _ e => e
    cases f with
    | next => exact ⟨n - (i + 1), by omega, i + 1, hlt, rfl, h₃⟩
    | cont => exact ⟨n - (i + 1), by omega, i + 1, hlt, rfl, h₃⟩
    | brk => exact h₃
    | ret v => exact h₃
  · obtain rfl : i = n := Nat.le_antisymm hi (Nat.not_lt.mp hlt)
    refine wpAny_with_toks (n := s'.toks) (Nat.le_refl _) (W.done s' _ _ (hJ i s' hj) fun h' tk hk htk => ?_)
    show wpAny _ _ (execs [] env) _ _ _
    exact wpAny_pure (done s' hj h' tk hk htk)
end

/-- the values are the ints ns, made before T -/
def Olds (T : Nat) (vs : List Value) (ns : List Int) : Prop := Paired (fun v n => ∃ t, v = .int n t ∧ @LT.lt Nat _ 0 t ∧ @LT.lt Nat _ t T) vs ns
theorem Olds.get {T : Nat} {vs : List Value} {ns : List Int} (x : Olds T vs ns) {i : Nat} {v : Value} (h : vs[i]? = some v) : ∃ n t, ns[i]? = some n ∧ v = .int n t ∧ @LT.lt Nat _ 0 t ∧ @LT.lt Nat _ t T := by
  induction x generalizing i with
  | nil => simp at h
  | cons h1 _ ih =>
    cases i with
    | zero =>
      simp only [List.getElem?_cons_zero, Option.some.injEq] at h ⊢
      subst h
      obtain ⟨t, e, a, b⟩ := h1
      exact ⟨_, t, rfl, e, a, b⟩
    | succ i => simp only [List.getElem?_cons_succ] at h ⊢; exact ih h
def cnt (ns : List Int) (b : Int) : Nat := (ns.filter (· == b)).length
theorem cnt_succ {ns : List Int} {b n : Int} {i : Nat} (h : ns[i]? = some n) : cnt (ns.take (i + 1)) b = cnt (ns.take i) b + (if n == b then 1 else 0) := by
  have : ns.take (i + 1) = ns.take i ++ [n] := by rw [List.take_add_one, h]; rfl
  rw [this, cnt, cnt, List.filter_append, List.length_append]
  by_cases e : n == b <;> simp [List.filter, e]
section
variable {w : World} {base : Heap} {L fa : Addr} {cd : Value} {mg mb : Str → Option Value} {mean : ExcName → Option Value} {loose : List Str} {s : Shared}
  {m : Str → Option Value} {E : Value → Shared → Prop}

set_option maxHeartbeats 1000000 in
theorem c_countOf {D : Addr} {vs : Array Value} {ns : List Int} {b : Int} {u : Tok} {T : Nat} {Q : Value → Shared → Prop} (c : Ctx w base L mg mb mean loose) (F : Fr base L s.heap m) (hl : s.heap.PlainList D vs) (ho : Olds T vs.toList ns) (hT : @LE.le Nat _ T u) (hb : ∀ n ∈ ns, smallInt n = true)
    (h : ∀ h' v n, Grow s.heap h' → Q (.int (cnt ns b) v) { s with heap := h', toks := n }) : CallTo w L fa cd 56 [.ref D, .int b u] Q E s := by
  have X' : (hd.heap_39 w.params).In s.heap := c.X.keeps F.keep
  have T' : Top topProg loose mean mg mb s.heap := c.T.keeps F.keep
  refine wpAny_call ?_
  show codeAny (model Challenge.rw_xi0015_01.row.prog w) _ _ _ _
  revert X'
  k_fill
  intro X'
  refine' own_call0 X' T' ?ho ?hcd ?hroom ?hbind ?hloc ?hco ?hgen ?hk ?hcell ?_
  case ho => k_is
  case hcd => k_is
  case hroom => k_room
  case hbind => exact BindsTo.of_eq rfl
  case hloc => exact locs rfl
  case hco => exact rfl
  case hgen => exact rfl
  case hk => exact rfl
  case hcell => decide
  intro L' h1 hL' F' N'
  have hlen : vs.size = ns.length := by have := Paired.length ho; simpa using this
  have hlist : s.heap.IsList D vs := by obtain ⟨nn, e⟩ := hl; exact ⟨_, e, rfl, nn, rfl⟩
  refine wpAny_execs_cons (wpAny_Assign_Name (wpAny_Constant_int (wpAny_storeName_local rfl F'.ns fun h2 n2 s2 => ?_)))
  dsimp only at n2 s2
  have hLs : L' = s.heap.objs.size := hL'
  have kL : ∀ {h h' : Heap}, Grow s.heap h → Heap.SameBut L' h h' → Grow s.heap h' := fun g hs b o e => hs.extBut b o (by rw [hLs]; exact Nat.ne_of_lt (Heap.lt_size e)) (g b o e)
  have g1 : Grow s.heap h1 := F'.keep
  have g2 : Grow s.heap h2 := kL g1 s2
  refine wpAny_execs_cons (wpAny_For (nm_local rfl rfl n2 (v := .ref D) rfl (wpAny_pyIter_list (isList_grow hlist g2) ?_)))
  dsimp only
  have hlt : @LT.lt Nat _ D s.heap.objs.size := by obtain ⟨_, e, _⟩ := hlist; exact Heap.lt_size e
  have hD2 : D ≠ h2.objs.size := by obtain ⟨_, e, _⟩ := isList_grow hlist g2; exact Nat.ne_of_lt (Heap.lt_size e)
  have g3 : Grow h2 (h2.push { cls := .type "list_iterator", data := .fields #[.ref D, .int 0 0] }) := .push _ _
  have hLI : L' ≠ h2.objs.size := Nat.ne_of_lt n2.lt
  have hL2 : @LT.lt Nat _ s.heap.objs.size h2.objs.size := by have := n2.lt; rw [hLs] at this; exact this
  refine for_walks (Walks.list rfl h2.objs.size D hD2 vs) (i := 0) (fun i s' => ∃ h tk m' t, s' = { s with heap := h, toks := tk } ∧ Grow s.heap h ∧ h.Ns L' m' ∧ m' (Str.ofString "b") = some (.int b u) ∧ m' (Str.ofString "count") = some (.int (cnt (ns.take i) b) t) ∧
    h.IsListIter h2.objs.size D i ∧ h.IsList D vs) ?_ ?_ ?_ (Nat.zero_le _) ?_
  · rintro i s' ⟨h, tk, m', t, rfl, _, _, _, _, hi, hl⟩; exact ⟨hi, hl⟩
  · rintro i s' E hi ⟨h, tk, m', t, rfl, g, hn, hmb, hmc, hit, hli⟩ v h' tk' hv hst hk htk
    have hv' : vs.toList[i]? = some v := by simpa using hv
    obtain ⟨n, tn, en, rfl, z0, z1⟩ := ho.get hv'
    have g' : Grow s.heap h' := fun b o e => hk b o (by
      simp only [List.mem_singleton]
      exact neN (Nat.ne_of_lt (Nat.lt_trans (Heap.lt_size e) hL2))) (g b o e)
    have hn' : h'.Ns L' m' := hn.at' fun o e => hk _ o (by simpa using hLI) e
    refine wpAny_assign_Name (wpAny_storeName_local rfl hn' fun h4 n4 s4 => ?_)
    dsimp only at n4 s4
    have g4 := kL g' s4
    have st4 : h4.IsListIter h2.objs.size D (i + 1) ∧ h4.IsList D vs := ⟨hst.1.at fun o e => s4.extBut _ o (Ne.symm hLI) e, isList_grow hlist g4⟩
    have eb : (fun z => if z = Str.ofString "i" then some (Value.int n tn) else m' z) (Str.ofString "b") = some (.int b u) := by
      simp only [show (Str.ofString "b" = Str.ofString "i") = False by decide, if_false]; exact hmb
    have ec : (fun z => if z = Str.ofString "i" then some (Value.int n tn) else m' z) (Str.ofString "count") = some (.int (cnt (ns.take i) b) t) := by
      simp only [show (Str.ofString "count" = Str.ofString "i") = False by decide, if_false]; exact hmc
    have ei : (fun z => if z = Str.ofString "i" then some (Value.int n tn) else m' z) (Str.ofString "i") = some (.int n tn) := by simp only [if_true]
    have hs1 : smallInt n = true := hb n (List.mem_of_getElem? en)
    have hc := cnt_succ (b := b) en
    refine wpAny_execs_cons (wpAny_If (wpAny_isTrue_BoolOp (wpAny_allTrue_Or_cons (wpAny_isTrue_Compare1 (nm_local rfl rfl n4 ei (nm_local rfl rfl n4 eb (is_ints z0 (Nat.lt_of_lt_of_le z1 hT) hs1 (wpAny_truthy_bool ?_))))))))
    cases e : n == b with
    | true =>
      simp only [if_true]
      refine wpAny_execs_cons (wpAny_AugAssign_Name (wpAny_loadName_local rfl rfl n4 ec (wpAny_Constant_int (iadd_int (wpAny_storeName_local rfl n4 fun h5 n5 s5 => ?_)))))
      dsimp only at n5 s5
      refine wpAny_pure (wpAny_pure ⟨h5, _, _, tk' + 1 + 1, rfl, kL g4 s5, n5, ?_, ?_, ?_, ?_⟩)
      · simp only [show (Str.ofString "b" = Str.ofString "count") = False by decide, if_false]; exact eb
      · simp only [if_true]
        rw [hc, e]
        simp only [if_true]
        congr 1
      · exact st4.1.at fun o e => s5.extBut _ o (Ne.symm hLI) e
      · exact isList_grow hlist (kL g4 s5)
    | false =>
      simp only [Bool.false_eq_true, if_false]
      refine wpAny_allTrue_Or_cons (wpAny_isTrue_Compare1 (nm_local rfl rfl n4 ei (nm_local rfl rfl n4 eb (eq_int (wpAny_truthy_bool ?_)))))
      rw [e]
      simp only [Bool.false_eq_true, if_false]
      refine wpAny_allTrue_Or_nil ?_
      simp only [Bool.false_eq_true, if_false]
      refine wpAny_pure (wpAny_pure ⟨h4, _, _, t, rfl, g4, n4, eb, ?_, st4.1, st4.2⟩)
      rw [hc, e]
      exact ec
  · rintro s' ⟨hh, tk, m', t, rfl, g, hn, hmb, hmc, hit, hli⟩ h' tk' hk htk
    have hn' : h'.Ns L' m' := hn.at' fun o e => hk _ o (by simpa using hLI) e
    have g' : Grow s.heap h' := fun b o e => hk b o (by
      simp only [List.mem_singleton]
      exact neN (Nat.ne_of_lt (Nat.lt_trans (Heap.lt_size e) hL2))) (g b o e)
    refine wpAny_execs_cons (wpAny_Return_some (nm_local rfl rfl hn' hmc ?_))
    rw [List.take_of_length_le (by rw [hlen]; exact Nat.le_refl _)]
    exact h h' t tk' g'
  · refine ⟨_, _, _, _, rfl, g2.trans g3, n2.keeps g3, rfl, by simp only [if_true]; rfl, ⟨_, Heap.get?_push_size _ rfl, rfl, rfl⟩, (isList_grow hlist g2).push _⟩
end
end Mine
namespace Mine
set_option maxRecDepth 100000

theorem paired_of_get {α β : Type} {F : α → β → Prop} : ∀ {as : List α} {bs : List β}, as.length = bs.length → (∀ (i : Nat) a b, as[i]? = some a → bs[i]? = some b → F a b) → Paired F as bs
  | [], [], _, _ => .nil
  | a :: as, b :: bs, hl, h => .cons (h 0 a b rfl rfl) (paired_of_get (by simpa using hl) fun i x y hx hy => h (i + 1) x y (by simpa using hx) (by simpa using hy))
theorem paired_filter {α β : Type} {F : α → β → Prop} {p : α → Bool} {q : β → Bool} (hpq : ∀ a b, F a b → p a = q b) {as : List α} {bs : List β} (x : Paired F as bs) : Paired F (as.filter p) (bs.filter q) := by
  induction x with
  | nil => exact .nil
  | cons h _ ih =>
    simp only [List.filter_cons, hpq _ _ h]
    split
    · exact .cons h ih
    · exact ih
theorem paired_comp {α β γ : Type} {F : α → β → Prop} {G : α → γ → Prop} {H : γ → β → Prop} (k : ∀ a b c, F a b → G a c → H c b) {as : List α} {bs : List β} {cs : List γ} (x : Paired F as bs) (y : Paired G as cs) : Paired H cs bs := by
  induction x generalizing cs with
  | nil => cases y; exact .nil
  | cons h _ ih => cases y with | cons h' t => exact .cons (k _ _ _ h h') (ih t)
theorem paired_map {α β γ : Type} {F : α → β → Prop} {G : α → γ → Prop} {f : β → γ} (k : ∀ a b, F a b → G a (f b)) {as : List α} {bs : List β} (x : Paired F as bs) : Paired G as (bs.map f) := by
  induction x with
  | nil => exact .nil
  | cons h _ ih => exact .cons (k _ _ h) ih

theorem range_B {prog : Program} {w : World} {A : Around} {I : Addr} (hh : A.handled = none) (a : Int) (n : Nat) : Walks prog w A I [I] [I] n (fun i v => i < n ∧ ∃ t, v = .int (a + (i : Int)) t) (fun i h => IsRangeIter h I (a + (i : Nat) * 1) ((n : Int) - (i : Nat)) 1) :=
  let W : Walks prog w A I [I] [I] n (fun i v => i < n ∧ ∃ t, v = .int (a + i * 1) t) (fun i h => IsRangeIter h I (a + (i : Nat) * 1) ((n : Int) - (i : Nat)) 1) := (Walks.range hh I a 1 n).bound
  { sub := W.sub, frame := W.frame, done := W.done, self := W.self,
    item := fun i s Q E hi st hQ => W.item i s Q E hi st fun v h' tk hP => hQ v h' tk (by obtain ⟨h6, t, rfl⟩ := hP; exact ⟨h6, t, by rw [Int.mul_one]⟩) }
def rowOf (x i : Int) : List Int := ((upto 6).filter (fun n => n != i)).map (col x i)
def notInt (i : Int) : Value → Bool
  | .int n _ => n != i
  | _ => false
theorem upto_get {n i : Nat} {b : Int} (h : (upto n)[i]? = some b) : b = (i : Int) ∧ i < n := by
  unfold upto at h
  rw [List.getElem?_map] at h
  cases e : (List.range n)[i]? with
  | none => rw [e] at h; cases h
  | some j =>
    rw [e] at h
    have hi : i < n := by have := (List.getElem?_eq_some_iff.mp e).1; simpa using this
    have : j = i := by have := (List.getElem?_eq_some_iff.mp e).2; simpa using this.symm
    subst this
    exact ⟨by cases h; rfl, hi⟩

theorem marks_ne {L : Addr} : L ∈ marks L ∧ L + 1 ∈ marks L ∧ L + 1 + 1 ∈ marks L ∧ L + 1 + 1 + 1 ∈ marks L ∧ L + 1 + 1 + 1 + 1 ∈ marks L := by simp [marks]
section
variable {w : World} {base : Heap} {L fa : Addr} {cd : Value} {mg mb : Str → Option Value} {mean : ExcName → Option Value} {loose : List Str} {E : Value → Shared → Prop} {s : Shared}
  {m : Str → Option Value} {cc cp co ck : Option Value} {tt : Array Value × Array Value}

/-- `place` takes a value -/
theorem law_place {v : Value} {p : Pos} {Q : Unit → Shared → Prop} (c : Ctx w base L mg mb mean loose) (S : LawSt base L s.heap m cc cp co ck tt)
    (k : ∀ h', LawSt base L h' m cc (some v) co ck tt → But [L + 1 + 1] s.heap h' → Q () { s with heap := h' }) :
    wpAny (model lawProg w) (lawA L fa cd) (assign (.Name (Str.ofString "place") p) (lawEnv L fa cd) v) Q E s := by
  refine wpAny_assign_Name (wpAny_storeName_cell (c := L + 1 + 1) (v₀ := cp) rfl rfl rfl S.c2 fun h' hc hs => ?_)
  have kb : But [L + 1 + 1] s.heap h' := sameBut_but hs (by simp)
  have kx : ∀ b o, b ≠ L + 1 + 1 → s.heap.get? b = some o → h'.get? b = some o := fun b o n e => kb b o (by simpa using n) e
  have l79 := c.l79
  have l72 := c.l72
  have e1 : L + 1 = (L : Nat) + 1 := rfl
  refine k h' ⟨⟨S.fr.ns.sameBut hs (show @Ne Nat L (L + 1 + 1) by omega), ?_, S.fr.above⟩, ?_, hc, ?_, ?_, ?_, ?_⟩ kb
  · intro b o e
    have hb : @LT.lt Nat _ b L := Nat.lt_of_lt_of_le (Heap.lt_size e) S.fr.above
    exact kx b o (show @Ne Nat b (L + 1 + 1) by omega) (S.fr.keep b o e)
  · obtain ⟨o, e, d⟩ := S.c1; exact ⟨o, kx _ _ (show @Ne Nat (L + 1) (L + 1 + 1) by omega) e, d⟩
  · obtain ⟨o, e, d⟩ := S.c3; exact ⟨o, kx _ _ (show @Ne Nat (L + 1 + 1 + 1) (L + 1 + 1) by omega) e, d⟩
  · obtain ⟨o, e, d⟩ := S.c4; exact ⟨o, kx _ _ (show @Ne Nat (L + 1 + 1 + 1 + 1) (L + 1 + 1) by omega) e, d⟩
  · exact kx _ _ (show @Ne Nat 79 (L + 1 + 1) by omega) S.t1
  · exact kx _ _ (show @Ne Nat 72 (L + 1 + 1) by omega) S.t2

/-- y = [e for x in range(n) if ..]: the state behind it -/
theorem comp_done {h h' : Heap} {I : Addr} {y : Str} {D' : Addr} {ys : Array Value} (c : Ctx w base L mg mb mean loose) (S : LawSt base L h m cc cp co ck tt) {h₂ : Heap} (kg : Grow h h₂) (hI : @LE.le Nat _ h.objs.size I)
    (hD : h₂.get? D' = none) (hP : h'.PlainList D' ys) (hn : h'.Ns L (fun z => if z = y then some (.ref D') else m z)) (hk : ∀ b o, b ≠ L → b ∉ [I] → h₂.get? b = some o → h'.get? b = some o) :
    LawSt base L h' (fun z => if z = y then some (.ref D') else m z) cc cp co ck tt ∧ Grow (still L h) (still L h') ∧ (still L h').PlainList D' ys ∧ (still L h).get? D' = none ∧ (∀ b o, b ≠ L → h.get? b = some o → h'.get? b = some o) := by
  have kL : ∀ b o, b ≠ L → h.get? b = some o → h'.get? b = some o := fun b o n e => hk b o n (by simp only [List.mem_singleton]; exact neN (Nat.ne_of_lt (Nat.lt_of_lt_of_le (Heap.lt_size e) hI))) (kg b o e)
  have hD0 : h.get? D' = none := none_below kg hD
  refine ⟨S.frame hn kL c.l79 c.l72, still_frame kL, ?_, still_none hD0, kL⟩
  obtain ⟨nn, e⟩ := hP
  exact ⟨nn, still_get e (S.fresh hD0)⟩

theorem cell_name {A : Around} {env : Env} {x : Str} {q : Addr} {v : Value} {p : Pos} {Q : Value → Shared → Prop} (hk : env.scope.kind = .function) (hl : env.kindOf x = some .cell) (hc : env.cells.lookup x = some q)
    (hcell : s.heap.IsCell q (some v)) (h : Q v s) (hd : (x == ("__debug__" : Str)) = false := by decide) : wpAny (model lawProg w) A (eval (.Name x p) env) Q E s :=
  wpAny_Name (wpAny_loadName_cell (c := q) hk hl hc hcell h) hd

set_option maxHeartbeats 1000000 in
theorem st_row {d : Addr} {g0 : Heap} {x i : Int} {t : Tok} {T : Nat} {p1 p2 p3 p4 p5 p6 p7 p8 p9 p10 p11 p12 p13 p14 p15 : Pos} {k1 k2 : Nat} {Q : Flow → Shared → Prop} (c : Ctx w base L mg mb mean loose) (S : LawSt base L s.heap m (some (.ref d)) (some (.int i t)) co ck tt)
    (G : Grow g0 (still L s.heap)) (hc : Cols lawProg w g0 d (col x) T) (hi0 : 0 ≤ i) (hi1 : i < 6)
    (hsw : swapsWith (.ListComp (.Subscript (.Name (Str.ofString "colour") p2) (.Tuple [.Name (Str.ofString "place") p3, .Name (Str.ofString "other") p4] k1 p5) p6)
      [⟨.Name (Str.ofString "other") p7, .Call (.Name (Str.ofString "range") p8) [.Constant (.int 6) k2 p9] [] p10, [.Compare (.Name (Str.ofString "other") p11) [.NotEq] [.Name (Str.ofString "place") p12] p13], 0⟩]
      { kind := .function, names := [(Str.ofString ".0", .local), (Str.ofString "other", .local), (Str.ofString "colour", .free), (Str.ofString "place", .free)], isGenerator := false, isCoroutine := false, more := [] } p14) (some (.Name (Str.ofString "row") p1)) p15.line (lawEnv L fa cd) = pure true)
    (k : ∀ D' h' tk ys, LawSt base L h' (fun z => if z = Str.ofString "row" then some (.ref D') else m z) (some (.ref d)) (some (.int i t)) co ck tt → (∀ b o, b ≠ L → s.heap.get? b = some o → h'.get? b = some o) → (still L h').PlainList D' ys → Olds T ys.toList (rowOf x i) → s.toks ≤ tk → Q .next { s with heap := h', toks := tk }) :
    wpAny (model lawProg w) (lawA L fa cd) (exec (.Assign [.Name (Str.ofString "row") p1] (.ListComp (.Subscript (.Name (Str.ofString "colour") p2) (.Tuple [.Name (Str.ofString "place") p3, .Name (Str.ofString "other") p4] k1 p5) p6)
      [⟨.Name (Str.ofString "other") p7, .Call (.Name (Str.ofString "range") p8) [.Constant (.int 6) k2 p9] [] p10, [.Compare (.Name (Str.ofString "other") p11) [.NotEq] [.Name (Str.ofString "place") p12] p13], 0⟩]
      { kind := .function, names := [(Str.ofString ".0", .local), (Str.ofString "other", .local), (Str.ofString "colour", .free), (Str.ofString "place", .free)], isGenerator := false, isCoroutine := false, more := [] } p14) p15) (lawEnv L fa cd)) Q E s := by
  refine wpAny_with_toks (n := s.toks) (Nat.le_refl _) ?_
  refine wpAny_Assign_ListComp_free (cl := [(Str.ofString "place", L + 1 + 1), (Str.ofString "colour", L + 1)]) (notInt i) (fun v y => ∃ n u u', v = .int n u ∧ y = .int (col x i n) u' ∧ @LT.lt Nat _ 0 u' ∧ @LT.lt Nat _ u' T) hsw rfl (by decide) rfl (by decide) (by decide) rfl rfl ?_
  refine src_range1 (k := 6) (by omega) (by omega) (fun Q E hq => nm_builtin c rfl rfl rfl rfl S.fr.keep K_range (by decide +kernel) (by decide) (by decide) hq) (fun Q hq => wpAny_Constant_int (hq _ _)) rfl ?_
  intro I h₂ tk₂ kg hI hI' hr
  have hL := S.lt
  refine ⟨I, [I], [I], 6, _, _, m, rfl, range_B (prog := lawProg) (w := w) (I := I) rfl 0 6, by rw [sizeLine_eq]; omega, by simpa using hr, by intro b hb; rw [List.mem_singleton.mp hb]; exact hI', by simp only [List.mem_singleton]; exact (show @Ne Nat L I by omega), S.fr.ns.keeps kg, ?_, ?_⟩
  · have old : ∀ {s₃ : Shared}, (∀ b o, b ∉ [I] → h₂.get? b = some o → s₃.heap.get? b = some o) → Grow s.heap s₃.heap := fun hk b o e =>
      hk b o (by simp only [List.mem_singleton]; exact neN (Nat.ne_of_lt (Nat.lt_of_lt_of_le (Heap.lt_size e) hI))) (kg b o e)
    constructor
    · rintro C j v s₃ m₃ E' hC ⟨h6, u, rfl⟩ hn hm hk htk
      have g := old hk
      refine wpAny_tests_one (wpAny_isTrue_Compare1 (nm_local rfl rfl hn hm (cell_name rfl rfl rfl (S.c2.keeps g) (ne_int (wpAny_truthy_bool ⟨rfl, _, _, rfl, fun _ _ e => e⟩)))))
    · rintro C j v s₃ m₃ E' hC ⟨h6, u, rfl⟩ hpv hn hm hk htk
      have g := old hk
      have hne : (0 + (j : Int)) ≠ i := by simpa [notInt] using hpv
      have hj : InSix i (0 + (j : Int)) := ⟨hi0, hi1, by omega, by omega, fun e => hne e.symm⟩
      refine ev_col lawRoom (hc.keeps ((G.trans (still_le L _)).trans g)) hj (fun Q E hq => cell_name rfl rfl rfl (S.c1.keeps g) hq) rfl (fun Q hq => cell_name rfl rfl rfl (S.c2.keeps g) (hq _ _)) (fun n Q hq => nm_local (s := { s₃ with toks := n }) rfl rfl hn hm (hq _ _)) ?_
      intro h' t' n g' a b
      exact ⟨⟨_, u, t', rfl, rfl, a, b⟩, h', n, rfl, g'⟩
  · intro D' h' tk ys vs' hD' hL' hP' hlen' hvs hF hn hk htk
    obtain ⟨S', G', P', _, kL⟩ := comp_done c S kg hI hD' hP' hn hk
    refine k D' h' tk ys S' kL P' ?_ htk
    have hv : Paired (fun v n => ∃ t, v = .int n t) vs' (upto 6) := paired_of_get (by rw [hlen', upto_length]) fun j v b e1 e2 => by
      obtain ⟨_, u, rfl⟩ := hvs j v e1
      obtain ⟨rfl, _⟩ := upto_get e2
      exact ⟨u, by rw [Int.zero_add]⟩
    have hv2 := paired_filter (p := notInt i) (q := fun n => n != i) (fun v n ⟨t, e⟩ => by rw [e]; rfl) hv
    unfold Olds rowOf
    refine paired_map (F := fun y n => ∃ t, y = .int (col x i n) t ∧ @LT.lt Nat _ 0 t ∧ @LT.lt Nat _ t T) (fun a b h => h) (paired_comp ?_ hv2 hF)
    rintro v n y ⟨t, rfl⟩ ⟨n', u, u', e, rfl, a, b⟩
    cases e
    exact ⟨u', rfl, a, b⟩
end
end Mine
namespace Mine
set_option maxRecDepth 100000

theorem bit_two (x : Int) (r : Nat) : bit x r = 0 ∨ bit x r = 1 := by
  unfold bit
  generalize x.fdiv (2 ^ r) = z
  by_cases hz : 0 ≤ z
  · rw [bitAnd_pp hz (by omega)]
    have h1 : (z.toNat &&& (1 : Int).toNat) ≤ (1 : Int).toNat := Nat.and_le_right
    have h2 : (1 : Int).toNat = 1 := rfl
    rw [h2] at h1 ⊢
    omega
  · rw [bitAnd_np hz (by omega)]
    have h1 : ((1 : Int).toNat &&& (Builtin.bitNot z).toNat) ≤ (1 : Int).toNat := Nat.and_le_left
    have h2 : (1 : Int).toNat = 1 := rfl
    rw [h2] at h1 ⊢
    omega
theorem col_two (x i j : Int) : col x i j = 0 ∨ col x i j = 1 := bit_two _ _
theorem col_small (x i j : Int) : smallInt (col x i j) = true := by rcases col_two x i j with h | h <;> rw [h] <;> decide
theorem rowOf_small {x i n : Int} (h : n ∈ rowOf x i) : smallInt n = true := by
  obtain ⟨j, _, rfl⟩ := List.mem_map.mp h
  exact col_small x i j
theorem rowOf_len (x i : Int) : (rowOf x i).length ≤ 6 := by
  unfold rowOf
  rw [List.length_map]
  exact Nat.le_trans (List.length_filter_le _ _) (by rw [upto_length]; exact Nat.le_refl _)
theorem cnt_le (ns : List Int) (b : Int) : cnt ns b ≤ ns.length := List.length_filter_le _ _
def prodOf (x i : Int) : Int := (cnt (rowOf x i) 1 : Int) * (cnt (rowOf x i) 0 : Int)
def products (x : Int) : List Int := (upto 6).map (prodOf x)
def Are (vs : List Value) (ns : List Int) : Prop := Paired (fun v n => ∃ t, v = .int n t) vs ns

section
variable {w : World} {base : Heap} {L fa : Addr} {cd : Value} {mg mb : Str → Option Value} {mean : ExcName → Option Value} {loose : List Str} {E : Value → Shared → Prop} {s : Shared}
  {m : Str → Option Value} {cc cp co ck : Option Value} {tt : Array Value × Array Value}

theorem grow_marks {g0 h h' : Heap} {B : List Addr} (g : Grow g0 (still L h)) (k : But B h h') (hB : ∀ b ∈ B, b ∈ marks L) : Grow g0 (still L h') := fun b o e =>
  still_get (k b o (fun q => still_not (g b o e) (hB b q)) (still_le L h b o (g b o e))) (still_not (g b o e))
theorem but_frame {h h' : Heap} (k : ∀ b o, b ≠ L → h.get? b = some o → h'.get? b = some o) : But [L] h h' := fun b o n e => k b o (by simpa using n) e

def keep1 (y : Str) (m' m : Str → Option Value) : Prop := ∀ z, z ≠ y → m' z = m z

def prodBody : List Stmt := match stmt 7 with | .For _ _ b _ _ => b | _ => []
def pstmt (k : Nat) : Stmt := prodBody.getD k (.Pass default)

theorem c_countOfT {D : Addr} {vs : Array Value} {ns : List Int} {b : Int} {u : Tok} {T : Nat} {Q : Value → Shared → Prop} (c : Ctx w base L mg mb mean loose) (F : Fr base L s.heap m) (hl : s.heap.PlainList D vs) (ho : Olds T vs.toList ns) (hT : @LE.le Nat _ T u) (hb : ∀ n ∈ ns, smallInt n = true)
    (h : ∀ h' v n, Grow s.heap h' → @LE.le Nat _ s.toks n → Q (.int (cnt ns b) v) { s with heap := h', toks := n }) : CallTo w L fa cd 56 [.ref D, .int b u] Q E s :=
  wpAny_with_toks (n := s.toks) (Nat.le_refl _) (c_countOf c F hl ho hT hb fun h' v n g htk => h h' v n g htk)

set_option maxHeartbeats 1000000 in
/-- products.append(..) -/
theorem st_append {P D' : Addr} {x i : Int} {T : Nat} {ys ys' : Array Value} {Q : Flow → Shared → Prop} (c : Ctx w base L mg mb mean loose) (S : LawSt base L s.heap m cc cp co ck tt)
    (hP : P ∉ marks L) (hb : base.get? P = none) (hl : s.heap.PlainList P ys) (hz : ys.size ≤ 6) (mp : m (Str.ofString "products") = some (.ref P)) (mr : m (Str.ofString "row") = some (.ref D')) (hT : @LE.le Nat _ T s.toks)
    (hr : s.heap.PlainList D' ys') (ho : Olds T ys'.toList (rowOf x i))
    (k : ∀ h' tk, LawSt base L h' m cc cp co ck tt → But [P] s.heap h' → (∃ v, h'.PlainList P (ys.push (.int (prodOf x i) v))) → Q .next { s with heap := h', toks := tk }) :
    wpAny (model lawProg w) (lawA L fa cd) (exec (pstmt 1) (lawEnv L fa cd)) Q E s := by
  show wpAny _ _ (exec (.Expr (.Call (.Attribute (.Name _ _) _ _) [.Call (.Name _ _) [.Call (.Name _ _) [.Name _ _, .Constant (.int 1) _ _] [] _, .Call (.Name _ _) [.Name _ _, .Constant (.int 0) _ _] [] _] [] _] [] _) _) _) _ _ _
  refine wpAny_Expr ?_
  obtain ⟨nn, el⟩ := hl
  refine MethodCall_ (pl := _) (law_name S rfl mp (Calls.getMethod_list_append el rfl rfl ?_))
  refine callWith_method1 (wpAny_items_cons ?_ rfl)
  refine ev_fun2 c rfl rfl rfl S.fr.keep K_mul F_35 (by decide) rfl ?_
  refine ev_fun2 c rfl rfl rfl S.fr.keep K_countOf F_56 (by decide) rfl ?_
  refine law_name S rfl mr (wpAny_Constant_int ⟨S.fr.keep, ?_⟩)
  refine c_countOfT (s := { s with toks := s.toks + 1 }) c S.fr hr ho hT (fun n hn => rowOf_small hn) fun h1 v1 n1 g1 l1 => ?_
  dsimp only at g1 l1
  have S1 := S.grow g1
  have hr1 : h1.PlainList D' ys' := by obtain ⟨n', e⟩ := hr; exact ⟨n', g1 _ _ e⟩
  refine ev_fun2 (s := { s with heap := h1, toks := n1 }) c rfl rfl rfl S1.fr.keep K_countOf F_56 (by decide) rfl ?_
  refine law_name (s := { s with heap := h1, toks := n1 }) S1 rfl mr (wpAny_Constant_int ⟨S1.fr.keep, ?_⟩)
  refine c_countOfT (s := { s with heap := h1, toks := n1 + 1 }) c S1.fr hr1 ho (by show @LE.le Nat _ T n1; omega) (fun n hn => rowOf_small hn) fun h2 v2 n2 g2 l2 => ?_
  dsimp only at g2 l2
  have S2 := S1.grow g2
  have c1 := Nat.le_trans (cnt_le (rowOf x i) 1) (rowOf_len x i)
  refine ⟨S2.fr.keep, c_mul (s := { s with heap := h2, toks := n2 }) c S2.fr (.of_left (intBits_le_64 (by omega) (by omega))) fun h3 n3 g3 _ => ?_⟩
  dsimp only at g3
  have S3 := S2.grow g3
  refine wpAny_items_nil ?_
  have e3 : h3.get? P = some _ := g3 _ _ (g2 _ _ (g1 _ _ el))
  refine append_at (hsz := by rw [sizeLine_eq]; omega) e3 fun h4 s4 e4 => ?_
  have kb : But [P] h3 h4 := sameBut_but s4 (by simp)
  refine k h4 _ (S3.but kb (by intro b hb'; rw [List.mem_singleton.mp hb']; exact ⟨hP, hb⟩)) (fun b o n e => kb b o n (g3 _ _ (g2 _ _ (g1 _ _ e)))) ⟨_, _, e4⟩
end
end Mine
namespace Mine
set_option maxRecDepth 100000
section
variable {w : World} {base : Heap} {L fa : Addr} {cd : Value} {mg mb : Str → Option Value} {mean : ExcName → Option Value} {loose : List Str} {E : Value → Shared → Prop} {s : Shared}
  {m : Str → Option Value} {cc cp co ck : Option Value} {tt : Array Value × Array Value}

theorem with_toks2 {M : Model} {A : Around} {α β : Type} {t : Sem α} {u : α → Sem β} {Q : β → Shared → Prop} (h : wpAny M A t (fun x s₁ => wpAny M A (u x) (fun y s₂ => s.toks ≤ s₂.toks → Q y s₂) E s₁) E s) :
    wpAny M A t (fun x s₁ => wpAny M A (u x) Q E s₁) E s :=
  wpAny_mono (wpAny_toks_of (n := s.toks) (Nat.le_refl _) h) (fun _ _ z => wpAny_with_toks z.1 (wpAny_mono z.2 (fun _ _ y => y) fun _ _ e _ => e)) fun _ _ e => e.2

set_option maxHeartbeats 1000000 in
theorem st_rowP {d : Addr} {g0 : Heap} {x i : Int} {t : Tok} {T : Nat} {Q : Flow → Shared → Prop} (c : Ctx w base L mg mb mean loose) (S : LawSt base L s.heap m (some (.ref d)) (some (.int i t)) co ck tt)
    (G : Grow g0 (still L s.heap)) (hc : Cols lawProg w g0 d (col x) T) (hi0 : 0 ≤ i) (hi1 : i < 6)
    (k : ∀ D' h' tk ys, LawSt base L h' (fun z => if z = Str.ofString "row" then some (.ref D') else m z) (some (.ref d)) (some (.int i t)) co ck tt → (∀ b o, b ≠ L → s.heap.get? b = some o → h'.get? b = some o) → (still L h').PlainList D' ys → Olds T ys.toList (rowOf x i) → s.toks ≤ tk → Q .next { s with heap := h', toks := tk }) :
    wpAny (model lawProg w) (lawA L fa cd) (exec (pstmt 0) (lawEnv L fa cd)) Q E s := by
  show wpAny _ _ (exec (.Assign [.Name _ _] (.ListComp (.Subscript (.Name _ _) (.Tuple [.Name _ _, .Name _ _] _ _) _)
      [⟨.Name _ _, .Call (.Name _ _) [.Constant (.int 6) _ _] [] _, [.Compare (.Name _ _) [.NotEq] [.Name _ _] _], 0⟩] _ _) _) _) _ _ _
  exact st_row c S G hc hi0 hi1 rfl k

/-- the products of red and blue lines, place for place -/
theorem st_prods {d P : Addr} {g0 : Heap} {x : Int} {T : Nat} {Q : Flow → Shared → Prop} (c : Ctx w base L mg mb mean loose) (S : LawSt base L s.heap m (some (.ref d)) cp co ck tt) (hP : P ∉ marks L) (hb : base.get? P = none) (hg : g0.get? P = none)
    (G : Grow g0 (still L s.heap)) (hc : Cols lawProg w g0 d (col x) T) (hl : s.heap.PlainList P #[]) (mp : m (Str.ofString "products") = some (.ref P)) (hT : @LE.le Nat _ T s.toks)
    (k : ∀ h' tk m' cp' ys, LawSt base L h' m' (some (.ref d)) cp' co ck tt → keep1 (Str.ofString "row") m' m → Grow g0 (still L h') → (still L h').PlainList P ys → Are ys.toList (products x) → s.toks ≤ tk → Q .next { s with heap := h', toks := tk }) :
    wpAny (model lawProg w) (lawA L fa cd) (exec (stmt 7) (lawEnv L fa cd)) Q E s := by
  show wpAny _ _ (exec (.For (.Name _ _) (.Call (.Name _ _) [.Constant (.int 6) _ _] [] _) [pstmt 0, pstmt 1] [] _) _) _ _ _
  refine wpAny_For (with_toks2 ?_)
  refine src_range1 (k := 6) (by omega) (by omega) (fun Q E hq => nm_builtin c rfl rfl rfl rfl S.fr.keep K_range (by decide +kernel) (by decide) (by decide) hq) (fun Q hq => wpAny_Constant_int (hq _ _)) rfl ?_
  intro I h₂ tk₂ kg hI hI' hr htk2
  have hI0 : s.heap.get? I = none := none_of_le hI
  have nI := S.fresh hI0
  have bI : base.get? I = none := none_below S.fr.keep hI0
  have gI : g0.get? I = none := none_below G (still_none hI0)
  have hPI : P ≠ I := fun q => by obtain ⟨nn, e⟩ := hl; rw [q, hI0] at e; cases e
  have hLI : L ≠ I := fun q => nI (by rw [← q]; simp [marks])
  have S2 := S.grow kg
  refine for_range (n := 6) (i := 0) rfl (fun i s' => ∃ h tk m' cp' ys, s' = { s with heap := h, toks := tk } ∧ LawSt base L h m' (some (.ref d)) cp' co ck tt ∧ keep1 (Str.ofString "row") m' m ∧ Grow g0 (still L h) ∧ IsRangeIter h I (i : Int) ((6 : Nat) - (i : Int)) 1 ∧
    h.PlainList P ys ∧ Are ys.toList ((upto i).map (prodOf x)) ∧ @LE.le Nat _ s.toks tk) ?_ ?_ ?_ (Nat.zero_le _) ⟨h₂, tk₂, m, cp, #[], rfl, S2, fun _ _ => rfl, G.trans (still_mono kg), by simpa using hr, (by obtain ⟨nn, e⟩ := hl; exact ⟨nn, kg _ _ e⟩), .nil, htk2⟩
  · rintro i s' ⟨h, tk, m', cp', ys, rfl, _, _, _, hr', _⟩
    exact hr'
  · rintro i s' E hi ⟨h, tk, m', cp', ys, rfl, S', km, G', hr', hl', hA, hk⟩ h' hs' hr2
    dsimp only at hs'
    have kb : But [I] h h' := sameBut_but hs' (by simp)
    have S3 := S'.but kb (by intro b hb'; rw [List.mem_singleton.mp hb']; exact ⟨nI, bI⟩)
    have G3 := grow_but G' kb (by intro b hb'; rw [List.mem_singleton.mp hb']; exact gI)
    refine with_toks2 (s := { s with heap := h', toks := tk + 1 }) ?_
    refine law_place (s := { s with heap := h', toks := tk + 1 }) c S3 fun h4 S4 k4 => ?_
    dsimp only at k4
    have G4 : Grow g0 (still L h4) := grow_marks G3 k4 (by intro b hb'; rw [List.mem_singleton.mp hb']; exact marks_ne.2.2.1)
    have nm : ∀ {b}, b ∉ marks L → b ∉ [L + 1 + 1] := fun hb' q => hb' (by rw [List.mem_singleton.mp q]; exact marks_ne.2.2.1)
    refine wpAny_execs_cons (st_rowP (s := { s with heap := h4, toks := tk + 1 }) (x := x) (i := (i : Int)) (t := tk) c S4 G4 hc (by omega) (by omega) fun D' h5 tk5 ys5 S5 k5 P5 O5 l5 => ?_)
    dsimp only at k5 l5
    have eP : h5.PlainList P ys := by
      obtain ⟨nn, e⟩ := hl'
      exact ⟨nn, k5 _ _ (fun q => hP (by rw [q]; exact marks_ne.1)) (k4 _ _ (nm hP) (kb _ _ (by simpa using hPI) e))⟩
    have hys : ys.size = i := by have := Paired.length hA; simpa [upto_length] using this
    refine wpAny_execs_cons (st_append (s := { s with heap := h5, toks := tk5 }) (x := x) (i := (i : Int)) (T := T) (D' := D') c S5 hP hb eP (by rw [hys]; omega) ?_ ?_ ?_ ?_ O5 fun h6 tk6 S6 k6 hl6 => ?_)
    · simp only [show (Str.ofString "products" = Str.ofString "row") = False by decide, if_false]
      rw [km _ (by decide)]; exact mp
    · simp only [if_true]
    · show @LE.le Nat _ T tk5
      have h1 : @LE.le Nat _ (tk + 1) tk5 := l5
      exact Nat.le_trans hT (Nat.le_trans hk (Nat.le_trans (Nat.le_succ _) h1))
    · obtain ⟨nn, e⟩ := P5; exact ⟨nn, still_le L _ _ _ e⟩
    · refine wpAny_pure fun htk6 => ?_
      dsimp only at k6 htk6
      have k56 : But [L, P] h4 h6 := fun b o n e => by
        simp only [List.mem_cons, List.not_mem_nil, or_false, not_or] at n
        exact k6 b o (by simpa using n.2) (k5 b o n.1 e)
      refine ⟨h6, tk6, _, _, _, rfl, S6, ?_, ?_, ?_, hl6.choose_spec, ?_, by omega⟩
      · intro z hz
        simp only [hz, if_false]
        exact km z hz
      · intro b o e
        have e4 := G4 b o e
        have nb := still_not e4
        refine still_get (k56 b o ?_ (still_le L _ _ _ e4)) nb
        simp only [List.mem_cons, List.not_mem_nil, or_false, not_or]
        refine ⟨fun q => nb (by rw [q]; exact marks_ne.1), fun q => ?_⟩
        rw [q, hg] at e; cases e
      · have hr3 : h'.get? I = some _ := hr2
        show h6.get? I = some _
        refine k56 I _ ?_ (k4 I _ (nm nI) hr3)
        simp only [List.mem_cons, List.not_mem_nil, or_false, not_or]
        exact ⟨Ne.symm hLI, Ne.symm hPI⟩
      · rw [upto_succ, List.map_append, Array.toList_push]
        exact Paired.snoc hA ⟨_, rfl⟩
  · rintro s' ⟨h, tk, m', cp', ys, rfl, S', km, G', hr', hl', hA, hk⟩ h' hx
    dsimp only at hx
    have kb : But [I] h h' := fun b o nb e => hx b o (by simpa using nb) e
    have S3 := S'.but kb (by intro b hb'; rw [List.mem_singleton.mp hb']; exact ⟨nI, bI⟩)
    have G3 := grow_but G' kb (by intro b hb'; rw [List.mem_singleton.mp hb']; exact gI)
    refine k h' tk m' cp' ys S3 km G3 ?_ hA hk
    obtain ⟨nn, e⟩ := hl'
    exact ⟨nn, still_get (kb _ _ (by simpa using hPI) e) hP⟩
end
end Mine
namespace Mine
set_option maxRecDepth 100000
theorem paired_get {α β : Type} {F : α → β → Prop} {as : List α} {bs : List β} (x : Paired F as bs) {i : Nat} {a : α} {b : β} (ha : as[i]? = some a) (hb : bs[i]? = some b) : F a b := by
  induction x generalizing i with
  | nil => simp at ha
  | cons h _ ih =>
    cases i with
    | zero => simp only [List.getElem?_cons_zero, Option.some.injEq] at ha hb; subst ha; subst hb; exact h
    | succ i => simp only [List.getElem?_cons_succ] at ha hb; exact ih ha hb
theorem entry_iter : entryFor table "iter" = some Builtin.«iter» := entryFor_of_fast (by kernel_rfl)
theorem args_iter (a : Value) : argsOk "iter" ⟨[a], []⟩ := by unfold argsOk; kernel_rfl
section
variable {w : World} {base : Heap} {L fa : Addr} {cd : Value} {mg mb : Str → Option Value} {mean : ExcName → Option Value} {loose : List Str} {s : Shared} {A : Around}
  {m : Str → Option Value} {E : Value → Shared → Prop}
theorem K_iter : nsIn (hd.heap_39 w.params) mainGlobals (Str.ofString "iter") = some none := by kernel_rfl
theorem K_missing : ∃ v, nsIn (hd.heap_39 w.params) mainGlobals (Str.ofString "_initial_missing") = some (some (.ref v)) := ⟨99, by kernel_rfl⟩

theorem call_iter_list {D : Addr} {vs : Array Value} {Q : Value → Shared → Prop} (hl : s.heap.IsList D vs)
    (h : Q (.ref s.heap.objs.size) { s with heap := s.heap.push { cls := .type "list_iterator", data := .fields #[.ref D, .int 0 0] } }) :
    wpAny (model lawProg w) A (call (.builtin "iter") [.ref D]) Q E s := by
  refine Calls.call_function_entry (by decide +kernel) (by decide +kernel) entry_iter (args_iter _) ?_
  unfold Builtin.«iter»
  refine wpAny_bind (m := someArgs "iter" 1 2 _) (wpAny_of_eq (a := [Value.ref D]) (by first | rfl | kernel_rfl!) ?_)
  show wpAny _ _ (pyIter (.ref D) >>= _) _ _ _
  refine wpAny_bind (wpAny_pyIter_list hl ?_)
  exact wpAny_pure ⟨_, rfl, h⟩

set_option maxHeartbeats 1000000 in
theorem c_addA {x k : Int} {t u : Tok} {Q : Value → Shared → Prop} (X' : (hd.heap_39 w.params).In s.heap) (T' : Top topProg loose mean mg mb s.heap) (hroom : A.depth < recursionLimit)
    (h : ∀ h' n, Grow s.heap h' → Q (.int (x + k) n) { s with heap := h', toks := n + 1 }) : wpAny (model lawProg w) A (call (.ref 21) [.int x t, .int k u]) Q E s := by
  refine wpAny_call ?_
  show codeAny (model Challenge.rw_xi0015_01.row.prog w) _ _ _ _
  revert X'
  k_fill
  intro X'
  refine' own_call0 X' T' ?ho ?hcd ?hroom ?hbind ?hloc ?hco ?hgen ?hk ?hcell ?_
  case ho => k_is
  case hcd => k_is
  case hroom => exact hroom
  case hbind => exact BindsTo.of_eq rfl
  case hloc => exact locs rfl
  case hco => exact rfl
  case hgen => exact rfl
  case hk => exact rfl
  case hcell => decide
  intro L' h1 hL' F' N'
  refine wpAny_execs_cons (wpAny_Return_some (wpAny_BinOp (nm_local rfl rfl F'.ns (v := .int x t) rfl (nm_local rfl rfl F'.ns (v := .int k u) rfl (add_int ?_)))))
  exact h _ _ F'.keep

set_option maxHeartbeats 1000000 in
theorem c_reduce {D : Addr} {vs : Array Value} {ns : List Int} {t : Tok} {Q : Value → Shared → Prop} (c : Ctx w base L mg mb mean loose) (F : Fr base L s.heap m) (hl : s.heap.PlainList D vs) (ho : Are vs.toList ns)
    (h : ∀ h' v n, Grow s.heap h' → Q (.int (ns.foldl (· + ·) 0) v) { s with heap := h', toks := n }) : CallTo w L fa cd 107 [.ref 21, .ref D, .int 0 t] Q E s := by
  have X' : (hd.heap_39 w.params).In s.heap := c.X.keeps F.keep
  have T' : Top topProg loose mean mg mb s.heap := c.T.keeps F.keep
  refine wpAny_call ?_
  show codeAny (model Challenge.rw_xi0015_01.row.prog w) _ _ _ _
  revert X'
  k_fill
  intro X'
  refine' own_call0 X' T' ?ho ?hcd ?hroom ?hbind ?hloc ?hco ?hgen ?hk ?hcell ?_
  case ho => k_is
  case hcd => k_is
  case hroom => k_room
  case hbind => first | exact BindsTo.of_eq rfl | exact binds_K (by k_in) rfl (by k_is) rfl rfl rfl
  case hloc => exact locs rfl
  case hco => exact rfl
  case hgen => exact rfl
  case hk => exact rfl
  case hcell => decide
  intro L' h1 hL' F' N'
  have hlen : vs.size = ns.length := by have := Paired.length ho; simpa using this
  have hlist : s.heap.IsList D vs := by obtain ⟨nn, e⟩ := hl; exact ⟨_, e, rfl, nn, rfl⟩
  have hLs : L' = s.heap.objs.size := hL'
  have g1 : Grow s.heap h1 := F'.keep
  have kL : ∀ {h h' : Heap}, Grow s.heap h → Heap.SameBut L' h h' → Grow s.heap h' := fun g hs b o e => hs.extBut b o (by rw [hLs]; exact Nat.ne_of_lt (Heap.lt_size e)) (g b o e)
  refine wpAny_execs_cons (wpAny_Assign_Name (Call_ (nm_builtin c rfl rfl rfl rfl (Grow.trans F.keep g1) K_iter (by decide +kernel) (by decide) (by decide) (callWith_builtin1 (wpAny_items_cons (nm_local rfl rfl F'.ns (v := .ref D) rfl (wpAny_items_nil (call_iter_list (isList_grow hlist g1) ?_))) rfl)))))
  refine wpAny_storeName_local rfl (F'.ns.keeps (Grow.push _ _)) (fun h2 n2 s2 => ?_) rfl
  dsimp only at n2 s2
  have gp : Grow h1 (h1.push { cls := .type "list_iterator", data := .fields #[.ref D, .int 0 0] }) := .push _ _
  have g2 : Grow s.heap h2 := kL (g1.trans gp) s2
  have hLI : L' ≠ h1.objs.size := Nat.ne_of_lt F'.ns.lt
  have hL1 : @LT.lt Nat _ s.heap.objs.size h1.objs.size := by have := F'.ns.lt; rw [hLs] at this; exact this
  have hIt : h2.IsListIter h1.objs.size D 0 := ⟨_, s2.extBut _ _ (Ne.symm hLI) (Heap.get?_push_size _ rfl), rfl, rfl⟩
  obtain ⟨ob, hob⟩ := K_missing (w := w)
  refine wpAny_execs_cons (wpAny_If (wpAny_isTrue_Compare1 (nm_local rfl rfl n2 (v := .int 0 t) rfl (nm_global (v := .ref ob) c rfl rfl rfl (Grow.trans F.keep g2) hob (by decide) (wpAny_is_other rfl (fun q => nomatch q) (wpAny_truthy_bool ?_))))))
  simp only [Bool.false_eq_true, if_false]
  refine wpAny_execs_cons (wpAny_Assign_Name (nm_local rfl rfl n2 (v := .int 0 t) rfl (wpAny_storeName_local rfl n2 (fun h3 n3 s3 => wpAny_pure ?_) rfl)))
  dsimp only at n3 s3
  have g3 : Grow s.heap h3 := kL g2 s3
  have hIt3 : h3.IsListIter h1.objs.size D 0 := hIt.at fun o e => s3.extBut _ o (Ne.symm hLI) e
  have hD2 : D ≠ h1.objs.size := by obtain ⟨_, e, _⟩ := hlist; exact Nat.ne_of_lt (Nat.lt_trans (Heap.lt_size e) hL1)
  refine wpAny_execs_cons (wpAny_For (nm_local rfl rfl n3 (v := .ref h1.objs.size) rfl (wpAny_pyIter_listiter hIt3 ?_)))
  refine for_walks (Walks.list rfl h1.objs.size D hD2 vs) (i := 0) (fun i s' => ∃ h tk m' t', s' = { s with heap := h, toks := tk } ∧ Grow s.heap h ∧ h.Ns L' m' ∧ m' (Str.ofString "function") = some (.ref 21) ∧ m' (Str.ofString "value") = some (.int ((ns.take i).foldl (· + ·) 0) t') ∧
    h.IsListIter h1.objs.size D i ∧ h.IsList D vs) ?_ ?_ ?_ (Nat.zero_le _) ?_
  · rintro i s' ⟨h, tk, m', t, rfl, _, _, _, _, hi, hl⟩; exact ⟨hi, hl⟩
  · rintro i s' E hi ⟨hh, tk, m', t', rfl, g, hn, hmf, hmv, hit, hli⟩ v h' tk' hv hst hk htk
    dsimp only at hk
    have hv' : vs.toList[i]? = some v := by simpa using hv
    obtain ⟨n, tn, en, rfl⟩ : ∃ n tn, ns[i]? = some n ∧ v = .int n tn := by
      have hi' : i < ns.length := by rw [← hlen]; exact hi
      refine ⟨ns[i], ?_⟩
      have := paired_get ho hv' (List.getElem?_eq_getElem hi')
      obtain ⟨tn, e⟩ := this
      exact ⟨tn, List.getElem?_eq_getElem hi', e⟩
    have g' : Grow s.heap h' := fun b o e => hk b o (by
      simp only [List.mem_singleton]
      exact neN (Nat.ne_of_lt (Nat.lt_trans (Heap.lt_size e) hL1))) (g b o e)
    have hn' : h'.Ns L' m' := hn.at' fun o e => hk _ o (by simpa using hLI) e
    refine wpAny_assign_Name (wpAny_storeName_local rfl hn' (fun h4 n4 s4 => ?_) rfl)
    dsimp only at n4 s4
    have g4 := kL g' s4
    have st4 : h4.IsListIter h1.objs.size D (i + 1) ∧ h4.IsList D vs := ⟨hst.1.at fun o e => s4.extBut _ o (Ne.symm hLI) e, isList_grow hlist g4⟩
    have ef : (fun z => if z = Str.ofString "element" then some (Value.int n tn) else m' z) (Str.ofString "function") = some (.ref 21) := by
      simp only [show (Str.ofString "function" = Str.ofString "element") = False by decide, if_false]; exact hmf
    have ev : (fun z => if z = Str.ofString "element" then some (Value.int n tn) else m' z) (Str.ofString "value") = some (.int ((ns.take i).foldl (· + ·) 0) t') := by
      simp only [show (Str.ofString "value" = Str.ofString "element") = False by decide, if_false]; exact hmv
    obtain ⟨ob1, fd, e1, e2⟩ := isFun_of (F_21 (w := w))
    refine wpAny_execs_cons (wpAny_Assign_Name (Call_ (nm_local rfl rfl n4 ef (callWith_def (o := ob1) e2 (wpAny_items_cons (nm_local rfl rfl n4 ev (wpAny_items_cons (nm_local rfl rfl n4 (v := .int n tn) (by simp only [if_true]) (wpAny_items_nil ⟨g4 _ _ (X' _ _ e1), ?_⟩)) rfl)) rfl)))))
    refine c_addA (s := { s with heap := h4, toks := tk' + 1 }) (fun a o e => g4 _ _ (X' a o e)) (T'.keeps g4) (by k_room) fun h5 n5 g5 => ?_
    dsimp only at g5
    refine wpAny_storeName_local rfl (n4.keeps g5) (fun h6 n6 s6 => ?_) rfl
    dsimp only at n6 s6
    refine wpAny_pure ⟨h6, _, _, n5, rfl, kL (g4.trans g5) s6, n6, ?_, ?_, ?_, isList_grow hlist (kL (g4.trans g5) s6)⟩
    · simp only [show (Str.ofString "function" = Str.ofString "value") = False by decide, if_false]; exact ef
    · simp only [if_true]
      have : ns.take (i + 1) = ns.take i ++ [n] := by rw [List.take_add_one, en]; rfl
      rw [this, List.foldl_append]
      rfl
    · exact st4.1.at fun o e => s6.extBut _ o (Ne.symm hLI) (g5 _ _ e)
  · rintro s' ⟨hh, tk, m', t', rfl, g, hn, hmf, hmv, hit, hli⟩ h' tk' hk htk
    dsimp only at hk
    have hn' : h'.Ns L' m' := hn.at' fun o e => hk _ o (by simpa using hLI) e
    have g' : Grow s.heap h' := fun b o e => hk b o (by
      simp only [List.mem_singleton]
      exact neN (Nat.ne_of_lt (Nat.lt_trans (Heap.lt_size e) hL1))) (g b o e)
    refine wpAny_execs_cons (wpAny_Return_some (nm_local rfl rfl hn' hmv ?_))
    rw [List.take_of_length_le (by rw [hlen]; exact Nat.le_refl _)]
    exact h h' t' tk' g'
  · exact ⟨_, _, _, t, rfl, g3, n3, rfl, by simp only [if_true]; rfl, hIt3, isList_grow hlist g3⟩
end
end Mine
namespace Mine
set_option maxRecDepth 100000
def is4000 : Option (Option Value) → Bool
  | some (some (.int 4000 _)) => true
  | _ => false
theorem K_limit {w : World} : ∃ t, nsIn (hd.heap_39 w.params) mainGlobals (Str.ofString "_DIV_LIMIT") = some (some (.int 4000 t)) := by
  have h : is4000 (nsIn (hd.heap_39 w.params) mainGlobals (Str.ofString "_DIV_LIMIT")) = true := by kernel_rfl
  revert h
  generalize nsIn (hd.heap_39 w.params) mainGlobals (Str.ofString "_DIV_LIMIT") = o
  intro h
  unfold is4000 at h
  split at h
  · exact ⟨_, rfl⟩
  · cases h
theorem K_divmod {w : World} : nsIn (hd.heap_39 w.params) mainGlobals (Str.ofString "divmod") = some none := by kernel_rfl
section
variable {w : World} {mg mb : Str → Option Value} {mean : ExcName → Option Value} {loose : List Str} {s : Shared} {A : Around} {h₀ : Heap} {L : Addr} {m : Str → Option Value} {news : List (Addr × Obj)} {E : Value → Shared → Prop} {env : Env}

theorem nm_globalT {x : Str} {p : Pos} {v : Value} {Q : Value → Shared → Prop} (X : (hd.heap_39 w.params).In h₀) (T : Top topProg loose mean mg mb h₀) (hg : env.globals = mainGlobals) (hk : env.scope.kind = .function) (hx : env.kindOf x = some .globalImplicit)
    (kp : Grow h₀ s.heap) (e : nsIn (hd.heap_39 w.params) mainGlobals x = some (some v)) (hd : (x == ("__debug__" : Str)) = false) (h : Q v s) : wpAny (model lawProg w) A (eval (.Name x p) env) Q E s :=
  Calls.Name_function_global hk hx (Calls.loadGlobal_global (by rw [hg]; exact T.g.keeps kp) (mg_of X T.g e) h) hd
theorem nm_builtinT {x : Str} {p : Pos} {v : Value} {Q : Value → Shared → Prop} (X : (hd.heap_39 w.params).In h₀) (T : Top topProg loose mean mg mb h₀) (hg : env.globals = mainGlobals) (hb : env.builtins = builtinsNs) (hk : env.scope.kind = .function) (hx : env.kindOf x = some .globalImplicit)
    (kp : Grow h₀ s.heap) (e : nsIn (hd.heap_39 w.params) mainGlobals x = some none) (hv : bootBuiltins x = some v) (hn : x ≠ "__name__") (hd : (x == ("__debug__" : Str)) = false) (h : Q v s) : wpAny (model lawProg w) A (eval (.Name x p) env) Q E s :=
  Calls.Name_function_global hk hx (Calls.loadGlobal_builtin (by rw [hg]; exact T.g.keeps kp) (mg_none_of X T.g e) (by rw [hb]; exact T.b.keeps kp) ((T.builtins x hn).trans hv) h) hd

theorem callWith_b2 {pos : Pos} {id : String} {e1 e2 : Expr} {Q : Value → Shared → Prop} (hst : starEach [e1, e2] env = [(false, eval e1 env), (false, eval e2 env)])
    (h : wpAny (model lawProg w) A (eval e1 env) (fun v1 s₁ => wpAny (model lawProg w) A (eval e2 env) (fun v2 s₂ => wpAny (model lawProg w) A (call (.builtin id) [v1, v2]) Q E s₂) E s₁) E s) :
    wpAny (model lawProg w) A (callWith pos (.builtin id) [] (backTo pos (starEach [e1, e2] env)) []) Q E s := by
  have s2 : starEach [e2] env = [(false, eval e2 env)] := by
    have := hst
    cases e1 <;> simp_all [starEach]
  refine callWith_builtin1 (wpAny_items_cons (wpAny_mono h (fun v1 s₁ h₁ => ?_) fun _ _ x => x) (by rw [hst, s2])) (by rw [hst, s2]) (by rw [s2]; rfl)
  exact wpAny_items_cons (wpAny_mono h₁ (fun v2 s₂ h₂ => wpAny_items_nil h₂) fun _ _ x => x) (by rw [s2]; rfl)

theorem news_cons {h' : Heap} {l : Addr} {o : Obj} (e : h'.get? l = some o) (n : l ≠ L) (z : h₀.get? l = none) (N : News h₀ L h' news) : News h₀ L h' ((l, o) :: news) := by
  intro p hp
  rcases List.mem_cons.mp hp with rfl | hp
  · exact ⟨e, n, z⟩
  · exact N p hp

set_option maxHeartbeats 1000000 in
/-- a small number is halved -/
theorem div2_K {X nn : Int} {t u v : Tok} {Q : Value → Shared → Prop} (F : Fr h₀ L s.heap m) (N : News h₀ L s.heap news) (X' : (hd.heap_39 w.params).In h₀) (T' : Top topProg loose mean mg mb h₀) (hroom : A.depth < recursionLimit)
    (hX : 0 ≤ X ∧ X < 64) (hn : 0 ≤ nn)
    (h : ∀ l h' t1 t2 tk, Fr h₀ L h' m → News h₀ L h' ((l, { cls := .type "tuple", data := .seq #[.int (X.fdiv 2) t1, .int (X.fmod 2) t2] }) :: news) → (∀ p ∈ news, p.1 < l) → Q (.ref l) { s with heap := h', toks := tk }) :
    wpAny (model Challenge.rw_xi0015_01.row.prog w) A (call (.ref 63) [.int X t, .int 2 u, .int nn v]) Q E s := by
  have X9 : (hd.heap_39 w.params).In s.heap := X'.keeps F.keep
  have T9 : Top topProg loose mean mg mb s.heap := T'.keeps F.keep
  clear X' T'
  refine wpAny_call ?_
  show codeAny (model Challenge.rw_xi0015_01.row.prog w) _ _ _ _
  revert X9
  k_fill
  intro X9
  refine' own_call0 X9 T9 ?ho ?hcd ?hroom ?hbind ?hloc ?hco ?hgen ?hk ?hcell ?_
  case ho => k_is
  case hcd => k_is
  case hroom => exact hroom
  case hbind => exact BindsTo.of_eq rfl
  case hloc => exact locs rfl
  case hco => exact rfl
  case hgen => exact rfl
  case hk => exact rfl
  case hcell => decide
  intro L' h1 hL' F' N'
  obtain ⟨td, hlim⟩ := K_limit (w := w)
  have hb : Builtin.Int.intBits X ≤ 64 := intBits_le_64 (by omega) (by omega)
  refine wpAny_execs_cons (wpAny_If (wpAny_isTrue_Compare1 (wpAny_BinOp (MethodCall_ (pl := _) (nm_local rfl rfl F'.ns (v := .int X t) rfl (getMethod_int_bit_length (callWith_method0 (call_int_bit_length (nm_local rfl rfl F'.ns (v := .int nn v) rfl (sub_int ?_))))))))))
  refine nm_globalT X9 T9 rfl rfl rfl F'.keep hlim (by decide) (le_int (wpAny_truthy_bool ?_))
  have hd1 : decide ((Builtin.Int.intBits X : Int) - nn ≤ 4000) = true := by rw [decide_eq_true_iff]; omega
  rw [hd1]
  simp only [if_true]
  have hp9 : Builtin.divisionGoesByPylong X 2 = false := PyProof.noPylong_small (by show (2 : Nat) < 1073741824; omega)
  have hne9 : (2 : Int) ≠ 0 := by omega
  refine wpAny_execs_cons (wpAny_Return_some (Call_ (nm_builtinT (v := .builtin "divmod") X9 T9 rfl rfl rfl rfl F'.keep K_divmod (by decide +kernel) (by decide) (by decide) (callWith_b2 rfl (nm_local rfl rfl F'.ns (v := .int X t) rfl (nm_local rfl rfl F'.ns (v := .int 2 u) rfl (PyProof.Rows.divmod_int hne9 ?_ (Or.inl hp9)))))))) 
  have g1 : Grow s.heap h1 := F'.keep
  have hlt : @LT.lt Nat _ s.heap.objs.size h1.objs.size := by have := F'.ns.lt; rw [hL'] at this; exact this
  have hno : h₀.get? h1.objs.size = none := by
    cases e : h₀.get? h1.objs.size with
    | none => rfl
    | some o => exact absurd (Nat.lt_trans (Heap.lt_size (F.keep _ _ e)) hlt) (Nat.lt_irrefl _)
  exact h h1.objs.size _ _ _ _ (F.keeps (Grow.trans g1 (.push _ _))) (news_cons (Heap.get?_push_size _ rfl) (Ne.symm (Nat.ne_of_lt (Nat.lt_trans F.ns.lt hlt))) hno (N.grown (Grow.trans g1 (.push _ _)))) fun p hp => Nat.lt_trans (Heap.lt_size (N p hp).1) hlt
end
end Mine
namespace Mine
set_option maxRecDepth 100000
section
variable {w : World} {base : Heap} {L fa : Addr} {cd : Value} {mg mb : Str → Option Value} {mean : ExcName → Option Value} {loose : List Str} {E : Value → Shared → Prop} {s : Shared}
  {m : Str → Option Value} {cc cp co ck : Option Value} {tt : Array Value × Array Value}

/-- len(x) of a list, in the law's frame -/
theorem law_len {x : Str} {p1 p2 p3 : Pos} {D : Addr} {vs : Array Value} {Q : Value → Shared → Prop} (c : Ctx w base L mg mb mean loose) (S : LawSt base L s.heap m cc cp co ck tt) (hx : (lawEnv L fa cd).kindOf x = some .local) (dx : (x == ("__debug__" : Str)) = false)
    (mx : m x = some (.ref D)) (hl : s.heap.PlainList D vs) (hz : vs.size < 100000) (h : ∀ t n, Q (.int vs.size t) { s with toks := n }) :
    wpAny (model lawProg w) (lawA L fa cd) (eval (.Call (.Name (Str.ofString "len") p1) [.Name x p2] [] p3) (lawEnv L fa cd)) Q E s := by
  have hlist : s.heap.IsList D vs := by obtain ⟨nn, e⟩ := hl; exact ⟨_, e, rfl, nn, rfl⟩
  refine Call_ (nm_builtin (v := .builtin "len") c rfl rfl rfl rfl S.fr.keep K_len (by decide +kernel) (by decide) (by decide) (callWith_builtin1 (wpAny_items_cons (law_name S hx mx (wpAny_items_nil ?_) dx) rfl)))
  exact Calls.call_len_list hlist (by omega) (h _ _)

set_option maxHeartbeats 1000000 in
/-- the count of the threes holds -/
theorem st_if {D : Addr} {vs : Array Value} {half : Int} {t1 t2 : Tok} {Q : Flow → Shared → Prop} (c : Ctx w base L mg mb mean loose) (S : LawSt base L s.heap m cc cp co ck tt)
    (mr : m (Str.ofString "rest") = some (.int 0 t1)) (mh : m (Str.ofString "half") = some (.int half t2)) (ms : m (Str.ofString "same") = some (.ref D)) (hl : (still L s.heap).PlainList D vs)
    (h1 : (vs.size : Int) = 20 - half) (h2 : 2 ≤ vs.size) (h3 : vs.size < 100000)
    (k : ∀ h' tk, LawSt base L h' m cc cp co ck tt → Grow (still L s.heap) (still L h') → Q .next { s with heap := h', toks := tk }) :
    wpAny (model lawProg w) (lawA L fa cd) (exec (stmt 9) (lawEnv L fa cd)) Q E s := by
  show wpAny _ _ (exec (.If (.BoolOp .Or [.Compare (.Name _ _) [.NotEq] [.Constant (.int 0) _ _] _, .Compare (.Call (.Name _ _) [.Name _ _] [] _) [.NotEq] [.Call (.Name _ _) [.Constant (.int 20) _ _, .Name _ _] [] _] _,
    .Compare (.Call (.Name _ _) [.Name _ _] [] _) [.Lt] [.Constant (.int 2) _ _] _] _) _ [] _) _) _ _ _
  have hl0 : s.heap.PlainList D vs := by obtain ⟨nn, e⟩ := hl; exact ⟨nn, still_le L _ _ _ e⟩
  refine wpAny_If (wpAny_isTrue_BoolOp (wpAny_allTrue_Or_cons (wpAny_isTrue_Compare1 (law_name S rfl mr (wpAny_Constant_int (ne_int (wpAny_truthy_bool ?_)))))))
  simp only [bne_self_eq_false, Bool.false_eq_true, if_false]
  refine wpAny_allTrue_Or_cons (wpAny_isTrue_Compare1 (law_len (s := { s with toks := s.toks + 1 }) c S rfl (by decide) ms hl0 h3 fun t n => ?_))
  refine ev_fun2 (s := { s with toks := n }) c rfl rfl rfl S.fr.keep K_sub F_49 (by decide) rfl (wpAny_Constant_int (law_name (s := { s with toks := n + 1 }) S rfl mh ⟨S.fr.keep, ?_⟩))
  refine c_sub (s := { s with toks := n + 1 }) c S.fr fun h4 n4 g4 _ => ne_int (wpAny_truthy_bool ?_)
  dsimp only at g4
  have S4 := S.grow g4
  have e1 : ((vs.size : Int) != 20 - half) = false := by rw [bne_eq_false_iff_eq]; exact h1
  rw [e1]
  simp only [Bool.false_eq_true, if_false]
  have hl4 : h4.PlainList D vs := by obtain ⟨nn, e⟩ := hl0; exact ⟨nn, g4 _ _ e⟩
  refine wpAny_allTrue_Or_cons (wpAny_isTrue_Compare1 (law_len (s := { s with heap := h4, toks := n4 + 1 }) c S4 rfl (by decide) ms hl4 h3 fun t n => wpAny_Constant_int (lt_int (wpAny_truthy_bool ?_))))
  have e2 : decide ((vs.size : Int) < 2) = false := by rw [decide_eq_false_iff_not]; omega
  rw [e2]
  simp only [Bool.false_eq_true, if_false]
  refine wpAny_allTrue_Or_nil ?_
  simp only [Bool.false_eq_true, if_false]
  exact wpAny_pure (k h4 _ S4 (still_mono g4))
end
end Mine
namespace Mine
set_option maxRecDepth 100000
theorem tup2_unique {h : Heap} {a : Addr} {i j i' j' : Int} (x : Tup2 h a i j) (y : Tup2 h a i' j') : i = i' ∧ j = j' := by
  obtain ⟨t, u, o, e, _, n, hd⟩ := x
  obtain ⟨t', u', o', e', _, n', hd'⟩ := y
  rw [e] at e'; cases e'
  rw [hd] at hd'
  simp only [Data.seq.injEq, Array.mk.injEq, List.cons.injEq, Value.int.injEq] at hd'
  exact ⟨hd'.1.1.1, hd'.1.2.1.1⟩
section
variable {w : World} {base : Heap} {L fa : Addr} {cd : Value} {mg mb : Str → Option Value} {mean : ExcName → Option Value} {loose : List Str} {E : Value → Shared → Prop} {s : Shared}
  {m : Str → Option Value} {cc cp co ck : Option Value} {tt : Array Value × Array Value}

/-- [colour[line] for line in src] -/
theorem ev_colours {src : Str} {p1 p2 p3 p4 p5 p6 : Pos} {d D : Addr} {g0 : Heap} {vs : Array Value} {ps : List (Int × Int)} {x : Int} {T : Nat} {Q : Value → Shared → Prop} (c : Ctx w base L mg mb mean loose) (S : LawSt base L s.heap m (some (.ref d)) cp co ck tt)
    (G : Grow g0 (still L s.heap)) (hc : Cols lawProg w g0 d (col x) T) (hsrc : (lawEnv L fa cd).kindOf src = some .local) (dsrc : (src == ("__debug__" : Str)) = false) (msrc : m src = some (.ref D))
    (hl : s.heap.PlainList D vs) (hp : Pairs (still L s.heap) 0 vs.toList ps) (h6 : ∀ p ∈ ps, InSix p.1 p.2) (hz : ps.length < 100000)
    (k : ∀ D' h' tk ys, Grow s.heap h' → h'.PlainList D' ys → Olds T ys.toList (ps.map fun p => col x p.1 p.2) → s.toks ≤ tk → Q (.ref D') { s with heap := h', toks := tk }) :
    wpAny (model lawProg w) (lawA L fa cd) (eval (.ListComp (.Subscript (.Name (Str.ofString "colour") p1) (.Name (Str.ofString "line") p2) p3) [⟨.Name (Str.ofString "line") p4, .Name src p5, [], 0⟩]
      { kind := .function, names := [(Str.ofString ".0", .local), (Str.ofString "line", .local), (Str.ofString "colour", .free)], isGenerator := false, isCoroutine := false, more := [] } p6) (lawEnv L fa cd)) Q E s := by
  refine wpAny_with_toks (n := s.toks) (Nat.le_refl _) ?_
  have hlist : s.heap.IsList D vs := by obtain ⟨nn, e⟩ := hl; exact ⟨_, e, rfl, nn, rfl⟩
  have hlt : @LT.lt Nat _ D s.heap.objs.size := by obtain ⟨_, e, _⟩ := hlist; exact Heap.lt_size e
  have hvl : vs.size = ps.length := by have := Paired.length hp; simpa using this
  refine wpAny_ListComp_free (cl := [(Str.ofString "colour", L + 1)]) (fun _ => true) (fun v y => ∃ (a : Addr) (p : Int × Int), v = .ref a ∧ Tup2 (still L s.heap) a p.1 p.2 ∧ ∃ t, y = .int (col x p.1 p.2) t ∧ @LT.lt Nat _ 0 t ∧ @LT.lt Nat _ t T) rfl (by decide) rfl (by decide) (by decide) ?_
  refine law_name S hsrc msrc (wpAny_pyIter_list hlist ?_) dsrc
  have kp : Grow s.heap (s.heap.push { cls := .type "list_iterator", data := .fields #[.ref D, .int 0 0] }) := .push _ _
  refine ⟨s.heap.objs.size, [s.heap.objs.size, D], [s.heap.objs.size], vs.size, _, _, rfl, Walks.list (A := lawA L fa cd) rfl s.heap.objs.size D (Nat.ne_of_lt hlt) vs, by rw [hvl, sizeLine_eq]; omega, ⟨⟨_, Heap.get?_push_size _ rfl, rfl, rfl⟩, hlist.push _⟩, ?_, ?_, ?_⟩
  · intro b hb
    show @LT.lt Nat _ b (s.heap.push _).objs.size
    rw [Heap.size_push]
    rcases List.mem_cons.mp hb with rfl | hb
    · exact Nat.lt_succ_self _
    · rw [List.mem_singleton.mp hb]; exact Nat.lt_succ_of_lt hlt
  · have old : ∀ {s₃ : Shared}, (∀ b o, b ∉ [s.heap.objs.size] → (s.heap.push { cls := .type "list_iterator", data := .fields #[.ref D, .int 0 0] }).get? b = some o → s₃.heap.get? b = some o) → Grow s.heap s₃.heap := fun hk b o e =>
      hk b o (by simp only [List.mem_singleton]; exact neN (Nat.ne_of_lt (Heap.lt_size e))) (kp b o e)
    constructor
    · intro C i v s₃ m₃ E' hC hv hn hm hk htk
      exact wpAny_tests_nil ⟨rfl, _, _, rfl, fun _ _ e => e⟩
    · intro C i v s₃ m₃ E' hC hv _ hn hm hk htk
      have g := old hk
      have hi : i < ps.length := by rw [← hvl]; exact (Array.getElem?_eq_some_iff.mp hv).1
      obtain ⟨a, ea, ht⟩ := pairs_get hp (List.getElem?_eq_getElem hi)
      have hv2 : v = .ref a := by
        have e2 : vs.toList[i]? = some v := by simpa using hv
        rw [e2] at ea; cases ea; rfl
      subst hv2
      have hin := h6 _ (List.getElem_mem hi)
      refine ev_colN lawRoom (hc.keeps ((G.trans (still_le L _)).trans g)) hin (ht.keeps ((still_le L _).trans g)) (fun Q E hq => cell_name rfl rfl rfl (S.c1.keeps g) hq) (fun Q E hq => nm_local rfl rfl hn hm hq) ?_
      intro t' n' z0 z1
      exact ⟨⟨a, _, rfl, ht, t', rfl, z0, z1⟩, _, _, rfl, fun _ _ e => e⟩
  · intro D' h' tk ys vs' hD' hL' hP' hlen' hvs hF hk htk
    have hvs' : vs' = vs.toList := by
      refine List.ext_getElem? fun j => ?_
      by_cases hj : j < vs'.length
      · have h1 := hvs j vs'[j] (List.getElem?_eq_getElem hj)
        rw [List.getElem?_eq_getElem hj]
        simpa using h1.symm
      · rw [List.getElem?_eq_none (Nat.not_lt.mp hj), List.getElem?_eq_none (by rw [Array.length_toList, ← hlen']; exact Nat.not_lt.mp hj)]
    have kL : Grow s.heap h' := fun b o e => hk b o (by simp only [List.mem_singleton]; exact neN (Nat.ne_of_lt (Heap.lt_size e))) (kp b o e)
    refine k D' h' tk ys kL hP' ?_ htk
    rw [List.filter_eq_self.mpr (fun _ _ => rfl), hvs'] at hF
    unfold Olds
    refine paired_map (F := fun y p => ∃ t, y = .int (col x p.1 p.2) t ∧ @LT.lt Nat _ 0 t ∧ @LT.lt Nat _ t T) (fun a b h => h) (paired_comp ?_ hp hF)
    rintro v p y ⟨a, rfl, _, ht⟩ ⟨a', p', e, ht', t, rfl, z0, z1⟩
    cases e
    obtain ⟨e1, e2⟩ := tup2_unique ht ht'
    rw [e1, e2]
    exact ⟨t, rfl, z0, z1⟩

def kindBody : List Stmt := match stmt 10 with | .For _ _ b _ _ => b | _ => []
def kst (k : Nat) : Stmt := kindBody.getD k (.Pass default)

set_option maxHeartbeats 1000000 in
/-- many = countOf([colour[line] for line in lines], kind) -/
theorem st_many {d D : Addr} {g0 : Heap} {vs : Array Value} {x kd : Int} {tk0 : Tok} {T : Nat} {Q : Flow → Shared → Prop} (c : Ctx w base L mg mb mean loose) (S : LawSt base L s.heap m (some (.ref d)) cp co (some (.int kd tk0)) tt)
    (G : Grow g0 (still L s.heap)) (hc : Cols lawProg w g0 d (col x) T) (ml : m (Str.ofString "lines") = some (.ref D)) (hl : g0.PlainList D vs) (hp : Pairs g0 0 vs.toList (pairsTo 6)) (hT : @LE.le Nat _ T tk0)
    (k : ∀ h' tk v, LawSt base L h' (fun z => if z = Str.ofString "many" then some (.int (cnt ((pairsTo 6).map fun p => col x p.1 p.2) kd) v) else m z) (some (.ref d)) cp co (some (.int kd tk0)) tt → Grow (still L s.heap) (still L h') → Q .next { s with heap := h', toks := tk }) :
    wpAny (model lawProg w) (lawA L fa cd) (exec (kst 0) (lawEnv L fa cd)) Q E s := by
  show wpAny _ _ (exec (.Assign [.Name _ _] (.Call (.Name _ _) [.ListComp (.Subscript (.Name _ _) (.Name _ _) _) [⟨.Name _ _, .Name _ _, [], 0⟩] _ _, .Name _ _] [] _) _) _) _ _ _
  have up : Grow g0 s.heap := G.trans (still_le L _)
  refine wpAny_Assign_Name (ev_fun2 c rfl rfl rfl S.fr.keep K_countOf F_56 (by decide) rfl ?_)
  refine ev_colours c S G hc rfl (by decide) ml (by obtain ⟨nn, e⟩ := hl; exact ⟨nn, up _ _ e⟩) (hp.keeps G) ?_ (by rw [pairs_len]; omega) fun D' h1 n1 ys g1 hl1 ho _ => ?_
  · intro p hp'
    have h := List.all_eq_true.mp pairs_two0 p hp'
    simp only [Bool.and_eq_true, bne_iff_ne, decide_eq_true_eq] at h
    exact ⟨h.1.1.2, by omega, by omega, h.2, h.1.1.1⟩
  have S1 := S.grow g1
  refine cell_name (s := { s with heap := h1, toks := n1 }) rfl rfl rfl S1.c4 ⟨S1.fr.keep, ?_⟩
  refine c_countOf (s := { s with heap := h1, toks := n1 }) c S1.fr hl1 ho hT ?_ fun h2 v2 n2 g2 => ?_
  · intro n hn
    obtain ⟨p, _, rfl⟩ := List.mem_map.mp hn
    exact col_small x _ _
  dsimp only at g2
  have S2 := S1.grow g2
  refine wpAny_storeName_local rfl S2.fr.ns (fun h3 n3 s3 => ?_) rfl
  dsimp only at n3 s3
  have k3 : ∀ b o, b ≠ L → h2.get? b = some o → h3.get? b = some o := fun b o n e => s3.extBut b o n e
  exact k h3 _ v2 (S2.frame n3 k3 c.l79 c.l72) (still_frame fun b o n e => k3 b o n (g2 _ _ (g1 _ _ e)))

set_option maxHeartbeats 1000000 in
/-- mine = [three for three in same if ..] -/
theorem st_mine {d D : Addr} {g0 : Heap} {vs : Array Value} {x kd : Int} {tk0 : Tok} {T : Nat} {ps : List (Int × Int × Int)} {Q : Flow → Shared → Prop} (c : Ctx w base L mg mb mean loose) (S : LawSt base L s.heap m (some (.ref d)) cp co (some (.int kd tk0)) tt)
    (G : Grow g0 (still L s.heap)) (hl : g0.PlainList D vs) (hp : Triples g0 0 vs.toList ps) (hlen : ps.length < 100000) (hin : ∀ p ∈ ps, p ∈ triTo 6) (ml : m (Str.ofString "same") = some (.ref D)) (hc : Cols lawProg w g0 d (col x) T)
    (k : ∀ D' h' tk ys, LawSt base L h' (fun z => if z = Str.ofString "mine" then some (.ref D') else m z) (some (.ref d)) cp co (some (.int kd tk0)) tt → Grow (still L s.heap) (still L h') → (still L h').PlainList D' ys → Triples (still L h') 0 ys.toList (ps.filter fun p => col x p.1 p.2.1 == kd) → Q .next { s with heap := h', toks := tk }) :
    wpAny (model lawProg w) (lawA L fa cd) (exec (kst 1) (lawEnv L fa cd)) Q E s := by
  show wpAny _ _ (exec (.Assign [.Name _ _] (.ListComp (.Name _ _) [⟨.Name _ _, .Name _ _, [_], 0⟩] _ _) _) _) _ _ _
  refine st_filter (cl := [(Str.ofString "kind", L + 1 + 1 + 1 + 1), (Str.ofString "colour", L + 1)]) (fun p => col x p.1 p.2.1 == kd) rfl rfl (by decide) rfl (by decide) (by decide) rfl rfl (by decide) (by decide) c S G hl hp hlen ml ?_ k
  intro C a p s₃ m₃ E' hC hps htup hn hm hk htk
  obtain ⟨i0, i1, i2, i3⟩ := tri_mem (hin p hps)
  have up : Grow g0 s₃.heap := (G.trans (still_le L _)).trans hk
  obtain ⟨t1, t2, t3, ht⟩ := htup
  have ht' : IsTup s₃.heap a [Value.int p.1 t1, .int p.2.1 t2, .int p.2.2 t3].toArray := ht.keeps up
  have hcell : s₃.heap.IsCell (L + 1) (some (.ref d)) := S.c1.keeps hk
  have hc3 : Cols lawProg w s₃.heap d (col x) T := hc.keeps up
  refine wpAny_tests_one (wpAny_isTrue_Compare1 ?_)
  refine ev_colT (vs := [Value.int p.1 t1, .int p.2.1 t2, .int p.2.2 t3]) (t1 := t1) (t2 := t2) (c1 := 0) (c2 := 1) (m := m₃) (c := col x) (T := T) (d := d) (a := a) lawRoom hc3 ⟨i0, by omega, by omega, by omega, by omega⟩ rfl rfl hn hm (by decide) (fun Q E hq => free_colour rfl rfl rfl hcell hq) ht' rfl rfl (by decide) (by decide) fun h4 u4 n4 g4 _ _ => ?_
  refine cell_name (s := { s₃ with heap := h4, toks := n4 }) rfl rfl rfl ((S.c4.keeps hk).keeps g4) (eq_int (wpAny_truthy_bool ⟨rfl, h4, n4, rfl, g4⟩))
end
end Mine
namespace Mine
set_option maxRecDepth 100000
section
variable {w : World} {A : Around} {E : Value → Shared → Prop} {s : Shared}
theorem eq_empty {D b : Addr} {ys : Array Value} {Q : Value → Shared → Prop} (hu : A.units < cLine) (hl : s.heap.PlainList D ys) (hb : s.heap.PlainList b #[]) (h : Q (.bool (ys.size == 0)) s) :
    wpAny (model lawProg w) A (compareOp .Eq (.ref D) (.ref b)) Q E s := by
  obtain ⟨n, e⟩ := hl
  obtain ⟨n2, e2⟩ := hb
  by_cases hz : ys.size = 0
  · refine P.eq_list (items := ys) (items2 := #[]) (e := fun _ => true) e e2 (by rw [hz]; rfl) (fun j h1 _ => by omega) hu ?_
    rw [hz] at h ⊢
    exact h
  · refine P.eq_list_lengths (items := ys) (items2 := #[]) e e2 (by show (ys.size != 0) = true; simpa using hz) hu ?_
    have : (ys.size == 0) = false := by simpa using hz
    rw [this] at h; exact h
end
section
variable {w : World} {base : Heap} {L fa : Addr} {cd : Value} {mg mb : Str → Option Value} {mean : ExcName → Option Value} {loose : List Str} {E : Value → Shared → Prop} {s : Shared}
  {m : Str → Option Value} {cc cp co ck : Option Value} {tt : Array Value × Array Value}
theorem lawRoom0 : (lawA L fa cd).units < cLine := by rw [lawUnits]; decide

set_option maxHeartbeats 1000000 in
/-- if mine == [] and many > 9 -/
theorem st_bad {D : Addr} {ys : Array Value} {many : Int} {t : Tok} {Q : Flow → Shared → Prop} (S : LawSt base L s.heap m cc cp co ck tt) (mm : m (Str.ofString "mine") = some (.ref D)) (mn : m (Str.ofString "many") = some (.int many t))
    (hl : (still L s.heap).PlainList D ys) (hno : ys.size = 0 → many ≤ 9)
    (k : ∀ h' tk, LawSt base L h' m cc cp co ck tt → Grow (still L s.heap) (still L h') → Q .next { s with heap := h', toks := tk }) :
    wpAny (model lawProg w) (lawA L fa cd) (exec (kst 2) (lawEnv L fa cd)) Q E s := by
  show wpAny _ _ (exec (.If (.BoolOp .And [.Compare (.Name _ _) [.Eq] [.List [] _] _, .Compare (.Name _ _) [.Gt] [.Constant (.int 9) _ _] _] _) _ [] _) _) _ _ _
  have hl0 : s.heap.PlainList D ys := by obtain ⟨nn, e⟩ := hl; exact ⟨nn, still_le L _ _ _ e⟩
  have g1 : Grow s.heap (s.heap.push { cls := .type "list", data := .seq ([] : List Value).toArray }) := .push _ _
  refine wpAny_If (wpAny_isTrue_BoolOp (wpAny_allTrue_And_cons (wpAny_isTrue_Compare1 (law_name S rfl mm (wpAny_List (wpAny_items_nil ⟨Nat.zero_le _, ?_⟩))))))
  refine eq_empty (ys := ys) lawRoom0 (by obtain ⟨nn, e⟩ := hl0; exact ⟨nn, g1 _ _ e⟩) ⟨0, Heap.get?_push_size _ rfl⟩ (wpAny_truthy_bool ?_)
  have S1 := S.grow g1
  split
  · rename_i hz
    have hz' : ys.size = 0 := by simpa using hz
    refine wpAny_allTrue_And_cons (wpAny_isTrue_Compare1 (law_name (s := { s with heap := s.heap.push _ }) S1 rfl mn (wpAny_Constant_int (gt_int (wpAny_truthy_bool ?_)))))
    have e2 : decide (many > 9) = false := by rw [decide_eq_false_iff_not]; have := hno hz'; omega
    rw [e2]
    simp only [Bool.false_eq_true, if_false]
    exact wpAny_pure (k _ _ S1 (still_mono g1))
  · simp only [Bool.false_eq_true, if_false]
    exact wpAny_pure (k _ _ S1 (still_mono g1))

def inT (ns : List Int) : Value → Bool
  | .int n _ => ns.any (· == n)
  | _ => false

/-- [place for place in one if place in other] -/
theorem ev_common {p1 p2 p3 p4 p5 p6 p7 : Pos} {a b : Addr} {vs : Array Value} {ws : Array Value} {ns : List Int} {Q : Value → Shared → Prop} (S : LawSt base L s.heap m cc cp (some (.ref b)) ck tt)
    (mo : m (Str.ofString "one") = some (.ref a)) (ha : IsTup s.heap a vs) (hva : ∀ v ∈ vs.toList, ∃ n t, v = .int n t) (hb : IsTup s.heap b ws) (hw : IntsAre ws.toList ns) (hz : vs.size < 100000)
    (k : ∀ D' h' tk ys, Grow s.heap h' → h'.PlainList D' ys → ys.toList = vs.toList.filter (inT ns) → Q (.ref D') { s with heap := h', toks := tk }) :
    wpAny (model lawProg w) (lawA L fa cd) (eval (.ListComp (.Name (Str.ofString "place") p1) [⟨.Name (Str.ofString "place") p2, .Name (Str.ofString "one") p3, [.Compare (.Name (Str.ofString "place") p4) [.In] [.Name (Str.ofString "other") p5] p6], 0⟩]
      { kind := .function, names := [(Str.ofString ".0", .local), (Str.ofString "place", .local), (Str.ofString "other", .free)], isGenerator := false, isCoroutine := false, more := [] } p7) (lawEnv L fa cd)) Q E s := by
  have hlt : @LT.lt Nat _ a s.heap.objs.size := ha.lt
  refine wpAny_ListComp_free (cl := [(Str.ofString "other", L + 1 + 1 + 1)]) (inT ns) (fun v y => y = v) rfl (by decide) rfl (by decide) (by decide) ?_
  refine law_name S rfl mo (wpAny_pyIter_tuple ha ?_)
  have kp : Grow s.heap (s.heap.push { cls := .type "tuple_iterator", data := .fields #[.ref a, .int 0 0] }) := .push _ _
  refine ⟨s.heap.objs.size, [s.heap.objs.size, a], [s.heap.objs.size], vs.size, _, _, rfl, Walks.tuple (A := lawA L fa cd) rfl s.heap.objs.size a (Nat.ne_of_lt hlt) vs, by rw [sizeLine_eq]; omega, ⟨⟨_, Heap.get?_push_size _ rfl, rfl, rfl⟩, ha.push _⟩, ?_, ?_, ?_⟩
  · intro b hb
    show @LT.lt Nat _ b (s.heap.push _).objs.size
    rw [Heap.size_push]
    rcases List.mem_cons.mp hb with rfl | hb
    · exact Nat.lt_succ_self _
    · rw [List.mem_singleton.mp hb]; exact Nat.lt_succ_of_lt hlt
  · have old : ∀ {s₃ : Shared}, (∀ b o, b ∉ [s.heap.objs.size] → (s.heap.push { cls := .type "tuple_iterator", data := .fields #[.ref a, .int 0 0] }).get? b = some o → s₃.heap.get? b = some o) → Grow s.heap s₃.heap := fun hk b o e =>
      hk b o (by simp only [List.mem_singleton]; exact neN (Nat.ne_of_lt (Heap.lt_size e))) (kp b o e)
    constructor
    · intro C i v s₃ m₃ E' hC hv hn hm hk htk
      have g := old hk
      obtain ⟨n, t, rfl⟩ := hva v (List.mem_of_getElem? (by simpa using hv : vs.toList[i]? = some v))
      exact wpAny_tests_one (wpAny_isTrue_Compare1 (nm_local rfl rfl hn hm (cell_name rfl rfl rfl (S.c3.keeps g) (in_tuple_ints (hb.keeps g) hw (wpAny_truthy_bool ⟨rfl, _, _, rfl, fun _ _ e => e⟩)))))
    · intro C i v s₃ m₃ E' hC hv _ hn hm hk htk
      exact nm_local rfl rfl hn hm ⟨rfl, _, _, rfl, fun _ _ e => e⟩
  · intro D' h' tk ys vs' hD' hL' hP' hlen' hvs hF hk
    have hvs' : vs' = vs.toList := by
      refine List.ext_getElem? fun j => ?_
      by_cases hj : j < vs'.length
      · have h1 := hvs j vs'[j] (List.getElem?_eq_getElem hj)
        rw [List.getElem?_eq_getElem hj]
        simpa using h1.symm
      · rw [List.getElem?_eq_none (Nat.not_lt.mp hj), List.getElem?_eq_none (by rw [Array.length_toList, ← hlen']; exact Nat.not_lt.mp hj)]
    have kL : Grow s.heap h' := fun b o e => hk b o (by simp only [List.mem_singleton]; exact neN (Nat.ne_of_lt (Heap.lt_size e))) (kp b o e)
    refine k D' h' tk ys kL hP' ?_
    rw [paired_eq hF, hvs']
end
end Mine
namespace Mine
set_option maxRecDepth 100000
section
variable {prog : Program} {w : World} {A : Around} {E : Value → Shared → Prop} {s : Shared} {env : Env}

theorem isTup_but {S : List Addr} {h h' : Heap} {a : Addr} {vs : Array Value} (x : IsTup h a vs) (k : But S h h') (hS : ∀ b ∈ S, NoTup h b) : IsTup h' a vs := k.tup hS x

/-- for k in other: the pairs (j, k) join the list -/
theorem cross_leaf {gens : List Comprehension} {scope : Scope} {pos : Pos} {depth : Nat} {x1 x2 : Str} {px q1 q2 q3 : Pos} {kk : Nat} {iter : Expr} {I D b : Addr} {cenv : Env} {R : Result → Shared → Prop} (hh : A.handled = none)
    (hg : gens[depth]? = some ⟨.Name x2 px, iter, [], 0⟩) (hn : gens[depth + 1]? = none) (hk : cenv.scope.kind = .function)
    (l1 : cenv.kindOf x1 = some .local) (l2 : cenv.kindOf x2 = some .local) (h12 : x1 ≠ x2) (d1 : (x1 == ("__debug__" : Str)) = false) (d2 : (x2 == ("__debug__" : Str)) = false)
    {N : Nat} {h : Heap} {tk : Nat} {m : Str → Option Value} {u : Tok} {c : Int} {ks : List Int} {ws ys : Array Value} {ps : List (Int × Int)} (hks : ks.length < 1000)
    (hDI : D ≠ I) (hDC : D ≠ cenv.locals) (hCI : cenv.locals ≠ I) (hbI : b ≠ I) (hbC : b ≠ cenv.locals) (hI : IsTupIter h I b 0) (hb : IsTup h b ws) (hws : Are ws.toList ks) (hns : h.Ns cenv.locals m) (hm : m x1 = some (.int c u)) (hD : h.PlainList D ys) (hys : Pairs h N ys.toList ps) (hz : ps.length < 100000) (hN : @LE.le Nat _ N D)
    (done : ∀ h' tk' m' ys', But [I, D, cenv.locals] h h' → h'.Ns cenv.locals m' → (∀ y, y ≠ x2 → m' y = m y) → h'.PlainList D ys' → Pairs h' N ys'.toList (ps ++ ks.map fun k => (c, k)) → R (.ok .next) { s with heap := h', toks := tk' }) :
    codeAny (model prog w) A (.compLoop (.ListComp (.Tuple [.Name x1 q1, .Name x2 q2] kk q3) gens scope pos) depth (.ref I) (.ref D) cenv) R { s with heap := h, toks := tk } := by
  have hsz : ws.size = ks.length := by have := Paired.length hws; simpa using this
  have W := Walks.tuple (prog := prog) (w := w) hh I b hbI ws
  have bD : b ≠ D := fun q => noTup_list hD _ (by rw [← q]; exact hb.choose_spec.1) ⟨hb.choose_spec.2.1, _, _, hb.choose_spec.2.2.choose_spec⟩
  refine loop_leaf W l2 (by simp [hk]) (by simp only [List.mem_cons, List.not_mem_nil, or_false, not_or]; exact ⟨hCI, Ne.symm hbC⟩) (fun i g m' => (∀ y, y ≠ x2 → m' y = m y) ∧ But [I, D, cenv.locals] h g ∧ ∃ ys', g.PlainList D ys' ∧ Pairs g N ys'.toList (ps ++ (ks.take i).map fun k => (c, k)))
    ?_ hg hn (by simp only [List.mem_cons, List.not_mem_nil, or_false, not_or]; exact ⟨hDI, Ne.symm bD⟩) hDC ?_ ?_ ⟨hI, hb⟩ hns ⟨fun _ _ => rfl, .refl _ _, ys, hD, by simpa using hys⟩
  · rintro i g g' m' m'' hst hns' ⟨hm', hb, ys', hD', hp⟩ k km
    have kB : But [I, cenv.locals] g g' := fun b o nb e => k b o (fun q => nb (by simp [q])) (fun q => nb (by simp [q])) e
    refine ⟨fun y hy => (km y hy).trans (hm' y hy), hb.trans (kB.mono (by simp)), ys', ?_, hp.but kB ?_⟩
    · obtain ⟨nn, e⟩ := hD'
      exact ⟨nn, k _ _ hDI hDC e⟩
    · intro b hb'
      simp only [List.mem_cons, List.not_mem_nil, or_false] at hb'
      rcases hb' with rfl | rfl
      · exact noTup_tupIter hst.1
      · exact noTup_ns hns'
  · rintro i v g m' tk' E' hi hv hst hns' hmx ⟨hm', hb, ys', hD', hp⟩
    have hi' : i < ks.length := by rw [← hsz]; exact hi
    obtain ⟨tn, rfl⟩ := paired_get hws (by simpa using hv : ws.toList[i]? = some v) (List.getElem?_eq_getElem hi')
    refine ev_two hk hns' l1 l2 ((hm' x1 h12).trans hm) hmx d1 d2 ⟨_, _, ys', rfl, .push _ _, ?_, ?_, ?_⟩
    · obtain ⟨nn, e⟩ := hD'; exact ⟨nn, Heap.get?_push_of_some _ e⟩
    · have := hp.length
      simp only [List.length_append, List.length_map, List.length_take, Array.length_toList] at this
      rw [this]; rw [sizeLine_eq]; omega
    · intro h₄ hs₄ hl₄
      have hlt : @LT.lt Nat _ D g.objs.size := by obtain ⟨nn, e⟩ := hD'; exact Heap.lt_size e
      have hD3 : (g.push { cls := .type "tuple", data := .seq #[.int c u, .int ks[i] tn] }).PlainList D ys' := by obtain ⟨nn, e⟩ := hD'; exact ⟨nn, Heap.get?_push_of_some _ e⟩
      have b4 : But [D] (g.push { cls := .type "tuple", data := .seq #[.int c u, .int ks[i] tn] }) h₄ := sameBut_but hs₄ (by simp)
      have nD : ∀ b ∈ [D], NoTup (g.push { cls := .type "tuple", data := .seq #[.int c u, .int ks[i] tn] }) b := fun b hb' => by
        rw [List.mem_singleton.mp hb']; exact noTup_list hD3
      refine ⟨hm', (hb.trans (Grow.push _ _).but).trans (b4.mono (by simp)), _, hl₄, ?_⟩
      have et : ks.take (i + 1) = ks.take i ++ [ks[i]] := by rw [List.take_add_one, List.getElem?_eq_getElem hi']; rfl
      rw [et, List.map_append, ← List.append_assoc]
      exact pairs_snoc ((hp.keeps (Grow.push _ _)).but b4 nD) (by show @LE.le Nat _ N g.objs.size; omega) (b4.tup2 nD (pushed_tup g c ks[i] u tn))
  · rintro g tk' m' ⟨hm', hb, ys', hD', hp⟩ hns'
    rw [List.take_of_length_le (by rw [hsz]; exact Nat.le_refl _)] at hp
    exact done g tk' m' ys' hb hns' hm' hD' hp

def cross (js ks : List Int) : List (Int × Int) := js.flatMap fun j => ks.map fun k => (j, k)

/-- for j in one for k in other -/
theorem cross_outer {gens : List Comprehension} {scope : Scope} {pos : Pos} {x1 x2 : Str} {px1 px2 q1 q2 q3 : Pos} {kk : Nat} {iter iter2 : Expr} {I D a b : Addr} {cenv : Env} {R : Result → Shared → Prop} (hh : A.handled = none)
    (hg : gens = [⟨.Name x1 px1, iter, [], 0⟩, ⟨.Name x2 px2, iter2, [], 0⟩]) (hk : cenv.scope.kind = .function) (hset : ∀ v, foldedSetIterable iter2 cenv v = pure v)
    (l1 : cenv.kindOf x1 = some .local) (l2 : cenv.kindOf x2 = some .local) (h12 : x1 ≠ x2) (d1 : (x1 == ("__debug__" : Str)) = false) (d2 : (x2 == ("__debug__" : Str)) = false)
    {N : Nat} {h : Heap} {tk : Nat} {m : Str → Option Value} {js ks : List Int} {vs ws : Array Value} (hjs : js.length < 100) (hks : ks.length < 100)
    (hother : ∀ (s' : Shared) (Q : Value → Shared → Prop) E, But [I, D, cenv.locals] h s'.heap → Q (.ref b) s' → wpAny (model prog w) A (eval iter2 cenv) Q E s')
    (hDI : D ≠ I) (hDC : D ≠ cenv.locals) (hCI : cenv.locals ≠ I) (haI : a ≠ I) (hI : IsTupIter h I a 0) (ha : IsTup h a vs) (hvs : Are vs.toList js) (hb : IsTup h b ws) (hws : Are ws.toList ks) (hns : h.Ns cenv.locals m) (hD : h.PlainList D #[]) (hN : @LE.le Nat _ N D)
    (done : ∀ h' tk' m' ys', But [I, D, cenv.locals] h h' → h'.Ns cenv.locals m' → h'.PlainList D ys' → Pairs h' N ys'.toList (cross js ks) → R (.ok .next) { s with heap := h', toks := tk' }) :
    codeAny (model prog w) A (.compLoop (.ListComp (.Tuple [.Name x1 q1, .Name x2 q2] kk q3) gens scope pos) 0 (.ref I) (.ref D) cenv) R { s with heap := h, toks := tk } := by
  have hsz : vs.size = js.length := by have := Paired.length hvs; simpa using this
  have W := Walks.tuple (prog := prog) (w := w) hh I a haI vs
  have tup_ne : ∀ {g : Heap} {a : Addr} {vs : Array Value} {q : Addr}, IsTup g a vs → NoTup g q → a ≠ q := fun x y e => y _ (by rw [← e]; exact x.choose_spec.1) ⟨x.choose_spec.2.1, _, _, x.choose_spec.2.2.choose_spec⟩
  have haC : a ≠ cenv.locals := tup_ne ha (noTup_ns hns)
  refine loop_inner W l1 (by simp [hk]) (by simp only [List.mem_cons, List.not_mem_nil, or_false, not_or]; exact ⟨hCI, Ne.symm haC⟩) (fun i g m' => But [I, D, cenv.locals] h g ∧ IsTup g b ws ∧ ∃ ys', g.PlainList D ys' ∧ Pairs g N ys'.toList (cross (js.take i) ks))
    ?_ (depth := 0) (iter := iter) (px := px1) (by rw [hg]; rfl) (t' := .Name x2 px2) (iter' := iter2) (ifs' := []) (by rw [hg]; rfl) hset ?_ ?_ ⟨hI, ha⟩ hns ⟨.refl _ _, hb, #[], hD, .nil⟩
  · rintro i g g' m' m'' hst hns' ⟨hb, hbt, ys', hD', hp⟩ k _
    have kB : But [I, cenv.locals] g g' := fun b o nb e => k b o (fun q => nb (by simp [q])) (fun q => nb (by simp [q])) e
    have nB : ∀ b ∈ [I, cenv.locals], NoTup g b := by
      intro b hb'
      simp only [List.mem_cons, List.not_mem_nil, or_false] at hb'
      rcases hb' with rfl | rfl
      · exact noTup_tupIter hst.1
      · exact noTup_ns hns'
    refine ⟨hb.trans (kB.mono (by simp)), kB.tup nB hbt, ys', ?_, hp.but kB nB⟩
    obtain ⟨nn, e⟩ := hD'
    exact ⟨nn, k _ _ hDI hDC e⟩
  · rintro i v g m' tk' E' hi hv hst hns' hmx ⟨hb, hbt, ys', hD', hp⟩
    have hi' : i < js.length := by rw [← hsz]; exact hi
    obtain ⟨tn, rfl⟩ := paired_get hvs (by simpa using hv : vs.toList[i]? = some v) (List.getElem?_eq_getElem hi')
    refine hother _ _ _ hb (wpAny_pyIter_tuple hbt ?_)
    dsimp only
    have kg : Grow g (g.push { cls := .type "tuple_iterator", data := .fields #[.ref b, .int 0 0] }) := .push _ _
    have hltD : @LT.lt Nat _ D g.objs.size := by obtain ⟨nn, e⟩ := hD'; exact Heap.lt_size e
    have hltC : @LT.lt Nat _ cenv.locals g.objs.size := hns'.lt
    have hltI : @LT.lt Nat _ I g.objs.size := by obtain ⟨o, e, _⟩ := hst.1; exact Heap.lt_size e
    have hltb : @LT.lt Nat _ b g.objs.size := hbt.lt
    have hIt : IsTupIter (g.push { cls := .type "tuple_iterator", data := .fields #[.ref b, .int 0 0] }) g.objs.size b 0 := ⟨_, Heap.get?_push_size _ rfl, rfl, rfl⟩
    refine comp_start (depth := 0 + 1) (t := .Name x2 px2) (iter := iter2) (ifs := []) (by rw [hg]; rfl) (fun Q E hq => wpAny_pyIter_tupleiter hIt hq) ?_
    refine cross_leaf (s := { s with heap := g, toks := tk' }) (iter := iter2) (px := px2) (b := b) (ws := ws) (ks := ks) (c := js[i]) (u := tn) (N := N) (ps := cross (js.take i) ks) hh (by rw [hg]; rfl) (by rw [hg]; rfl) hk l1 l2 h12 d1 d2 (by omega) (neN (by omega)) hDC (neN (by omega)) (neN (by omega)) (tup_ne hbt (noTup_ns hns')) hIt (hbt.keeps kg) hws (hns'.keeps kg) hmx
      (by obtain ⟨nn, e⟩ := hD'; exact ⟨nn, kg _ _ e⟩) (hp.keeps kg) ?_ hN ?_
    · have e1 : (cross (js.take i) ks).length = (js.take i).length * ks.length := by
        unfold cross
        generalize js.take i = l
        induction l with
        | nil => simp
        | cons a l ih => simp only [List.flatMap_cons, List.length_append, List.length_map, ih, List.length_cons, Nat.succ_mul]; omega
      have e2 : (js.take i).length ≤ 100 := by rw [List.length_take]; omega
      have e3 : (js.take i).length * ks.length ≤ 100 * 100 := Nat.mul_le_mul e2 (by omega)
      omega
    intro h' tk'' m'' ys'' hb' hns'' hm'' hD'' hp''
    have hB : But [D, cenv.locals] g h' := But.fresh kg (Nat.le_refl _) hb'
    have nB : ∀ b ∈ [D, cenv.locals], NoTup g b := by
      intro b hb'
      simp only [List.mem_cons, List.not_mem_nil, or_false] at hb'
      rcases hb' with rfl | rfl
      · exact noTup_list hD'
      · exact noTup_ns hns'
    have nI : I ∉ [D, cenv.locals] := by
      simp only [List.mem_cons, List.not_mem_nil, or_false, not_or]
      exact ⟨Ne.symm hDI, Ne.symm hCI⟩
    refine ⟨h', tk'', m'', rfl, ⟨?_, hB.tup nB hst.2⟩, hns'', hb.trans (hB.mono (by simp)), hB.tup nB hbt, ys'', hD'', ?_⟩
    · obtain ⟨o, e, r⟩ := hst.1
      exact ⟨o, hB I o nI e, r⟩
    · have et : js.take (i + 1) = js.take i ++ [js[i]] := by rw [List.take_add_one, List.getElem?_eq_getElem hi']; rfl
      rw [et]
      unfold cross at hp'' ⊢
      rw [List.flatMap_append]
      simpa using hp''
  · rintro g tk' m' ⟨hb, _, ys', hD', hp⟩ hns'
    rw [List.take_of_length_le (by rw [hsz]; exact Nat.le_refl _)] at hp
    exact done g tk' m' ys' hb hns' hD' hp
end
end Mine
namespace Mine
set_option maxRecDepth 100000
def oneBody : List Stmt := match kst 3 with | .For _ _ b _ _ => b | _ => []
def otherBody : List Stmt := match oneBody.getD 0 (.Pass default) with | .For _ _ b _ _ => b | _ => []
def apartBody : List Stmt := match otherBody.getD 0 (.Pass default) with | .If _ b _ _ => b | _ => []
def ast (k : Nat) : Stmt := apartBody.getD k (.Pass default)

theorem cnt_two {ns : List Int} {kd : Int} (h : ∀ n ∈ ns, n = 0 ∨ n = 1) (hk : kd = 0 ∨ kd = 1) : cnt ns kd + cnt ns (1 - kd) = ns.length := by
  induction ns with
  | nil => rfl
  | cons n ns ih =>
    have := ih fun z hz => h z (List.mem_cons_of_mem _ hz)
    unfold cnt at this ⊢
    rcases h n List.mem_cons_self with e | e <;> rcases hk with e2 | e2 <;> subst e <;> subst e2 <;> simp_all [List.filter_cons] <;> omega
section
variable {w : World} {base : Heap} {L fa : Addr} {cd : Value} {mg mb : Str → Option Value} {mean : ExcName → Option Value} {loose : List Str} {E : Value → Shared → Prop} {s : Shared}
  {m : Str → Option Value} {cc cp co ck : Option Value} {tt : Array Value × Array Value}

set_option maxHeartbeats 1000000 in
/-- between = [(j, k) for j in one for k in other] -/
theorem st_between {a b : Addr} {js ks : List Int} {vs ws : Array Value} {Q : Flow → Shared → Prop} (c : Ctx w base L mg mb mean loose) (S : LawSt base L s.heap m cc cp (some (.ref b)) ck tt)
    (mo : m (Str.ofString "one") = some (.ref a)) (ha : IsTup (still L s.heap) a vs) (hvs : Are vs.toList js) (hb : IsTup (still L s.heap) b ws) (hws : Are ws.toList ks) (hjs : js.length < 100) (hks : ks.length < 100)
    (k : ∀ D' h' tk ys, LawSt base L h' (fun z => if z = Str.ofString "between" then some (.ref D') else m z) cc cp (some (.ref b)) ck tt → Grow (still L s.heap) (still L h') → (still L h').PlainList D' ys → Pairs (still L h') 0 ys.toList (cross js ks) → Q .next { s with heap := h', toks := tk }) :
    wpAny (model lawProg w) (lawA L fa cd) (exec (ast 0) (lawEnv L fa cd)) Q E s := by
  show wpAny _ _ (exec (.Assign [.Name _ _] (.ListComp (.Tuple [.Name _ _, .Name _ _] _ _) (⟨_, _, _, _⟩ :: _) _ _) _) _) _ _ _
  have ha0 := ha.keeps (still_le L s.heap)
  have hb0 := hb.keeps (still_le L s.heap)
  refine assign_comp (cl := [(Str.ofString "other", L + 1 + 1 + 1)]) rfl rfl (by decide) rfl (by decide) rfl rfl ?_
  refine law_name S rfl mo (wpAny_pyIter_tuple ha0 ?_)
  intro D C h₁ tk₁ hDC hD hC k₁ hDl hCn
  dsimp only at hD hC k₁ ⊢
  rw [Heap.size_push] at hD hC
  have hL := S.lt
  have kg : Grow s.heap (s.heap.push { cls := .type "tuple_iterator", data := .fields #[.ref a, .int 0 0] }) := .push _ _
  have k0 : Grow s.heap h₁ := kg.trans k₁
  have hlta : @LT.lt Nat _ a s.heap.objs.size := ha0.lt
  have hI : IsTupIter h₁ s.heap.objs.size a 0 := ⟨_, k₁ _ _ (Heap.get?_push_size _ rfl), rfl, rfl⟩
  have nS : ∀ q ∈ [s.heap.objs.size, D, C], @LE.le Nat _ s.heap.objs.size q := by
    intro q hq; simp only [List.mem_cons, List.not_mem_nil, or_false] at hq; rcases hq with rfl | rfl | rfl <;> omega
  refine comp_start (depth := 0) (by exact rfl) (fun Q E hq => wpAny_pyIter_tupleiter hI hq) ?_
  refine cross_outer (a := a) (b := b) (vs := vs) (ws := ws) (js := js) (ks := ks) (N := D) (I := s.heap.objs.size) (x1 := Str.ofString "j") (x2 := Str.ofString "k") (s := { s with heap := s.heap.push { cls := .type "tuple_iterator", data := .fields #[.ref a, .int 0 0] } }) rfl (by exact rfl) rfl (fun _ => rfl) rfl rfl (by decide) (by decide) (by decide) hjs hks ?_ (neN (by omega)) (neN hDC) (show @Ne Nat C s.heap.objs.size by omega) (neN (by omega)) hI (ha0.keeps k0) hvs (hb0.keeps k0) hws hCn hDl (Nat.le_refl _) ?_
  · intro s' Q E hb' hq
    have g' : Grow s.heap s'.heap := but_new (S := [s.heap.objs.size, D, C]) hb' k0 nS
    exact cell_name rfl rfl rfl (S.c3.keeps g') hq
  · intro h' tk' m' ys' hb' hn' hD' hp'
    have g' : Grow s.heap h' := but_new (S := [s.heap.objs.size, D, C]) hb' k0 nS
    refine ⟨(show @Ne Nat L C by omega), m', m, hn', S.fr.ns.keeps g', fun h'' tk'' hn'' k2 => ?_⟩
    obtain ⟨S', gs⟩ := comp_end c S g' hn'' k2 (by omega)
    obtain ⟨nn, e⟩ := hD'
    exact k D h'' tk'' ys' S' gs ⟨nn, new_still S k2 (by omega) hDC e⟩ (new_pairs S k2 (by omega) hn' hp')

theorem law_lenT {x : Str} {p1 p2 p3 : Pos} {D : Addr} {vs : Array Value} {Q : Value → Shared → Prop} (c : Ctx w base L mg mb mean loose) (S : LawSt base L s.heap m cc cp co ck tt) (hx : (lawEnv L fa cd).kindOf x = some .local) (dx : (x == ("__debug__" : Str)) = false)
    (mx : m x = some (.ref D)) (hl : s.heap.PlainList D vs) (hz : vs.size < 100000) (h : ∀ t n, @LE.le Nat _ s.toks n → Q (.int vs.size t) { s with toks := n }) :
    wpAny (model lawProg w) (lawA L fa cd) (eval (.Call (.Name (Str.ofString "len") p1) [.Name x p2] [] p3) (lawEnv L fa cd)) Q E s :=
  wpAny_with_toks (n := s.toks) (Nat.le_refl _) (law_len c S hx dx mx hl hz fun t n htk => h t n htk)

set_option maxHeartbeats 1000000 in
theorem st_if2 {d D : Addr} {g0 : Heap} {ys : Array Value} {x kd : Int} {tk0 : Tok} {T : Nat} {ps : List (Int × Int)} {Q : Flow → Shared → Prop} (c : Ctx w base L mg mb mean loose) (S : LawSt base L s.heap m (some (.ref d)) cp co (some (.int kd tk0)) tt)
    (G : Grow g0 (still L s.heap)) (hc : Cols lawProg w g0 d (col x) T) (mb' : m (Str.ofString "between") = some (.ref D)) (hl : (still L s.heap).PlainList D ys) (hp : Pairs (still L s.heap) 0 ys.toList ps) (h6 : ∀ p ∈ ps, InSix p.1 p.2) (h9 : ps.length = 9)
    (hT : @LE.le Nat _ T tk0) (hT2 : @LE.le Nat _ T s.toks) (hkd : kd = 0 ∨ kd = 1)
    (k : ∀ h' tk, LawSt base L h' m (some (.ref d)) cp co (some (.int kd tk0)) tt → Grow (still L s.heap) (still L h') → Q .next { s with heap := h', toks := tk }) :
    wpAny (model lawProg w) (lawA L fa cd) (exec (ast 1) (lawEnv L fa cd)) Q E s := by
  show wpAny _ _ (exec (.If (.BoolOp .Or [.Compare (.Call (.Name _ _) [.Name _ _] [] _) [.NotEq] [.Constant (.int 9) _ _] _,
    .Compare (.BinOp (.Call (.Name _ _) [.ListComp (.Subscript (.Name _ _) (.Name _ _) _) [⟨.Name _ _, .Name _ _, [], 0⟩] _ _, .Name _ _] [] _) .Add (.Call (.Name _ _) [.ListComp (.Subscript (.Name _ _) (.Name _ _) _) [⟨.Name _ _, .Name _ _, [], 0⟩] _ _, .BinOp (.Constant (.int 1) _ _) .Sub (.Name _ _) _] [] _) _) [.NotEq] [.Constant (.int 9) _ _] _] _) _ [] _) _) _ _ _
  have hl0 : s.heap.PlainList D ys := by obtain ⟨nn, e⟩ := hl; exact ⟨nn, still_le L _ _ _ e⟩
  have hsz : ys.size = 9 := by have := Paired.length hp; rw [h9] at this; simpa using this
  have hcs : ∀ n ∈ ps.map fun p => col x p.1 p.2, n = 0 ∨ n = 1 := by intro n hn; obtain ⟨p, _, rfl⟩ := List.mem_map.mp hn; exact col_two x _ _
  have hsm : ∀ n ∈ ps.map fun p => col x p.1 p.2, smallInt n = true := by intro n hn; obtain ⟨p, _, rfl⟩ := List.mem_map.mp hn; exact col_small x _ _
  have hct := cnt_two hcs hkd
  rw [List.length_map, h9] at hct
  refine wpAny_If (wpAny_isTrue_BoolOp (wpAny_allTrue_Or_cons (wpAny_isTrue_Compare1 (law_lenT c S rfl (by decide) mb' hl0 (by omega) fun t n0 l0 => wpAny_Constant_int (ne_int (wpAny_truthy_bool ?_))))))
  have e1 : ((ys.size : Int) != 9) = false := by rw [bne_eq_false_iff_eq]; omega
  rw [e1]
  simp only [Bool.false_eq_true, if_false]
  refine wpAny_allTrue_Or_cons (wpAny_isTrue_Compare1 (wpAny_BinOp ?_))
  refine ev_fun2 (s := { s with toks := n0 + 1 }) c rfl rfl rfl S.fr.keep K_countOf F_56 (by decide) rfl ?_
  refine ev_colours (s := { s with toks := n0 + 1 }) (T := T) c S G hc rfl (by decide) mb' hl0 hp h6 (by omega) fun D1 h1 n1 ys1 g1 hl1 ho1 l1 => ?_
  dsimp only at g1 l1
  have S1 := S.grow g1
  refine cell_name (s := { s with heap := h1, toks := n1 }) rfl rfl rfl S1.c4 ⟨S1.fr.keep, ?_⟩
  refine c_countOfT (s := { s with heap := h1, toks := n1 }) c S1.fr hl1 ho1 hT hsm fun h2 v2 n2 g2 l2 => ?_
  dsimp only at g2 l2
  have S2 := S1.grow g2
  have g12 := g1.trans g2
  refine ev_fun2 (s := { s with heap := h2, toks := n2 }) c rfl rfl rfl S2.fr.keep K_countOf F_56 (by decide) rfl ?_
  refine ev_colours (s := { s with heap := h2, toks := n2 }) (T := T) c S2 (G.trans (still_mono g12)) hc rfl (by decide) mb' (by obtain ⟨nn, e⟩ := hl0; exact ⟨nn, g12 _ _ e⟩) (hp.keeps (still_mono g12)) h6 (by omega) fun D3 h3 n3 ys3 g3 hl3 ho3 l3 => ?_
  dsimp only at g3 l3
  have S3 := S2.grow g3
  refine wpAny_BinOp (wpAny_Constant_int (cell_name (s := { s with heap := h3, toks := n3 + 1 }) rfl rfl rfl S3.c4 (sub_int ⟨S3.fr.keep, ?_⟩)))
  refine c_countOfT (s := { s with heap := h3, toks := n3 + 1 + 1 }) (T := T) c S3.fr hl3 ho3 (by show @LE.le Nat _ T (n3 + 1); omega) hsm fun h4 v4 n4 g4 l4 => ?_
  dsimp only at g4
  have S4 := S3.grow g4
  refine add_int (wpAny_Constant_int (ne_int (wpAny_truthy_bool ?_)))
  have e2 : (((cnt (ps.map fun p => col x p.1 p.2) kd : Nat) : Int) + ((cnt (ps.map fun p => col x p.1 p.2) (1 - kd) : Nat) : Int) != 9) = false := by rw [bne_eq_false_iff_eq]; omega
  rw [e2]
  simp only [Bool.false_eq_true, if_false]
  refine wpAny_allTrue_Or_nil ?_
  simp only [Bool.false_eq_true, if_false]
  exact wpAny_pure (k h4 _ S4 (still_mono ((g12.trans g3).trans g4)))
end
end Mine
namespace Mine
set_option maxRecDepth 100000
section
variable {w : World} {base : Heap} {L fa : Addr} {cd : Value} {mg mb : Str → Option Value} {mean : ExcName → Option Value} {loose : List Str} {E : Value → Shared → Prop} {s : Shared}
  {m : Str → Option Value} {cc cp co ck : Option Value} {tt : Array Value × Array Value}

theorem cross_mem {js ks : List Int} {p : Int × Int} (h : p ∈ cross js ks) : p.1 ∈ js ∧ p.2 ∈ ks := by
  unfold cross at h
  obtain ⟨j, hj, h⟩ := List.mem_flatMap.mp h
  obtain ⟨k, hk, rfl⟩ := List.mem_map.mp h
  exact ⟨hj, hk⟩

set_option maxHeartbeats 1000000 in
/-- two threes of the colour without a common place -/
theorem st_apart {d a b : Addr} {g0 : Heap} {x kd : Int} {tk0 : Tok} {T : Nat} {p q : Int × Int × Int} {Q : Flow → Shared → Prop} (c : Ctx w base L mg mb mean loose) (S : LawSt base L s.heap m (some (.ref d)) cp (some (.ref b)) (some (.int kd tk0)) tt)
    (G : Grow g0 (still L s.heap)) (hc : Cols lawProg w g0 d (col x) T) (mo : m (Str.ofString "one") = some (.ref a)) (ha : Tup3 g0 a p.1 p.2.1 p.2.2) (hb : Tup3 g0 b q.1 q.2.1 q.2.2) (hp : p ∈ triTo 6) (hq : q ∈ triTo 6)
    (hT : @LE.le Nat _ T tk0) (hT2 : @LE.le Nat _ T s.toks) (hkd : kd = 0 ∨ kd = 1)
    (k : ∀ h' tk m', LawSt base L h' m' (some (.ref d)) cp (some (.ref b)) (some (.int kd tk0)) tt → keep1 (Str.ofString "between") m' m → Grow (still L s.heap) (still L h') → Q .next { s with heap := h', toks := tk }) :
    wpAny (model lawProg w) (lawA L fa cd) (exec (otherBody.getD 0 (.Pass default)) (lawEnv L fa cd)) Q E s := by
  show wpAny _ _ (exec (.If (.Compare (.ListComp (.Name _ _) [⟨.Name _ _, .Name _ _, [.Compare (.Name _ _) [.In] [.Name _ _] _], 0⟩] _ _) [.Eq] [.List [] _] _) [ast 0, ast 1] [] _) _) _ _ _
  obtain ⟨p0, p1, p2, p3⟩ := tri_mem hp
  obtain ⟨q0, q1, q2, q3⟩ := tri_mem hq
  obtain ⟨t1, t2, t3, ta⟩ := ha
  obtain ⟨u1, u2, u3, tb⟩ := hb
  have up := G.trans (still_le L s.heap)
  have ta0 := ta.keeps up
  have tb0 := tb.keeps up
  have hja : Are (#[Value.int p.1 t1, .int p.2.1 t2, .int p.2.2 t3] : Array Value).toList [p.1, p.2.1, p.2.2] := .cons ⟨_, rfl⟩ (.cons ⟨_, rfl⟩ (.cons ⟨_, rfl⟩ .nil))
  have hka : Are (#[Value.int q.1 u1, .int q.2.1 u2, .int q.2.2 u3] : Array Value).toList [q.1, q.2.1, q.2.2] := .cons ⟨_, rfl⟩ (.cons ⟨_, rfl⟩ (.cons ⟨_, rfl⟩ .nil))
  have hki : IntsAre (#[Value.int q.1 u1, .int q.2.1 u2, .int q.2.2 u3] : Array Value).toList [q.1, q.2.1, q.2.2] := .cons _ _ (.cons _ _ (.cons _ _ .nil))
  refine wpAny_If (wpAny_isTrue_Compare1 (wpAny_with_toks (n := s.toks) (Nat.le_refl _) (ev_common (ns := [q.1, q.2.1, q.2.2]) S mo ta0 ?_ tb0 hki (by show 3 < 100000; omega) fun D1 h1 n1 ys g1 hl1 hys htk1 => wpAny_List (wpAny_items_nil ⟨Nat.zero_le _, ?_⟩))))
  · intro v hv
    simp only [List.mem_cons, List.not_mem_nil, or_false] at hv
    rcases hv with rfl | rfl | rfl <;> exact ⟨_, _, rfl⟩
  dsimp only at htk1 ⊢
  have g2 : Grow h1 (h1.push { cls := .type "list", data := .seq ([] : List Value).toArray }) := .push _ _
  refine eq_empty (s := { s with heap := h1.push { cls := .type "list", data := .seq ([] : List Value).toArray }, toks := n1 }) (ys := ys) lawRoom0 (by obtain ⟨nn, e⟩ := hl1; exact ⟨nn, g2 _ _ e⟩) ⟨0, Heap.get?_push_size _ rfl⟩ (wpAny_truthy_bool ?_)
  have g12 := g1.trans g2
  have S2 := S.grow g12
  have G2 := G.trans (still_mono (L := L) g12)
  split
  · rename_i hz
    have hz' : ys.toList = [] := by
      have : ys.size = 0 := by simpa using hz
      rw [Array.size_eq_zero_iff] at this
      rw [this]
    rw [hz'] at hys
    have hno : ∀ n ∈ [p.1, p.2.1, p.2.2], [q.1, q.2.1, q.2.2].any (· == n) = false := by
      have hall := List.filter_eq_nil_iff.mp hys.symm
      intro n hn
      simp only [List.mem_cons, List.not_mem_nil, or_false] at hn
      rcases hn with rfl | rfl | rfl
      · have := hall (.int p.1 t1) (by simp); simpa [inT] using this
      · have := hall (.int p.2.1 t2) (by simp); simpa [inT] using this
      · have := hall (.int p.2.2 t3) (by simp); simpa [inT] using this
    refine wpAny_execs_cons (wpAny_with_toks (n := n1) (Nat.le_refl _) (st_between (s := { s with heap := h1.push { cls := .type "list", data := .seq ([] : List Value).toArray }, toks := n1 }) (js := [p.1, p.2.1, p.2.2]) (ks := [q.1, q.2.1, q.2.2]) c S2 mo (ta.keeps G2) hja (tb.keeps G2) hka (by show 3 < 100; omega) (by show 3 < 100; omega) fun D3 h3 n3 ys3 S3 g3 hl3 hp3 htk3 => ?_))
    dsimp only at g3 htk3
    have G3 := G2.trans g3
    refine wpAny_execs_cons (st_if2 (s := { s with heap := h3, toks := n3 }) (ps := cross [p.1, p.2.1, p.2.2] [q.1, q.2.1, q.2.2]) c S3 G3 hc (by simp only [if_true]) hl3 hp3 ?_ rfl hT (Nat.le_trans hT2 (Nat.le_trans htk1 htk3)) hkd fun h4 n4 S4 g4 => ?_)
    · intro r hr
      obtain ⟨hr1, hr2⟩ := cross_mem hr
      have hne : r.1 ≠ r.2 := fun e => by
        have := hno r.1 hr1
        rw [List.any_eq_false] at this
        exact this r.2 hr2 (by rw [e]; exact beq_self_eq_true _)
      simp only [List.mem_cons, List.not_mem_nil, or_false] at hr1 hr2
      refine ⟨by omega, by omega, by omega, by omega, hne⟩
    dsimp only at g4
    refine wpAny_pure (k h4 n4 _ S4 ?_ ((still_mono g12).trans (g3.trans g4)))
    intro z hz
    simp only [hz, if_false]
  · exact wpAny_pure (k _ _ m S2 (fun _ _ => rfl) (still_mono g12))
end
end Mine
namespace Mine
set_option maxRecDepth 100000
section
variable {w : World} {base : Heap} {L fa : Addr} {cd : Value} {mg mb : Str → Option Value} {mean : ExcName → Option Value} {loose : List Str} {E : Value → Shared → Prop} {s : Shared}
  {m : Str → Option Value} {cc cp co ck : Option Value} {tt : Array Value × Array Value}

/-- `other` takes a value -/
theorem law_other {v : Value} {p : Pos} {Q : Unit → Shared → Prop} (c : Ctx w base L mg mb mean loose) (S : LawSt base L s.heap m cc cp co ck tt)
    (k : ∀ h', LawSt base L h' m cc cp (some v) ck tt → But [L + 1 + 1 + 1] s.heap h' → Q () { s with heap := h' }) :
    wpAny (model lawProg w) (lawA L fa cd) (assign (.Name (Str.ofString "other") p) (lawEnv L fa cd) v) Q E s := by
  refine wpAny_assign_Name (wpAny_storeName_cell (c := L + 1 + 1 + 1) (v₀ := co) rfl rfl rfl S.c3 fun h' hc hs => ?_)
  have kb : But [L + 1 + 1 + 1] s.heap h' := sameBut_but hs (by simp)
  have kx : ∀ b o, b ≠ L + 1 + 1 + 1 → s.heap.get? b = some o → h'.get? b = some o := fun b o n e => kb b o (by simpa using n) e
  have l79 := c.l79
  have l72 := c.l72
  refine k h' ⟨⟨S.fr.ns.sameBut hs (show @Ne Nat L (L + 1 + 1 + 1) by omega), ?_, S.fr.above⟩, ?_, ?_, hc, ?_, ?_, ?_⟩ kb
  · intro b o e
    have hb : @LT.lt Nat _ b L := Nat.lt_of_lt_of_le (Heap.lt_size e) S.fr.above
    exact kx b o (show @Ne Nat b (L + 1 + 1 + 1) by omega) (S.fr.keep b o e)
  · obtain ⟨o, e, d⟩ := S.c1; exact ⟨o, kx _ _ (show @Ne Nat (L + 1) (L + 1 + 1 + 1) by omega) e, d⟩
  · obtain ⟨o, e, d⟩ := S.c2; exact ⟨o, kx _ _ (show @Ne Nat (L + 1 + 1) (L + 1 + 1 + 1) by omega) e, d⟩
  · obtain ⟨o, e, d⟩ := S.c4; exact ⟨o, kx _ _ (show @Ne Nat (L + 1 + 1 + 1 + 1) (L + 1 + 1 + 1) by omega) e, d⟩
  · exact kx _ _ (show @Ne Nat 79 (L + 1 + 1 + 1) by omega) S.t1
  · exact kx _ _ (show @Ne Nat 72 (L + 1 + 1 + 1) by omega) S.t2
/-- `kind` takes a value -/
theorem law_kind {v : Value} {p : Pos} {Q : Unit → Shared → Prop} (c : Ctx w base L mg mb mean loose) (S : LawSt base L s.heap m cc cp co ck tt)
    (k : ∀ h', LawSt base L h' m cc cp co (some v) tt → But [L + 1 + 1 + 1 + 1] s.heap h' → Q () { s with heap := h' }) :
    wpAny (model lawProg w) (lawA L fa cd) (assign (.Name (Str.ofString "kind") p) (lawEnv L fa cd) v) Q E s := by
  refine wpAny_assign_Name (wpAny_storeName_cell (c := L + 1 + 1 + 1 + 1) (v₀ := ck) rfl rfl rfl S.c4 fun h' hc hs => ?_)
  have kb : But [L + 1 + 1 + 1 + 1] s.heap h' := sameBut_but hs (by simp)
  have kx : ∀ b o, b ≠ L + 1 + 1 + 1 + 1 → s.heap.get? b = some o → h'.get? b = some o := fun b o n e => kb b o (by simpa using n) e
  have l79 := c.l79
  have l72 := c.l72
  refine k h' ⟨⟨S.fr.ns.sameBut hs (show @Ne Nat L (L + 1 + 1 + 1 + 1) by omega), ?_, S.fr.above⟩, ?_, ?_, ?_, hc, ?_, ?_⟩ kb
  · intro b o e
    have hb : @LT.lt Nat _ b L := Nat.lt_of_lt_of_le (Heap.lt_size e) S.fr.above
    exact kx b o (show @Ne Nat b (L + 1 + 1 + 1 + 1) by omega) (S.fr.keep b o e)
  · obtain ⟨o, e, d⟩ := S.c1; exact ⟨o, kx _ _ (show @Ne Nat (L + 1) (L + 1 + 1 + 1 + 1) by omega) e, d⟩
  · obtain ⟨o, e, d⟩ := S.c2; exact ⟨o, kx _ _ (show @Ne Nat (L + 1 + 1) (L + 1 + 1 + 1 + 1) by omega) e, d⟩
  · obtain ⟨o, e, d⟩ := S.c3; exact ⟨o, kx _ _ (show @Ne Nat (L + 1 + 1 + 1) (L + 1 + 1 + 1 + 1) by omega) e, d⟩
  · exact kx _ _ (show @Ne Nat 79 (L + 1 + 1 + 1 + 1) by omega) S.t1
  · exact kx _ _ (show @Ne Nat 72 (L + 1 + 1 + 1 + 1) by omega) S.t2

/-- the loop's own iterator and list -/
theorem listIter_grow {h h' : Heap} {I D : Addr} {i : Nat} (x : h.IsListIter I D i) (g : Grow h h') : h'.IsListIter I D i := x.at fun o e => g _ o e
theorem still_iter {h h' : Heap} {I D : Addr} {i : Nat} {ys : Array Value} (g : Grow (still L h) (still L h')) (nI : I ∉ marks L) (nD : D ∉ marks L) (x : h.IsListIter I D i ∧ h.IsList D ys) : h'.IsListIter I D i ∧ h'.IsList D ys :=
  ⟨x.1.at fun o e => still_le L _ _ _ (g _ _ (still_get e nI)), let ⟨o, e, r⟩ := x.2; ⟨o, still_le L _ _ _ (g _ _ (still_get e nD)), r⟩⟩

theorem triples_get {g : Heap} {N : Nat} {vs : List Value} {ps : List (Int × Int × Int)} (x : Triples g N vs ps) {i : Nat} {v : Value} (hv : vs[i]? = some v) : ∃ a p, v = .ref a ∧ p ∈ ps ∧ Tup3 g a p.1 p.2.1 p.2.2 :=
  triples_mem x (List.mem_of_getElem? hv)

set_option maxHeartbeats 1000000 in
/-- a walk over a list of triples: the name x takes them one by one -/
theorem for_triples {target : Expr} {body : List Stmt} {D : Addr} {ys : Array Value} {g0 : Heap} {ps : List (Int × Int × Int)} {T : Nat} {d : Addr} {kd : Value} {R : Result → Shared → Prop} {keep : (Str → Option Value) → (Str → Option Value) → Prop} (c : Ctx w base L mg mb mean loose) (hkeep : keep m m)
    (S : LawSt base L s.heap m (some (.ref d)) cp co (some kd) tt) (G : Grow g0 (still L s.heap)) (hl : s.heap.IsList D ys) (nD : D ∉ marks L) (hp : Triples g0 0 ys.toList ps) (hT2 : @LE.le Nat _ T s.toks)
    (turn : ∀ a p h tk m' co' (Q : Flow → Shared → Prop) (E : Value → Shared → Prop), p ∈ ps → Tup3 g0 a p.1 p.2.1 p.2.2 → LawSt base L h m' (some (.ref d)) cp co' (some kd) tt → keep m' m → Grow g0 (still L h) → @LE.le Nat _ T tk →
      (∀ h' tk' m'' co'', LawSt base L h' m'' (some (.ref d)) cp co'' (some kd) tt → keep m'' m → Grow (still L h) (still L h') → Q .next { s with heap := h', toks := tk' }) →
      wpAny (model lawProg w) (lawA L fa cd) (assign target (lawEnv L fa cd) (.ref a)) (fun _ s₂ => wpAny (model lawProg w) (lawA L fa cd) (execs body (lawEnv L fa cd)) Q E s₂) E { s with heap := h, toks := tk })
    (done : ∀ h' tk m' co', LawSt base L h' m' (some (.ref d)) cp co' (some kd) tt → keep m' m → Grow g0 (still L h') → @LE.le Nat _ T tk → R (.ok .next) { s with heap := h', toks := tk })
    (ht : ∀ v, letOwnedTupleGo target (.ref s.heap.objs.size) v = pure () := by intro _; rfl) :
    codeAny (model lawProg w) (lawA L fa cd) (.forLoop target (.ref s.heap.objs.size) body [] (lawEnv L fa cd)) R { s with heap := s.heap.push { cls := .type "list_iterator", data := .fields #[.ref D, .int 0 0] } } := by
  have hlt : @LT.lt Nat _ D s.heap.objs.size := by obtain ⟨_, e, _⟩ := hl; exact Heap.lt_size e
  have kp : Grow s.heap (s.heap.push { cls := .type "list_iterator", data := .fields #[.ref D, .int 0 0] }) := .push _ _
  have hI0 : s.heap.get? s.heap.objs.size = none := none_of_le (Nat.le_refl _)
  have nI := S.fresh hI0
  have bI : base.get? s.heap.objs.size = none := none_below S.fr.keep hI0
  have gI : g0.get? s.heap.objs.size = none := none_below G (still_none hI0)
  refine for_walks (Walks.list (A := lawA L fa cd) rfl s.heap.objs.size D (Nat.ne_of_lt hlt) ys) (i := 0) (fun i s' => ∃ h tk m' co', s' = { s with heap := h, toks := tk } ∧ LawSt base L h m' (some (.ref d)) cp co' (some kd) tt ∧ keep m' m ∧ Grow g0 (still L h) ∧ (h.IsListIter s.heap.objs.size D i ∧ h.IsList D ys) ∧ @LE.le Nat _ T tk) ?_ ?_ ?_ (Nat.zero_le _) ⟨_, _, m, co, rfl, S.grow kp, hkeep, G.trans (still_mono kp), ⟨⟨_, Heap.get?_push_size _ rfl, rfl, rfl⟩, hl.push _⟩, hT2⟩ ht
  · rintro i s' ⟨h, tk, m', co', rfl, _, _, _, hi, _⟩; exact hi
  · rintro i s' E hi ⟨h, tk, m', co', rfl, S', km, G', hli, hTk⟩ v h' tk' hv hst hk htk
    dsimp only at hk htk
    have kb : But [s.heap.objs.size] h h' := fun b o n e => hk b o n e
    have S3 := S'.but kb (by intro b hb'; rw [List.mem_singleton.mp hb']; exact ⟨nI, bI⟩)
    have G3 := grow_but G' kb (by intro b hb'; rw [List.mem_singleton.mp hb']; exact gI)
    obtain ⟨a, p, rfl, hpm, htup⟩ := triples_get hp (by simpa using hv : ys.toList[i]? = some v)
    refine with_toks2 (s := { s with heap := h', toks := tk' }) (turn a p h' tk' m' co' _ _ hpm htup S3 km G3 (Nat.le_trans hTk htk) fun h4 tk4 m4 co4 S4 km4 g4 htk4 => ?_)
    exact ⟨h4, tk4, m4, co4, rfl, S4, km4, G3.trans g4, still_iter g4 nI nD hst, Nat.le_trans hTk (Nat.le_trans htk htk4)⟩
  · rintro s' ⟨h, tk, m', co', rfl, S', km, G', hli, hTk⟩ h' tk' hk htk
    dsimp only at hk htk
    have kb : But [s.heap.objs.size] h h' := fun b o n e => hk b o n e
    exact done h' tk' m' co' (S'.but kb (by intro b hb'; rw [List.mem_singleton.mp hb']; exact ⟨nI, bI⟩)) km (grow_but G' kb (by intro b hb'; rw [List.mem_singleton.mp hb']; exact gI)) (Nat.le_trans hTk htk)
end
end Mine
namespace Mine
set_option maxRecDepth 100000
section
variable {prog : Program} {w : World} {A : Around} {E : Value → Shared → Prop} {s : Shared}
theorem slice_up {value slice : Expr} {l : Addr} {items : Array Value} {k : Nat} {t : Tok} {Q : Value → Shared → Prop} (hl : s.heap.IsList l items) (hk : items.size ≤ 100000)
    (h : ∀ D h', Grow s.heap h' → @LE.le Nat _ s.heap.objs.size D → h'.PlainList D (items.toList.take k).toArray → Q (.ref D) { s with heap := h' })
    (hs : subscripted slice false (.ref l) (.ref s.heap.objs.size) = operate [.ref s.heap.objs.size, .ref l] (getItem (.ref l) (.ref s.heap.objs.size)) := by with_unfolding_all rfl)
    (ht : ∀ r, letTemporaryGo value (.ref l) r = pure () := by intro _; with_unfolding_all rfl) :
    wpAny (model prog w) A (subscriptTail value slice (.ref l) (.ref s.heap.objs.size)) Q E { s with heap := s.heap.push { cls := .type "slice", data := .fields #[.none, .int (k : Int) t, .none] } } := by
  refine subscriptTail_ops (Heap.IsList.typeIs (s := { s with heap := s.heap.push { cls := .type "slice", data := .fields #[.none, .int (k : Int) t, .none] } }) (hl.push _)) list_getitem_lookup
    (wpAny_getItem_list_slice (hl.push _) (Heap.IsSliceOf.new ..) .none (.int _ _) .none (by simp) ?_ (by rw [sizeLine_eq]; omega)) hs ht
  rw [slicePick_upto']
  refine h _ _ (Grow.trans (.push _ _) (.push _ _)) ?_ ⟨0, Heap.get?_push_size _ rfl⟩
  show @LE.le Nat _ s.heap.objs.size (s.heap.push _).objs.size
  rw [Heap.size_push]; exact Nat.le_succ _
end
section
variable {w : World} {base : Heap} {L fa : Addr} {cd : Value} {mg mb : Str → Option Value} {mean : ExcName → Option Value} {loose : List Str} {E : Value → Shared → Prop} {s : Shared}
  {m : Str → Option Value} {cc cp co ck : Option Value} {tt : Array Value × Array Value}

theorem paired_take {α β : Type} {F : α → β → Prop} {as : List α} {bs : List β} (x : Paired F as bs) (k : Nat) : Paired F (as.take k) (bs.take k) := by
  induction x generalizing k with
  | nil => simp only [List.take_nil]; exact .nil
  | cons h _ ih =>
    cases k with
    | zero => exact .nil
    | succ k => simp only [List.take_succ_cons]; exact .cons h (ih k)

def keep2 (m' m : Str → Option Value) : Prop := ∀ z, z ≠ Str.ofString "between" → z ≠ Str.ofString "one" → m' z = m z

set_option maxHeartbeats 1000000 in
/-- for other in mine[:1] -/
theorem st_others {d a D : Addr} {g0 : Heap} {ys : Array Value} {ps : List (Int × Int × Int)} {x kd : Int} {tk0 : Tok} {T : Nat} {p : Int × Int × Int} {Q : Flow → Shared → Prop} (c : Ctx w base L mg mb mean loose) (S : LawSt base L s.heap m (some (.ref d)) cp co (some (.int kd tk0)) tt)
    (G : Grow g0 (still L s.heap)) (hc : Cols lawProg w g0 d (col x) T) (mm : m (Str.ofString "mine") = some (.ref D)) (hl : g0.PlainList D ys) (hps : Triples g0 0 ys.toList ps) (hz : ps.length < 1000) (hin : ∀ q ∈ ps, q ∈ triTo 6)
    (mo : m (Str.ofString "one") = some (.ref a)) (ha : Tup3 g0 a p.1 p.2.1 p.2.2) (hp : p ∈ triTo 6)
    (hT : @LE.le Nat _ T tk0) (hT2 : @LE.le Nat _ T s.toks) (hkd : kd = 0 ∨ kd = 1)
    (k : ∀ h' tk m' co', LawSt base L h' m' (some (.ref d)) cp co' (some (.int kd tk0)) tt → keep1 (Str.ofString "between") m' m → Grow (still L s.heap) (still L h') → Q .next { s with heap := h', toks := tk }) :
    wpAny (model lawProg w) (lawA L fa cd) (exec (oneBody.getD 0 (.Pass default)) (lawEnv L fa cd)) Q E s := by
  show wpAny _ _ (exec (.For (.Name _ _) (.Subscript (.Name _ _) (.Slice none (some (.Constant (.int ((1 : Nat) : Int)) _ _)) none _) _) [otherBody.getD 0 (.Pass default)] [] _) _) _ _ _
  have up := G.trans (still_le L s.heap)
  have hlist : s.heap.IsList D ys := by obtain ⟨nn, e⟩ := hl; exact ⟨_, up _ _ e, rfl, nn, rfl⟩
  have hyl : ys.size = ps.length := by have := Paired.length hps; simpa using this
  refine wpAny_For (Subscript_ (law_name S rfl mm (wpAny_Slice (wpAny_evalPart_none (wpAny_evalPart_some (wpAny_Constant_int (wpAny_evalPart_none ?_)))))))
  refine slice_up (s := { s with toks := s.toks + 1 }) hlist (by omega) fun Ds h1 g1 hDs hl1 => ?_
  dsimp only at g1 hDs
  have hlist1 : h1.IsList Ds (ys.toList.take 1).toArray := by obtain ⟨nn, e⟩ := hl1; exact ⟨_, e, rfl, nn, rfl⟩
  refine wpAny_pyIter_list hlist1 ?_
  have S1 := S.grow g1
  have G1 := G.trans (still_mono (L := L) g1)
  have nD := S.fresh (none_of_le hDs)
  have hp1 : Triples (still L h1) 0 (ys.toList.take 1).toArray.toList (ps.take 1) := paired_take (hps.keeps G1) 1
  refine for_triples (s := { s with heap := h1, toks := s.toks + 1 }) (T := T) (g0 := still L h1) (ps := ps.take 1) (keep := keep1 (Str.ofString "between")) c (fun _ _ => rfl) S1 (.refl _) hlist1 nD hp1 (Nat.le_trans hT2 (Nat.le_succ _)) ?_ ?_
  · intro b q h tk m' co' Q' E' hq htup S' km G' hTk hk
    refine law_other (s := { s with heap := h, toks := tk }) c S' fun h4 S4 k4 => ?_
    dsimp only at k4
    have g4 : Grow (still L h) (still L h4) := grow_marks (.refl _) k4 (by intro b hb'; rw [List.mem_singleton.mp hb']; exact marks_ne.2.2.2.1)
    have hq6 := hin q (List.mem_of_mem_take hq)
    refine wpAny_execs_cons (st_apart (s := { s with heap := h4, toks := tk }) (T := T) (p := p) (q := q) c S4 (.refl _) (hc.keeps ((G1.trans G').trans g4)) ?_ (ha.keeps ((G1.trans G').trans g4)) (htup.keeps (G'.trans g4)) hp hq6 hT hTk hkd fun h5 tk5 m5 S5 km5 g5 => ?_)
    · rw [km _ (by decide)]; exact mo
    · exact wpAny_pure (hk h5 tk5 m5 _ S5 (fun z hz => (km5 z hz).trans (km z hz)) (g4.trans g5))
  · intro h' tk m' co' S' km G' _
    exact k h' tk m' co' S' km ((still_mono g1).trans G')

set_option maxHeartbeats 1000000 in
/-- for one in mine -/
theorem st_ones {d D : Addr} {g0 : Heap} {ys : Array Value} {ps : List (Int × Int × Int)} {x kd : Int} {tk0 : Tok} {T : Nat} {Q : Flow → Shared → Prop} (c : Ctx w base L mg mb mean loose) (S : LawSt base L s.heap m (some (.ref d)) cp co (some (.int kd tk0)) tt)
    (G : Grow g0 (still L s.heap)) (hc : Cols lawProg w g0 d (col x) T) (mm : m (Str.ofString "mine") = some (.ref D)) (hl : g0.PlainList D ys) (hps : Triples g0 0 ys.toList ps) (hz : ps.length < 1000) (hin : ∀ q ∈ ps, q ∈ triTo 6)
    (hT : @LE.le Nat _ T tk0) (hT2 : @LE.le Nat _ T s.toks) (hkd : kd = 0 ∨ kd = 1)
    (k : ∀ h' tk m' co', LawSt base L h' m' (some (.ref d)) cp co' (some (.int kd tk0)) tt → keep2 m' m → Grow g0 (still L h') → Q .next { s with heap := h', toks := tk }) :
    wpAny (model lawProg w) (lawA L fa cd) (exec (kst 3) (lawEnv L fa cd)) Q E s := by
  show wpAny _ _ (exec (.For (.Name _ _) (.Name _ _) [oneBody.getD 0 (.Pass default)] [] _) _) _ _ _
  have up := G.trans (still_le L s.heap)
  have hlist : s.heap.IsList D ys := by obtain ⟨nn, e⟩ := hl; exact ⟨_, up _ _ e, rfl, nn, rfl⟩
  have nD : D ∉ marks L := by obtain ⟨nn, e⟩ := hl; exact still_not (G _ _ e)
  refine wpAny_For (law_name S rfl mm (wpAny_pyIter_list hlist ?_))
  refine for_triples (T := T) (g0 := g0) (ps := ps) (keep := keep2) c (fun _ _ _ => rfl) S G hlist nD hps hT2 ?_ ?_
  · intro a p h tk m' co' Q' E' hp htup S' km G' hTk hk
    refine law_store (s := { s with heap := h, toks := tk }) c rfl S' fun h4 S4 k4 => ?_
    dsimp only at k4
    have g4 : Grow (still L h) (still L h4) := still_frame k4
    refine wpAny_execs_cons (st_others (s := { s with heap := h4, toks := tk + 1 }) (a := a) (T := T) (g0 := g0) (p := p) c S4 (G'.trans g4) hc ?_ hl hps hz hin ?_ htup (hin p hp) hT (Nat.le_trans hTk (Nat.le_succ _)) hkd fun h5 tk5 m5 co5 S5 km5 g5 => ?_)
    · simp only [show (Str.ofString "mine" = Str.ofString "one") = False by decide, if_false]
      rw [km _ (by decide) (by decide)]; exact mm
    · simp only [if_true]
    · refine wpAny_pure (hk h5 tk5 m5 co5 S5 (fun z h1 h2 => ?_) (g4.trans g5))
      rw [km5 z h1]
      simp only [h2, if_false]
      exact km z h1 h2
  · intro h' tk m' co' S' km G' _
    exact k h' tk m' co' S' km G'
end
end Mine
namespace Mine
set_option maxRecDepth 100000
def keepK (m' m : Str → Option Value) : Prop := ∀ z, z ≠ Str.ofString "many" → z ≠ Str.ofString "mine" → z ≠ Str.ofString "between" → z ≠ Str.ofString "one" → m' z = m z
theorem filter_nil_size {g : Heap} {N : Nat} {vs : Array Value} {ps : List (Int × Int × Int)} (x : Triples g N vs.toList ps) (h : vs.size = 0) : ps = [] := by
  have := Paired.length x
  rw [Array.length_toList, h] at this
  exact List.length_eq_zero_iff.mp this.symm
section
variable {w : World} {base : Heap} {L fa : Addr} {cd : Value} {mg mb : Str → Option Value} {mean : ExcName → Option Value} {loose : List Str} {E : Value → Shared → Prop} {s : Shared}
  {m : Str → Option Value} {cc cp co ck : Option Value} {tt : Array Value × Array Value}

set_option maxHeartbeats 1000000 in
/-- for kind in range(2) -/
theorem st_kinds {d Dl Ds : Addr} {g0 : Heap} {vl vs : Array Value} {x : Int} {T : Nat} {Q : Flow → Shared → Prop} (c : Ctx w base L mg mb mean loose) (S : LawSt base L s.heap m (some (.ref d)) cp co ck tt)
    (G : Grow g0 (still L s.heap)) (hc : Cols lawProg w g0 d (col x) T) (ml : m (Str.ofString "lines") = some (.ref Dl)) (hl : g0.PlainList Dl vl) (hpl : Pairs g0 0 vl.toList (pairsTo 6))
    (ms : m (Str.ofString "same") = some (.ref Ds)) (hs : g0.PlainList Ds vs) (hps : Triples g0 0 vs.toList (same x)) (hT2 : @LE.le Nat _ T s.toks)
    (hM : ∀ kd : Int, kd = 0 ∨ kd = 1 → (same x).filter (fun p => col x p.1 p.2.1 == kd) = [] → cnt ((pairsTo 6).map fun p => col x p.1 p.2) kd ≤ 9)
    (k : ∀ h' tk m' co' ck', LawSt base L h' m' (some (.ref d)) cp co' ck' tt → keepK m' m → Grow g0 (still L h') → Q .next { s with heap := h', toks := tk }) :
    wpAny (model lawProg w) (lawA L fa cd) (exec (stmt 10) (lawEnv L fa cd)) Q E s := by
  show wpAny _ _ (exec (.For (.Name _ _) (.Call (.Name _ _) [.Constant (.int 2) _ _] [] _) [kst 0, kst 1, kst 2, kst 3] [] _) _) _ _ _
  have hsin : ∀ p ∈ same x, p ∈ triTo 6 := fun p hp => (List.mem_filter.mp hp).1
  have hslen : (same x).length ≤ 20 := Nat.le_trans (List.length_filter_le _ _) (by decide +kernel)
  refine wpAny_For (with_toks2 ?_)
  refine src_range1 (k := 2) (by omega) (by omega) (fun Q E hq => nm_builtin c rfl rfl rfl rfl S.fr.keep K_range (by decide +kernel) (by decide) (by decide) hq) (fun Q hq => wpAny_Constant_int (hq _ _)) rfl ?_
  intro I h₂ tk₂ kg hI hI' hr htk2
  dsimp only at htk2
  have hI0 : s.heap.get? I = none := none_of_le hI
  have nI := S.fresh hI0
  have bI : base.get? I = none := none_below S.fr.keep hI0
  have gI : g0.get? I = none := none_below G (still_none hI0)
  refine for_range (n := 2) (i := 0) rfl (fun i s' => ∃ h tk m' co' ck', s' = { s with heap := h, toks := tk } ∧ LawSt base L h m' (some (.ref d)) cp co' ck' tt ∧ keepK m' m ∧ Grow g0 (still L h) ∧ IsRangeIter h I (i : Int) ((2 : Nat) - (i : Int)) 1 ∧ @LE.le Nat _ T tk)
    ?_ ?_ ?_ (Nat.zero_le _) ⟨h₂, tk₂, m, co, ck, rfl, S.grow kg, fun _ _ _ _ _ => rfl, G.trans (still_mono kg), by simpa using hr, Nat.le_trans hT2 htk2⟩
  · rintro i s' ⟨h, tk, m', co', ck', rfl, _, _, _, hr', _⟩; exact hr'
  · rintro i s' E hi ⟨h, tk, m', co', ck', rfl, S', km, G', hr', hTk⟩ h' hs' hr2
    dsimp only at hs'
    have kb : But [I] h h' := sameBut_but hs' (by simp)
    have S3 := S'.but kb (by intro b hb'; rw [List.mem_singleton.mp hb']; exact ⟨nI, bI⟩)
    have G3 := grow_but G' kb (by intro b hb'; rw [List.mem_singleton.mp hb']; exact gI)
    have hkd : (i : Int) = 0 ∨ (i : Int) = 1 := by omega
    refine law_kind (s := { s with heap := h', toks := tk + 1 }) c S3 fun h4 S4 k4 => ?_
    dsimp only at k4
    have G4 : Grow g0 (still L h4) := grow_marks G3 k4 (by intro b hb'; rw [List.mem_singleton.mp hb']; exact marks_ne.2.2.2.2)
    have r4 : h4.get? I = some _ := k4 I _ (by simp only [List.mem_singleton]; exact fun q => nI (by rw [q]; exact marks_ne.2.2.2.2)) hr2
    refine wpAny_execs_cons (wpAny_with_toks (n := tk + 1) (Nat.le_refl _) (st_many (s := { s with heap := h4, toks := tk + 1 }) (T := T) (x := x) c S4 G4 hc ?_ hl hpl hTk fun h5 n5 v5 S5 g5 l5 => ?_))
    · rw [km _ (by decide) (by decide) (by decide) (by decide)]; exact ml
    dsimp only at g5 l5
    have G5 := G4.trans g5
    refine wpAny_execs_cons (wpAny_with_toks (n := n5) (Nat.le_refl _) (st_mine (s := { s with heap := h5, toks := n5 }) (T := T) (x := x) (ps := same x) c S5 G5 hs hps (by omega) hsin ?_ hc fun D6 h6 n6 ys6 S6 g6 hl6 hp6 l6 => ?_))
    · simp only [show (Str.ofString "same" = Str.ofString "many") = False by decide, if_false]
      rw [km _ (by decide) (by decide) (by decide) (by decide)]; exact ms
    dsimp only at g6 l6
    have G6 := G5.trans g6
    refine wpAny_execs_cons (wpAny_with_toks (n := n6) (Nat.le_refl _) (st_bad (s := { s with heap := h6, toks := n6 }) (D := D6) (ys := ys6) (many := (cnt ((pairsTo 6).map fun p => col x p.1 p.2) (i : Int) : Nat)) (t := v5) S6 (by simp only [if_true]) ?_ hl6 ?_ fun h7 n7 S7 g7 l7 => ?_))
    · simp only [show (Str.ofString "many" = Str.ofString "mine") = False by decide, if_false, if_true]
    · intro hz
      have := hM (i : Int) hkd (filter_nil_size hp6 hz)
      omega
    dsimp only at g7 l7
    have hlen6 : ((same x).filter fun p => col x p.1 p.2.1 == (i : Int)).length < 1000 := by have := List.length_filter_le (fun p => col x p.1 p.2.1 == (i : Int)) (same x); omega
    have l77 : @LE.le Nat _ n6 n7 := l7
    have l66 : @LE.le Nat _ n5 n6 := l6
    have l55 : @LE.le Nat _ (tk + 1) n5 := l5
    refine wpAny_execs_cons (wpAny_with_toks (n := n7) (Nat.le_refl _) (st_ones (s := { s with heap := h7, toks := n7 }) (T := T) (x := x) (g0 := still L h6) (D := D6) c S7 g7 (hc.keeps G6) (by simp only [if_true]) hl6 hp6 hlen6 (fun q hq => hsin q (List.mem_filter.mp hq).1) hTk (by show @LE.le Nat _ T n7; omega) hkd fun h8 n8 m8 co8 S8 km8 g8 l8 => ?_))
    have l88 : @LE.le Nat _ n7 n8 := l8
    refine wpAny_pure ⟨h8, n8, m8, co8, _, rfl, S8, ?_, G6.trans g8, ?_, by omega⟩
    · intro z z1 z2 z3 z4
      rw [km8 z z3 z4]
      simp only [z1, z2, if_false]
      exact km z z1 z2 z3 z4
    · have gI4 : (still L h4).get? I = some _ := still_get r4 nI
      exact still_le L _ _ _ (g8 _ _ (g6 _ _ (g5 _ _ gI4)))
  · rintro s' ⟨h, tk, m', co', ck', rfl, S', km, G', hr', hTk⟩ h' hx
    dsimp only at hx
    have kb : But [I] h h' := fun b o nb e => hx b o (by simpa using nb) e
    exact k h' tk m' co' ck' (S'.but kb (by intro b hb'; rw [List.mem_singleton.mp hb']; exact ⟨nI, bI⟩)) km (grow_but G' kb (by intro b hb'; rw [List.mem_singleton.mp hb']; exact gI))
end
end Mine
namespace Mine
set_option maxRecDepth 100000

theorem perm3 {ns : List Int} {i j k : Int} (hp : ns.Perm [i, j, k]) (hs : ns.Pairwise (· ≤ ·)) (h1 : i < j) (h2 : j < k) : ns = [i, j, k] := by
  have hl := hp.length_eq
  match ns, hl with
  | [a, b, c], _ =>
    have ha := hp.mem_iff (a := a)
    have hb := hp.mem_iff (a := b)
    have hc := hp.mem_iff (a := c)
    have hi := hp.mem_iff (a := i)
    have hj := hp.mem_iff (a := j)
    have hk := hp.mem_iff (a := k)
    simp only [List.mem_cons, List.not_mem_nil, or_false, true_or, or_true, true_iff, iff_true] at ha hb hc hi hj hk
    simp only [List.pairwise_cons, List.mem_cons, List.not_mem_nil, or_false, forall_eq_or_imp, forall_eq] at hs
    have e1 : a = i := by omega
    have e3 : c = k := by omega
    have e2 : b = j := by omega
    rw [e1, e2, e3]
section
variable {w : World} {base : Heap} {L fa : Addr} {cd : Value} {mg mb : Str → Option Value} {mean : ExcName → Option Value} {loose : List Str} {A : Around} {E : Value → Shared → Prop} {s : Shared} {env : Env}
  {m : Str → Option Value} {cc cp co ck : Option Value} {tt : Array Value × Array Value}

set_option maxHeartbeats 1000000 in
/-- tuple(sorted([three[0], three[1], three[2]])) -/
theorem ev_turn {x : Str} {p1 p2 p3 p4 p5 p6 p7 p8 p9 p10 p11 p12 p13 p14 : Pos} {k1 k2 k3 : Nat} {a : Addr} {p : Int × Int × Int} {Q : Value → Shared → Prop} (c : Ctx w base L mg mb mean loose) (G : Grow base s.heap) (hg : env.globals = mainGlobals) (hbn : env.builtins = builtinsNs) (hk : env.scope.kind = .function)
    (ht : env.kindOf (Str.ofString "tuple") = some .globalImplicit) (hso : env.kindOf (Str.ofString "sorted") = some .globalImplicit) (lx : env.kindOf x = some .local) (dx : (x == ("__debug__" : Str)) = false) (hn : s.heap.Ns env.locals m) (hm : m x = some (.ref a)) (htup : Tup3 s.heap a p.1 p.2.1 p.2.2) (h1 : p.1 < p.2.1) (h2 : p.2.1 < p.2.2)
    (hst1 : starEach [Expr.Subscript (.Name x p4) (.Constant (.int 0) k1 p5) p6, .Subscript (.Name x p7) (.Constant (.int 1) k2 p8) p9, .Subscript (.Name x p10) (.Constant (.int 2) k3 p11) p12] env = [(false, eval (.Subscript (.Name x p4) (.Constant (.int 0) k1 p5) p6) env), (false, eval (.Subscript (.Name x p7) (.Constant (.int 1) k2 p8) p9) env), (false, eval (.Subscript (.Name x p10) (.Constant (.int 2) k3 p11) p12) env)])
    (h : ∀ T h' tk, Grow s.heap h' → @LE.le Nat _ s.heap.objs.size T → Tup3 h' T p.1 p.2.1 p.2.2 → Q (.ref T) { s with heap := h', toks := tk }) :
    wpAny (model lawProg w) A (eval (.Call (.Name (Str.ofString "tuple") p1) [.Call (.Name (Str.ofString "sorted") p2) [.List [.Subscript (.Name x p4) (.Constant (.int 0) k1 p5) p6, .Subscript (.Name x p7) (.Constant (.int 1) k2 p8) p9, .Subscript (.Name x p10) (.Constant (.int 2) k3 p11) p12] p13] [] p14] [] p3) env) Q E s := by
  obtain ⟨t1, t2, t3, tt⟩ := htup
  have tt' : IsTup s.heap a [Value.int p.1 t1, .int p.2.1 t2, .int p.2.2 t3].toArray := tt
  refine Call_ (nm_builtin (v := .type "tuple") c hg hbn hk ht G K_tuple (by decide +kernel) (by decide) (by decide) (callWith_type1 (wpAny_items_cons ?_ rfl)))
  refine Call_ (nm_builtin (v := .builtin "sorted") c hg hbn hk hso G K_sorted (by decide +kernel) (by decide) (by decide) (callWith_builtin1 (wpAny_items_cons ?_ rfl)))
  refine wpAny_List ?_
  refine wpAny_items_cons (ev_item (fun Q E hq => nm_local hk lx hn hm hq dx) tt' (by omega) (by omega) (j := 0) (by show seqIndex? 0 3 = some 0; decide) rfl (wpAny_items_cons (ev_item (s := { s with toks := s.toks + 1 }) (fun Q E hq => nm_local hk lx hn hm hq dx) tt' (by omega) (by omega) (j := 1) (by show seqIndex? 1 3 = some 1; decide) rfl (wpAny_items_cons (ev_item (s := { s with toks := s.toks + 1 + 1 }) (fun Q E hq => nm_local hk lx hn hm hq dx) tt' (by omega) (by omega) (j := 2) (by show seqIndex? 2 3 = some 2; decide) rfl (wpAny_items_nil ⟨by show 3 ≤ sizeLine; rw [sizeLine_eq]; omega, ?_⟩)) rfl)) rfl)) rfl
  refine wpAny_items_nil ?_
  dsimp only
  have g1 : Grow s.heap (s.heap.push { cls := .type "list", data := .seq [Value.int p.1 t1, .int p.2.1 t2, .int p.2.2 t3].toArray }) := .push _ _
  refine sorted_ints (vs := [Value.int p.1 t1, .int p.2.1 t2, .int p.2.2 t3]) (ns := [p.1, p.2.1, p.2.2]) ⟨_, Heap.get?_push_size _ rfl, rfl, 0, rfl⟩ (.cons _ _ (.cons _ _ (.cons _ _ .nil))) (by show 3 < 64; omega) fun out ns' a1 a2 a3 => ?_
  have e := perm3 a2 a3 h1 h2
  subst e
  refine wpAny_items_nil ?_
  obtain ⟨ee, he⟩ := sortedAll_at (s.heap.push { cls := .type "list", data := .seq [Value.int p.1 t1, .int p.2.1 t2, .int p.2.2 t3].toArray }) [Value.int p.1 t1, .int p.2.1 t2, .int p.2.2 t3] out
  have g2 : Grow s.heap (sortedAll (s.heap.push { cls := .type "list", data := .seq [Value.int p.1 t1, .int p.2.1 t2, .int p.2.2 t3].toArray }) [Value.int p.1 t1, .int p.2.1 t2, .int p.2.2 t3] out) := g1.trans fun _ _ e => sortedAll_old e
  have hout : out.size = 3 := by have := a1.length; simpa using this
  refine call_tuple_list (hsz := by rw [hout, sizeLine_eq]; omega) ⟨_, he, rfl, _, rfl⟩ fun h3 g3 => ?_
  have g4 : Grow s.heap (h3.push { cls := .type "tuple", data := .seq out }) := (g2.trans g3).trans (.push _ _)
  refine h _ _ _ g4 ?_ ?_
  · by_cases hle : @LE.le Nat _ s.heap.objs.size h3.objs.size
    · exact hle
    · exfalso
      have hlt : @LT.lt Nat _ h3.objs.size s.heap.objs.size := Nat.not_le.mp hle
      have ha : @LT.lt Nat _ a s.heap.objs.size := tt.lt
      have e4 := Heap.lt_size (g3 _ _ he)
      rw [Heap.size_push] at e4
      have e5 : @LT.lt Nat _ (s.heap.objs.size + 1 + 1) h3.objs.size := e4
      omega
  · obtain ⟨o1, o2, o3, eo⟩ : ∃ o1 o2 o3, out.toList = [.int p.1 o1, .int p.2.1 o2, .int p.2.2 o3] := by
      revert a1
      generalize out.toList = l
      intro a1
      cases a1 with | cons _ t1 a1 => cases a1 with | cons _ t2 a1 => cases a1 with | cons _ t3 a1 => cases a1; exact ⟨t1, t2, t3, rfl⟩
    have eo2 : out = #[.int p.1 o1, .int p.2.1 o2, .int p.2.2 o3] := Array.toList_inj.mp eo
    rw [eo2]
    exact ⟨o1, o2, o3, IsTup.new _ _⟩
end
end Mine
namespace Mine
set_option maxRecDepth 100000
def thrice (ps : List (Int × Int × Int)) : List (Int × Int × Int) := ps.flatMap fun p => [p, p, p]
theorem thrice_len (ps : List (Int × Int × Int)) : (thrice ps).length = 3 * ps.length := by
  unfold thrice
  induction ps with
  | nil => rfl
  | cons p ps ih => simp only [List.flatMap_cons, List.length_append, ih, List.length_cons, List.length_nil]; omega
section
variable {w : World} {base : Heap} {L fa : Addr} {cd : Value} {mg mb : Str → Option Value} {mean : ExcName → Option Value} {loose : List Str} {A : Around} {E : Value → Shared → Prop} {s : Shared} {env : Env}
  {m : Str → Option Value} {cc cp co ck : Option Value} {tt : Array Value × Array Value}

/-- for turn in range(3) -/
theorem turns_leaf {gens : List Comprehension} {scope : Scope} {pos : Pos} {x tn : Str} {px p1 p2 p3 p4 p5 p6 p7 p8 p9 p10 p11 p12 p13 p14 : Pos} {k1 k2 k3 : Nat} {iter : Expr} {I D a : Addr} {cenv : Env} {R : Result → Shared → Prop} {depth : Nat} (c : Ctx w base L mg mb mean loose) (hh : A.handled = none)
    (hg : gens[depth]? = some ⟨.Name tn px, iter, [], 0⟩) (hn : gens[depth + 1]? = none) (hk : cenv.scope.kind = .function) (hgl : cenv.globals = mainGlobals) (hbn : cenv.builtins = builtinsNs)
    (ht : cenv.kindOf (Str.ofString "tuple") = some .globalImplicit) (hso : cenv.kindOf (Str.ofString "sorted") = some .globalImplicit) (lx : cenv.kindOf x = some .local) (lt : cenv.kindOf tn = some .local) (hxt : x ≠ tn) (dx : (x == ("__debug__" : Str)) = false)
    {N n : Nat} {h : Heap} {tk : Nat} {m : Str → Option Value} {p : Int × Int × Int} {ys : Array Value} {ps : List (Int × Int × Int)} (hn100 : n < 100)
    (hDI : D ≠ I) (hDC : D ≠ cenv.locals) (hCI : cenv.locals ≠ I) (hI : IsRangeIter h I 0 (n : Int) 1) (hns : h.Ns cenv.locals m) (hm : m x = some (.ref a)) (htup : Tup3 h a p.1 p.2.1 p.2.2) (h1 : p.1 < p.2.1) (h2 : p.2.1 < p.2.2)
    (hB : ∀ g, But [I, D, cenv.locals] h g → Grow base g) (hD : h.PlainList D ys) (hys : Triples h N ys.toList ps) (hz : ps.length < 10000) (hN : @LE.le Nat _ N D)
    (hst1 : starEach [Expr.Subscript (.Name x p4) (.Constant (.int 0) k1 p5) p6, .Subscript (.Name x p7) (.Constant (.int 1) k2 p8) p9, .Subscript (.Name x p10) (.Constant (.int 2) k3 p11) p12] cenv = [(false, eval (.Subscript (.Name x p4) (.Constant (.int 0) k1 p5) p6) cenv), (false, eval (.Subscript (.Name x p7) (.Constant (.int 1) k2 p8) p9) cenv), (false, eval (.Subscript (.Name x p10) (.Constant (.int 2) k3 p11) p12) cenv)])
    (done : ∀ h' tk' m' ys', But [I, D, cenv.locals] h h' → h'.Ns cenv.locals m' → h'.PlainList D ys' → Triples h' N ys'.toList (ps ++ List.replicate n p) → R (.ok .next) { s with heap := h', toks := tk' }) :
    codeAny (model lawProg w) A (.compLoop (.ListComp (.Call (.Name (Str.ofString "tuple") p1) [.Call (.Name (Str.ofString "sorted") p2) [.List [.Subscript (.Name x p4) (.Constant (.int 0) k1 p5) p6, .Subscript (.Name x p7) (.Constant (.int 1) k2 p8) p9, .Subscript (.Name x p10) (.Constant (.int 2) k3 p11) p12] p13] [] p14] [] p3) gens scope pos) depth (.ref I) (.ref D) cenv) R { s with heap := h, toks := tk } := by
  have W := LCg.range_walks (prog := lawProg) (w := w) (I := I) hh 0 n
  refine loop_leaf W lt (by simp [hk]) (by simpa using hCI) (fun i g m' => m' x = some (.ref a) ∧ Tup3 g a p.1 p.2.1 p.2.2 ∧ But [I, D, cenv.locals] h g ∧ ∃ ys', g.PlainList D ys' ∧ Triples g N ys'.toList (ps ++ List.replicate i p))
    ?_ hg hn (by simpa using hDI) hDC ?_ ?_ (by simpa using hI) hns ⟨hm, htup, .refl _ _, ys, hD, by simpa using hys⟩
  · rintro i g g' m' m'' hst hns' ⟨hm', ht', hb, ys', hD', hp⟩ k km
    have kB : But [I, cenv.locals] g g' := fun b o nb e => k b o (fun q => nb (by simp [q])) (fun q => nb (by simp [q])) e
    have nB : ∀ b ∈ [I, cenv.locals], NoTup g b := by
      intro b hb'
      simp only [List.mem_cons, List.not_mem_nil, or_false] at hb'
      rcases hb' with rfl | rfl
      · exact noTup_range hst
      · exact noTup_ns hns'
    refine ⟨(km x hxt).trans hm', kB.tup3 nB ht', hb.trans (kB.mono (by simp)), ys', ?_, hp.but kB nB⟩
    obtain ⟨nn, e⟩ := hD'
    exact ⟨nn, k _ _ hDI hDC e⟩
  · rintro i v g m' tk' E' hi ⟨t', rfl⟩ hst hns' hmx ⟨hm', ht', hb, ys', hD', hp⟩
    refine ev_turn (s := { s with heap := g, toks := tk' }) c (hB g hb) hgl hbn hk ht hso lx dx hns' hm' ht' h1 h2 hst1 fun T h3 tk3 g3 hT3 tup3 => ⟨h3, tk3, ys', rfl, g3, ?_, ?_, ?_⟩
    · obtain ⟨nn, e⟩ := hD'; exact ⟨nn, g3 _ _ e⟩
    · have := hp.length
      simp only [List.length_append, List.length_replicate, Array.length_toList] at this
      rw [this]; rw [sizeLine_eq]; omega
    · intro h₄ hs₄ hl₄
      dsimp only at g3 hT3
      have hlt : @LT.lt Nat _ D g.objs.size := by obtain ⟨nn, e⟩ := hD'; exact Heap.lt_size e
      have hD3 : h3.PlainList D ys' := by obtain ⟨nn, e⟩ := hD'; exact ⟨nn, g3 _ _ e⟩
      have b4 : But [D] h3 h₄ := sameBut_but hs₄ (by simp)
      have nD : ∀ b ∈ [D], NoTup h3 b := fun b hb' => by rw [List.mem_singleton.mp hb']; exact noTup_list hD3
      refine ⟨hm', b4.tup3 nD (ht'.keeps g3), (hb.trans g3.but).trans (b4.mono (by simp)), _, hl₄, ?_⟩
      rw [List.replicate_succ', ← List.append_assoc]
      exact triples_snoc ((hp.keeps g3).but b4 nD) (Nat.le_trans hN (Nat.le_trans (Nat.le_of_lt hlt) hT3)) (b4.tup3 nD tup3)
  · rintro g tk' m' ⟨hm', ht', hb, ys', hD', hp⟩ hns'
    exact done g tk' m' ys' hb hns' hD' hp

/-- for three in same for turn in range(3) -/
theorem turns_outer {gens : List Comprehension} {scope : Scope} {pos : Pos} {x tn : Str} {px pt p1 p2 p3 p4 p5 p6 p7 p8 p9 p10 p11 p12 p13 p14 r1 r2 r3 : Pos} {k1 k2 k3 k4 : Nat} {iter : Expr} {I D S0 : Addr} {cenv : Env} {R : Result → Shared → Prop} (c : Ctx w base L mg mb mean loose) (hh : A.handled = none)
    (hg : gens = [⟨.Name x px, iter, [], 0⟩, ⟨.Name tn pt, .Call (.Name (Str.ofString "range") r1) [.Constant (.int 3) k4 r2] [] r3, [], 0⟩]) (hk : cenv.scope.kind = .function) (hgl : cenv.globals = mainGlobals) (hbn : cenv.builtins = builtinsNs)
    (ht : cenv.kindOf (Str.ofString "tuple") = some .globalImplicit) (hso : cenv.kindOf (Str.ofString "sorted") = some .globalImplicit) (hr : cenv.kindOf (Str.ofString "range") = some .globalImplicit) (lx : cenv.kindOf x = some .local) (lt : cenv.kindOf tn = some .local) (hxt : x ≠ tn) (dx : (x == ("__debug__" : Str)) = false)
    {N : Nat} {h : Heap} {tk : Nat} {m : Str → Option Value} {vs : Array Value} {ps : List (Int × Int × Int)} (hz : ps.length < 1000)
    (hDI : D ≠ I) (hDC : D ≠ cenv.locals) (hCI : cenv.locals ≠ I) (hSI : S0 ≠ I) (hSC : S0 ≠ cenv.locals) (hSD : S0 ≠ D) (hI : h.IsListIter I S0 0) (hS : h.IsList S0 vs) (hvs : Triples h 0 vs.toList ps) (hinc : ∀ p ∈ ps, p.1 < p.2.1 ∧ p.2.1 < p.2.2) (hns : h.Ns cenv.locals m)
    (hB : ∀ g, But [I, D, cenv.locals] h g → Grow base g) (hD : h.PlainList D #[]) (hN : @LE.le Nat _ N D)
    (hst1 : starEach [Expr.Subscript (.Name x p4) (.Constant (.int 0) k1 p5) p6, .Subscript (.Name x p7) (.Constant (.int 1) k2 p8) p9, .Subscript (.Name x p10) (.Constant (.int 2) k3 p11) p12] cenv = [(false, eval (.Subscript (.Name x p4) (.Constant (.int 0) k1 p5) p6) cenv), (false, eval (.Subscript (.Name x p7) (.Constant (.int 1) k2 p8) p9) cenv), (false, eval (.Subscript (.Name x p10) (.Constant (.int 2) k3 p11) p12) cenv)])
    (done : ∀ h' tk' m' ys', But [I, D, cenv.locals] h h' → h'.Ns cenv.locals m' → h'.PlainList D ys' → Triples h' N ys'.toList (thrice ps) → R (.ok .next) { s with heap := h', toks := tk' }) :
    codeAny (model lawProg w) A (.compLoop (.ListComp (.Call (.Name (Str.ofString "tuple") p1) [.Call (.Name (Str.ofString "sorted") p2) [.List [.Subscript (.Name x p4) (.Constant (.int 0) k1 p5) p6, .Subscript (.Name x p7) (.Constant (.int 1) k2 p8) p9, .Subscript (.Name x p10) (.Constant (.int 2) k3 p11) p12] p13] [] p14] [] p3) gens scope pos) 0 (.ref I) (.ref D) cenv) R { s with heap := h, toks := tk } := by
  have hsz : vs.size = ps.length := by have := Paired.length hvs; simpa using this
  have W := Walks.list (prog := lawProg) (w := w) hh I S0 hSI vs
  refine loop_inner W lx (by simp [hk]) (by simp only [List.mem_cons, List.not_mem_nil, or_false, not_or]; exact ⟨hCI, Ne.symm hSC⟩) (fun i g m' => But [I, D, cenv.locals] h g ∧ Triples g 0 vs.toList ps ∧ ∃ ys', g.PlainList D ys' ∧ Triples g N ys'.toList (thrice (ps.take i)))
    ?_ (depth := 0) (iter := iter) (px := px) (by rw [hg]; rfl) (t' := .Name tn pt) (iter' := .Call (.Name (Str.ofString "range") r1) [.Constant (.int 3) k4 r2] [] r3) (ifs' := []) (by rw [hg]; rfl) (fun _ => rfl) ?_ ?_ ⟨hI, hS⟩ hns ⟨.refl _ _, hvs, #[], hD, .nil⟩
  · rintro i g g' m' m'' hst hns' ⟨hb, hvs', ys', hD', hp⟩ k _
    have kB : But [I, cenv.locals] g g' := fun b o nb e => k b o (fun q => nb (by simp [q])) (fun q => nb (by simp [q])) e
    have nB : ∀ b ∈ [I, cenv.locals], NoTup g b := by
      intro b hb'
      simp only [List.mem_cons, List.not_mem_nil, or_false] at hb'
      rcases hb' with rfl | rfl
      · exact noTup_listIter hst.1
      · exact noTup_ns hns'
    refine ⟨hb.trans (kB.mono (by simp)), hvs'.but kB nB, ys', ?_, hp.but kB nB⟩
    obtain ⟨nn, e⟩ := hD'
    exact ⟨nn, k _ _ hDI hDC e⟩
  · rintro i v g m' tk' E' hi hv hst hns' hmx ⟨hb, hvs', ys', hD', hp⟩
    have hi' : i < ps.length := by rw [← hsz]; exact hi
    obtain ⟨a, rfl, _, htup⟩ := paired_get hvs' (by simpa using hv : vs.toList[i]? = some v) (List.getElem?_eq_getElem hi')
    have hin := hinc _ (List.getElem_mem hi')
    refine src_range1 (k := 3) (by omega) (by omega) (fun Q E hq => nm_builtin c hgl hbn hk hr (hB g hb) K_range (by decide +kernel) (by decide) (by decide) hq) (fun Q hq => wpAny_Constant_int (hq _ _)) rfl ?_
    intro I2 h₂ tk₂ kg hI2 hI2' hr2
    replace hI2 : @LE.le Nat _ g.objs.size I2 := hI2
    replace kg : Grow g h₂ := kg
    have hltD : @LT.lt Nat _ D g.objs.size := by obtain ⟨nn, e⟩ := hD'; exact Heap.lt_size e
    have hltC : @LT.lt Nat _ cenv.locals g.objs.size := hns'.lt
    refine comp_start (depth := 0 + 1) (t := .Name tn pt) (iter := .Call (.Name (Str.ofString "range") r1) [.Constant (.int 3) k4 r2] [] r3) (ifs := []) (by rw [hg]; rfl) (fun Q E hq => (LCg.range_walks (prog := lawProg) (w := w) (I := I2) hh 0 3).self 0 _ _ _ (by simpa using hr2) hq) ?_
    refine turns_leaf (s := { s with heap := g, toks := tk' }) (n := 3) (a := a) (p := ps[i]) (N := N) (ps := thrice (ps.take i)) (iter := .Call (.Name (Str.ofString "range") r1) [.Constant (.int 3) k4 r2] [] r3) (px := pt) c hh (by rw [hg]; rfl) (by rw [hg]; rfl) hk hgl hbn ht hso lx lt hxt dx (by omega) (neN (by omega)) hDC (neN (by omega)) hr2 (hns'.keeps kg) hmx (htup.keeps kg) hin.1 hin.2 (fun g' hb' => hB g' (hb.trans ((But.fresh kg hI2 hb').mono (by simp)))) (by obtain ⟨nn, e⟩ := hD'; exact ⟨nn, kg _ _ e⟩) (hp.keeps kg) (by rw [thrice_len, List.length_take]; omega) hN hst1 ?_
    intro h' tk'' m'' ys'' hb' hns'' hD'' hp''
    have hB' : But [D, cenv.locals] g h' := But.fresh kg hI2 hb'
    have nB : ∀ b ∈ [D, cenv.locals], NoTup g b := by
      intro b hb'
      simp only [List.mem_cons, List.not_mem_nil, or_false] at hb'
      rcases hb' with rfl | rfl
      · exact noTup_list hD'
      · exact noTup_ns hns'
    have nI : I ∉ [D, cenv.locals] := by
      simp only [List.mem_cons, List.not_mem_nil, or_false, not_or]
      exact ⟨Ne.symm hDI, Ne.symm hCI⟩
    have nS : S0 ∉ [D, cenv.locals] := by
      simp only [List.mem_cons, List.not_mem_nil, or_false, not_or]
      exact ⟨hSD, hSC⟩
    refine ⟨h', tk'', m'', rfl, ⟨hst.1.at fun o e => hB' I o nI e, ?_⟩, hns'', hb.trans (hB'.mono (by simp)), hvs'.but hB' nB, ys'', hD'', ?_⟩
    · obtain ⟨o, e, r⟩ := hst.2; exact ⟨o, hB' _ _ nS e, r⟩
    · have et : ps.take (i + 1) = ps.take i ++ [ps[i]] := by rw [List.take_add_one, List.getElem?_eq_getElem hi']; rfl
      rw [et]
      unfold thrice at hp'' ⊢
      rw [List.flatMap_append]
      simpa using hp''
  · rintro g tk' m' ⟨hb, _, ys', hD', hp⟩ hns'
    rw [List.take_of_length_le (by rw [hsz]; exact Nat.le_refl _)] at hp
    exact done g tk' m' ys' hb hns' hD' hp
end
end Mine
namespace Mine
set_option maxRecDepth 100000
section
variable {w : World} {base : Heap} {L fa : Addr} {cd : Value} {mg mb : Str → Option Value} {mean : ExcName → Option Value} {loose : List Str} {E : Value → Shared → Prop} {s : Shared}
  {m : Str → Option Value} {cc cp co ck : Option Value} {tt : Array Value × Array Value}

set_option maxHeartbeats 1000000 in
theorem st_turns {Ds : Addr} {g0 : Heap} {vs : Array Value} {ps : List (Int × Int × Int)} {Q : Flow → Shared → Prop} (c : Ctx w base L mg mb mean loose) (S : LawSt base L s.heap m cc cp co ck tt) (G : Grow g0 (still L s.heap))
    (ms : m (Str.ofString "same") = some (.ref Ds)) (hs : g0.PlainList Ds vs) (hps : Triples g0 0 vs.toList ps) (hz : ps.length < 1000) (hin : ∀ p ∈ ps, p ∈ triTo 6)
    (k : ∀ D h' tk ys, LawSt base L h' (fun z => if z = Str.ofString "turns" then some (.ref D) else m z) cc cp co ck tt → Grow (still L s.heap) (still L h') → (still L h').PlainList D ys → Triples (still L h') 0 ys.toList (thrice ps) → Q .next { s with heap := h', toks := tk }) :
    wpAny (model lawProg w) (lawA L fa cd) (exec (stmt 11) (lawEnv L fa cd)) Q E s := by
  show wpAny _ _ (exec (.Assign [.Name _ _] (.ListComp (.Call (.Name _ _) [.Call (.Name _ _) [.List [.Subscript (.Name _ _) (.Constant (.int 0) _ _) _, .Subscript (.Name _ _) (.Constant (.int 1) _ _) _, .Subscript (.Name _ _) (.Constant (.int 2) _ _) _] _] [] _] [] _) (⟨_, _, _, _⟩ :: _) _ _) _) _) _ _ _
  have up := G.trans (still_le L s.heap)
  have hlist : s.heap.IsList Ds vs := by obtain ⟨nn, e⟩ := hs; exact ⟨_, up _ _ e, rfl, nn, rfl⟩
  refine assign_comp (cl := []) rfl rfl (by decide) rfl (by decide) rfl rfl ?_
  refine law_name S rfl ms (wpAny_pyIter_list hlist ?_)
  intro D C h₁ tk₁ hDC hD hC k₁ hDl hCn
  dsimp only at hD hC k₁ ⊢
  rw [Heap.size_push] at hD hC
  have hL := S.lt
  have kg : Grow s.heap (s.heap.push { cls := .type "list_iterator", data := .fields #[.ref Ds, .int 0 0] }) := .push _ _
  have k0 : Grow s.heap h₁ := kg.trans k₁
  have hlt : @LT.lt Nat _ Ds s.heap.objs.size := by obtain ⟨_, e, _⟩ := hlist; exact Heap.lt_size e
  have hI : h₁.IsListIter s.heap.objs.size Ds 0 := ⟨_, k₁ _ _ (Heap.get?_push_size _ rfl), rfl, rfl⟩
  have nS : ∀ q ∈ [s.heap.objs.size, D, C], @LE.le Nat _ s.heap.objs.size q := by
    intro q hq; simp only [List.mem_cons, List.not_mem_nil, or_false] at hq; rcases hq with rfl | rfl | rfl <;> omega
  refine comp_start (depth := 0) (by exact rfl) (fun Q E hq => wpAny_pyIter_listiter hI hq) ?_
  refine turns_outer (S0 := Ds) (vs := vs) (ps := ps) (N := D) (I := s.heap.objs.size) (x := Str.ofString "three") (tn := Str.ofString "turn") (s := { s with heap := s.heap.push { cls := .type "list_iterator", data := .fields #[.ref Ds, .int 0 0] } }) c rfl (by exact rfl) rfl rfl rfl rfl rfl rfl rfl rfl (by decide) (by decide) hz (neN (by omega)) (neN hDC) (show @Ne Nat C s.heap.objs.size by omega) (neN (by omega)) (show @Ne Nat Ds C by omega) (neN (by omega)) hI (isList_grow hlist k0) (hps.keeps (up.trans k0)) ?_ hCn (fun g hb' => Grow.trans S.fr.keep (but_new (S := [s.heap.objs.size, D, C]) hb' k0 nS)) hDl (Nat.le_refl _) rfl ?_
  · intro p hp
    obtain ⟨_, a, b, _⟩ := tri_mem (hin p hp)
    exact ⟨a, b⟩
  · intro h' tk' m' ys' hb' hn' hD' hp'
    have g' : Grow s.heap h' := but_new (S := [s.heap.objs.size, D, C]) hb' k0 nS
    refine ⟨(show @Ne Nat L C by omega), m', m, hn', S.fr.ns.keeps g', fun h'' tk'' hn'' k2 => ?_⟩
    obtain ⟨S', gs⟩ := comp_end c S g' hn'' k2 (by omega)
    obtain ⟨nn, e⟩ := hD'
    exact k D h'' tk'' ys' S' gs ⟨nn, new_still S k2 (by omega) hDC e⟩ (new_triples S k2 (by omega) hn' hp')
end
end Mine
namespace Mine
set_option maxRecDepth 100000

/-- do two lines differ -/
def D (a b : Int) : Int := if a = b then 0 else 1
def M (a b c : Int) : Int := if (a == b && b == c) = true then 1 else 0
theorem tri_one {a b c : Int} (h1 : a = 0 ∨ a = 1) (h2 : b = 0 ∨ b = 1) (h3 : c = 0 ∨ c = 1) : D a b + D b c + D a c = 2 - 2 * M a b c := by
  rcases h1 with rfl | rfl <;> rcases h2 with rfl | rfl <;> rcases h3 with rfl | rfl <;> decide
theorem D_comm (a b : Int) : D a b = D b a := by unfold D; by_cases h : a = b <;> simp [h, eq_comm]
theorem filter_len {α : Type} (p : α → Bool) (l : List α) : ((l.filter p).length : Int) = l.foldr (fun t n => (if p t = true then 1 else 0) + n) 0 := by
  induction l with
  | nil => rfl
  | cons a l ih =>
    simp only [List.filter_cons, List.foldr_cons]
    split
    · rw [List.length_cons]; omega
    · omega
theorem row_0 (x : Int) : rowOf x 0 = [bit x 0, bit x 1, bit x 3, bit x 6, bit x 10] := by rfl
theorem row_1 (x : Int) : rowOf x 1 = [bit x 0, bit x 2, bit x 4, bit x 7, bit x 11] := by rfl
theorem row_2 (x : Int) : rowOf x 2 = [bit x 1, bit x 2, bit x 5, bit x 8, bit x 12] := by rfl
theorem row_3 (x : Int) : rowOf x 3 = [bit x 3, bit x 4, bit x 5, bit x 9, bit x 13] := by rfl
theorem row_4 (x : Int) : rowOf x 4 = [bit x 6, bit x 7, bit x 8, bit x 9, bit x 14] := by rfl
theorem row_5 (x : Int) : rowOf x 5 = [bit x 10, bit x 11, bit x 12, bit x 13, bit x 14] := by rfl
theorem prods_are (x : Int) : products x = [prodOf x 0, prodOf x 1, prodOf x 2, prodOf x 3, prodOf x 4, prodOf x 5] := by rfl
theorem tris_are : triTo 6 = [(0, 1, 2), (0, 1, 3), (0, 2, 3), (1, 2, 3), (0, 1, 4), (0, 2, 4), (1, 2, 4), (0, 3, 4), (1, 3, 4), (2, 3, 4), (0, 1, 5), (0, 2, 5), (1, 2, 5), (0, 3, 5), (1, 3, 5), (2, 3, 5), (0, 4, 5), (1, 4, 5), (2, 4, 5), (3, 4, 5)] := by decide +kernel
end Mine
namespace Mine
set_option maxRecDepth 100000
def prs : List Nat → List (Nat × Nat)
  | [] => []
  | a :: l => l.map (fun b => (a, b)) ++ prs l
def rowN : List (List Nat) := [[0, 1, 3, 6, 10], [0, 2, 4, 7, 11], [1, 2, 5, 8, 12], [3, 4, 5, 9, 13], [6, 7, 8, 9, 14], [10, 11, 12, 13, 14]]
def sumD (x : Int) : List (Nat × Nat) → Int
  | [] => 0
  | p :: l => D (bit x p.1) (bit x p.2) + sumD x l
def triL (p : Int × Int × Int) : List (Nat × Nat) := [(lineNo p.1 p.2.1, lineNo p.1 p.2.2), (lineNo p.1 p.2.2, lineNo p.2.1 p.2.2), (lineNo p.1 p.2.1, lineNo p.2.1 p.2.2)]
theorem sumD_append (x : Int) (l l' : List (Nat × Nat)) : sumD x (l ++ l') = sumD x l + sumD x l' := by
  induction l with
  | nil => show sumD x l' = 0 + sumD x l'; omega
  | cons p l ih => show D _ _ + sumD x (l ++ l') = D _ _ + sumD x l + sumD x l'; rw [ih]; omega
theorem sumD_perm (x : Int) {l l' : List (Nat × Nat)} (h : l.Perm l') : sumD x l = sumD x l' := by
  induction h with
  | nil => rfl
  | cons p _ ih => show D _ _ + _ = D _ _ + _; rw [ih]
  | swap p q l => show D _ _ + (D _ _ + _) = D _ _ + (D _ _ + _); omega
  | trans _ _ h1 h2 => exact h1.trans h2
theorem sumD_rows (x : Int) (l : List (List Nat)) : sumD x (l.flatMap prs) = (l.map fun r => sumD x (prs r)).foldr (· + ·) 0 := by
  induction l with
  | nil => rfl
  | cons r l ih => rw [List.flatMap_cons, sumD_append, ih]; rfl
theorem tri_step (x i j k S : Int) : D (bit x (lineNo i j)) (bit x (lineNo i k)) + (D (bit x (lineNo i k)) (bit x (lineNo j k)) + (D (bit x (lineNo i j)) (bit x (lineNo j k)) + S)) = 2 - 2 * (if mono x (i, j, k) = true then (1 : Int) else 0) + S := by
  have h := tri_one (bit_two x (lineNo i j)) (bit_two x (lineNo j k)) (bit_two x (lineNo i k))
  rw [D_comm (bit x (lineNo j k))] at h
  have e : (if mono x (i, j, k) = true then (1 : Int) else 0) = M (bit x (lineNo i j)) (bit x (lineNo j k)) (bit x (lineNo i k)) := rfl
  rw [e]
  generalize D (bit x (lineNo i j)) (bit x (lineNo i k)) = d1 at *
  generalize D (bit x (lineNo i k)) (bit x (lineNo j k)) = d2 at *
  generalize D (bit x (lineNo i j)) (bit x (lineNo j k)) = d3 at *
  omega
theorem sumD_tris (x : Int) (l : List (Int × Int × Int)) : sumD x (l.flatMap triL) = 2 * (l.length : Int) - 2 * ((l.filter (mono x)).length : Int) := by
  induction l with
  | nil => rfl
  | cons p l ih =>
    obtain ⟨i, j, k⟩ := p
    have e : sumD x (((i, j, k) :: l).flatMap triL) = 2 - 2 * (if mono x (i, j, k) = true then (1 : Int) else 0) + sumD x (l.flatMap triL) := by
      rw [List.flatMap_cons, sumD_append]
      have := tri_step x i j k 0
      show D _ _ + (D _ _ + (D _ _ + 0)) + _ = _
      rw [this]
      omega
    rw [e, ih, List.filter_cons, List.length_cons]
    by_cases hm : mono x (i, j, k) = true
    · rw [if_pos hm, if_pos hm, List.length_cons]; omega
    · rw [if_neg hm, if_neg hm]; omega
def okRow (a1 a2 a3 a4 a5 : Int) : Prop :=
    (cnt [a1, a2, a3, a4, a5] 1 : Int) * (cnt [a1, a2, a3, a4, a5] 0 : Int) = D a1 a2 + (D a1 a3 + (D a1 a4 + (D a1 a5 + (D a2 a3 + (D a2 a4 + (D a2 a5 + (D a3 a4 + (D a3 a5 + (D a4 a5 + 0)))))))))
    ∧ (cnt [a1, a2, a3, a4, a5] 1 : Int) * (cnt [a1, a2, a3, a4, a5] 0 : Int) ≤ 6 ∧ ((cnt [a1, a2, a3, a4, a5] 1 : Int) * (cnt [a1, a2, a3, a4, a5] 0 : Int) = 0 ∨ 4 ≤ (cnt [a1, a2, a3, a4, a5] 1 : Int) * (cnt [a1, a2, a3, a4, a5] 0 : Int))
theorem okRows : ∀ a1 ∈ [(0 : Int), 1], ∀ a2 ∈ [(0 : Int), 1], ∀ a3 ∈ [(0 : Int), 1], ∀ a4 ∈ [(0 : Int), 1], ∀ a5 ∈ [(0 : Int), 1], okRow a1 a2 a3 a4 a5 := by unfold okRow; decide +kernel
theorem in01 {a : Int} (h : a = 0 ∨ a = 1) : a ∈ [(0 : Int), 1] := by rcases h with rfl | rfl <;> simp
/-- of a row: its lines of both colours, and what that product can be -/
theorem prod_is (x i : Int) (a b c d e : Nat) (hr : rowOf x i = [bit x a, bit x b, bit x c, bit x d, bit x e]) : prodOf x i = sumD x (prs [a, b, c, d, e]) ∧ prodOf x i ≤ 6 ∧ (prodOf x i = 0 ∨ 4 ≤ prodOf x i) := by
  unfold prodOf
  rw [hr]
  exact okRows _ (in01 (bit_two x a)) _ (in01 (bit_two x b)) _ (in01 (bit_two x c)) _ (in01 (bit_two x d)) _ (in01 (bit_two x e))
theorem fold_bd : ∀ (l : List Int) (s : Int), (s = 0 ∨ 4 ≤ s) → (∀ p ∈ l, p ≤ 6 ∧ (p = 0 ∨ 4 ≤ p)) → (l.foldl (· + ·) s = 0 ∨ 4 ≤ l.foldl (· + ·) s) ∧ l.foldl (· + ·) s ≤ s + 6 * (l.length : Int)
  | [], s, hs, _ => ⟨hs, by show s ≤ s + 6 * ((0 : Nat) : Int); omega⟩
  | p :: l, s, hs, h => by
    have hp := h p (.head _)
    have := fold_bd l (s + p) (by omega) fun q hq => h q (.tail _ hq)
    refine ⟨this.1, Int.le_trans this.2 ?_⟩
    rw [List.length_cons]
    omega
theorem fold_lr (l : List Int) : ∀ s : Int, l.foldl (· + ·) s = s + l.foldr (· + ·) 0 := by
  induction l with
  | nil => intro s; show s = s + 0; omega
  | cons p l ih => intro s; show l.foldl _ (s + p) = s + (p + l.foldr _ 0); rw [ih]; omega
/-- Goodman's count -/
theorem goodman (x : Int) : ((same x).length : Int) * 2 = 40 - (products x).foldl (· + ·) 0 ∧ 0 ≤ (products x).foldl (· + ·) 0 ∧ (products x).foldl (· + ·) 0 ≤ 36 ∧ ((products x).foldl (· + ·) 0 = 0 ∨ 4 ≤ (products x).foldl (· + ·) 0) := by
  have r0 := prod_is x 0 _ _ _ _ _ (row_0 x)
  have r1 := prod_is x 1 _ _ _ _ _ (row_1 x)
  have r2 := prod_is x 2 _ _ _ _ _ (row_2 x)
  have r3 := prod_is x 3 _ _ _ _ _ (row_3 x)
  have r4 := prod_is x 4 _ _ _ _ _ (row_4 x)
  have r5 := prod_is x 5 _ _ _ _ _ (row_5 x)
  have hall : ∀ p ∈ products x, p ≤ 6 ∧ (p = 0 ∨ 4 ≤ p) := by
    rw [prods_are]
    intro p hp
    rcases List.mem_cons.mp hp with rfl | hp
    · exact r0.2
    rcases List.mem_cons.mp hp with rfl | hp
    · exact r1.2
    rcases List.mem_cons.mp hp with rfl | hp
    · exact r2.2
    rcases List.mem_cons.mp hp with rfl | hp
    · exact r3.2
    rcases List.mem_cons.mp hp with rfl | hp
    · exact r4.2
    rcases List.mem_cons.mp hp with rfl | hp
    · exact r5.2
    cases hp
  have hb := fold_bd (products x) 0 (.inl rfl) hall
  have hs : (products x).foldl (· + ·) 0 = 2 * 20 - 2 * ((same x).length : Int) := by
    have h1 : sumD x (rowN.flatMap prs) = sumD x ((triTo 6).flatMap triL) := sumD_perm x (by decide +kernel)
    rw [sumD_tris, sumD_rows] at h1
    have h2 : (products x).foldl (· + ·) 0 = (rowN.map fun r => sumD x (prs r)).foldr (· + ·) 0 := by
      rw [fold_lr, prods_are, r0.1, r1.1, r2.1, r3.1, r4.1, r5.1]
      exact Int.zero_add _
    rw [h2, h1]
    rfl
  have hl : 6 * ((products x).length : Int) = 36 := by rw [prods_are]; rfl
  rw [hl] at hb
  clear hall r0 r1 r2 r3 r4 r5 hl
  generalize (products x).foldl (· + ·) 0 = S at *
  omega
end Mine
namespace Mine
set_option maxRecDepth 100000
set_option maxHeartbeats 4000000
theorem cnt_sum (ns : List Int) (kd : Int) : (cnt ns kd : Int) = ns.foldr (fun t n => (if (t == kd) = true then 1 else 0) + n) 0 := filter_len _ ns
def F (x kd : Int) (r : Nat) : Int := if (bit x r == kd) = true then 1 else 0
theorem F_two (x kd : Int) (r : Nat) : F x kd r = 0 ∨ F x kd r = 1 := by unfold F; split <;> simp
def Two (e : Int) : Prop := e = 0 ∨ e = 1
theorem F_bd (x kd : Int) (r : Nat) : 0 ≤ F x kd r ∧ F x kd r ≤ 1 := by rcases F_two x kd r with h | h <;> omega
theorem three_F {x kd a b c : Int} (h : ¬ ((a == b && b == c) = true ∧ (a == kd) = true)) : (if (a == kd) = true then (1 : Int) else 0) + (if (b == kd) = true then (1 : Int) else 0) + (if (c == kd) = true then (1 : Int) else 0) ≤ 2 := by
  by_cases ha : a = kd
  · subst ha
    by_cases hb : a = b
    · subst hb
      by_cases hc : a = c
      · subst hc; exact absurd (by simp) h
      · have : (c == a) = false := by simpa using fun e => hc e.symm
        simp [this]
    · have : (b == a) = false := by simpa using fun e => hb e.symm
      simp [this]; split <;> omega
  · have : (a == kd) = false := by simpa using ha
    simp [this]; split <;> split <;> omega
theorem sq {d : Int} (h0 : 0 ≤ d) (h1 : d ≤ 5) : 6 * d - 9 ≤ d * d := by
  have : d = 0 ∨ d = 1 ∨ d = 2 ∨ d = 3 ∨ d = 4 ∨ d = 5 := by omega
  rcases this with rfl | rfl | rfl | rfl | rfl | rfl <;> decide
theorem sum5 {a b c d e : Int} (h1 : 0 ≤ a ∧ a ≤ 1) (h2 : 0 ≤ b ∧ b ≤ 1) (h3 : 0 ≤ c ∧ c ≤ 1) (h4 : 0 ≤ d ∧ d ≤ 1) (h5 : 0 ≤ e ∧ e ≤ 1) : 6 * (a + b + c + d + e) - 9 ≤ (a + b + c + d + e) * (a + b + c + d + e) := sq (by omega) (by omega)
theorem edge {f p q : Int} (hf : f = 0 ∨ f = 1) (h : f = 1 → p + q ≤ 6) : f * p + f * q ≤ 6 * f := by
  rcases hf with rfl | rfl
  · omega
  · have := h rfl; omega
theorem mul5 {a b c d e z : Int} : (a + b + c + d + e) * z = a * z + b * z + c * z + d * z + e * z := by simp only [Int.add_mul]
theorem edge_0 {e0 e1 e2 e3 e4 e6 e7 e10 e11 : Int} (h2 : e0 + e2 + e1 ≤ 2) (h3 : e0 + e4 + e3 ≤ 2) (h4 : e0 + e7 + e6 ≤ 2) (h5 : e0 + e11 + e10 ≤ 2) (h : e0 = 1) : (e0 + e1 + e3 + e6 + e10) + (e0 + e2 + e4 + e7 + e11) ≤ 6 := by omega
theorem edge_1 {e0 e1 e2 e3 e5 e6 e8 e10 e12 : Int} (h1 : e0 + e2 + e1 ≤ 2) (h3 : e1 + e5 + e3 ≤ 2) (h4 : e1 + e8 + e6 ≤ 2) (h5 : e1 + e12 + e10 ≤ 2) (h : e1 = 1) : (e0 + e1 + e3 + e6 + e10) + (e1 + e2 + e5 + e8 + e12) ≤ 6 := by omega
theorem edge_2 {e0 e1 e2 e4 e5 e7 e8 e11 e12 : Int} (h0 : e0 + e2 + e1 ≤ 2) (h3 : e2 + e5 + e4 ≤ 2) (h4 : e2 + e8 + e7 ≤ 2) (h5 : e2 + e12 + e11 ≤ 2) (h : e2 = 1) : (e0 + e2 + e4 + e7 + e11) + (e1 + e2 + e5 + e8 + e12) ≤ 6 := by omega
theorem edge_3 {e0 e1 e3 e4 e5 e6 e9 e10 e13 : Int} (h1 : e0 + e4 + e3 ≤ 2) (h2 : e1 + e5 + e3 ≤ 2) (h4 : e3 + e9 + e6 ≤ 2) (h5 : e3 + e13 + e10 ≤ 2) (h : e3 = 1) : (e0 + e1 + e3 + e6 + e10) + (e3 + e4 + e5 + e9 + e13) ≤ 6 := by omega
theorem edge_4 {e0 e2 e3 e4 e5 e7 e9 e11 e13 : Int} (h0 : e0 + e4 + e3 ≤ 2) (h2 : e2 + e5 + e4 ≤ 2) (h4 : e4 + e9 + e7 ≤ 2) (h5 : e4 + e13 + e11 ≤ 2) (h : e4 = 1) : (e0 + e2 + e4 + e7 + e11) + (e3 + e4 + e5 + e9 + e13) ≤ 6 := by omega
theorem edge_5 {e1 e2 e3 e4 e5 e8 e9 e12 e13 : Int} (h0 : e1 + e5 + e3 ≤ 2) (h1 : e2 + e5 + e4 ≤ 2) (h4 : e5 + e9 + e8 ≤ 2) (h5 : e5 + e13 + e12 ≤ 2) (h : e5 = 1) : (e1 + e2 + e5 + e8 + e12) + (e3 + e4 + e5 + e9 + e13) ≤ 6 := by omega
theorem edge_6 {e0 e1 e3 e6 e7 e8 e9 e10 e14 : Int} (h1 : e0 + e7 + e6 ≤ 2) (h2 : e1 + e8 + e6 ≤ 2) (h3 : e3 + e9 + e6 ≤ 2) (h5 : e6 + e14 + e10 ≤ 2) (h : e6 = 1) : (e0 + e1 + e3 + e6 + e10) + (e6 + e7 + e8 + e9 + e14) ≤ 6 := by omega
theorem edge_7 {e0 e2 e4 e6 e7 e8 e9 e11 e14 : Int} (h0 : e0 + e7 + e6 ≤ 2) (h2 : e2 + e8 + e7 ≤ 2) (h3 : e4 + e9 + e7 ≤ 2) (h5 : e7 + e14 + e11 ≤ 2) (h : e7 = 1) : (e0 + e2 + e4 + e7 + e11) + (e6 + e7 + e8 + e9 + e14) ≤ 6 := by omega
theorem edge_8 {e1 e2 e5 e6 e7 e8 e9 e12 e14 : Int} (h0 : e1 + e8 + e6 ≤ 2) (h1 : e2 + e8 + e7 ≤ 2) (h3 : e5 + e9 + e8 ≤ 2) (h5 : e8 + e14 + e12 ≤ 2) (h : e8 = 1) : (e1 + e2 + e5 + e8 + e12) + (e6 + e7 + e8 + e9 + e14) ≤ 6 := by omega
theorem edge_9 {e3 e4 e5 e6 e7 e8 e9 e13 e14 : Int} (h0 : e3 + e9 + e6 ≤ 2) (h1 : e4 + e9 + e7 ≤ 2) (h2 : e5 + e9 + e8 ≤ 2) (h5 : e9 + e14 + e13 ≤ 2) (h : e9 = 1) : (e3 + e4 + e5 + e9 + e13) + (e6 + e7 + e8 + e9 + e14) ≤ 6 := by omega
theorem edge_10 {e0 e1 e3 e6 e10 e11 e12 e13 e14 : Int} (h1 : e0 + e11 + e10 ≤ 2) (h2 : e1 + e12 + e10 ≤ 2) (h3 : e3 + e13 + e10 ≤ 2) (h4 : e6 + e14 + e10 ≤ 2) (h : e10 = 1) : (e0 + e1 + e3 + e6 + e10) + (e10 + e11 + e12 + e13 + e14) ≤ 6 := by omega
theorem edge_11 {e0 e2 e4 e7 e10 e11 e12 e13 e14 : Int} (h0 : e0 + e11 + e10 ≤ 2) (h2 : e2 + e12 + e11 ≤ 2) (h3 : e4 + e13 + e11 ≤ 2) (h4 : e7 + e14 + e11 ≤ 2) (h : e11 = 1) : (e0 + e2 + e4 + e7 + e11) + (e10 + e11 + e12 + e13 + e14) ≤ 6 := by omega
theorem edge_12 {e1 e2 e5 e8 e10 e11 e12 e13 e14 : Int} (h0 : e1 + e12 + e10 ≤ 2) (h1 : e2 + e12 + e11 ≤ 2) (h3 : e5 + e13 + e12 ≤ 2) (h4 : e8 + e14 + e12 ≤ 2) (h : e12 = 1) : (e1 + e2 + e5 + e8 + e12) + (e10 + e11 + e12 + e13 + e14) ≤ 6 := by omega
theorem edge_13 {e3 e4 e5 e9 e10 e11 e12 e13 e14 : Int} (h0 : e3 + e13 + e10 ≤ 2) (h1 : e4 + e13 + e11 ≤ 2) (h2 : e5 + e13 + e12 ≤ 2) (h4 : e9 + e14 + e13 ≤ 2) (h : e13 = 1) : (e3 + e4 + e5 + e9 + e13) + (e10 + e11 + e12 + e13 + e14) ≤ 6 := by omega
theorem edge_14 {e6 e7 e8 e9 e10 e11 e12 e13 e14 : Int} (h0 : e6 + e14 + e10 ≤ 2) (h1 : e7 + e14 + e11 ≤ 2) (h2 : e8 + e14 + e12 ≤ 2) (h3 : e9 + e14 + e13 ≤ 2) (h : e14 = 1) : (e6 + e7 + e8 + e9 + e14) + (e10 + e11 + e12 + e13 + e14) ≤ 6 := by omega
theorem bd01 {e : Int} (h : e = 0 ∨ e = 1) : 0 ≤ e ∧ e ≤ 1 := by omega
/-- a colour without a three has no more than nine lines -/
theorem mantel_core {e0 e1 e2 e3 e4 e5 e6 e7 e8 e9 e10 e11 e12 e13 e14 : Int} (b0 : e0 = 0 ∨ e0 = 1) (b1 : e1 = 0 ∨ e1 = 1) (b2 : e2 = 0 ∨ e2 = 1) (b3 : e3 = 0 ∨ e3 = 1) (b4 : e4 = 0 ∨ e4 = 1) (b5 : e5 = 0 ∨ e5 = 1) (b6 : e6 = 0 ∨ e6 = 1) (b7 : e7 = 0 ∨ e7 = 1) (b8 : e8 = 0 ∨ e8 = 1) (b9 : e9 = 0 ∨ e9 = 1) (b10 : e10 = 0 ∨ e10 = 1) (b11 : e11 = 0 ∨ e11 = 1) (b12 : e12 = 0 ∨ e12 = 1) (b13 : e13 = 0 ∨ e13 = 1) (b14 : e14 = 0 ∨ e14 = 1) (t_0_1_2 : e0 + e2 + e1 ≤ 2) (t_0_1_3 : e0 + e4 + e3 ≤ 2) (t_0_2_3 : e1 + e5 + e3 ≤ 2) (t_1_2_3 : e2 + e5 + e4 ≤ 2) (t_0_1_4 : e0 + e7 + e6 ≤ 2) (t_0_2_4 : e1 + e8 + e6 ≤ 2) (t_1_2_4 : e2 + e8 + e7 ≤ 2) (t_0_3_4 : e3 + e9 + e6 ≤ 2) (t_1_3_4 : e4 + e9 + e7 ≤ 2) (t_2_3_4 : e5 + e9 + e8 ≤ 2) (t_0_1_5 : e0 + e11 + e10 ≤ 2) (t_0_2_5 : e1 + e12 + e10 ≤ 2) (t_1_2_5 : e2 + e12 + e11 ≤ 2) (t_0_3_5 : e3 + e13 + e10 ≤ 2) (t_1_3_5 : e4 + e13 + e11 ≤ 2) (t_2_3_5 : e5 + e13 + e12 ≤ 2) (t_0_4_5 : e6 + e14 + e10 ≤ 2) (t_1_4_5 : e7 + e14 + e11 ≤ 2) (t_2_4_5 : e8 + e14 + e12 ≤ 2) (t_3_4_5 : e9 + e14 + e13 ≤ 2) : e0 + e1 + e2 + e3 + e4 + e5 + e6 + e7 + e8 + e9 + e10 + e11 + e12 + e13 + e14 ≤ 9 := by
  have c0 := bd01 b0
  have c1 := bd01 b1
  have c2 := bd01 b2
  have c3 := bd01 b3
  have c4 := bd01 b4
  have c5 := bd01 b5
  have c6 := bd01 b6
  have c7 := bd01 b7
  have c8 := bd01 b8
  have c9 := bd01 b9
  have c10 := bd01 b10
  have c11 := bd01 b11
  have c12 := bd01 b12
  have c13 := bd01 b13
  have c14 := bd01 b14
  have g0 := edge b0 (fun h => edge_0 t_0_1_2 t_0_1_3 t_0_1_4 t_0_1_5 h)
  have g1 := edge b1 (fun h => edge_1 t_0_1_2 t_0_2_3 t_0_2_4 t_0_2_5 h)
  have g2 := edge b2 (fun h => edge_2 t_0_1_2 t_1_2_3 t_1_2_4 t_1_2_5 h)
  have g3 := edge b3 (fun h => edge_3 t_0_1_3 t_0_2_3 t_0_3_4 t_0_3_5 h)
  have g4 := edge b4 (fun h => edge_4 t_0_1_3 t_1_2_3 t_1_3_4 t_1_3_5 h)
  have g5 := edge b5 (fun h => edge_5 t_0_2_3 t_1_2_3 t_2_3_4 t_2_3_5 h)
  have g6 := edge b6 (fun h => edge_6 t_0_1_4 t_0_2_4 t_0_3_4 t_0_4_5 h)
  have g7 := edge b7 (fun h => edge_7 t_0_1_4 t_1_2_4 t_1_3_4 t_1_4_5 h)
  have g8 := edge b8 (fun h => edge_8 t_0_2_4 t_1_2_4 t_2_3_4 t_2_4_5 h)
  have g9 := edge b9 (fun h => edge_9 t_0_3_4 t_1_3_4 t_2_3_4 t_3_4_5 h)
  have g10 := edge b10 (fun h => edge_10 t_0_1_5 t_0_2_5 t_0_3_5 t_0_4_5 h)
  have g11 := edge b11 (fun h => edge_11 t_0_1_5 t_1_2_5 t_1_3_5 t_1_4_5 h)
  have g12 := edge b12 (fun h => edge_12 t_0_2_5 t_1_2_5 t_2_3_5 t_2_4_5 h)
  have g13 := edge b13 (fun h => edge_13 t_0_3_5 t_1_3_5 t_2_3_5 t_3_4_5 h)
  have g14 := edge b14 (fun h => edge_14 t_0_4_5 t_1_4_5 t_2_4_5 t_3_4_5 h)
  have q0 := sum5 c0 c1 c3 c6 c10
  have q1 := sum5 c0 c2 c4 c7 c11
  have q2 := sum5 c1 c2 c5 c8 c12
  have q3 := sum5 c3 c4 c5 c9 c13
  have q4 := sum5 c6 c7 c8 c9 c14
  have q5 := sum5 c10 c11 c12 c13 c14
  clear t_0_1_2 t_0_1_3 t_0_2_3 t_1_2_3 t_0_1_4 t_0_2_4 t_1_2_4 t_0_3_4 t_1_3_4 t_2_3_4 t_0_1_5 t_0_2_5 t_1_2_5 t_0_3_5 t_1_3_5 t_2_3_5 t_0_4_5 t_1_4_5 t_2_4_5 t_3_4_5 b0 c0 b1 c1 b2 c2 b3 c3 b4 c4 b5 c5 b6 c6 b7 c7 b8 c8 b9 c9 b10 c10 b11 c11 b12 c12 b13 c13 b14 c14
  rw [show (e0 + e1 + e3 + e6 + e10) * (e0 + e1 + e3 + e6 + e10) = e0 * (e0 + e1 + e3 + e6 + e10) + e1 * (e0 + e1 + e3 + e6 + e10) + e3 * (e0 + e1 + e3 + e6 + e10) + e6 * (e0 + e1 + e3 + e6 + e10) + e10 * (e0 + e1 + e3 + e6 + e10) from mul5] at q0
  rw [show (e0 + e2 + e4 + e7 + e11) * (e0 + e2 + e4 + e7 + e11) = e0 * (e0 + e2 + e4 + e7 + e11) + e2 * (e0 + e2 + e4 + e7 + e11) + e4 * (e0 + e2 + e4 + e7 + e11) + e7 * (e0 + e2 + e4 + e7 + e11) + e11 * (e0 + e2 + e4 + e7 + e11) from mul5] at q1
  rw [show (e1 + e2 + e5 + e8 + e12) * (e1 + e2 + e5 + e8 + e12) = e1 * (e1 + e2 + e5 + e8 + e12) + e2 * (e1 + e2 + e5 + e8 + e12) + e5 * (e1 + e2 + e5 + e8 + e12) + e8 * (e1 + e2 + e5 + e8 + e12) + e12 * (e1 + e2 + e5 + e8 + e12) from mul5] at q2
  rw [show (e3 + e4 + e5 + e9 + e13) * (e3 + e4 + e5 + e9 + e13) = e3 * (e3 + e4 + e5 + e9 + e13) + e4 * (e3 + e4 + e5 + e9 + e13) + e5 * (e3 + e4 + e5 + e9 + e13) + e9 * (e3 + e4 + e5 + e9 + e13) + e13 * (e3 + e4 + e5 + e9 + e13) from mul5] at q3
  rw [show (e6 + e7 + e8 + e9 + e14) * (e6 + e7 + e8 + e9 + e14) = e6 * (e6 + e7 + e8 + e9 + e14) + e7 * (e6 + e7 + e8 + e9 + e14) + e8 * (e6 + e7 + e8 + e9 + e14) + e9 * (e6 + e7 + e8 + e9 + e14) + e14 * (e6 + e7 + e8 + e9 + e14) from mul5] at q4
  rw [show (e10 + e11 + e12 + e13 + e14) * (e10 + e11 + e12 + e13 + e14) = e10 * (e10 + e11 + e12 + e13 + e14) + e11 * (e10 + e11 + e12 + e13 + e14) + e12 * (e10 + e11 + e12 + e13 + e14) + e13 * (e10 + e11 + e12 + e13 + e14) + e14 * (e10 + e11 + e12 + e13 + e14) from mul5] at q5
  generalize e0 * (e0 + e1 + e3 + e6 + e10) = w_0_0 at *
  generalize e0 * (e0 + e2 + e4 + e7 + e11) = w_0_1 at *
  generalize e1 * (e0 + e1 + e3 + e6 + e10) = w_1_0 at *
  generalize e1 * (e1 + e2 + e5 + e8 + e12) = w_1_2 at *
  generalize e2 * (e0 + e2 + e4 + e7 + e11) = w_2_1 at *
  generalize e2 * (e1 + e2 + e5 + e8 + e12) = w_2_2 at *
  generalize e3 * (e0 + e1 + e3 + e6 + e10) = w_3_0 at *
  generalize e3 * (e3 + e4 + e5 + e9 + e13) = w_3_3 at *
  generalize e4 * (e0 + e2 + e4 + e7 + e11) = w_4_1 at *
  generalize e4 * (e3 + e4 + e5 + e9 + e13) = w_4_3 at *
  generalize e5 * (e1 + e2 + e5 + e8 + e12) = w_5_2 at *
  generalize e5 * (e3 + e4 + e5 + e9 + e13) = w_5_3 at *
  generalize e6 * (e0 + e1 + e3 + e6 + e10) = w_6_0 at *
  generalize e6 * (e6 + e7 + e8 + e9 + e14) = w_6_4 at *
  generalize e7 * (e0 + e2 + e4 + e7 + e11) = w_7_1 at *
  generalize e7 * (e6 + e7 + e8 + e9 + e14) = w_7_4 at *
  generalize e8 * (e1 + e2 + e5 + e8 + e12) = w_8_2 at *
  generalize e8 * (e6 + e7 + e8 + e9 + e14) = w_8_4 at *
  generalize e9 * (e3 + e4 + e5 + e9 + e13) = w_9_3 at *
  generalize e9 * (e6 + e7 + e8 + e9 + e14) = w_9_4 at *
  generalize e10 * (e0 + e1 + e3 + e6 + e10) = w_10_0 at *
  generalize e10 * (e10 + e11 + e12 + e13 + e14) = w_10_5 at *
  generalize e11 * (e0 + e2 + e4 + e7 + e11) = w_11_1 at *
  generalize e11 * (e10 + e11 + e12 + e13 + e14) = w_11_5 at *
  generalize e12 * (e1 + e2 + e5 + e8 + e12) = w_12_2 at *
  generalize e12 * (e10 + e11 + e12 + e13 + e14) = w_12_5 at *
  generalize e13 * (e3 + e4 + e5 + e9 + e13) = w_13_3 at *
  generalize e13 * (e10 + e11 + e12 + e13 + e14) = w_13_5 at *
  generalize e14 * (e6 + e7 + e8 + e9 + e14) = w_14_4 at *
  generalize e14 * (e10 + e11 + e12 + e13 + e14) = w_14_5 at *
  have G := Int.add_le_add (Int.add_le_add (Int.add_le_add (Int.add_le_add (Int.add_le_add (Int.add_le_add (Int.add_le_add (Int.add_le_add (Int.add_le_add (Int.add_le_add (Int.add_le_add (Int.add_le_add (Int.add_le_add (Int.add_le_add (g0) g1) g2) g3) g4) g5) g6) g7) g8) g9) g10) g11) g12) g13) g14
  have Q := Int.add_le_add (Int.add_le_add (Int.add_le_add (Int.add_le_add (Int.add_le_add (q0) q1) q2) q3) q4) q5
  clear g0 g1 g2 g3 g4 g5 g6 g7 g8 g9 g10 g11 g12 g13 g14 q0 q1 q2 q3 q4 q5
  omega
/-- Mantel's bound -/
theorem mantel (x kd : Int) (h : (same x).filter (fun p => col x p.1 p.2.1 == kd) = []) : cnt ((pairsTo 6).map fun p => col x p.1 p.2) kd ≤ 9 := by
  have hall : ∀ p ∈ triTo 6, ¬ (mono x p = true ∧ (col x p.1 p.2.1 == kd) = true) := by
    intro p hp ⟨h1, h2⟩
    have := List.filter_eq_nil_iff.mp h p (List.mem_filter.mpr ⟨hp, h1⟩)
    exact this h2
  have hc : (cnt ((pairsTo 6).map fun p => col x p.1 p.2) kd : Int) = F x kd 0 + (F x kd 1 + (F x kd 2 + (F x kd 3 + (F x kd 4 + (F x kd 5 + (F x kd 6 + (F x kd 7 + (F x kd 8 + (F x kd 9 + (F x kd 10 + (F x kd 11 + (F x kd 12 + (F x kd 13 + (F x kd 14 + 0)))))))))))))) := by
    rw [cnt_sum]; rfl
  have t_0_1_2 : F x kd 0 + F x kd 2 + F x kd 1 ≤ 2 := three_F (x := x) (a := bit x 0) (b := bit x 2) (c := bit x 1) (hall (0, 1, 2) (by decide +kernel))
  have t_0_1_3 : F x kd 0 + F x kd 4 + F x kd 3 ≤ 2 := three_F (x := x) (a := bit x 0) (b := bit x 4) (c := bit x 3) (hall (0, 1, 3) (by decide +kernel))
  have t_0_2_3 : F x kd 1 + F x kd 5 + F x kd 3 ≤ 2 := three_F (x := x) (a := bit x 1) (b := bit x 5) (c := bit x 3) (hall (0, 2, 3) (by decide +kernel))
  have t_1_2_3 : F x kd 2 + F x kd 5 + F x kd 4 ≤ 2 := three_F (x := x) (a := bit x 2) (b := bit x 5) (c := bit x 4) (hall (1, 2, 3) (by decide +kernel))
  have t_0_1_4 : F x kd 0 + F x kd 7 + F x kd 6 ≤ 2 := three_F (x := x) (a := bit x 0) (b := bit x 7) (c := bit x 6) (hall (0, 1, 4) (by decide +kernel))
  have t_0_2_4 : F x kd 1 + F x kd 8 + F x kd 6 ≤ 2 := three_F (x := x) (a := bit x 1) (b := bit x 8) (c := bit x 6) (hall (0, 2, 4) (by decide +kernel))
  have t_1_2_4 : F x kd 2 + F x kd 8 + F x kd 7 ≤ 2 := three_F (x := x) (a := bit x 2) (b := bit x 8) (c := bit x 7) (hall (1, 2, 4) (by decide +kernel))
  have t_0_3_4 : F x kd 3 + F x kd 9 + F x kd 6 ≤ 2 := three_F (x := x) (a := bit x 3) (b := bit x 9) (c := bit x 6) (hall (0, 3, 4) (by decide +kernel))
  have t_1_3_4 : F x kd 4 + F x kd 9 + F x kd 7 ≤ 2 := three_F (x := x) (a := bit x 4) (b := bit x 9) (c := bit x 7) (hall (1, 3, 4) (by decide +kernel))
  have t_2_3_4 : F x kd 5 + F x kd 9 + F x kd 8 ≤ 2 := three_F (x := x) (a := bit x 5) (b := bit x 9) (c := bit x 8) (hall (2, 3, 4) (by decide +kernel))
  have t_0_1_5 : F x kd 0 + F x kd 11 + F x kd 10 ≤ 2 := three_F (x := x) (a := bit x 0) (b := bit x 11) (c := bit x 10) (hall (0, 1, 5) (by decide +kernel))
  have t_0_2_5 : F x kd 1 + F x kd 12 + F x kd 10 ≤ 2 := three_F (x := x) (a := bit x 1) (b := bit x 12) (c := bit x 10) (hall (0, 2, 5) (by decide +kernel))
  have t_1_2_5 : F x kd 2 + F x kd 12 + F x kd 11 ≤ 2 := three_F (x := x) (a := bit x 2) (b := bit x 12) (c := bit x 11) (hall (1, 2, 5) (by decide +kernel))
  have t_0_3_5 : F x kd 3 + F x kd 13 + F x kd 10 ≤ 2 := three_F (x := x) (a := bit x 3) (b := bit x 13) (c := bit x 10) (hall (0, 3, 5) (by decide +kernel))
  have t_1_3_5 : F x kd 4 + F x kd 13 + F x kd 11 ≤ 2 := three_F (x := x) (a := bit x 4) (b := bit x 13) (c := bit x 11) (hall (1, 3, 5) (by decide +kernel))
  have t_2_3_5 : F x kd 5 + F x kd 13 + F x kd 12 ≤ 2 := three_F (x := x) (a := bit x 5) (b := bit x 13) (c := bit x 12) (hall (2, 3, 5) (by decide +kernel))
  have t_0_4_5 : F x kd 6 + F x kd 14 + F x kd 10 ≤ 2 := three_F (x := x) (a := bit x 6) (b := bit x 14) (c := bit x 10) (hall (0, 4, 5) (by decide +kernel))
  have t_1_4_5 : F x kd 7 + F x kd 14 + F x kd 11 ≤ 2 := three_F (x := x) (a := bit x 7) (b := bit x 14) (c := bit x 11) (hall (1, 4, 5) (by decide +kernel))
  have t_2_4_5 : F x kd 8 + F x kd 14 + F x kd 12 ≤ 2 := three_F (x := x) (a := bit x 8) (b := bit x 14) (c := bit x 12) (hall (2, 4, 5) (by decide +kernel))
  have t_3_4_5 : F x kd 9 + F x kd 14 + F x kd 13 ≤ 2 := three_F (x := x) (a := bit x 9) (b := bit x 14) (c := bit x 13) (hall (3, 4, 5) (by decide +kernel))
  have key := mantel_core (F_two x kd 0) (F_two x kd 1) (F_two x kd 2) (F_two x kd 3) (F_two x kd 4) (F_two x kd 5) (F_two x kd 6) (F_two x kd 7) (F_two x kd 8) (F_two x kd 9) (F_two x kd 10) (F_two x kd 11) (F_two x kd 12) (F_two x kd 13) (F_two x kd 14) t_0_1_2 t_0_1_3 t_0_2_3 t_1_2_3 t_0_1_4 t_0_2_4 t_1_2_4 t_0_3_4 t_1_3_4 t_2_3_4 t_0_1_5 t_0_2_5 t_1_2_5 t_0_3_5 t_1_3_5 t_2_3_5 t_0_4_5 t_1_4_5 t_2_4_5 t_3_4_5
  clear t_0_1_2 t_0_1_3 t_0_2_3 t_1_2_3 t_0_1_4 t_0_2_4 t_1_2_4 t_0_3_4 t_1_3_4 t_2_3_4 t_0_1_5 t_0_2_5 t_1_2_5 t_0_3_5 t_1_3_5 t_2_3_5 t_0_4_5 t_1_4_5 t_2_4_5 t_3_4_5 hall h
  omega
end Mine
namespace Mine
set_option maxRecDepth 100000

def fkBound : Obj := { cls := .type "builtin_function_or_method", data := .fields #[.builtin "dict.fromkeys", .type "dict"] }
theorem type_fk : typeOf (.builtin "dict.fromkeys") = pure (.type "classmethod_descriptor") := by show builtinType _ = _; rw [builtinType_eq_fast]; kernel_rfl
theorem entry_fk : entryFor table "dict.fromkeys" = some Builtin.«dict.fromkeys» := entryFor_of_tree (by kernel_rfl)
theorem entry_fkl : entryFor table "dict.fromkeys.loop" = some Builtin.«dict.fromkeys.loop» := entryFor_of_fast (by kernel_rfl)
theorem quiet_fk {as : Args} : (Code.builtin "dict.fromkeys" as).quiet = true := Code.quiet_builtin _ (by decide +kernel)
theorem plain_fkl : plainId "dict.fromkeys.loop" = true := by decide +kernel
theorem type_dict : isType (.type "dict") = pure true := by first | rfl | kernel_rfl | (unfold isType; rw [isSubtype_type]; kernel_rfl)
theorem sub_dict : isSubtype (.type "dict") (.type "dict") = pure true := by first | rfl | kernel_rfl | (rw [isSubtype_type]; kernel_rfl)
theorem owner_fk : (kfb_private% "ownerAndName") "dict.fromkeys" = ("dict", "fromkeys") := by first | decide +kernel | kernel_rfl
theorem check_fk {a : Value} : checkBoundCall "dict.fromkeys" ⟨[.type "dict", a], []⟩ = pure () := by first | kernel_rfl | rfl
section
variable {w : World} {K : Frag} {A : Around} {E : Value → Shared → Prop} {s : Shared}

theorem run_get_fk {M : Model} {P : Fin → Shared → Prop} (h : P (.done (.ret (.ref s.heap.objs.size))) { s with heap := s.heap.push fkBound }) :
    wpAny M A (Builtin.«classmethod_descriptor.__get__» ⟨[.builtin "dict.fromkeys", .none, .type "dict"], []⟩) P E s := by
  unfold Builtin.«classmethod_descriptor.__get__»
  refine wpAny_bind (wpAny_of_eq (a := (.builtin "dict.fromkeys", none, some (.type "dict"))) (by first | rfl | kernel_rfl) ?_)
  simp only [owner_fk]
  refine wpAny_bind (wpAny_of_eq (a := .type "dict") rfl ?_)
  refine wpAny_bind (wpAny_of_eq (a := true) type_dict ?_)
  refine KFB.if_not rfl ?_
  refine wpAny_bind (wpAny_of_eq (a := true) sub_dict ?_)
  refine KFB.if_not rfl ?_
  exact wpAny_bind (wpAny_newObj_type (wpAny_pure h))

theorem getm_fk {prog : Program} {pl : Sem Bool} {Q : Value × List Value → Shared → Prop} (X : K.In s.heap)
    (e : findCls K (.type "dict") (.type "type") (Str.ofString "fromkeys") = some (.get (.builtin "classmethod_descriptor.__get__") (.builtin "dict.fromkeys") .none (.type "dict")))
    (h : Q (.ref s.heap.objs.size, []) { s with heap := s.heap.push fkBound, toks := s.toks + 1 }) :
    wpAny (model prog w) A (getMethod (.type "dict") (Str.ofString "fromkeys") pl) Q E s := by
  have hstub : opaqueClassAbove (.type "dict") = pure none := by unfold opaqueClassAbove; dsimp only; rw [show Manifest.isStub "dict" = false by decide +kernel]; rfl
  have ht : typeOf (.type "dict") = pure (.type "type") := by first | rfl | kernel_rfl
  have L0 : Looks (model prog w) s.heap (typeOf (.type "dict")) (.type "type") := Looks.of_pure ht
  have hg : findIn K (.type "type") "__getattribute__" = some (some (.builtin "type.__getattribute__")) := type_tga
  unfold getMethod specialOf
  refine wpAny_bind (wpAny_bind (L0.here ((looks_findIn X hg).here ?_)))
  dsimp only
  rw [if_pos canon_tga]
  refine wpAny_bind (wpAny_mono (Q := fun v => Q (v, [])) (E := E) ?_ (fun _ _ z => wpAny_pure z) fun _ _ z => z)
  have LO : Looks (model prog w) s.heap (opaqueClassAbove (.type "dict")) none := Looks.of_pure hstub
  refine cls_open X LO L0 hg (looks_hook X (r := none) (by rfl)) (by show subIn K _ _ = _; rfl) e ?_
  show wpAny _ _ (holding [.builtin "dict.fromkeys"] (call (.builtin "classmethod_descriptor.__get__") [.builtin "dict.fromkeys", .none, .type "dict"]) >>= fun v => ret v) _ _ _
  refine wpAny_bind (wpAny_holding (wpAny_call_entry KFB.slot_get type_fk KFB.entry_get (run_get_fk ⟨_, rfl, wpAny_pure (wpAny_pure h)⟩) (KFB.args_get _ _ _)))
theorem K_kw : nsIn (hd.heap_39 w.params) 108 (Str.ofString "unhashable_fallback") = some (some (.bool false)) := by kernel_rfl
theorem K_dict : nsIn (hd.heap_39 w.params) mainGlobals (Str.ofString "dict") = some none := by kernel_rfl
theorem fk_find : findCls (hd.heap_39 w.params) (.type "dict") (.type "type") (Str.ofString "fromkeys") = some (.get (.builtin "classmethod_descriptor.__get__") (.builtin "dict.fromkeys") .none (.type "dict")) := by kernel_rfl

theorem binds_kw {fd : FuncData} {args : Args} {binds : List (Str × Value)} {T : Addr} {name : Str} {v : Value} {k : Option Value → Sem (List (Str × Value))} (X : K.In s.heap) (h1 : bindArgs fd args = nsGet T name >>= k) (e : nsIn K T name = some (some v)) (h2 : k (some v) = pure binds) : BindsTo s fd args binds := by
  intro M A E Q hq
  rw [h1]
  refine wpAny_bind ((looks_nsIn X e).here ?_)
  rw [h2]
  exact wpAny_pure hq
end
end Mine
namespace Mine
set_option maxRecDepth 100000

def keyOf (p : Int × Int × Int) : List Int := [p.1, p.2.1, p.2.2]
def addKey (ks : List (List Int)) (k : List Int) : List (List Int) := if k ∈ ks then ks else ks ++ [k]
theorem keys_stored (xs : List (List Int × Addr × Value)) (k : List Int) (a : Addr) (v : Value) : (storedH xs k a v).map (·.1) = addKey (xs.map (·.1)) k := by
  unfold addKey
  cases e : atKey xs k with
  | none =>
    rw [storedH_new e]
    have : k ∉ xs.map (·.1) := by
      intro h
      obtain ⟨x, hx, rfl⟩ := List.mem_map.mp h
      have h2 : (xs.find? fun y => decide (y.1 = x.1)) = none := by simpa [atKey] using e
      have := List.find?_eq_none.mp h2 x hx
      simp at this
    rw [if_neg this, List.map_append]
    rfl
  | some p =>
    rw [storedH_old e]
    have : k ∈ xs.map (·.1) := by
      unfold atKey at e
      cases h2 : xs.find? (fun y => decide (y.1 = k)) with
      | none => rw [h2] at e; cases e
      | some y =>
        have h3 := List.find?_some h2
        have h4 := List.mem_of_find?_eq_some h2
        exact List.mem_map.mpr ⟨y, h4, by simpa using h3⟩
    rw [if_pos this, List.map_map]
    refine List.map_congr_left fun x _ => ?_
    simp only [Function.comp, putAt]
    split <;> rfl
def addKeys (ks : List (List Int)) (l : List (List Int)) : List (List Int) := l.foldl addKey ks
theorem key_of_tup3 {prog : Program} {w : World} {h : Heap} {a : Addr} {p : Int × Int × Int} (x : Tup3 h a p.1 p.2.1 p.2.2) : IsTupleKey (PySem.intKind prog w) h (keyOf p) a := by
  obtain ⟨t, u, v, o, e, hc, n, hd⟩ := x
  refine ⟨o, _, n, e, hc, hd, ?_⟩
  refine .cons ?_ (.cons ?_ (.cons ?_ .nil))
  · show Value.isInt p.1 (.int p.1 t) = true
    simp [Value.isInt]
  · show Value.isInt p.2.1 (.int p.2.1 u) = true
    simp [Value.isInt]
  · show Value.isInt p.2.2 (.int p.2.2 v) = true
    simp [Value.isInt]

section
variable {w : World} {A : Around} {E : Value → Shared → Prop} {s : Shared}

/-- the keys join the dict -/
theorem fk_loop {D I d : Addr} {vs : Array Value} {ts : List (Int × Int × Int)} {R : Result → Shared → Prop} (hh : A.handled = none) (hu : A.units + 4 < cLine) (hDI : D ≠ I) (hdI : d ≠ I) (hz : ts.length ≤ 1000)
    {h0 : Heap} (done : ∀ h' tk' xs, But [I, d] h0 h' → h'.DictOfH (tupleKind (PySem.intKind lawProg w)) d xs → xs.map (·.1) = addKeys [] (ts.map keyOf) → R (.ok (.ret (.ref d))) { s with heap := h', toks := tk' }) :
    ∀ (n i : Nat) (h : Heap) (tk : Nat) (xs : List (List Int × Addr × Value)), vs.size - i = n → i ≤ vs.size → But [I, d] h0 h → h.IsListIter I D i → h.IsList D vs → Triples h 0 vs.toList ts → h.DictOfH (tupleKind (PySem.intKind lawProg w)) d xs → xs.map (·.1) = addKeys [] ((ts.take i).map keyOf) → xs.length ≤ i →
      codeAny (model lawProg w) A (.builtin "dict.fromkeys.loop" ⟨[.ref d, .ref I, .none], []⟩) R { s with heap := h, toks := tk } := by
  intro n
  induction n with
  | zero =>
    intro i h tk xs hn hi hb hit hl ht hd hk hxl
    have hsz : vs.size = ts.length := by have := Paired.length ht; simpa using this
    refine codeAny_builtin entry_fkl ?_
    rw [Around.under_plainId plain_fkl]
    unfold Builtin.«dict.fromkeys.loop»
    refine wpAny_bind (wpAny_pyNext_list_end (A := A.in1) hh hit hl (by simp; omega) fun h' he => ?_)
    refine wpAny_pure ?_
    have kb : But [I] h h' := fun b o n e => he b o (by simpa using n) e
    refine done h' tk xs (hb.trans (kb.mono (by simp))) ?_ ?_
    · obtain ⟨o, es, ep, e, a1, a2, a3, a4, a5⟩ := hd
      have nI : ∀ b ∈ [I], NoTup h b := by intro b hb'; rw [List.mem_singleton.mp hb']; exact noTup_listIter hit
      exact ⟨o, es, ep, kb _ _ (by simpa using hdI) e, a1, a2, a3, fun y hy => key_but kb nI (a4 y hy), a5⟩
    · rw [hk, List.take_of_length_le (by omega)]
  | succ n ih =>
    intro i h tk xs hn hi hb hit hl ht hd hk hxl
    have hsz : vs.size = ts.length := by have := Paired.length ht; simpa using this
    have hi' : i < ts.length := by omega
    have hiv : i < vs.size := by omega
    obtain ⟨a, ea, _, tup⟩ := paired_get ht (List.getElem?_eq_getElem (by rw [Array.length_toList]; exact hiv) : vs.toList[i]? = some vs.toList[i]) (List.getElem?_eq_getElem hi')
    have ea' : vs[i]? = some (.ref a) := by
      have : vs.toList[i]? = some (.ref a) := by rw [← ea]; exact List.getElem?_eq_getElem _
      simpa using this
    have hDd : D ≠ d := fun q => by
      obtain ⟨o, e, hc, n, hdat⟩ := hl
      obtain ⟨o', es, ep, e', _, hd', _⟩ := hd
      rw [q, e'] at e; cases e; rw [hd'] at hdat; cases hdat
    refine codeAny_builtin entry_fkl ?_
    rw [Around.under_plainId plain_fkl]
    unfold Builtin.«dict.fromkeys.loop»
    refine wpAny_bind (wpAny_pyNext_list_item (A := A.in1) hit hl ea' fun h1 hit1 hs1 => ?_)
    have kb1 : But [I] h h1 := sameBut_but hs1 (by simp)
    have nI : ∀ b ∈ [I], NoTup h b := by intro b hb'; rw [List.mem_singleton.mp hb']; exact noTup_listIter hit
    have hd1 : h1.DictOfH (tupleKind (PySem.intKind lawProg w)) d xs := by
      obtain ⟨o, es, ep, e, a1, a2, a3, a4, a5⟩ := hd
      exact ⟨o, es, ep, kb1 _ _ (by simpa using hdI) e, a1, a2, a3, fun y hy => key_but kb1 nI (a4 y hy), a5⟩
    have ht1 := ht.but kb1 nI
    have tup1 := kb1.tup3 nI tup
    have hl1 : h1.IsList D vs := let ⟨o, e, r⟩ := hl; ⟨o, kb1 _ _ (by simpa using hDI) e, r⟩
    refine wpAny_bind (wpAny_typeOf (s := { s with heap := h1, toks := tk }) hd1.typeIs ?_)
    show wpAny _ _ (if (Value.type "dict" == Value.type "dict") = true then _ else _) _ _ _
    rw [if_pos (by decide)]
    refine wpAny_bind (m := Builtin.Dict.addrOf (.ref d)) (wpAny_pure ?_)
    refine wpAny_bind (wpAny_holding ?_)
    show wpAny _ _ (dictSet d (.ref a) .none) _ _ _
    refine wpAny_dictSet_heap (knd := tupleKind (PySem.intKind lawProg w)) (k := keyOf ts[i]) (hsz := by rw [sizeLine_eq]; omega) (tupleKind_room_in1 (by omega)) (key_of_tup3 tup1) hd1 fun h2 hd2 hs2 => ?_
    have kb2 : But [d] h1 h2 := sameBut_but hs2 (by simp)
    have nd : ∀ b ∈ [d], NoTup h1 b := by intro b hb'; rw [List.mem_singleton.mp hb']; exact noTup_dict hd1
    refine wpAny_pure ⟨plainId_quiet plain_fkl _, ?_⟩
    refine ih (i + 1) h2 _ (storedH xs (keyOf ts[i]) a .none) (by omega) hiv ((hb.trans (kb1.mono (by simp))).trans (kb2.mono (by simp))) (hit1.at fun o e => kb2 _ _ (by simpa using Ne.symm hdI) e) (let ⟨o, e, r⟩ := hl1; ⟨o, kb2 _ _ (by simpa using hDd) e, r⟩) (ht1.but kb2 nd) hd2 ?_ ?_
    · rw [keys_stored, hk]
      have et : ts.take (i + 1) = ts.take i ++ [ts[i]] := by rw [List.take_add_one, List.getElem?_eq_getElem hi']; rfl
      rw [et, List.map_append]
      unfold addKeys
      rw [List.foldl_append]
      rfl
    · have : (storedH xs (keyOf ts[i]) a .none).length ≤ xs.length + 1 := by unfold storedH; split <;> simp
      omega
end
end Mine
namespace Mine
set_option maxRecDepth 100000
theorem typeCall0 : checkTypeCall "dict" ⟨[], []⟩ = pure () := by kernel_rfl
theorem newCall0 : checkBuiltinCall "dict.__new__" ⟨[.type "dict"], []⟩ = pure () := by kernel_rfl
theorem args_init0 (a : Value) : argsOk "dict.__init__" ⟨[a], []⟩ := by unfold argsOk; kernel_rfl
section
variable {prog : Program} {w : World} {A : Around} {E : Value → Shared → Prop} {s : Shared}
theorem code_dict_new0 {Q₁ : Value → Shared → Prop} (h : Q₁ (.ref s.heap.objs.size) { s with heap := s.heap.push { cls := .type "dict", data := .dict #[] } }) :
    codeAny (model prog w) A (.call (.builtin "dict.__new__") ⟨[.type "dict"], []⟩) (wants Q₁ E) s := by
  refine codeAny_call_builtin F.kt_plain_dict_new F.kt_entry_dict_new (wpAny_of_eq newCall0 ?_)
  have hsub := F.kt_sub_dict
  have hmro := F.kt_mro_dict
  obtain ⟨hp, g, d, tk, os⟩ := s
  unfold Builtin.«dict.__new__»
  wp_walk
  exact h
theorem call_dict0 {Q : Value → Shared → Prop} (h : Q (.ref s.heap.objs.size) { s with heap := s.heap.push { cls := .type "dict", data := .dict #[] } }) :
    wpAny (model prog w) A (call (.type "dict") []) Q E s := by
  refine callType_codes (Q₁ := fun obj s₁ => obj = .ref s.heap.objs.size ∧ s₁ = { s with heap := s.heap.push { cls := .type "dict", data := .dict #[] } }) F.kt_called_dict typeCall0 F.entry_dict_init (code_dict_new0 ⟨rfl, rfl⟩) ?_
  rintro obj s₁ ⟨rfl, rfl⟩
  have hT : ({ s with heap := s.heap.push { cls := .type "dict", data := .dict #[] } } : Shared).TypeIs (.ref s.heap.objs.size) "dict" := ⟨_, Heap.get?_push_size _ rfl, rfl⟩
  refine ⟨hT, args_init0 _, ?_⟩
  unfold Builtin.«dict.__init__»
  refine wpAny_bind ?_
  unfold Builtin.Dict.selfAndRest
  refine wpAny_bind (wpAny_notOrdered_dict hT ?_)
  show wpAny _ _ (pure (s.heap.objs.size, ([] : List Value))) _ _ _
  refine wpAny_pure ?_
  show wpAny _ _ (Builtin.Dict.addKeywords s.heap.objs.size [] >>= _) _ _ _
  exact wpAny_bind (wpAny_pure (wpAny_pure ⟨rfl, h⟩))

set_option maxHeartbeats 1000000 in
/-- dict.fromkeys(list of triples) -/
theorem run_fk {D : Addr} {vs : Array Value} {ts : List (Int × Int × Int)} {R : Result → Shared → Prop} (hh : A.handled = none) (hu : A.units + 8 < cLine) (hl : s.heap.IsList D vs) (ht : Triples s.heap 0 vs.toList ts) (hz : ts.length ≤ 1000)
    (done : ∀ d h' tk' xs, Grow s.heap h' → @LE.le Nat _ s.heap.objs.size d → h'.DictOfH (tupleKind (PySem.intKind lawProg w)) d xs → xs.map (·.1) = addKeys [] (ts.map keyOf) → R (.ok (.ret (.ref d))) { s with heap := h', toks := tk' }) :
    codeAny (model lawProg w) A (.builtin "dict.fromkeys" ⟨[.type "dict", .ref D], []⟩) R s := by
  have hlt : @LT.lt Nat _ D s.heap.objs.size := by obtain ⟨o, e, _⟩ := hl; exact Heap.lt_size e
  refine codeAny_builtin entry_fk ?_
  have hun : A.under (.builtin "dict.fromkeys" ⟨[.type "dict", .ref D], []⟩) = A.in1 := Around.under_plainId (by decide +kernel) _
  rw [hun]
  unfold Builtin.«dict.fromkeys»
  refine wpAny_bind (wpAny_of_eq (a := true) type_dict ?_)
  refine KFB.if_not rfl ?_
  refine wpAny_bind (wpAny_of_eq (a := true) sub_dict ?_)
  refine KFB.if_not rfl ?_
  refine KFB.if_not rfl ?_
  refine wpAny_bind (wpAny_rule (wpAny_bind (wpAny_pure ?_)))
  dsimp only
  refine wpAny_bind (call_dict0 ?_)
  refine wpAny_holding ?_
  have hp1 : Grow s.heap (s.heap.push { cls := .type "dict", data := .dict #[] }) := .push _ _
  have hl1 := isList_grow hl hp1
  have hd1 : (s.heap.push { cls := .type "dict", data := .dict #[] }).DictOfH (tupleKind (PySem.intKind lawProg w)) s.heap.objs.size [] := Heap.DictOfH.new s.heap
  refine wpAny_bind (wpAny_typeOf (s := { s with heap := s.heap.push { cls := .type "dict", data := .dict #[] } }) hl1.typeIs ?_)
  refine wpAny_bind (wpAny_typeOf (s := { s with heap := s.heap.push { cls := .type "dict", data := .dict #[] } }) hd1.typeIs ?_)
  refine KFB.if_not (by decide) ?_
  refine wpAny_bind (wpAny_typeOf (s := { s with heap := s.heap.push { cls := .type "dict", data := .dict #[] } }) hd1.typeIs ?_)
  refine KFB.if_not (by decide) ?_
  refine wpAny_bind (wpAny_pyIter_list hl1 ?_)
  refine wpAny_pure ⟨plainId_quiet plain_fkl _, ?_⟩
  have hp2 : Grow (s.heap.push { cls := .type "dict", data := .dict #[] }) ((s.heap.push { cls := .type "dict", data := .dict #[] }).push { cls := .type "list_iterator", data := .fields #[.ref D, .int 0 0] }) := .push _ _
  have hp := hp1.trans hp2
  have hs1 : (s.heap.push { cls := .type "dict", data := .dict #[] }).objs.size = s.heap.objs.size + 1 := Heap.size_push _ _
  refine fk_loop (s := s) (D := D) (I := (s.heap.push { cls := .type "dict", data := .dict #[] }).objs.size) (d := s.heap.objs.size) (vs := vs) (ts := ts) (h0 := (s.heap.push { cls := .type "dict", data := .dict #[] }).push { cls := .type "list_iterator", data := .fields #[.ref D, .int 0 0] }) hh (by omega) ?_ ?_ hz ?_ vs.size 0 _ s.toks [] (Nat.sub_zero _) (Nat.zero_le _) (.refl _ _) ⟨_, Heap.get?_push_size _ rfl, rfl, rfl⟩ (isList_grow hl hp) (ht.keeps hp) (dictOfH_keeps hd1 hp2) rfl (Nat.zero_le _)
  · rw [hs1]; exact neN (Nat.ne_of_lt (Nat.lt_succ_of_lt hlt))
  · rw [hs1]; exact neN (Nat.ne_of_lt (Nat.lt_succ_self _))
  · intro h' tk' xs kb hd hk
    refine done _ h' tk' xs (fun b o e => kb b o ?_ (hp b o e)) (Nat.le_refl _) hd hk
    have := Heap.lt_size e
    simp only [List.mem_cons, List.not_mem_nil, or_false, not_or]
    rw [hs1]
    exact ⟨neN (Nat.ne_of_lt (Nat.lt_succ_of_lt this)), neN (Nat.ne_of_lt this)⟩

/-- the bound method is called -/
theorem call_fk {x D : Addr} {vs : Array Value} {ts : List (Int × Int × Int)} {Q : Value → Shared → Prop} (ho : s.heap.get? x = some fkBound) (hh : A.handled = none) (hu : A.units + 20 < cLine) (hl : s.heap.IsList D vs) (ht : Triples s.heap 0 vs.toList ts) (hz : ts.length ≤ 1000)
    (done : ∀ d h' tk' xs, Grow s.heap h' → @LE.le Nat _ s.heap.objs.size d → h'.DictOfH (tupleKind (PySem.intKind lawProg w)) d xs → xs.map (·.1) = addKeys [] (ts.map keyOf) → Q (.ref d) { s with heap := h', toks := tk' }) :
    wpAny (model lawProg w) A (call (.ref x) [.ref D]) Q E s := by
  refine wpAny_call (codeAny_of_tree ?_)
  show wpAny _ A.in1 (callAny (.ref x) ⟨[.ref D], []⟩) _ _ s
  simp only [callAny]
  refine wpAny_bind (wpAny_load ho ?_)
  simp only [fkBound, show (Value.type "builtin_function_or_method" == Value.type "method" || Value.type "builtin_function_or_method" == Value.type "builtin_function_or_method" || Value.type "builtin_function_or_method" == Value.type "method-wrapper") = true by decide, if_true]
  refine KFB.if_so (by decide) ?_
  refine wpAny_bind (wpAny_of_eq (a := ()) check_fk ?_)
  refine wpAny_bind (wpAny_pure (wpAny_pure ?_))
  refine ⟨quiet_fk, ?_⟩
  exact run_fk hh (by omega) hl ht hz done
end
end Mine
namespace Mine
set_option maxRecDepth 100000
theorem callWith_fk {M : Model} {A : Around} {E : Value → Shared → Prop} {s : Shared} {env : Env} {pos : Pos} {u : Addr} {e : Expr} {Q : Value → Shared → Prop} (hst : starEach [e] env = [(false, eval e env)])
    (h : wpAny M A (eval e env) (fun v s₁ => s₁.heap.get? u = some fkBound ∧ wpAny M A (call (.ref u) [v]) Q E s₁) E s) : wpAny M A (callWith pos (.ref u) [] (backTo pos (starEach [e] env)) []) Q E s := by
  have hev : wpAny M A (evalArgs (.ref u) true (backTo pos (starEach [e] env)) []) (fun x s₁ => s₁.heap.get? u = some fkBound ∧ wpAny M A (call (.ref u) ([] ++ x.pos) x.kw) Q E s₁) E s := by
    have h2 : wpAny M A (spliced (backTo pos (starEach [e] env))) (fun vs s₁ => s₁.heap.get? u = some fkBound ∧ wpAny M A (call (.ref u) ([] ++ vs)) Q E s₁) E s := wpAny_items_cons (wpAny_mono h (fun v s₁ h₁ => wpAny_items_nil h₁) fun _ _ x => x) (by rw [hst]; rfl)
    rw [hst] at h2 ⊢
    exact Calls.evalArgs_plain h2
  unfold callWith
  refine wpAny_bind (wpAny_holding (wpAny_mono hev (fun x s₁ h₁ => wpAny_bind (wpAny_standAt ?_)) fun _ _ x => x))
  obtain ⟨ho, hcall⟩ := h₁
  have hplain : (backTo pos (starEach [e] env)).any (·.1) = false := by rw [hst]; rfl
  simp only [hplain, List.any_nil, Bool.or_false]
  refine wpAny_bind (m := keeperOf (.ref u)) ?_
  unfold keeperOf
  refine wpAny_bind (wpAny_load ho ?_)
  simp only [fkBound, show (Value.type "builtin_function_or_method" != Value.type "method") = true by decide, show (Value.type "builtin_function_or_method" == Value.type "builtin_function_or_method" || Value.type "builtin_function_or_method" == Value.type "method-wrapper") = true by decide, if_true]
  refine wpAny_pure ?_
  exact wpAny_bind (wpAny_mono hcall (fun r s₂ hr => wpAny_bind (wpAny_holding (wpAny_point (wpAny_pure hr)))) fun _ _ x => x)
section
variable {w : World} {base : Heap} {L fa : Addr} {cd : Value} {mg mb : Str → Option Value} {mean : ExcName → Option Value} {loose : List Str} {s : Shared} {m : Str → Option Value} {E : Value → Shared → Prop}

set_option maxHeartbeats 2000000 in
/-- _deduplicate(list of triples) -/
theorem c_dedup {D : Addr} {vs : Array Value} {ts : List (Int × Int × Int)} {Q : Value → Shared → Prop} (c : Ctx w base L mg mb mean loose) (F : Fr base L s.heap m) (hl : s.heap.IsList D vs) (ht : Triples s.heap 0 vs.toList ts) (hz : ts.length ≤ 1000)
    (done : ∀ d h' tk' xs, Grow s.heap h' → @LE.le Nat _ s.heap.objs.size d → h'.DictOfH (tupleKind (PySem.intKind lawProg w)) d xs → xs.map (·.1) = addKeys [] (ts.map keyOf) → Q (.ref d) { s with heap := h', toks := tk' }) :
    CallTo w L fa cd 115 [.ref D] Q E s := by
  have X' : (hd.heap_39 w.params).In s.heap := c.X.keeps F.keep
  have T' : Top topProg loose mean mg mb s.heap := c.T.keeps F.keep
  refine wpAny_call ?_
  show codeAny (model Challenge.rw_xi0015_01.row.prog w) _ _ _ _
  revert X'
  k_fill
  intro X'
  refine' own_call0 X' T' ?ho ?hcd ?hroom ?hbind ?hloc ?hco ?hgen ?hk ?hcell ?_
  case ho => k_is
  case hcd => k_is
  case hroom => k_room
  case hbind =>
    show BindsTo _ _ _ [(Str.ofString "params", Value.ref D), (Str.ofString "unhashable_fallback", Value.bool false)]
    intro M A E Q hq
    unfold bindArgs
    simp only [List.map_cons, List.map_nil, List.nil_append, List.forIn_nil, pure_bind, List.zip_cons_cons, List.zip_nil_right, List.length_cons, List.length_nil, List.forIn_cons, List.cons_append]
    refine wpAny_bind (wpAny_of_eq (a := none) rfl ?_)
    refine KFB.if_not rfl ?_
    refine KFB.if_not rfl ?_
    simp only [Option.getD_none, List.length_nil, List.drop_nil, List.zip_nil_right, List.forIn_nil, pure_bind]
    refine wpAny_bind ?_
    refine wpAny_bind ?_
    refine KFB.if_so rfl ?_
    refine wpAny_bind ?_
    refine (looks_nsIn X' K_kw).here ?_
    refine wpAny_pure (wpAny_pure ?_)
    exact KFB.if_not rfl (wpAny_pure hq)
  case hloc => exact locs rfl
  case hco => exact rfl
  case hgen => exact rfl
  case hk => exact rfl
  case hcell => decide
  intro L' h1 hL' F' N'
  have g1 : Grow s.heap h1 := F'.keep
  have hlt : @LT.lt Nat _ s.heap.objs.size h1.objs.size := by have := F'.ns.lt; rw [hL'] at this; exact this
  refine wpAny_execs_cons ?_
  show wpAny _ _ (exec (.Try [.Return (some (.Call (.Attribute (.Name _ _) _ _) [.Name _ _] [] _)) _] (_ :: _) [] [] _) _) _ _ _
  refine wpAny_Try_except (wpAny_execs_cons (wpAny_Return_some ?_))
  refine MethodCall_ (pl := _) (nm_builtin (v := .type "dict") c rfl rfl rfl rfl (Grow.trans F.keep g1) K_dict (by decide +kernel) (by decide) (by decide) (getm_fk (K := hd.heap_39 w.params) (fun a o e => g1 _ _ (X' a o e)) fk_find ?_))
  refine callWith_fk rfl ?_
  have kp : Grow h1 (h1.push fkBound) := .push _ _
  refine nm_local (s := { s with heap := h1.push fkBound, toks := s.toks + 2 + 1 }) rfl rfl (F'.ns.keeps kp) (v := .ref D) rfl ⟨Heap.get?_push_size _ rfl, ?_⟩
  have g2 := Grow.trans g1 kp
  refine call_fk (D := D) (vs := vs) (ts := ts) (Heap.get?_push_size _ rfl) rfl (by rw [show (Around.deeper (lawA L fa cd) _).units = 10 from rfl]; decide) (isList_grow hl g2) (ht.keeps g2) hz fun d h3 tk3 xs g3 hd3 hx hk => ?_
  refine done d h3 tk3 xs (g2.trans g3) ?_ hx hk
  have : @LE.le Nat _ (h1.push fkBound).objs.size d := hd3
  rw [Heap.size_push] at this
  exact Nat.le_trans (Nat.le_of_lt hlt) (Nat.le_trans (Nat.le_succ _) this)
end
end Mine
namespace Mine
set_option maxRecDepth 100000
section
variable {prog : Program} {w : World} {A : Around} {E : Value → Shared → Prop} {s : Shared}

/-- a plain dict by its entries -/
def EntriesAt (h : Heap) (d : Addr) (es : Array DictEntry) (ep : Nat) : Prop := ∃ o, h.get? d = some o ∧ o.ExactDict ∧ o.data = .dict es ep
theorem EntriesAt.typeIs {d : Addr} {es : Array DictEntry} {ep : Nat} (x : EntriesAt s.heap d es ep) : s.TypeIs (.ref d) "dict" := by
  obtain ⟨o, e, hc, _⟩ := x
  exact ⟨o, e, hc.1⟩

theorem iter_entries {d : Addr} {es : Array DictEntry} {ep : Nat} {Q : Value → Shared → Prop} (hd : (d == sysModules) = false) (hm : EntriesAt s.heap d es ep)
    (hQ : Q (.ref s.heap.objs.size) { s with heap := s.heap.push { cls := .type "dict_keyiterator", data := .fields #[.ref d, .int 0 0, .int es.size 0, .int ep 0] } }) :
    wpAny (model prog w) A (pyIter (.ref d)) Q E s := by
  have hT := hm.typeIs
  obtain ⟨o, ho, hc, hdat⟩ := hm
  refine wpAny_pyIter_slot hT F.slot_dict_iter (wpAny_call_entry F.slot_dict_iter hT F.entry_dict_iter ?_ (F.args_dict_iter_1 _))
  unfold Builtin.«dict.__iter__»
  refine wpAny_bind ?_
  unfold Builtin.Dict.dictSlotNone
  refine wpAny_bind (wpAny_notOrdered_dict hT ?_)
  show wpAny _ _ (pure (Value.ref d)) _ _ s
  refine wpAny_pure ?_
  show wpAny _ _ (Builtin.Dict.showsAll d >>= _) _ _ s
  unfold Builtin.Dict.showsAll
  rw [if_neg (by rw [hd]; exact Bool.false_ne_true)]
  refine wpAny_bind (wpAny_pure ?_)
  refine wpAny_bind (wpAny_dictEntries ho hdat ?_)
  refine wpAny_bind (wpAny_dictEpoch ho hdat ?_)
  refine wpAny_bind (wpAny_newObj_type (wpAny_pure ⟨_, rfl, "dict_keyiterator", _, ⟨_, Heap.get?_push_size _ rfl, rfl⟩, F.slot_dict_keyiterator_next.lookup, ?_⟩))
  simpa [rawInt] using hQ

theorem next_entry {it d : Addr} {i ep : Nat} {es : Array DictEntry} {Q : Option Value → Shared → Prop} (hit : s.heap.IsKeyIter it d i es.size ep) (hm : EntriesAt s.heap d es ep) (hlt : i < es.size)
    (hQ : ∀ h', h'.IsKeyIter it d (i + 1) es.size ep → Heap.SameBut it s.heap h' → Q (some es[i].key) { s with heap := h' }) :
    wpAny (model prog w) A (pyNext (.ref it)) Q E s := by
  obtain ⟨o, ho, hc, hd⟩ := id hit
  obtain ⟨od, hod, hcd, hdd⟩ := id hm
  unfold pyNext
  refine wpAny_bind (wpAny_attempt (wpAny_callSpecial?_slot (name := Str.ofString "__next__") hit.typeIs F.slot_dict_keyiterator_next
    (wpAny_call_entry F.slot_dict_keyiterator_next hit.typeIs F.entry_dict_keyiterator_next ?_ (F.args_dict_keyiterator_next_1 _))))
  refine wpAny_bind (wpAny_pure ?_)
  refine wpAny_bind ?_
  refine wpAny_bind ?_
  first | refine wpAny_bind (wpAny_typeNameOfWhole_keyiter hit.typeIs (wpAny_pure ?_)) | refine wpAny_bind (wpAny_typeNameOf_keyiter hit.typeIs (wpAny_pure ?_))
  refine wpAny_bind (wpAny_fieldsOf ho hd ?_)
  have hown : Builtin.Dict_items.ownsTuple "dict_keyiterator" = false := by decide
  simp only [hown, Bool.false_eq_true, if_false]
  show wpAny _ _ (if (Value.ref d == Value.none) = true then _ else _) _ _ s
  rw [if_neg (show ¬ ((Value.ref d == Value.none) = true) from Bool.false_ne_true)]
  refine wpAny_bind (wpAny_pure ?_)
  refine wpAny_bind (wpAny_dictEntries hod hdd ?_)
  rw [if_neg (by simp)]
  refine wpAny_bind (wpAny_pure ?_)
  refine wpAny_bind (wpAny_dictEpoch hod hdd ?_)
  rw [if_neg (by simp)]
  refine wpAny_pure ?_
  simp only [show ¬ ((i : Int) < 0) from by omega, if_false, Int.toNat_natCast, Array.getElem?_eq_getElem hlt]
  refine wpAny_bind ?_
  first | refine wpAny_bind (wpAny_typeNameOfWhole_keyiter hit.typeIs (wpAny_pure ?_)) | refine wpAny_bind (wpAny_typeNameOf_keyiter hit.typeIs (wpAny_pure ?_))
  refine wpAny_bind (wpAny_isOneOf_keyiter hit.typeIs ?_)
  show wpAny _ _ (setField (.ref it) 1 (rawInt ((i : Int) + 1)) >>= _) _ _ s
  refine wpAny_bind (wpAny_setField ho hd (by simp) ?_)
  have hit' : (s.heap.update it (Obj.mapFields (·.setIfInBounds 1 (rawInt ((i : Int) + 1))))).IsKeyIter it d (i + 1) es.size ep :=
    ⟨_, Heap.get?_update_self _ ho (Obj.isFreed_of_fields (Obj.data_mapFields hd _)), (Obj.cls_mapFields ..).trans hc, by rw [Obj.data_mapFields hd]; simp [rawInt]⟩
  refine wpAny_bind (wpAny_holding ?_)
  refine wpAny_bind (wpAny_isOneOf_keyiter (s := { s with heap := s.heap.update it (Obj.mapFields (·.setIfInBounds 1 (rawInt ((i : Int) + 1)))) }) hit'.typeIs ?_)
  show wpAny _ _ (pure es[i].key) _ _ _
  exact wpAny_pure (wpAny_pure ⟨_, rfl, wpAny_pure (hQ _ hit' (Heap.SameBut.update ..))⟩)

theorem next_none {it d : Addr} {i ep : Nat} {es : Array DictEntry} {Q : Option Value → Shared → Prop} (hh : A.handled = none) (hit : s.heap.IsKeyIter it d i es.size ep) (hm : EntriesAt s.heap d es ep) (hge : es.size ≤ i)
    (hQ : ∀ h', Heap.ExtBut it s.heap h' → Q none { s with heap := h' }) : wpAny (model prog w) A (pyNext (.ref it)) Q E s := by
  obtain ⟨o, ho, hc, hd⟩ := id hit
  obtain ⟨od, hod, hcd, hdd⟩ := id hm
  unfold pyNext
  refine wpAny_bind (wpAny_attempt (wpAny_callSpecial?_slot (name := Str.ofString "__next__") hit.typeIs F.slot_dict_keyiterator_next
    (wpAny_call_entry F.slot_dict_keyiterator_next hit.typeIs F.entry_dict_keyiterator_next ?_ (F.args_dict_keyiterator_next_1 _))))
  refine wpAny_bind (wpAny_pure ?_)
  refine wpAny_bind ?_
  refine wpAny_bind ?_
  first | refine wpAny_bind (wpAny_typeNameOfWhole_keyiter hit.typeIs (wpAny_pure ?_)) | refine wpAny_bind (wpAny_typeNameOf_keyiter hit.typeIs (wpAny_pure ?_))
  refine wpAny_bind (wpAny_fieldsOf ho hd ?_)
  have hown : Builtin.Dict_items.ownsTuple "dict_keyiterator" = false := by decide
  simp only [hown, Bool.false_eq_true, if_false]
  show wpAny _ _ (if (Value.ref d == Value.none) = true then _ else _) _ _ s
  rw [if_neg (show ¬ ((Value.ref d == Value.none) = true) from Bool.false_ne_true)]
  refine wpAny_bind (wpAny_pure ?_)
  refine wpAny_bind (wpAny_dictEntries hod hdd ?_)
  rw [if_neg (by simp)]
  refine wpAny_bind (wpAny_pure ?_)
  refine wpAny_bind (wpAny_dictEpoch hod hdd ?_)
  rw [if_neg (by simp)]
  refine wpAny_pure ?_
  simp only [show ¬ ((i : Int) < 0) from by omega, if_false, Int.toNat_natCast, Array.getElem?_eq_none hge]
  refine wpAny_bind ?_
  first | refine wpAny_bind (wpAny_typeNameOfWhole_keyiter hit.typeIs (wpAny_pure ?_)) | refine wpAny_bind (wpAny_typeNameOf_keyiter hit.typeIs (wpAny_pure ?_))
  show wpAny _ _ (setField (.ref it) 0 .none >>= _) _ _ s
  refine wpAny_bind (wpAny_setField ho hd (by simp) ?_)
  show wpAny _ _ (newExc (.type "StopIteration") [] >>= _) _ _ _
  refine wpAny_bind ?_
  simp only [newExc, newTuple]
  refine wpAny_bind (wpAny_newObj_type ?_ (by size_fits))
  refine wpAny_bind (m := firstArgMember _ _) (wpAny_of_eq (a := Value.none) (by first | rfl | (simp only [firstArgMember]; rfl)) ?_)
  refine wpAny_newObj_type ?_ (by size_fits)
  simp only [raiseNew]
  refine wpAny_bind (wpAny_handled ?_)
  rw [show A.in1.handled = none from hh]
  refine wpAny_bind (wpAny_pure (wpAny_throw ?_))
  refine wpAny_bind (wpAny_isInstance (T := "StopIteration") (b := true) ⟨_, Heap.get?_push_size _ rfl, rfl⟩ isSubtype_stop ?_)
  exact wpAny_pure (hQ _ (((Heap.SameBut.update ..).extBut.push _).push _))
end
end Mine
namespace Mine
set_option maxRecDepth 100000
section
variable {prog : Program} {w : World} {A : Around} {E : Value → Shared → Prop} {s : Shared}
theorem EntriesAt.mono {h h' : Heap} {d : Addr} {es : Array DictEntry} {ep : Nat} (x : EntriesAt h d es ep) (k : ∀ o, h.get? d = some o → h'.get? d = some o) : EntriesAt h' d es ep := let ⟨o, e, r⟩ := x; ⟨o, k o e, r⟩
theorem EntriesAt.lt {h : Heap} {d : Addr} {es : Array DictEntry} {ep : Nat} (x : EntriesAt h d es ep) : d < h.objs.size := let ⟨_, e, _⟩ := x; Heap.lt_size e

theorem entries_walks (hh : A.handled = none) (I d : Addr) (hne : d ≠ I) (es : Array DictEntry) (ep : Nat) :
    Walks prog w A I [I, d] [I] es.size (fun i v => es[i]?.map (·.key) = some v) (fun i h => h.IsKeyIter I d i es.size ep ∧ EntriesAt h d es ep) where
  sub := fun b hb => by simp at hb; simp [hb]
  frame := fun _ _ _ st hk => ⟨let ⟨o, e, r⟩ := st.1; ⟨o, hk I (by simp) o e, r⟩, st.2.mono fun o e => hk d (by simp) o e⟩
  item := fun i s Q E hi st hQ => by
    refine next_entry st.1 st.2 hi fun h' hit' hs' => ?_
    exact hQ _ h' s.toks (by simp [hi]) ⟨hit', st.2.mono fun o e => hs'.extBut d o hne e⟩ fun b o hb e => hs'.extBut b o (fun h => hb (by simp [h])) e
  done := fun s Q E st hQ => next_none hh st.1 st.2 (Nat.le_refl _) fun h' he' => hQ h' s.toks fun b o hb e => he' b o (fun h => hb (by simp [h])) e
  self := fun _ _ _ _ st hQ => wpAny_pyIter_keyiter st.1 hQ

theorem entries_src {d : Addr} {es : Array DictEntry} {ep : Nat} (lo : (d == sysModules) = false) : KdlSrc prog w "dict" d d es.size (fun i v => es[i]?.map (·.key) = some v) (fun h => EntriesAt h d es ep) where
  type := fun _ hm => hm.typeIs
  there := fun _ hm => ⟨hm.lt, hm.lt⟩
  keep := fun _ _ hm hk => hm.mono fun o e => hk d (.inl rfl) o e
  notList := by decide
  notTuple := by decide
  hint := fun _ _ _ _ hm hq => kdl_hint_dict hm.typeIs hq
  iter := fun _ _ hh hm => ⟨_, _, (fun _ _ hq => iter_entries lo hm hq), entries_walks hh _ d (Nat.ne_of_lt hm.lt) es ep, ⟨⟨_, Heap.get?_push_size _ rfl, rfl, rfl⟩, hm.mono fun o e => Heap.get?_push_of_some _ e⟩⟩
end
end Mine
namespace Mine
set_option maxRecDepth 100000

theorem addKeys_new {ks : List (List Int)} {k : List Int} (h : k ∉ ks) : addKey ks k = ks ++ [k] := by unfold addKey; rw [if_neg h]
theorem addKeys_old {ks : List (List Int)} {k : List Int} (h : k ∈ ks) : addKey ks k = ks := by unfold addKey; rw [if_pos h]
theorem addKeys_thrice : ∀ (l : List (Int × Int × Int)) (acc : List (List Int)), (acc ++ l.map keyOf).Nodup → addKeys acc ((thrice l).map keyOf) = acc ++ l.map keyOf
  | [], acc, _ => by simp [thrice, addKeys]
  | p :: l, acc, h => by
    have hp : keyOf p ∉ acc := by
      intro hm
      rw [List.map_cons] at h
      have := (List.nodup_append.mp h).2.2 _ hm _ (List.mem_cons_self)
      exact this rfl
    have e1 : addKeys acc ((thrice (p :: l)).map keyOf) = addKeys (acc ++ [keyOf p]) ((thrice l).map keyOf) := by
      have h2 : keyOf p ∈ acc ++ [keyOf p] := by simp
      unfold addKeys thrice
      simp only [List.flatMap_cons, List.map_append, List.map_cons, List.map_nil, List.cons_append, List.nil_append, List.foldl_cons]
      rw [addKeys_new hp, addKeys_old h2, addKeys_old h2]
    rw [e1, addKeys_thrice l (acc ++ [keyOf p]) (by rw [List.append_assoc]; exact h)]
    rw [List.map_cons, List.append_assoc]
    rfl
theorem keyOf_inj {p q : Int × Int × Int} (h : keyOf p = keyOf q) : p = q := by
  unfold keyOf at h
  simp only [List.cons.injEq, and_true] at h
  obtain ⟨a, b, c⟩ := p
  obtain ⟨a', b', c'⟩ := q
  simp only at h
  rw [h.1, h.2.1, h.2.2]
theorem tri_nodup : ((triTo 6).map keyOf).Nodup := by decide +kernel
theorem same_nodup (x : Int) : ((same x).map keyOf).Nodup := by
  have h := tri_nodup
  exact List.Nodup.sublist (List.Sublist.map keyOf List.filter_sublist) h

section
variable {w : World} {A : Around} {E : Value → Shared → Prop} {s : Shared}
theorem eq_tup3 {a b : Addr} {p : Int × Int × Int} (hu : A.units < cLine) (ha : Tup3 s.heap a p.1 p.2.1 p.2.2) (hb : Tup3 s.heap b p.1 p.2.1 p.2.2) : SeqAt.EqAt A s (.ref a) (.ref b) true := by
  obtain ⟨t1, t2, t3, x⟩ := ha
  obtain ⟨u1, u2, u3, y⟩ := hb
  by_cases h : a = b
  · subst h; exact SeqAt.EqAt.same _
  · have z := SeqAt.RcAt.tuples (A := A) (s := s) (e := fun _ => true) x y hu (fun j h1 h2 => by
      match j, h1, h2 with
      | 0, _, _ => have := SeqAt.EqAt.int_int (A := A.in1) (s := s) p.1 t1 p.1 u1; simpa using this
      | 1, _, _ => have := SeqAt.EqAt.int_int (A := A.in1) (s := s) p.2.1 t2 p.2.1 u2; simpa using this
      | 2, _, _ => have := SeqAt.EqAt.int_int (A := A.in1) (s := s) p.2.2 t3 p.2.2 u3; simpa using this
      | n + 3, h1, _ => exact absurd h1 (by show ¬ (n + 3 < 3); omega))
    exact SeqAt.EqAt.of_refs h z
theorem tup3_of_key {prog : Program} {h : Heap} {a : Addr} {p : Int × Int × Int} (x : IsTupleKey (PySem.intKind prog w) h (keyOf p) a) : Tup3 h a p.1 p.2.1 p.2.2 := by
  obtain ⟨o, items, n, e, hc, hd, hi⟩ := x
  have isI : ∀ {k : Int} {v : Value}, (PySem.intKind prog w).is k v = true → ∃ t, v = .int k t := by
    intro k v hv
    have hv' : Value.isInt k v = true := hv
    cases v <;> simp [Value.isInt] at hv'
    subst hv'; exact ⟨_, rfl⟩
  unfold keyOf at hi
  generalize hl : items.toList = l at hi
  cases hi with | cons h1 hi => cases hi with | cons h2 hi => cases hi with | cons h3 hi =>
    cases hi
    obtain ⟨t1, rfl⟩ := isI h1
    obtain ⟨t2, rfl⟩ := isI h2
    obtain ⟨t3, rfl⟩ := isI h3
    have : items = #[.int p.1 t1, .int p.2.1 t2, .int p.2.2 t3] := Array.toList_inj.mp hl
    subst this
    exact ⟨t1, t2, t3, o, e, hc, n, hd⟩

/-- list(d) of a dict of triples -/
theorem list_dict {d : Addr} {xs : List (List Int × Addr × Value)} {ps : List (Int × Int × Int)} {Q : Value → Shared → Prop} (hh : A.handled = none) (lo : (d == sysModules) = false) (hd : s.heap.DictOfH (tupleKind (PySem.intKind lawProg w)) d xs) (hk : xs.map (·.1) = ps.map keyOf) (hz : ps.length ≤ 1000)
    (h : ∀ D' h' tk vs, Grow s.heap h' → h'.IsList D' vs → Triples h' 0 vs.toList ps → Q (.ref D') { s with heap := h', toks := tk }) :
    wpAny (model lawProg w) A (call (.type "list") [.ref d]) Q E s := by
  obtain ⟨o, es, ep, e, hex, hdat, hes, his, hnd⟩ := hd
  have hlen : xs.length = ps.length := by have := congrArg List.length hk; simpa using this
  have hsz : es.size = xs.length := size_of_entries hes
  refine kdl_call (entries_src (es := es) (ep := ep) lo) hh ⟨o, e, hex, hdat⟩ (by rw [hsz, hlen, sizeLine_eq]; omega) fun h' tk acc c' k hD hacc => ?_
  refine h _ h' tk acc k ⟨_, hD, rfl, _, rfl⟩ ?_
  refine paired_of_get (by rw [Array.length_toList, hacc.1, hsz, hlen]) fun j v p ev ep' => ?_
  have hv : es[j]?.map (·.key) = some v := hacc.2 j v (by simpa using ev)
  rw [entry_at hes j] at hv
  have hj : j < xs.length := by rw [hlen]; exact (List.getElem?_eq_some_iff.mp ep').1
  rw [List.getElem?_eq_getElem hj] at hv
  have hkj : (xs[j]).1 = keyOf p := by
    have h1 : (xs.map (·.1))[j]? = (ps.map keyOf)[j]? := by rw [hk]
    rw [List.getElem?_map, List.getElem?_map, List.getElem?_eq_getElem hj, ep'] at h1
    simpa using h1
  have hx := his _ (List.getElem_mem hj)
  rw [hkj] at hx
  refine ⟨(xs[j]).2.1, ?_, Nat.zero_le _, (tup3_of_key hx).keeps k⟩
  simpa [entryOfKey] using hv.symm
end
end Mine
namespace Mine
set_option maxRecDepth 100000
section
variable {w : World} {base : Heap} {L fa : Addr} {cd : Value} {mg mb : Str → Option Value} {mean : ExcName → Option Value} {loose : List Str} {E : Value → Shared → Prop} {s : Shared}
  {m : Str → Option Value} {cc cp co ck : Option Value} {tt : Array Value × Array Value}

set_option maxHeartbeats 1000000 in
/-- return list(_deduplicate(turns)) == same -/
theorem st_return {Dt Ds : Addr} {vt vs : Array Value} {ps : List (Int × Int × Int)} {Q : Flow → Shared → Prop} (c : Ctx w base L mg mb mean loose) (S : LawSt base L s.heap m cc cp co ck tt)
    (mt : m (Str.ofString "turns") = some (.ref Dt)) (ms : m (Str.ofString "same") = some (.ref Ds)) (hlt : (still L s.heap).PlainList Dt vt) (ht : Triples (still L s.heap) 0 vt.toList (thrice ps)) (hls : (still L s.heap).PlainList Ds vs) (hs : Triples (still L s.heap) 0 vs.toList ps)
    (hz : ps.length ≤ 300) (hnd : (ps.map keyOf).Nodup)
    (k : ∀ h' tk, LawSt base L h' m cc cp co ck tt → Q (.ret (.bool true)) { s with heap := h', toks := tk }) :
    wpAny (model lawProg w) (lawA L fa cd) (exec (stmt 12) (lawEnv L fa cd)) Q E s := by
  show wpAny _ _ (exec (.Return (some (.Compare (.Call (.Name _ _) [.Call (.Name _ _) [.Name _ _] [] _] [] _) [.Eq] [.Name _ _] _)) _) _) _ _ _
  have up := still_le L s.heap
  have hlt0 : s.heap.IsList Dt vt := by obtain ⟨nn, e⟩ := hlt; exact ⟨_, up _ _ e, rfl, nn, rfl⟩
  have hls0 : s.heap.IsList Ds vs := by obtain ⟨nn, e⟩ := hls; exact ⟨_, up _ _ e, rfl, nn, rfl⟩
  refine wpAny_Return_some (wpAny_Compare1 ?_)
  refine Call_ (nm_builtin (v := .type "list") c rfl rfl rfl rfl S.fr.keep K_list (by decide +kernel) (by decide) (by decide) (callWith_type1 (wpAny_items_cons ?_ rfl)))
  refine ev_fun c rfl rfl rfl S.fr.keep K_dedup F_115 (by decide) rfl (wpAny_items_cons (law_name S rfl mt (wpAny_items_nil ⟨S.fr.keep, ?_⟩)) rfl)
  refine c_dedup (ts := thrice ps) c S.fr hlt0 (ht.keeps up) (by rw [thrice_len]; omega) fun d h1 n1 xs g1 hd1 hx hk => ?_
  replace g1 : Grow s.heap h1 := g1
  have S1 := S.grow g1
  have hk' : xs.map (·.1) = ps.map keyOf := by rw [hk, addKeys_thrice ps [] (by simpa using hnd)]; rfl
  have lo : (d == sysModules) = false := by
    rw [beq_eq_false_iff_ne]
    exact neN (Nat.ne_of_gt (Nat.lt_of_lt_of_le (Nat.lt_of_lt_of_le (Nat.lt_trans (by decide : sysModules < 79) c.l79) (Nat.le_of_lt S.lt)) hd1))
  refine wpAny_items_nil ?_
  refine list_dict (s := { s with heap := h1, toks := n1 }) (ps := ps) rfl lo hx hk' (by omega) fun D2 h2 n2 vs2 g2 hl2 ht2 => ?_
  dsimp only at g2
  have S2 := S1.grow g2
  have g12 := g1.trans g2
  refine law_name (s := { s with heap := h2, toks := n2 }) S2 rfl ms ?_
  have hs2 := (hs.keeps up).keeps g12
  have z1 : vs2.size = ps.length := by have := Paired.length ht2; simpa using this
  have z2 : vs.size = ps.length := by have := Paired.length hs2; simpa using this
  refine SeqAt.eq_listAt (e := fun _ => true) (s := { s with heap := h2, toks := n2 }) hl2 (isList_grow hls0 g12) (by rw [z1, z2]) lawRoom0 ?_ ?_
  · intro j h1' h2'
    have hj : j < ps.length := by rw [← z1]; exact h1'
    obtain ⟨a, ea, _, ta⟩ := paired_get ht2 (by rw [List.getElem?_eq_getElem (by rw [Array.length_toList]; exact h1')] : vs2.toList[j]? = some vs2.toList[j]) (List.getElem?_eq_getElem hj)
    obtain ⟨b, eb, _, tb⟩ := paired_get hs2 (by rw [List.getElem?_eq_getElem (by rw [Array.length_toList]; exact h2')] : vs.toList[j]? = some vs.toList[j]) (List.getElem?_eq_getElem hj)
    rw [Array.getElem_toList] at ea eb
    rw [ea, eb]
    exact eq_tup3 (by show (lawA L fa cd).in1.units < cLine; rw [show (lawA L fa cd).in1.units = 8 from rfl]; decide) ta tb
  · have e : ((List.range vs2.size).all fun _ => true) = true := by simp
    rw [e]
    exact k h2 n2 S2
end
end Mine
namespace Mine
set_option maxRecDepth 100000
section
variable {w : World} {base : Heap} {L fa : Addr} {cd : Value} {mg mb : Str → Option Value} {mean : ExcName → Option Value} {loose : List Str} {E : Value → Shared → Prop} {s : Shared}
  {m : Str → Option Value} {cc cp co ck : Option Value} {tt : Array Value × Array Value}

/-- what int_divmod must do -/
def DivmodOk : Prop := ∀ {w : World} {base : Heap} {L fa : Addr} {cd : Value} {mg mb : Str → Option Value} {mean : ExcName → Option Value} {loose : List Str} {E : Value → Shared → Prop} {s : Shared} {m : Str → Option Value} {cc cp co ck : Option Value} {a : Int} {t u : Tok} {Q : Value → Shared → Prop},
  Ctx w base L mg mb mean loose → LawSt base L s.heap m cc cp co ck (#[], #[]) → (a = 0 ∨ (4 ≤ a ∧ a ≤ 36)) →
  (∀ h' TT v1 v2 tk tt', LawSt base L h' m cc cp co ck tt' → Grow (still L s.heap) (still L h') → IsTup h' TT #[.int (a.fdiv 2) v1, .int (a.fmod 2) v2] → Q (.ref TT) { s with heap := h', toks := tk }) →
  CallTo w L fa cd 98 [.int a t, .int 2 u] Q E s

set_option maxHeartbeats 1000000 in
theorem st_half (hdm : DivmodOk) {P : Addr} {ys : Array Value} {ns : List Int} {Q : Flow → Shared → Prop} (c : Ctx w base L mg mb mean loose) (S : LawSt base L s.heap m cc cp co ck (#[], #[]))
    (mp : m (Str.ofString "products") = some (.ref P)) (hl : (still L s.heap).PlainList P ys) (hA : Are ys.toList ns) (ha : ns.foldl (· + ·) 0 = 0 ∨ (4 ≤ ns.foldl (· + ·) 0 ∧ ns.foldl (· + ·) 0 ≤ 36))
    (k : ∀ h' tk v1 v2 tt', LawSt base L h' (fun z => if z = Str.ofString "rest" then some (.int ((ns.foldl (· + ·) 0).fmod 2) v2) else if z = Str.ofString "half" then some (.int ((ns.foldl (· + ·) 0).fdiv 2) v1) else m z) cc cp co ck tt' → Grow (still L s.heap) (still L h') → Q .next { s with heap := h', toks := tk }) :
    wpAny (model lawProg w) (lawA L fa cd) (exec (stmt 8) (lawEnv L fa cd)) Q E s := by
  show wpAny _ _ (exec (.Assign [.Tuple [.Name _ _, .Name _ _] _ _] (.Call (.Name _ _) [.Call (.Name _ _) [.Name _ _, .Name _ _, .Constant (.int 0) _ _] [] _, .Constant (.int 2) _ _] [] _) _) _) _ _ _
  have hl0 : s.heap.PlainList P ys := by obtain ⟨nn, e⟩ := hl; exact ⟨nn, still_le L _ _ _ e⟩
  refine Assign_Tuple (ev_fun2 c rfl rfl rfl S.fr.keep K_int_divmod F_98 (by decide) rfl ?_)
  refine ev_fun c rfl rfl rfl S.fr.keep K_reduce F_107 (by decide) rfl ?_
  refine wpAny_items_cons (nm_global (v := .ref 21) c rfl rfl rfl S.fr.keep K_add (by decide) (wpAny_items_cons (law_name S rfl mp (wpAny_items_cons (wpAny_Constant_int (wpAny_items_nil ⟨S.fr.keep, ?_⟩)) rfl)) rfl)) rfl
  refine c_reduce (s := { s with toks := s.toks + 1 }) c S.fr hl0 hA fun h1 v1 n1 g1 => ?_
  replace g1 : Grow s.heap h1 := g1
  have S1 := S.grow g1
  refine wpAny_Constant_int ⟨S1.fr.keep, ?_⟩
  refine hdm (s := { s with heap := h1, toks := n1 + 1 }) c S1 ha fun h2 TT w1 w2 n2 tt2 S2 G2 tup2 => ?_
  refine wpAny_assign_Tuple (s := { s with heap := h2, toks := n2 }) rfl tup2 rfl rfl fun h3 he3 => ?_
  have g3 : Grow h2 h3 := fun b o e => he3 b o (Nat.ne_of_lt (Heap.lt_size e)) e
  have S3 := S2.grow g3
  show wpAny _ _ (assignInOrder [assign (.Name (Str.ofString "half") _) (lawEnv L fa cd), assign (.Name (Str.ofString "rest") _) (lawEnv L fa cd)] [.int _ w1, .int _ w2]) _ _ _
  refine assignInOrder_cons (law_store (s := { s with heap := h3, toks := n2 }) c rfl S3 fun h4 S4 k4 => assignInOrder_cons (law_store (s := { s with heap := h4, toks := n2 + 1 }) c rfl S4 fun h5 S5 k5 => assignInOrder_nil ?_))
  exact k h5 _ w1 w2 tt2 S5 ((still_mono g1).trans (G2.trans ((still_mono g3).trans ((still_frame k4).trans (still_frame k5)))))

theorem base_still {h : Heap} (c : Ctx w base L mg mb mean loose) (S : LawSt base L h m cc cp co ck tt) : Grow base (still L h) := by
  intro b o e
  refine still_get (S.fr.keep b o e) ?_
  have hb : @LT.lt Nat _ b L := Nat.lt_of_lt_of_le (Heap.lt_size e) S.fr.above
  simp only [marks, List.mem_cons, List.not_mem_nil, or_false, not_or]
  refine ⟨neN (by omega), (show @Ne Nat b (L + 1) by omega), (show @Ne Nat b (L + 1 + 1) by omega), (show @Ne Nat b (L + 1 + 1 + 1) by omega), (show @Ne Nat b (L + 1 + 1 + 1 + 1) by omega), ?_, ?_⟩
  · intro q; rw [q, c.n79] at e; cases e
  · intro q; rw [q, c.n72] at e; cases e

set_option maxHeartbeats 4000000 in
/-- the law behind its first statement -/
theorem law_rest (hdm : DivmodOk) {x : Int} {t0 : Tok} {Q : Flow → Shared → Prop} (c : Ctx w base L mg mb mean loose) (S : LawSt base L s.heap m cc cp co ck (#[], #[])) (md : m (Str.ofString "drawn") = some (.int x t0))
    (k : ∀ h' tk m' cc' cp' co' ck' tt', LawSt base L h' m' cc' cp' co' ck' tt' → Q (.ret (.bool true)) { s with heap := h', toks := tk }) :
    wpAny (model lawProg w) (lawA L fa cd) (exec (stmt 1) (lawEnv L fa cd)) (fun f s' => match f with | .next => wpAny (model lawProg w) (lawA L fa cd) (execs [stmt 2, stmt 3, stmt 4, stmt 5, stmt 6, stmt 7, stmt 8, stmt 9, stmt 10, stmt 11, stmt 12] (lawEnv L fa cd)) Q E s' | f => Q f s') E s := by
  refine st_lines c rfl S fun D1 h1 n1 v1 S1 G1 hl1 hp1 => ?_
  refine wpAny_execs_cons (st_colour (s := { s with heap := h1, toks := n1 }) S1 fun d h2 S2 G2 nd hdm2 hd2 => ?_)
  dsimp only at G2 nd
  have hb : base.get? d = none := none_below (base_still c S1) nd
  have Dx : (still L h2).DictOfH (tupleKind (PySem.intKind lawProg w)) d [] := by
    obtain ⟨o, es, ep, e, a1, a2, a3, a4, a5⟩ := hd2
    exact ⟨o, es, ep, still_get e hdm2, a1, a2, a3, (by simp), a5⟩
  refine wpAny_execs_cons (st_loop (s := { s with heap := h2, toks := n1 }) (g0 := still L h1) (x := x) (t0 := t0) c S2 hdm2 hb nd G2 hl1 hp1 (by simp only [if_true]) ?_ Dx fun h3 n3 m3 S3 km3 G3 C3 => ?_)
  · simp only [show (Str.ofString "drawn" = Str.ofString "lines") = False by decide, if_false]; exact md
  have ml3 : m3 (Str.ofString "lines") = some (.ref D1) := by rw [km3 _ (by decide) (by decide) (by decide)]; simp only [if_true]
  refine wpAny_execs_cons (wpAny_with_toks (n := n3) (Nat.le_refl _) (st_threes (s := { s with heap := h3, toks := n3 }) c rfl S3 fun D4 h4 n4 v4 S4 G4 hl4 ht4 l4 => ?_))
  dsimp only at G4 l4
  refine wpAny_execs_cons (wpAny_with_toks (n := n4) (Nat.le_refl _) (st_same (s := { s with heap := h4, toks := n4 }) (g0 := still L h4) (T := n3) (x := x) c S4 (.refl _) hl4 ht4 (by simp only [if_true]) (C3.keeps G4) fun D5 h5 n5 v5 S5 G5 hl5 hs5 l5 => ?_))
  dsimp only at G5 l5
  refine wpAny_execs_cons (wpAny_with_toks (n := n5) (Nat.le_refl _) (st_products (s := { s with heap := h5, toks := n5 }) c S5 fun P h6 n6 S6 G6 nP hPm hl6 l6 => ?_))
  dsimp only at G6 nP l6
  have hbP : base.get? P = none := none_below (base_still c S5) nP
  have e43 : @LE.le Nat _ n3 n4 := l4
  have e54 : @LE.le Nat _ n4 n5 := l5
  have e65 : @LE.le Nat _ n5 n6 := l6
  refine wpAny_execs_cons (st_prods (s := { s with heap := h6, toks := n6 }) (g0 := still L h5) (T := n3) (x := x) c S6 hPm hbP nP G6 (C3.keeps (G4.trans G5)) hl6 (by simp only [if_true]) (by show @LE.le Nat _ n3 n6; omega) fun h7 n7 m7 cp7 ys7 S7 km7 G7 hl7 hA7 l7 => ?_)
  obtain ⟨g1, g2, g3, g4⟩ := goodman x
  have e76 : @LE.le Nat _ n6 n7 := l7
  have mp7 : m7 (Str.ofString "products") = some (.ref P) := by rw [km7 _ (by decide)]; simp only [if_true]
  have ms7 : m7 (Str.ofString "same") = some (.ref D5) := by
    rw [km7 _ (by decide)]
    simp only [show (Str.ofString "same" = Str.ofString "products") = False by decide, if_false, if_true]
  have ml7 : m7 (Str.ofString "lines") = some (.ref D1) := by
    rw [km7 _ (by decide)]
    simp only [show (Str.ofString "lines" = Str.ofString "products") = False by decide, show (Str.ofString "lines" = Str.ofString "same") = False by decide, show (Str.ofString "lines" = Str.ofString "threes") = False by decide, if_false]
    exact ml3
  generalize hsum : (products x).foldl (· + ·) 0 = sm at g1 g2 g3 g4
  refine wpAny_execs_cons (wpAny_with_toks (n := n7) (Nat.le_refl _) (st_half hdm (s := { s with heap := h7, toks := n7 }) (ns := products x) c S7 mp7 hl7 hA7 (by rw [hsum]; omega) fun h8 n8 v81 v82 tt8 S8 G8 l8 => ?_))
  rw [hsum] at S8
  have e87 : @LE.le Nat _ n7 n8 := l8
  have esm : sm = 2 * (20 - (same x).length) := by omega
  have er : sm.fmod 2 = 0 := by rw [esm]; exact Int.mul_fmod_right _ _
  have eh : sm.fdiv 2 = 20 - (same x).length := by rw [esm]; exact Int.mul_fdiv_cancel_left _ (by omega)
  rw [er, eh] at S8
  have G58 : Grow (still L h5) (still L h8) := G7.trans G8
  have hs8 := hs5.keeps G58
  have hsz : v5.size = (same x).length := by have := Paired.length hs5; simpa using this
  refine wpAny_execs_cons (wpAny_with_toks (n := n8) (Nat.le_refl _) (st_if (s := { s with heap := h8, toks := n8 }) (D := D5) (vs := v5) (half := 20 - ((same x).length : Int)) (t1 := v82) (t2 := v81) c S8 (by simp only [if_true]) (by simp only [show (Str.ofString "half" = Str.ofString "rest") = False by decide, if_false, if_true]) ?_ (by obtain ⟨nn, e⟩ := hl5; exact ⟨nn, G58 _ _ e⟩) (by rw [hsz]; omega) (by rw [hsz]; omega) (by rw [hsz]; omega) fun h9 n9 S9 G9 l9 => ?_))
  · simp only [show (Str.ofString "same" = Str.ofString "rest") = False by decide, show (Str.ofString "same" = Str.ofString "half") = False by decide, if_false]; exact ms7
  have e98 : @LE.le Nat _ n8 n9 := l9
  have G59 := G58.trans G9
  have G15 : Grow (still L h1) (still L h5) := G3.trans (G4.trans G5)
  refine wpAny_execs_cons (st_kinds (s := { s with heap := h9, toks := n9 }) (g0 := still L h5) (T := n3) (x := x) (Dl := D1) (vl := v1) (Ds := D5) (vs := v5) c S9 G59 (C3.keeps (G4.trans G5)) ?_ (by obtain ⟨nn, e⟩ := hl1; exact ⟨nn, G15 _ _ e⟩) (hp1.keeps G15) ?_ hl5 hs5 (by show @LE.le Nat _ n3 n9; omega) (fun kd _ h => mantel x kd h) fun h10 n10 m10 co10 ck10 S10 km10 G10 => ?_)
  · simp only [show (Str.ofString "lines" = Str.ofString "rest") = False by decide, show (Str.ofString "lines" = Str.ofString "half") = False by decide, if_false]; exact ml7
  · simp only [show (Str.ofString "same" = Str.ofString "rest") = False by decide, show (Str.ofString "same" = Str.ofString "half") = False by decide, if_false]; exact ms7
  have ms10 : m10 (Str.ofString "same") = some (.ref D5) := by
    rw [km10 _ (by decide) (by decide) (by decide) (by decide)]
    simp only [show (Str.ofString "same" = Str.ofString "rest") = False by decide, show (Str.ofString "same" = Str.ofString "half") = False by decide, if_false]; exact ms7
  have hslen : (same x).length ≤ 20 := by omega
  refine wpAny_execs_cons (st_turns (s := { s with heap := h10, toks := n10 }) (g0 := still L h5) (ps := same x) (Ds := D5) (vs := v5) c S10 G10 ms10 hl5 hs5 (by omega) (fun p hp => (List.mem_filter.mp hp).1) fun D11 h11 n11 v11 S11 G11 hl11 ht11 => ?_)
  dsimp only at G11
  have G511 := G10.trans G11
  refine wpAny_execs_cons (st_return (s := { s with heap := h11, toks := n11 }) (ps := same x) (Dt := D11) (Ds := D5) (vt := v11) (vs := v5) c S11 (by simp only [if_true]) ?_ hl11 ht11 (by obtain ⟨nn, e⟩ := hl5; exact ⟨nn, G511 _ _ e⟩) (hs5.keeps G511) (by omega) (same_nodup x) fun h12 n12 S12 => ?_)
  · simp only [show (Str.ofString "same" = Str.ofString "turns") = False by decide, if_false]; exact ms10
  exact k h12 n12 _ _ _ _ _ _ S12
end
end Mine
namespace Mine
set_option maxRecDepth 100000
theorem finish (hdm : DivmodOk) {w : World} {base h : Heap} {L fa D : Addr} {cd : Value} {mg mb m : Str → Option Value} {mean : ExcName → Option Value} {loose : List Str} {E : Value → Shared → Prop} {g : Array GenState} {dr : _} {tk : Nat} {os : _} {lo w0 w1 w2 w3 : Obj} {v0 v1 v2 v3 : Option Value} {x : Int} {t0 : Tok} {Q : Flow → Shared → Prop}
    (F : Fr base L h m) (N : News base L h [(D, lo), (L + 1 + 1 + 1 + 1, w3), (L + 1 + 1 + 1, w2), (L + 1 + 1, w1), (L + 1, w0), (79, tabObj #[]), (72, tabObj #[])])
    (X : (hd.heap_39 w.params).In base) (T : Top topProg loose mean mg mb base) (K : Below callerA base [] base) (c1 : CodeHd base (83, 79).1 (83, 79).2) (c2 : CodeHd base (76, 72).1 (76, 72).2) (l0 : 79 < L ∧ 72 < L)
    (e0 : w0.data = .cell v0) (e1 : w1.data = .cell v1) (e2 : w2.data = .cell v2) (e3 : w3.data = .cell v3) (md : m (Str.ofString "drawn") = some (.int x t0))
    (k : ∀ h' tk m' ta tb, Fr base L h' m' → News base L h' [(79, tabObj ta), (72, tabObj tb)] → Q (.ret (.bool true)) ⟨h', g, dr, tk, os⟩) :
    wpAny (model lawProg w) (lawA L fa cd) (exec (stmt 1) (lawEnv L fa cd)) (fun f s' => match f with | .next => wpAny (model lawProg w) (lawA L fa cd) (execs [stmt 2, stmt 3, stmt 4, stmt 5, stmt 6, stmt 7, stmt 8, stmt 9, stmt 10, stmt 11, stmt 12] (lawEnv L fa cd)) Q E s' | f => Q f s') E ⟨h, g, dr, tk, os⟩ := by
  have n79 := N (79, tabObj #[]) (by simp)
  have n72 := N (72, tabObj #[]) (by simp)
  have c : Ctx w base L mg mb mean loose := ⟨X, T, K, l0.1, l0.2, n79.2.2, n72.2.2, c1, c2⟩
  have S : LawSt base L h m v0 v1 v2 v3 (#[], #[]) := ⟨F, ⟨_, (N (L + 1, w0) (by simp)).1, e0⟩, ⟨_, (N (L + 1 + 1, w1) (by simp)).1, e1⟩, ⟨_, (N (L + 1 + 1 + 1, w2) (by simp)).1, e2⟩, ⟨_, (N (L + 1 + 1 + 1 + 1, w3) (by simp)).1, e3⟩, n79.1, n72.1⟩
  refine law_rest (s := ⟨h, g, dr, tk, os⟩) hdm c S md fun h' tk' m' cc' cp' co' ck' tt' S' => ?_
  refine k h' tk' m' tt'.1 tt'.2 S'.fr ?_
  intro p hp
  simp only [List.mem_cons, List.not_mem_nil, or_false] at hp
  rcases hp with rfl | rfl
  · exact ⟨S'.t1, n79.2.1, n79.2.2⟩
  · exact ⟨S'.t2, n72.2.1, n72.2.2⟩
set_option maxHeartbeats 8000000 in
theorem main (hdm : DivmodOk) : Challenge.rw_xi0015_01.Holds := by
  refine hd (by
    k_go0
    (all_goals try k_fold)
    k_steps
    refine finish hdm (by assumption) (by assumption) (by assumption) (by assumption) (by assumption) (by assumption) (by assumption) (by assumption) (by assumption) (by assumption) (by assumption) (by assumption) (if_pos rfl) ?_
    intro h' tk m' ta tb F' N'
    k_steps)
end Mine
namespace Mine
set_option maxRecDepth 100000

/-- a walk of int_divmod told in the walker's words -/
abbrev DmFor (a : Int) : Prop := ∀ {w : World} {base : Heap} {L fa : Addr} {cd : Value} {mg mb : Str → Option Value} {mean : ExcName → Option Value} {loose : List Str} {s : Shared} {E : Value → Shared → Prop} {g : Heap} {t u : Tok} {Q : Value → Shared → Prop}
    (_ : g = hideAll s.heap [79, 72]) (_ : Below (lawA L fa cd) base [lawEnv L fa cd] g) (_ : (hd.heap_39 w.params).In g) (_ : Top topProg loose mean mg mb g)
    (_ : s.heap.get? 79 = some (tabObj #[])) (_ : s.heap.get? 72 = some (tabObj #[])) (_ : CodeHd base 83 79) (_ : CodeHd base 76 72)
    (_ : ∀ h' L' m' TT v1 v2 ta tb q r news tk, Fr g L' h' m' → News g L' h' news → (TT, ({ cls := .type "tuple", data := .seq #[.int q v1, .int r v2] } : Obj)) ∈ news → q = a.fdiv 2 ∧ r = a.fmod 2 → (79, tabObj ta) ∈ news → (72, tabObj tb) ∈ news → Q (.ref TT) { s with heap := h', toks := tk }),
    wpAny (model Challenge.rw_xi0015_01.row.prog w) (lawA L fa cd) (call (.ref 98) [.int a t, .int 2 u]) Q E s

theorem divmod_of (hall : ∀ a : Int, a = 0 ∨ (4 ≤ a ∧ a ≤ 36) → DmFor a) : DivmodOk := by
  intro w base L fa cd mg mb mean loose E s m cc cp co ck a t u Q c S ha k
  have hg : ∀ b o, s.heap.get? b = some o → b ∉ [79, 72] → (hideAll s.heap [79, 72]).get? b = some o := fun b o e n => hideAll_get _ e n
  have l79 := c.l79
  have l72 := c.l72
  have nb : ∀ b o, base.get? b = some o → b ∉ [79, 72] := by
    intro b o e q
    simp only [List.mem_cons, List.not_mem_nil, or_false] at q
    rcases q with rfl | rfl
    · rw [c.n79] at e; cases e
    · rw [c.n72] at e; cases e
  have hbg : Grow base (hideAll s.heap [79, 72]) := fun b o e => hg b o (S.fr.keep b o e) (nb b o e)
  have nL : L ∉ [79, 72] := by simp only [List.mem_cons, List.not_mem_nil, or_false, not_or]; exact ⟨neN (by omega), neN (by omega)⟩
  have F : Fr base L (hideAll s.heap [79, 72]) m := ⟨by obtain ⟨o, es, ep, e, r⟩ := S.fr.ns; exact ⟨o, es, ep, hg _ _ e nL, r⟩, hbg, S.fr.above⟩
  refine hall a ha rfl (lawBelow (s := { s with heap := hideAll s.heap [79, 72] }) c F) (c.X.keeps hbg) (c.T.keeps hbg) S.t1 S.t2 c.c79 c.c72 fun h' L' m' TT v1 v2 ta tb q r news tk F' N' hT hqr h79 h72 => ?_
  obtain ⟨rfl, rfl⟩ := hqr
  have k0 : ∀ b o, b ∉ [79, 72] → s.heap.get? b = some o → h'.get? b = some o := fun b o n e => F'.keep _ _ (hg b o e n)
  refine k h' TT v1 v2 tk (ta, tb) ⟨⟨?_, ?_, S.fr.above⟩, ?_, ?_, ?_, ?_, (N' _ h79).1, (N' _ h72).1⟩ ?_ ⟨_, (N' _ hT).1, rfl, _, rfl⟩
  · obtain ⟨o, es, ep, e, r⟩ := S.fr.ns; exact ⟨o, es, ep, k0 _ _ nL e, r⟩
  · exact fun b o e => k0 b o (nb b o e) (S.fr.keep b o e)
  · obtain ⟨o, e, r⟩ := S.c1; exact ⟨o, k0 _ _ (by simp only [List.mem_cons, List.not_mem_nil, or_false, not_or]; exact ⟨(show @Ne Nat (L + 1) 79 by omega), (show @Ne Nat (L + 1) 72 by omega)⟩) e, r⟩
  · obtain ⟨o, e, r⟩ := S.c2; exact ⟨o, k0 _ _ (by simp only [List.mem_cons, List.not_mem_nil, or_false, not_or]; exact ⟨(show @Ne Nat (L + 1 + 1) 79 by omega), (show @Ne Nat (L + 1 + 1) 72 by omega)⟩) e, r⟩
  · obtain ⟨o, e, r⟩ := S.c3; exact ⟨o, k0 _ _ (by simp only [List.mem_cons, List.not_mem_nil, or_false, not_or]; exact ⟨(show @Ne Nat (L + 1 + 1 + 1) 79 by omega), (show @Ne Nat (L + 1 + 1 + 1) 72 by omega)⟩) e, r⟩
  · obtain ⟨o, e, r⟩ := S.c4; exact ⟨o, k0 _ _ (by simp only [List.mem_cons, List.not_mem_nil, or_false, not_or]; exact ⟨(show @Ne Nat (L + 1 + 1 + 1 + 1) 79 by omega), (show @Ne Nat (L + 1 + 1 + 1 + 1) 72 by omega)⟩) e, r⟩
  · exact still_grow fun b o n e => k0 b o (fun q => n (by simp only [List.mem_cons, List.not_mem_nil, or_false] at q; rcases q with rfl | rfl <;> simp [marks])) e
end Mine
namespace Mine
set_option maxRecDepth 100000
theorem all_int {lo : Int} {N : Nat} {P : Int → Prop} (h : ∀ k : Nat, k < N → P (lo + (k : Int))) {a : Int} (h0 : lo ≤ a) (h1 : a < lo + (N : Int)) : P a := by
  have := h (a - lo).toNat (by omega)
  rwa [show lo + (((a - lo).toNat : Nat) : Int) = a by omega] at this
theorem xor_low {x : Int} (h0 : 0 ≤ x) (h1 : x < 64) : Builtin.bitXor x (x.fdiv 4 * 4) = x - x.fdiv 4 * 4 := all_int (lo := 0) (N := 64) (P := fun x => Builtin.bitXor x (x.fdiv 4 * 4) = x - x.fdiv 4 * 4) (by decide +kernel) h0 (by omega)
/-- x is q times four and l -/
structure Cut4 (x q l : Int) : Prop where
  lo : 0 ≤ x
  hi : x < 64
  eq : q = x.fdiv 4
  el : l = x - x.fdiv 4 * 4
structure Sm (x : Int) : Prop where
  lo : 0 ≤ x
  hi : x < 64
structure Half (x q r : Int) : Prop where
  sm : Sm x
  eq : q = x.fdiv 2
  er : r = x.fmod 2
section
variable {w : World} {mg mb : Str → Option Value} {mean : ExcName → Option Value} {loose : List Str} {s : Shared} {A : Around} {h₀ : Heap} {L : Addr} {m : Str → Option Value} {news : List (Addr × Obj)} {E : Value → Shared → Prop}
theorem ab_shr {x k q l : Int} {t u : Tok} {Q : Value → Shared → Prop} (h : Q (.int q s.toks) { s with toks := s.toks + 1 }) (hx : Cut4 x q l := by assumption) (hk : k = 2 := by k_dflt (exact rfl)) : wpAny (model Challenge.rw_xi0015_01.row.prog w) A (binaryOp .RShift (.int x t) (.int k u)) Q E s := by
  subst hk
  obtain ⟨lo, hi, rfl, rfl⟩ := hx
  exact rshift_int (by omega) h
theorem ab_mid {x k y : Int} {t u : Tok} {Q : Value → Shared → Prop} (h : Q (.int y s.toks) { s with toks := s.toks + 1 }) (hk : k = 1 := by k_dflt (exact rfl)) (hy : x.fdiv 2 = y := by exact rfl) : wpAny (model Challenge.rw_xi0015_01.row.prog w) A (binaryOp .RShift (.int x t) (.int k u)) Q E s := by
  subst hk
  subst hy
  exact rshift_int (by omega) h
theorem ab_shl {x k : Int} {t u : Tok} {Q : Value → Shared → Prop} (h : Q (.int (x * 4) s.toks) { s with toks := s.toks + 1 }) (hx : Sm x := by first | assumption | k_dflt (assumption)) (hk : k = 2 := by k_dflt (exact rfl)) : wpAny (model Challenge.rw_xi0015_01.row.prog w) A (binaryOp .LShift (.int x t) (.int k u)) Q E s := by
  subst hk
  obtain ⟨lo, hi⟩ := hx
  have hb : Builtin.Int.intBits x ≤ 64 := intBits_le_64 (by omega) (by omega)
  exact lshift_int (by omega) (by omega) h
theorem ab_xor {x q l : Int} {t u : Tok} {Q : Value → Shared → Prop} (h : Q (.int l s.toks) { s with toks := s.toks + 1 }) (hx : Cut4 x q l := by assumption) : wpAny (model Challenge.rw_xi0015_01.row.prog w) A (binaryOp .BitXor (.int x t) (.int (q * 4) u)) Q E s := by
  obtain ⟨lo, hi, rfl, rfl⟩ := hx
  refine xor_int ?_
  rw [xor_low lo hi]
  exact h
theorem div2_H {X nn q r : Int} {t u v : Tok} {Q : Value → Shared → Prop} (F : Fr h₀ L s.heap m) (N : News h₀ L s.heap news) (X' : (hd.heap_39 w.params).In h₀) (T' : Top topProg loose mean mg mb h₀) (hroom : A.depth < recursionLimit)
    (hX : Half X q r) (hn : 0 ≤ nn)
    (h : ∀ l h' t1 t2 tk, Fr h₀ L h' m → News h₀ L h' ((l, { cls := .type "tuple", data := .seq #[.int q t1, .int r t2] }) :: news) → (∀ p ∈ news, p.1 < l) → Q (.ref l) { s with heap := h', toks := tk }) :
    wpAny (model Challenge.rw_xi0015_01.row.prog w) A (call (.ref 63) [.int X t, .int 2 u, .int nn v]) Q E s := by
  obtain ⟨⟨lo, hi⟩, rfl, rfl⟩ := hX
  exact div2_K F N X' T' hroom ⟨lo, hi⟩ hn h
end
theorem repl2 {b c : Int} {tk : Tok} (h : b.fdiv c = 2) : (List.replicate (b.fdiv c).toNat [Value.int 0 tk]).flatten.toArray = #[.int 0 tk, .int 0 tk] := by rw [h]; rfl
theorem repl3 {b c : Int} {tk : Tok} (h : b.fdiv c = 3) : (List.replicate (b.fdiv c).toNat [Value.int 0 tk]).flatten.toArray = #[.int 0 tk, .int 0 tk, .int 0 tk] := by rw [h]; rfl
section
variable {d x y : Addr} {o : Obj} {l : List (Addr × Obj)}
theorem lt_all : ∀ {l : List (Addr × Obj)}, AllLt d l → (x, o) ∈ l → @LT.lt Nat _ x d
  | _ :: _, h, .head _ => h.1
  | _ :: _, h, .tail _ m => lt_all h.2 m
theorem ne_a0 (h : AllLt d l := by assumption) (m : (x, o) ∈ l := by k_mem) : x ≠ d := Nat.ne_of_lt (lt_all h m)
theorem ne_a1 (h : AllLt d l := by assumption) (m : (x, o) ∈ l := by k_mem) : x ≠ d + 1 := Nat.ne_of_lt (Nat.lt_succ_of_lt (lt_all h m))
theorem ne_a2 (h : AllLt d l := by assumption) (m : (x, o) ∈ l := by k_mem) : x ≠ d + 1 + 1 := Nat.ne_of_lt (Nat.lt_succ_of_lt (Nat.lt_succ_of_lt (lt_all h m)))
theorem ne_a3 (h : AllLt d l := by assumption) (m : (x, o) ∈ l := by k_mem) : x ≠ d + 1 + 1 + 1 := Nat.ne_of_lt (Nat.lt_succ_of_lt (Nat.lt_succ_of_lt (Nat.lt_succ_of_lt (lt_all h m))))
theorem ne_b0 (h : AllLt d l := by assumption) (m : (x, o) ∈ l := by k_mem) : d ≠ x := (ne_a0 h m).symm
theorem ne_b1 (h : AllLt d l := by assumption) (m : (x, o) ∈ l := by k_mem) : d + 1 ≠ x := (ne_a1 h m).symm
theorem ne_b2 (h : AllLt d l := by assumption) (m : (x, o) ∈ l := by k_mem) : d + 1 + 1 ≠ x := (ne_a2 h m).symm
theorem ne_b3 (h : AllLt d l := by assumption) (m : (x, o) ∈ l := by k_mem) : d + 1 + 1 + 1 ≠ x := (ne_a3 h m).symm
theorem ne_c (k : @LT.lt Nat _ d y := by assumption) (h : AllLt d l := by assumption) (m : (x, o) ∈ l := by k_mem) : x ≠ y := Nat.ne_of_lt (Nat.lt_trans (lt_all h m) k)
theorem ne_d (k : @LT.lt Nat _ d y := by assumption) (h : AllLt d l := by assumption) (m : (x, o) ∈ l := by k_mem) : y ≠ x := (ne_c k h m).symm
end
structure Stop (p : Prop) : Prop where
  h : p
theorem stop_ite {a : Int} {p q : Prop} (h : Stop (if (a != 0) = true then p else q)) : if (a != 0) = true then p else q := h.h
theorem ite_k {c : Prop} [Decidable c] {a b : Prop} (h : a) (hc : c := by decide +kernel) : if c then a else b := by rw [if_pos hc]; exact h
theorem ite_n {c : Prop} [Decidable c] {a b : Prop} (h : b) (hc : ¬ c := by decide +kernel) : if c then a else b := by rw [if_neg hc]; exact h
theorem repl0 {b c : Int} {tk : Tok} (h : b.fdiv c = 0) : (List.replicate (b.fdiv c).toNat [Value.int 0 tk]).flatten.toArray = #[] := by rw [h]; rfl
def bnd2 (a : Str) (x : Value) (b : Str) (y : Value) : Str → Option Value := fun n => List.lookup n [(b, y), (a, x)]
def bnd3 (a : Str) (x : Value) (b : Str) (y : Value) (c : Str) (z : Value) : Str → Option Value := fun n => List.lookup n [(c, z), (b, y), (a, x)]
section
variable {g h : Heap} {L : Addr} {l : List (Str × Value)} {a b c : Str} {x y z : Value}
theorem fr_b2 (F : Fr g L h fun n => List.lookup n l.reverse) (e : l = [(a, x), (b, y)] := by exact rfl) : Fr g L h (bnd2 a x b y) := by subst e; exact F
theorem fr_b3 (F : Fr g L h fun n => List.lookup n l.reverse) (e : l = [(a, x), (b, y), (c, z)] := by exact rfl) : Fr g L h (bnd3 a x b y c z) := by subst e; exact F
end
theorem fold_env {prog : Program} {w : World} {A : Around} {env : Env} {ss : List Stmt} {Q : Flow → Shared → Prop} {E : Value → Shared → Prop} {s : Shared}
    (h : ∀ tk, let env' := env; let A' := Around.deeper A env'; let Q' := Q; let E' := E; wpAny (model prog w) A' (execs ss env') Q' E' ⟨s.heap, s.gens, s.drawn, tk, s.os⟩) : wpAny (model prog w) (Around.deeper A env) (execs ss env) Q E s := h s.toks
theorem fold_stmt {prog : Program} {w : World} {A : Around} {env : Env} {st : Stmt} {rest : List Stmt} {Q : Flow → Shared → Prop} {E : Value → Shared → Prop} {s : Shared}
    (h : ∀ tk, let Q' : Flow → Shared → Prop := fun f s' => match f with | .next => wpAny (model prog w) A (execs rest env) Q E s' | f => Q f s'; wpAny (model prog w) A (exec st env) Q' E ⟨s.heap, s.gens, s.drawn, tk, s.os⟩) : wpAny (model prog w) A (execs (st :: rest) env) Q E s := wpAny_execs_cons (h s.toks)
def bnd0 : Str → Option Value := fun _ => none
def bnd1 (a : Str) (x : Value) : Str → Option Value := fun n => if n = a then some x else none
theorem fr_0 {g h : Heap} {L : Addr} {m : Str → Option Value} (F : Fr g L h m) (e : m = bnd0 := by exact rfl) : Fr g L h bnd0 := by subst e; exact F
theorem fr_1 {g h : Heap} {L : Addr} {m : Str → Option Value} {a : Str} {x : Value} (F : Fr g L h m) (e : m = bnd1 a x := by exact rfl) : Fr g L h (bnd1 a x) := by subst e; exact F
end Mine
namespace Mine
set_option maxRecDepth 100000
local macro_rules | `(tactic| walk_at "call ref") => `(tactic| (k_dflt (refine div2_H (by k_asm) (by k_asm) (by k_asm) (by k_asm) (by k_room) (by assumption) (Int.natCast_nonneg _) ?_); intro l' h' t1 t2 tk F' N' l1; k_lt l1))
local macro_rules | `(tactic| walk_at "binaryOp RShift int int") => `(tactic| first | refine ab_mid ?_ | refine ab_shr ?_)
local macro_rules | `(tactic| walk_at "binaryOp LShift int int") => `(tactic| refine ab_shl ?_)
local macro_rules | `(tactic| walk_at "binaryOp BitXor int int") => `(tactic| refine ab_xor ?_)
local macro_rules | `(tactic| walk_at "ite") => `(tactic| first | refine ite_k ?_ | refine ite_n ?_ | refine ite_isFalse (by first | assumption | exact rfl) ?_ | refine stop_ite ?_)
local macro_rules | `(tactic| k_lt $h:ident) => `(tactic| replace $h := allLt_of $h)
local macro_rules | `(tactic| k_ne) => `(tactic| (refine neN ?_; (try dsimp only); first | exact ne_a0 | exact ne_b0 | exact ne_a1 | exact ne_b1 | exact ne_a2 | exact ne_b2 | exact ne_a3 | exact ne_b3 | exact ne_c | exact ne_d | decide | omega))
local macro_rules | `(tactic| walk_at "execs cons") => `(tactic| (refine fold_stmt ?_; intro tk qk; (try dsimp only)))
local macro_rules | `(tactic| k_fold) => `(tactic| (refine fold_env ?_; intro tk kE kA qk ek; (try dsimp only); rename Fr _ _ _ _ => F9; (try k_dflt (first | replace F9 := fr_b2 F9 | replace F9 := fr_b3 F9 | replace F9 := fr_0 F9 | replace F9 := fr_1 F9))))
local macro_rules | `(tactic| k_room) => `(tactic| k_dflt (exact Nat.le_of_ble_eq_true rfl))
def CaseA (a n qq rr : Int) : Prop :=
  (a = 0 ∧ n = 0 ∧ qq = 0 ∧ rr = 0)
  ∨ (n = 2 ∧ (a != 0) = true ∧ ∃ u l q1 r1 q0, Cut4 a u l ∧ Sm u ∧ Sm r1 ∧ Sm q1 ∧ Half (0 * 4 + u) q1 r1 ∧ Half (r1 * 4 + l) q0 rr ∧ qq = q1 * 4 + q0)
  ∨ (n = 3 ∧ (a != 0) = true ∧ ∃ u l v m q2 r2 q1 r1 q0, Cut4 a u l ∧ Cut4 u v m ∧ Sm u ∧ Sm v ∧ Sm r2 ∧ Sm r1 ∧ Sm q2 ∧ Sm (q2 * 4 + q1) ∧ Half (0 * 4 + v) q2 r2 ∧ Half (r2 * 4 + m) q1 r1 ∧ Half (r1 * 4 + l) q0 rr ∧ qq = (q2 * 4 + q1) * 4 + q0)
set_option maxHeartbeats 0 in
theorem dm {w : World} {base : Heap} {L fa : Addr} {cd : Value} {mg mb : Str → Option Value} {mean : ExcName → Option Value} {loose : List Str} {hp : Heap} {gs : Array GenState} {dr : _} {t0 : Nat} {os : _} {E : Value → Shared → Prop} {g : Heap} {t u' : Tok} {Q : Value → Shared → Prop} {a n qq rr : Int}
    (hcase : CaseA a n qq rr) (S0 : Sm 0) (hn0 : 0 ≤ n) (hn3 : n ≤ 3)
    (ed : ((Builtin.Int.intBits a : Nat) + (Builtin.Int.intBits 2 : Nat) - 1 : Int).fdiv (Builtin.Int.intBits 2 : Nat) = n)
    (hg : g = hideAll hp [79, 72]) (B' : Below (lawA L fa cd) base [lawEnv L fa cd] g) (X' : (hd.heap_39 w.params).In g) (T' : Top topProg loose mean mg mb g)
    (h79 : hp.get? 79 = some (tabObj #[])) (h72 : hp.get? 72 = some (tabObj #[])) (hc79 : CodeHd base 83 79) (hc72 : CodeHd base 76 72)
    (hge : decide (a < 0) = false)
    (h : ∀ h' L' m' TT v1 v2 ta tb q r news tk, Fr g L' h' m' → News g L' h' news → (TT, ({ cls := .type "tuple", data := .seq #[.int q v1, .int r v2] } : Obj)) ∈ news → q = qq ∧ r = rr → (79, tabObj ta) ∈ news → (72, tabObj tb) ∈ news → Q (.ref TT) ⟨h', gs, dr, tk, os⟩) :
    wpAny (model Challenge.rw_xi0015_01.row.prog w) (lawA L fa cd) (call (.ref 98) [.int a t, .int 2 u']) Q E ⟨hp, gs, dr, t0, os⟩ := by
  refine wpAny_call ?_
  subst hg
  revert X'
  k_fill
  intro X'
  refine' own_call (s := ⟨hp, gs, dr, t0, os⟩) [(79, tabObj #[]), (72, tabObj #[])] X' T' ?hh ?ho ?hcd ?hroom ?hbind ?hloc ?hco ?hgen ?hk ?hcell ?_
  case hh => exact fun q hq => by rcases List.mem_cons.mp hq with rfl | hq; exact h79; rcases List.mem_cons.mp hq with rfl | hq; exact h72; cases hq
  case ho => k_is
  case hcd => k_is
  case hroom => k_room
  case hbind => first | exact BindsTo.of_eq rfl | exact binds_K (by k_in) rfl (by k_is) rfl rfl rfl
  case hloc => exact locs rfl
  case hco => exact rfl
  case hgen => exact rfl
  case hk => exact rfl
  case hcell => decide
  intro L' h' hL' F' N'
  simp only [List.map_cons, List.map_nil] at F' N'
  generalize hideAll hp [79, 72] = g at *
  try dsimp only
  k_fold
  k_steps
  rename News _ _ _ _ => N9
  refine Stop.mk ?_
  rcases hcase with ⟨rfl, rfl, rfl, rfl⟩ | ⟨rfl, hne, u, l, q1, r1, q0, C1, S1, S2, S3, H1, H0, rfl⟩ | ⟨rfl, hne, u, l, v, m, q2, r2, q1, r1, q0, C1, C2, S1, S2, S3, S4, S5, S6, H2, H1, H0, rfl⟩
  · rw [repl0 ed] at N9
    refine ite_n ?_
    k_steps
    show Q (Value.ref _) ⟨_, _, _, _, _⟩
    refine h _ _ _ _ _ _ _ _ _ _ _ _ (by k_asm) (by k_asm) (by k_mem) ⟨rfl, rfl⟩ (by k_mem) (by k_mem)
  · rw [repl2 ed] at N9
    refine PySem.W.ite_pos hne ?_
    k_steps
    show Q (Value.ref _) ⟨_, _, _, _, _⟩
    refine h _ _ _ _ _ _ _ _ _ _ _ _ (by k_asm) (by k_asm) (by k_mem) ⟨rfl, rfl⟩ (by k_mem) (by k_mem)
  · rw [repl3 ed] at N9
    refine PySem.W.ite_pos hne ?_
    k_steps
    show Q (Value.ref _) ⟨_, _, _, _, _⟩
    refine h _ _ _ _ _ _ _ _ _ _ _ _ (by k_asm) (by k_asm) (by k_mem) ⟨rfl, rfl⟩ (by k_mem) (by k_mem)
end Mine
namespace Mine
set_option maxRecDepth 100000
abbrev B64 (x : Int) : Prop := 0 ≤ x ∧ x < 64
def qt (a : Int) : Int := a.fdiv 4
def dg (a : Int) : Int := a - a.fdiv 4 * 4
def hq (x : Int) : Int := x.fdiv 2
def hr (x : Int) : Int := x.fmod 2
def bitsOk (a n : Int) : Prop := ((Builtin.Int.intBits a : Nat) + (Builtin.Int.intBits 2 : Nat) - 1 : Int).fdiv (Builtin.Int.intBits 2 : Nat) = n
theorem cut4_mk {x : Int} (h : B64 x) : Cut4 x (qt x) (dg x) := ⟨h.1, h.2, rfl, rfl⟩
theorem sm_mk {x : Int} (h : B64 x) : Sm x := ⟨h.1, h.2⟩
theorem half_mk {x : Int} (h : B64 x) : Half x (hq x) (hr x) := ⟨⟨h.1, h.2⟩, rfl, rfl⟩
abbrev F2 (a : Int) : Prop := a ≠ 0 ∧ B64 a ∧ B64 (qt a) ∧ B64 (0 * 4 + qt a) ∧ B64 (hq (0 * 4 + qt a)) ∧ B64 (hr (0 * 4 + qt a)) ∧ B64 (hr (0 * 4 + qt a) * 4 + dg a) ∧ decide (a < 0) = false ∧ (a != 0) = true ∧ bitsOk a 2
  ∧ hq (0 * 4 + qt a) * 4 + hq (hr (0 * 4 + qt a) * 4 + dg a) = a.fdiv 2 ∧ hr (hr (0 * 4 + qt a) * 4 + dg a) = a.fmod 2
theorem f2 : ∀ k : Nat, k < 12 → F2 (4 + (k : Int)) := by unfold F2 bitsOk; decide +kernel
def d2 (a : Int) : Int := qt (qt a)
def d1 (a : Int) : Int := dg (qt a)
def r2 (a : Int) : Int := hr (0 * 4 + d2 a)
def r1 (a : Int) : Int := hr (r2 a * 4 + d1 a)
abbrev F3 (a : Int) : Prop := a ≠ 0 ∧ B64 a ∧ B64 (qt a) ∧ B64 (d2 a) ∧ B64 (0 * 4 + d2 a) ∧ B64 (hq (0 * 4 + d2 a)) ∧ B64 (r2 a) ∧ B64 (r2 a * 4 + d1 a) ∧ B64 (hq (0 * 4 + d2 a) * 4 + hq (r2 a * 4 + d1 a)) ∧ B64 (r1 a) ∧ B64 (r1 a * 4 + dg a) ∧ decide (a < 0) = false ∧ (a != 0) = true ∧ bitsOk a 3
  ∧ (hq (0 * 4 + d2 a) * 4 + hq (r2 a * 4 + d1 a)) * 4 + hq (r1 a * 4 + dg a) = a.fdiv 2 ∧ hr (r1 a * 4 + dg a) = a.fmod 2
theorem f3 : ∀ k : Nat, k < 48 → F3 (16 + (k : Int)) := by unfold F3 bitsOk; decide +kernel
theorem b0 : B64 0 := by decide
theorem dmCase {a n : Int} (hc : CaseA a n (a.fdiv 2) (a.fmod 2)) (hb : bitsOk a n) (hn0 : 0 ≤ n) (hn3 : n ≤ 3) (hge : decide (a < 0) = false) : DmFor a := by
  intro w base L fa cd mg mb mean loose s E g t u' Q hg B' X' T' h79 h72 hc79 hc72 h
  exact dm hc (sm_mk b0) hn0 hn3 hb hg B' X' T' h79 h72 hc79 hc72 hge h
theorem dmFor2 {a : Int} (hf : F2 a) : DmFor a := by
  obtain ⟨f1, f2, f3, f4, f5, f6, f7, f8, f9, f10, f11, f12⟩ := hf
  exact dmCase (.inr (.inl ⟨rfl, f9, _, _, _, _, _, cut4_mk f2, sm_mk f3, sm_mk f6, sm_mk f5, half_mk f4, f12 ▸ half_mk f7, f11.symm⟩)) f10 (by decide) (by decide) f8
theorem dmFor3 {a : Int} (hf : F3 a) : DmFor a := by
  obtain ⟨f1, f2, f3, f4, f5, f6, f7, f8, f9, f10, f11, f12, f13, f14, f15, f16⟩ := hf
  exact dmCase (.inr (.inr ⟨rfl, f13, _, _, _, _, _, _, _, _, _, cut4_mk f2, cut4_mk f3, sm_mk f3, sm_mk f4, sm_mk f7, sm_mk f10, sm_mk f6, sm_mk f9, half_mk f5, half_mk f8, f16 ▸ half_mk f11, f15.symm⟩)) f14 (by decide) (by decide) f12
theorem dmFor0 : DmFor 0 := dmCase (.inl ⟨rfl, rfl, rfl, rfl⟩) (by unfold bitsOk; decide +kernel) (by decide) (by decide) (by decide)
theorem divmod_ok : DivmodOk := divmod_of fun a ha => by
  rcases ha with rfl | ⟨h0, h1⟩
  · exact dmFor0
  · by_cases h : a < 16
    · exact dmFor2 (all_int (P := F2) f2 h0 (by omega))
    · exact dmFor3 (all_int (P := F3) f3 (by omega) (by omega))
end Mine
set_option maxRecDepth 100000 in
theorem PySem.Challenge.cw_xi0015_01_holds : PySem.Challenge.rw_xi0015_01.Holds := by
  exact Mine.main Mine.divmod_ok
