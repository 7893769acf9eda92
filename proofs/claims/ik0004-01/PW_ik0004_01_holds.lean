import PyProof.Rows.All
import Wide.All
import OpenK.AllK
import Wide.FinOn
import PySem.Challenge.RW_ik0004_01
open PySem PySem.W PySem.Calls PyProof.Rows
set_option Elab.async false
set_option maxRecDepth 100000
set_option maxHeartbeats 8000000
namespace Mine
open_top hd for PySem.Challenge.rw_ik0004_01

theorem at_P01_Base : True := by
  w_top off
  trivial
noncomputable abbrev PR : Program := PySem.Challenge.rw_ik0004_01.row.prog
noncomputable abbrev LO : List Str := looseW hd.view_39 [Str.ofString "nsmallest", Str.ofString "filterfalse"]
abbrev NoE : Value → Shared → Prop := fun _ _ => False

section
variable {prog : Program} {w : World} {A₀ A : Around} {s : Shared} {base h₀ : Heap} {outer : List Env} {L : Addr} {m : Str → Option Value} {env : Env} {W rest : List (Addr × Obj)} {K : Frag}
  {p : Program} {loose : List Str} {mean : ExcName → Option Value} {mg mb : Str → Option Value} {Q E : Value → Shared → Prop}
  {name qual : Str} {params : Arguments} {body : List Stmt} {scope : Scope} {dV kV doc pm cdv ct oc : Value} {an od : Option Addr} {osl : Array (Option Value)} {f : Addr} {args : Args} {binds : List (Str × Value)}

/-- what a body must end in -/
def Back (h₀ : Heap) (L : Addr) (m : Str → Option Value) (rest : List (Addr × Obj)) (g : Heap) (L' : Addr) (Q : Value → Shared → Prop) (v : Value) (s' : Shared) : Prop :=
  ∃ m' W', Fr g L' s'.heap m' ∧ News g L' s'.heap W' ∧ (Fr h₀ L s'.heap m → News h₀ L s'.heap (W' ++ rest) → Q v s')

theorem back {rest W' : List (Addr × Obj)} {g : Heap} {L' : Addr} {m' : Str → Option Value} {v : Value} {s' : Shared} (F' : Fr g L' s'.heap m') (N' : News g L' s'.heap W')
    (k : Fr h₀ L s'.heap m → News h₀ L s'.heap (W' ++ rest) → Q v s') : Back h₀ L m rest g L' Q v s' := ⟨m', W', F', N', k⟩

theorem codeOf (B : Below A₀ base outer h₀) (F : Fr h₀ L s.heap m) (X : K.In h₀) (N : News h₀ L s.heap (W ++ rest)) (T : Top p loose mean mg mb h₀)
    (hA : A.frames = some (env :: outer)) (hf : env.frame = some L) (hke : env.scope.kind = .function) {R : Result → Shared → Prop}
    (ho : K.lookup f = some ⟨oc, od, .func (fnOf name qual params body scope dV kV doc pm an cdv ct), osl⟩) (hcd : codeIn K cdv qual = true) (hroom : A.depth < recursionLimit)
    (hbind : BindsTo s (fnOf name qual params body scope dV kV doc pm an cdv ct) args binds) (hloc : ∀ y ∈ binds, scope.names.lookup y.1 = some .local)
    (hoff : ∀ q ∈ rest, q.1 ∉ W.map (·.1))
    (h : ∀ g L' h₁, Fr g L' h₁ (fun y => binds.reverse.lookup y) → News g L' h₁ W → Fr h₀ L g m → Below A base (env :: outer) g → K.In g → Top p loose mean mg mb g →
      (∀ b o, s.heap.get? b = some o → b ∉ W.map (·.1) → g.get? b = some o) → (∀ b o, s.heap.get? b = some o → b < L') →
      wpAny (model prog w) (A.deeper (envOf qual scope L' f cdv)) (execs body (envOf qual scope L' f cdv))
        (fun fl s' => Back h₀ L m rest g L' (fun v s'' => R (.ok (.ret v)) s'') (match fl with | .ret v => v | _ => .none) s')
        (fun e s' => wpAny (model prog w) (A.deeper (envOf qual scope L' f cdv)) (leaving (envOf qual scope L' f cdv) e) (fun _ s'' => R (.error e) s'') (fun e' s'' => R (.error e') s'') s')
        { s with heap := h₁, toks := s.toks + binds.length })
    (hco : scope.isCoroutine = false := by rfl) (hgen : scope.isGenerator = false := by rfl) (hk : scope.kind = .function := by rfl)
    (hcell : ∀ x ∈ scope.names, x.2 ≠ .cell := by decide) : codeAny (model prog w) A (.call (.ref f) args) R s := by
  have NW : News h₀ L s.heap W := fun q hq => N q (List.mem_append_left _ hq)
  obtain ⟨FG, BG, st, lv⟩ := groundX (R := R) B F NW hA hf hke
  have big : ∀ b o, s.heap.get? b = some o → b ∉ W.map (·.1) → (hideAll s.heap (W.map (·.1))).get? b = some o := fun b o e hb => hideAll_get _ e hb
  have X' := X.keeps F.keep
  refine codeAny_call_def (fd := fnOf name qual params body scope dV kV doc pm an cdv ct) (body := body) (binds := binds) hroom (X' _ _ ho) rfl (T.nolimit.keeps F.keep) (codeRec_of X' hcd) rfl hbind hcell hloc (fun h₁ hns hk₁ => ?_) hco hgen hk
  refine wpAny_mono (h _ s.heap.objs.size h₁ ⟨hns, fun b o e => hk₁ b o (of_hideAll _ e), Nat.le_of_eq (hideAll_size _ _)⟩
    (fun q hq => ⟨hk₁ _ _ (NW q hq).1, Nat.ne_of_lt (Heap.lt_size (NW q hq).1), hideAll_none _ (List.mem_map_of_mem hq)⟩) FG BG (X.keeps st) (T.keeps st) big (fun b o e => Heap.lt_size e)) (fun fl s' hl => ?_) fun _ _ y => y
  obtain ⟨m', W', F', N', k⟩ := hl
  refine lv _ _ ⟨_, m', W', F', N', fun Fb Nb => k Fb fun q hq => ?_⟩
  rcases List.mem_append.mp hq with hq | hq
  · exact Nb q hq
  · have z := N q (List.mem_append_right _ hq)
    exact ⟨F'.keep _ _ (big _ _ z.1 (hoff q hq)), z.2⟩
end

def Sub {α : Type} (l r : List α) : Prop := ∀ q ∈ r, q ∈ l
theorem sub_nil {α : Type} {l : List α} : Sub l [] := fun _ h => nomatch h
theorem sub_refl {α : Type} (l : List α) : Sub l l := fun _ h => h
theorem sub_cons {α : Type} {l r : List α} {p : α} (h : p ∈ l) (S : Sub l r) : Sub l (p :: r) := fun q hq => (List.mem_cons.mp hq).elim (fun e => e ▸ h) (S q)
theorem sub_tail {α : Type} {l r : List α} {p : α} (S : Sub l r) : Sub (p :: l) r := fun q hq => .tail _ (S q hq)
theorem allc {α : Type} {P : α → Prop} {p : α} {l : List α} (h : P p) (t : ∀ q ∈ l, P q) : ∀ q ∈ p :: l, P q := fun q hq => (List.mem_cons.mp hq).elim (fun e => e ▸ h) (t q)
theorem nsubs {h₀ h : Heap} {L : Addr} {l r : List (Addr × Obj)} (N : News h₀ L h l) (S : Sub l r) : News h₀ L h r := fun q hq => N q (S q hq)

section
variable {M : Model} {A : Around} {E : Value → Shared → Prop} {s : Shared}
theorem gn {α : Type} {c : Sem α} {Q : α → Shared → Prop} (h : ∀ Q' : α → Shared → Prop, (∀ v s, Q v s → Q' v s) → wpAny M A c Q' E s) : wpAny M A c Q E s := h Q fun _ _ x => x
theorem zz1 {v sl : Expr} {a : Addr} {k : Int} {t : Tok} {Q : Value → Shared → Prop} (h : wpAny M A (subscriptTail v sl (Value.ref a) (Value.int k t)) Q E s) : wpAny M A (subscriptTail v sl (Value.ref a) (Value.int k t)) Q E s := h
theorem zz2 {x : Str} {p : Pos} {sl : Expr} {a b : Addr} {Q : Value → Shared → Prop} (h : wpAny M A (subscriptTail (Expr.Name x p) sl (Value.ref a) (Value.ref b)) Q E s) : wpAny M A (subscriptTail (Expr.Name x p) sl (Value.ref a) (Value.ref b)) Q E s := h
theorem zz3 {e : Expr} {b o : List Stmt} {p : Pos} {env : Env} {Q : Flow → Shared → Prop} (h : wpAny M A (exec (Stmt.While e b o p) env) Q E s) : wpAny M A (exec (Stmt.While e b o p) env) Q E s := h
theorem zz4 {t e : Expr} {b o : List Stmt} {p : Pos} {env : Env} {Q : Flow → Shared → Prop} (h : wpAny M A (exec (Stmt.For t e b o p) env) Q E s) : wpAny M A (exec (Stmt.For t e b o p) env) Q E s := h
theorem zz5 {a b c : Value} {Q : Unit → Shared → Prop} (h : wpAny M A (setItem a b c) Q E s) : wpAny M A (setItem a b c) Q E s := h
theorem zz6 {a : Expr} {b : List Comprehension} {c : Scope} {p : Pos} {env : Env} {Q : Value → Shared → Prop} (h : wpAny M A (eval (Expr.ListComp a b c p) env) Q E s) : wpAny M A (eval (Expr.ListComp a b c p) env) Q E s := h
theorem zz7 {ts : List Expr} {a : Expr} {b : List Comprehension} {c : Scope} {p q : Pos} {env : Env} {Q : Flow → Shared → Prop} (h : wpAny M A (exec (Stmt.Assign ts (Expr.ListComp a b c p) q) env) Q E s) : wpAny M A (exec (Stmt.Assign ts (Expr.ListComp a b c p) q) env) Q E s := h
theorem zz8 {a : Addr} {b : Value} {Q : Value → Shared → Prop} (h : wpAny M A (compareOp CmpOp.Lt (Value.ref a) b) Q E s) : wpAny M A (compareOp CmpOp.Lt (Value.ref a) b) Q E s := h
theorem zz9 {a : Addr} {b : Value} {Q : Value → Shared → Prop} (h : wpAny M A (compareOp CmpOp.Eq (Value.ref a) b) Q E s) : wpAny M A (compareOp CmpOp.Eq (Value.ref a) b) Q E s := h
theorem zz10 {a : Addr} {b : Value} {Q : Value → Shared → Prop} (h : wpAny M A (compareOp CmpOp.NotEq (Value.ref a) b) Q E s) : wpAny M A (compareOp CmpOp.NotEq (Value.ref a) b) Q E s := h
theorem zz11 {β : Type} {a : Value × β} {b : Value} {Q : Value → Shared → Prop} (h : wpAny M A (compareOp CmpOp.Lt (Prod.fst a) b) Q E s) : wpAny M A (compareOp CmpOp.Lt (Prod.fst a) b) Q E s := h
theorem zz12 {a : List Value} {Q : Value → Shared → Prop} (h : wpAny M A (call (Value.builtin "list.append") a) Q E s) : wpAny M A (call (Value.builtin "list.append") a) Q E s := h
theorem zz13 {a : List Value} {Q : Value → Shared → Prop} (h : wpAny M A (call (Value.builtin "list.pop") a) Q E s) : wpAny M A (call (Value.builtin "list.pop") a) Q E s := h
theorem zz14 {a : List Value} {Q : Value → Shared → Prop} (h : wpAny M A (call (Value.builtin "iter") a) Q E s) : wpAny M A (call (Value.builtin "iter") a) Q E s := h
theorem zz15 {a : List Value} {k : List (Str × Value)} {Q : Value → Shared → Prop} (h : wpAny M A (call (Value.builtin "min") a k) Q E s) : wpAny M A (call (Value.builtin "min") a k) Q E s := h
theorem zz16 {a : List Value} {k : List (Str × Value)} {Q : Value → Shared → Prop} (h : wpAny M A (call (Value.builtin "sorted") a k) Q E s) : wpAny M A (call (Value.builtin "sorted") a k) Q E s := h
theorem zz17 {a : List Value} {k : List (Str × Value)} {Q : Value → Shared → Prop} (h : wpAny M A (call (Value.builtin "list.sort") a k) Q E s) : wpAny M A (call (Value.builtin "list.sort") a k) Q E s := h
theorem zz18 {a : List Value} {Q : Value → Shared → Prop} (h : wpAny M A (call (Value.builtin "next") a) Q E s) : wpAny M A (call (Value.builtin "next") a) Q E s := h
theorem zz19 {a : Addr} {Q : Bool → Shared → Prop} (h : wpAny M A (truthy (Value.ref a)) Q E s) : wpAny M A (truthy (Value.ref a)) Q E s := h
theorem zz20 {c : String} {a : List Value} {k : List (Str × Value)} {Q : Value → Shared → Prop} (h : wpAny M A (call (Value.type c) a k) Q E s) : wpAny M A (call (Value.type c) a k) Q E s := h
theorem zz21 {a : Value} {Q : Value → Shared → Prop} (h : wpAny M A (pyIter a) Q E s) : wpAny M A (pyIter a) Q E s := h
theorem zz22 {c : Addr} {a : List Value} {k : List (Str × Value)} {Q : Value → Shared → Prop} (h : wpAny M A (call (Value.ref c) a k) Q E s) : wpAny M A (call (Value.ref c) a k) Q E s := h
theorem zz23 {o : Operator} {a : Addr} {b : Value} {Q : Value → Shared → Prop} (h : wpAny M A (inplaceOp o (Value.ref a) b) Q E s) : wpAny M A (inplaceOp o (Value.ref a) b) Q E s := h
theorem zz24 {o : Operator} {a : Addr} {b : Value} {Q : Value → Shared → Prop} (h : wpAny M A (binaryOp o (Value.ref a) b) Q E s) : wpAny M A (binaryOp o (Value.ref a) b) Q E s := h
theorem zz25 {a : List Value} {k : List (Str × Value)} {Q : Value → Shared → Prop} (h : wpAny M A (call (Value.builtin "len") a k) Q E s) : wpAny M A (call (Value.builtin "len") a k) Q E s := h
theorem zz26 {e : Expr} {b o : List Stmt} {p : Pos} {env : Env} {Q : Flow → Shared → Prop} (h : wpAny M A (exec (Stmt.If e b o p) env) Q E s) : wpAny M A (exec (Stmt.If e b o p) env) Q E s := h
end

section
variable {prog : Program} {w : World} {A : Around} {E : Value → Shared → Prop} {Q : Flow → Shared → Prop} {s : Shared} {env : Env} {h₀ : Heap} {L : Addr}
/-- while, the body's end a name of its own -/
theorem While_g {test : Expr} {body : List Stmt} {pos : Pos} {m : Str → Option Value} {news : List (Addr × Obj)} (J : Nat → (Str → Option Value) → List (Addr × Obj) → Prop) {n₀ : Nat}
    (F : Fr h₀ L s.heap m) (N : News h₀ L s.heap news) (hJ : J n₀ m news)
    (turn : ∀ n m₁ nx h tk (Qb : Flow → Shared → Prop), (∀ h' tk' m' nx' n', Fr h₀ L h' m' → News h₀ L h' nx' → n' < n → J n' m' nx' → Qb .next { s with heap := h', toks := tk' }) →
      (∀ h' tk' m' nx' n', Fr h₀ L h' m' → News h₀ L h' nx' → n' < n → J n' m' nx' → Qb .cont { s with heap := h', toks := tk' }) → (∀ s', Q .next s' → Qb .brk s') → Fr h₀ L h m₁ → News h₀ L h nx → J n m₁ nx →
      wpAny (model prog w) A (isTrue test env (eval test env)) (fun b s₂ =>
        if b = true then wpAny (model prog w) A (execs body env) Qb E s₂ else Q .next s₂) E { s with heap := h, toks := tk })
    (hE : PassesOwn (model prog w) A env E := by passes_own) :
    wpAny (model prog w) A (exec (.While test body [] pos) env) Q E s :=
  While_inv2 J F N hJ (fun n m₁ nx h tk f nn j => turn n m₁ nx h tk _ (fun _ _ _ _ n' a b c d => ⟨_, _, _, _, n', rfl, a, b, c, d⟩) (fun _ _ _ _ n' a b c d => ⟨_, _, _, _, n', rfl, a, b, c, d⟩) (fun _ x => x) f nn j) hE
end

theorem at_P02_El : True := by
  w_top off
  trivial
abbrev tup (vs : List Value) : Obj := { cls := .type "tuple", data := .seq vs.toArray }

section
variable {prog : Program} {w : World} {A : Around} {s : Shared} {E : Value → Shared → Prop}


/-- a tuple of two against a tuple of two, by < -/
theorem tup_lt {a b : Addr} {x1 x2 y1 y2 : Value} {Q : Value → Shared → Prop} (hu : A.units + 1 < cLine)
    (ha : s.heap.get? a = some (tup [x1, x2])) (hb : s.heap.get? b = some (tup [y1, y2]))
    (h : wpAny (model prog w) A.in1 (eqBool x1 y1) (fun e s' =>
      if e = true then wpAny (model prog w) A.in1 (eqBool x2 y2) (fun e2 s'' => if e2 = true then Q (.bool false) s'' else
        wpAny (model prog w) A.in1 (richCompare .Lt x2 y2) (fun v s3 => v ≠ .notImplemented ∧ Q v s3) E s'') E s'
      else wpAny (model prog w) A.in1 (richCompare .Lt x1 y1) (fun v s3 => v ≠ .notImplemented ∧ Q v s3) E s') E s) :
    wpAny (model prog w) A (compareOp .Lt (.ref a) (.ref b)) Q E s := by
  show wpAny (model prog w) A (richCompare .Lt (.ref a) (.ref b)) Q E s
  have hTa : s.TypeIs (.ref a) "tuple" := ⟨_, ha, rfl⟩
  have hTb : s.TypeIs (.ref b) "tuple" := ⟨_, hb, rfl⟩
  refine wpAny_richCompare_same_room (op := .Lt) hTa hTb F.slot_tuple_lt
    (wpAny_call_entry F.slot_tuple_lt hTa F.entry_tuple_lt ?_ (F.args_tuple_lt_2 _ _)) (Nat.lt_of_succ_lt hu)
  show wpAny _ _ (isInstance (.ref b) (.type "tuple") >>= _) _ _ s
  refine wpAny_bind (wpAny_isInstance hTb isSubtype_tuple_tuple ?_)
  simp only [Bool.not_true, Bool.false_eq_true, if_false]
  refine wpAny_bind (wpAny_tupleItemsOf ha rfl ?_)
  refine wpAny_bind (wpAny_tupleItemsOf hb rfl ?_)
  refine wpAny_bind ?_
  simp only [List.zip_cons_cons, List.zip_nil_right, List.forIn_cons, List.forIn_nil]
  refine wpAny_bind (wpAny_bind (wpAny_mono h (fun e s' he => ?_) fun _ _ x => x))
  cases e with
  | false =>
    simp only [Bool.false_eq_true, if_false] at he
    simp only [Bool.not_false, if_true]
    refine wpAny_bind (wpAny_rule (wpAny_bind (wpAny_mono he (fun v s3 hv => ?_) fun _ _ x => x)))
    exact wpAny_bind (wpAny_pure (wpAny_pure (wpAny_pure (wpAny_pure ⟨_, rfl, hv⟩))))
  | true =>
    simp only [if_true] at he
    simp only [Bool.not_true, Bool.false_eq_true, if_false]
    refine wpAny_pure (wpAny_bind (wpAny_bind (wpAny_mono he (fun e2 s'' he2 => ?_) fun _ _ x => x)))
    cases e2 with
    | false =>
      simp only [Bool.false_eq_true, if_false] at he2
      simp only [Bool.not_false, if_true]
      refine wpAny_bind (wpAny_rule (wpAny_bind (wpAny_mono he2 (fun v s3 hv => ?_) fun _ _ x => x)))
      exact wpAny_bind (wpAny_pure (wpAny_pure (wpAny_pure (wpAny_pure ⟨_, rfl, hv⟩))))
    | true =>
      simp only [if_true] at he2
      simp only [Bool.not_true, Bool.false_eq_true, if_false]
      refine wpAny_pure (wpAny_pure ?_)
      exact wpAny_pure ⟨_, rfl, (fun e => nomatch e), he2⟩
end

abbrev Key := Int × Int × Int
def klt (a b : Key) : Bool := decide (a.1 < b.1) || (a.1 == b.1 && (decide (a.2.1 < b.2.1) || (a.2.1 == b.2.1 && decide (a.2.2 < b.2.2))))
abbrev El := Value × Key
def elt (a b : El) : Bool := klt a.2 b.2
def egt (a b : El) : Bool := elt b a
/-- flat: a tuple of two ints -/
def ElF (h : Heap) (e : El) : Prop := ∃ a t u, e.1 = .ref a ∧ h.get? a = some (tup [.int e.2.1 t, .int e.2.2.1 u]) ∧ e.2.2.2 = 0
/-- nested: a tuple of a flat one and an int -/
def ElN (h : Heap) (e : El) : Prop := ∃ a b t u v, e.1 = .ref a ∧ h.get? a = some (tup [.ref b, .int e.2.2.2 v]) ∧ h.get? b = some (tup [.int e.2.1 t, .int e.2.2.1 u])
def ElOk (fl : Bool) (h : Heap) (e : El) : Prop := match fl with | true => ElF h e | false => ElN h e

theorem ElOk.keeps {fl : Bool} {h h' : Heap} {e : El} (x : ElOk fl h e) (k : ∀ b vs, h.get? b = some (tup vs) → h'.get? b = some (tup vs)) : ElOk fl h' e := by
  cases fl with
  | true => obtain ⟨a, t, u, e1, e2, e3⟩ := x; exact ⟨a, t, u, e1, k _ _ e2, e3⟩
  | false => obtain ⟨a, b, t, u, v, e1, e2, e3⟩ := x; exact ⟨a, b, t, u, v, e1, k _ _ e2, k _ _ e3⟩

section
variable {prog : Program} {w : World} {A : Around} {s : Shared} {E : Value → Shared → Prop}
theorem lt_flat {a b : Addr} {r p r' p' : Int} {t u t' u' : Tok} {Q : Value → Shared → Prop} (hu : A.units + 1 < cLine)
    (ha : s.heap.get? a = some (tup [.int r t, .int p u])) (hb : s.heap.get? b = some (tup [.int r' t', .int p' u']))
    (h : Q (.bool (decide (r < r') || (r == r' && decide (p < p')))) s) : wpAny (model prog w) A (compareOp .Lt (.ref a) (.ref b)) Q E s := by
  refine tup_lt hu ha hb (wpAny_eqBool_int ?_)
  by_cases h1 : r = r'
  · subst h1
    simp only [beq_self_eq_true, if_true]
    refine wpAny_eqBool_int ?_
    by_cases h2 : p = p'
    · subst h2
      simp only [beq_self_eq_true, if_true]
      simpa using h
    · have e : (p == p') = false := by simpa using h2
      simp only [e, Bool.false_eq_true, if_false]
      refine lt_int ⟨(fun e => nomatch e), ?_⟩
      simpa using h
  · have e : (r == r') = false := by simpa using h1
    simp only [e, Bool.false_eq_true, if_false]
    refine lt_int ⟨(fun e => nomatch e), ?_⟩
    simpa [e] using h

theorem eqb_flat {a b : Addr} {r p r' p' : Int} {t u t' u' : Tok} {Q : Bool → Shared → Prop} (hu : A.units < cLine)
    (ha : s.heap.get? a = some (tup [.int r t, .int p u])) (hb : s.heap.get? b = some (tup [.int r' t', .int p' u']))
    (h : Q (r == r' && p == p') s) : wpAny (model prog w) A (eqBool (.ref a) (.ref b)) Q E s := by
  refine wpAny_eqBool_tuple (knd := intKind prog w) (x := [r, p]) (y := [r', p']) hu ⟨_, _, _, ha, rfl, rfl, ?_⟩ ⟨_, _, _, hb, rfl, rfl, ?_⟩ ?_
  · exact .cons (by simp [intKind, Value.isInt]) (.cons (by simp [intKind, Value.isInt]) .nil)
  · exact .cons (by simp [intKind, Value.isInt]) (.cons (by simp [intKind, Value.isInt]) .nil)
  · have e : decide ([r, p] = [r', p']) = (r == r' && p == p') := by
      by_cases h1 : r = r' <;> by_cases h2 : p = p' <;> simp [h1, h2]
    rw [e]; exact h

theorem lt_el {fl : Bool} {x y : El} {Q : Value → Shared → Prop} (hu : A.units + 3 < cLine) (hx : ElOk fl s.heap x) (hy : ElOk fl s.heap y) (h : Q (.bool (elt x y)) s) :
    wpAny (model prog w) A (compareOp .Lt x.1 y.1) Q E s := by
  obtain ⟨xv, r, p, o⟩ := x
  obtain ⟨yv, r', p', o'⟩ := y
  cases fl with
  | true =>
    obtain ⟨a, t, u, e1, e2, e3⟩ := hx
    obtain ⟨b, t', u', f1, f2, f3⟩ := hy
    dsimp only at *
    subst e1 f1 e3 f3
    refine lt_flat (by omega) e2 f2 ?_
    simpa [elt, klt] using h
  | false =>
    obtain ⟨a, b, t, u, v, e1, e2, e3⟩ := hx
    obtain ⟨a', b', t', u', v', f1, f2, f3⟩ := hy
    dsimp only at *
    subst e1 f1
    refine tup_lt (by omega) e2 f2 (eqb_flat (by show A.units + 1 < cLine; omega) e3 f3 ?_)
    by_cases h1 : r = r' ∧ p = p'
    · obtain ⟨rfl, rfl⟩ := h1
      simp only [beq_self_eq_true, Bool.and_self, if_true]
      refine wpAny_eqBool_int ?_
      by_cases h2 : o = o'
      · subst h2
        simp only [beq_self_eq_true, if_true]
        simpa [elt, klt] using h
      · have e : (o == o') = false := by simpa using h2
        simp only [e, Bool.false_eq_true, if_false]
        refine lt_int ⟨(fun e => nomatch e), ?_⟩
        simpa [elt, klt] using h
    · have e : (r == r' && p == p') = false := by
        by_cases h2 : r = r'
        · have : ¬ p = p' := fun q => h1 ⟨h2, q⟩
          simp [this]
        · simp [h2]
      simp only [e, Bool.false_eq_true, if_false]
      refine lt_flat (by show A.units + 1 + 1 < cLine; omega) e3 f3 ⟨(fun e => nomatch e), ?_⟩
      have e2 : elt (Value.ref a, r, p, o) (Value.ref a', r', p', o') = (decide (r < r') || (r == r' && decide (p < p'))) := by
        simp only [elt, klt]
        by_cases h2 : r = r'
        · have h3 : ¬ p = p' := fun q => h1 ⟨h2, q⟩
          have h4 : (p == p') = false := by simpa using h3
          simp [h4]
        · have h4 : (r == r') = false := by simpa using h2
          simp [h4]
      rw [← e2]; exact h
end

theorem gt_el {prog : Program} {w : World} {A : Around} {s : Shared} {E : Value → Shared → Prop} {fl : Bool} {x y : El} {Q : Value → Shared → Prop} (hu : A.units + 3 < cLine) (hx : ElOk fl s.heap x) (hy : ElOk fl s.heap y) (h : Q (.bool (egt y x)) s) :
    wpAny (model prog w) A (compareOp .Lt x.1 y.1) Q E s := lt_el hu hx hy h

/-! lists of elements -/
abbrev lst (xs : List El) (n : Nat) : Obj := PySem.W.listOf (xs.map Prod.fst).toArray n
abbrev dEl : El := (Value.none, 0, 0, 0)

theorem fst_at {xs : List El} {i : Nat} (h : i < xs.length) : (xs.map Prod.fst)[((i : Nat) : Int).toNat]? = some (xs.getD i dEl).1 := by
  simp [h]

/-- names of the frame that are known -/
def bnd (m : Str → Option Value) : List (Str × Value) → Str → Option Value
  | [], y => m y
  | (x, v) :: r, y => if y = x then some v else bnd m r y
theorem nmem0 {a : Addr} : a ∉ ([] : List (Addr × Obj)).map (·.1) := fun h => nomatch h
theorem nmemc {a : Addr} {p : Addr × Obj} {l : List (Addr × Obj)} (h : a ≠ p.1) (t : a ∉ l.map (·.1)) : a ∉ (p :: l).map (·.1) := fun hm => (List.mem_cons.mp hm).elim h t
theorem nin_news {h₀ h : Heap} {L a : Addr} {o : Obj} {l : List (Addr × Obj)} (N : News h₀ L h l) (e : h₀.get? a = some o) : a ∉ l.map (·.1) := fun hm => by
  obtain ⟨q, hq, rfl⟩ := List.mem_map.mp hm
  have := (N q hq).2.2
  rw [e] at this
  cases this
theorem alln {α : Type} {P : α → Prop} : ∀ q ∈ ([] : List α), P q := fun _ h => nomatch h
theorem lstW {xs : List El} {n : Nat} : (lst xs n).cls ≠ .type "tuple" := by show Value.type "list" ≠ Value.type "tuple"; decide
theorem sees0 {P : Str × Value → Prop} : ∀ q ∈ ([] : List (Str × Value)), P q := fun _ h => nomatch h
theorem seesc {m : Str → Option Value} {x : Str} {v : Value} {l : List (Str × Value)} (h : m x = some v) (t : ∀ q ∈ l, m q.1 = some q.2) : ∀ q ∈ (x, v) :: l, m q.1 = some q.2 := allc h t
theorem seesx {m : Str → Option Value} {x : Str} {v : Value} {l : List (Str × Value)} (t : ∀ q ∈ l, (if q.1 = x then some v else m q.1) = some q.2) : ∀ q ∈ (x, v) :: l, (fun z => if z = x then some v else m z) q.1 = some q.2 := allc (if_pos rfl) t
theorem seesn {m : Str → Option Value} {x y : Str} {u v : Value} {l : List (Str × Value)} (hn : ¬ y = x) (h : m y = some v) (t : ∀ q ∈ l, (if q.1 = x then some u else m q.1) = some q.2) : ∀ q ∈ (y, v) :: l, (if q.1 = x then some u else m q.1) = some q.2 := allc ((if_neg hn).trans h) t
theorem Fr.sees {h₀ h : Heap} {L : Addr} {m : Str → Option Value} (l : List (Str × Value)) (F : Fr h₀ L h m) (e : ∀ q ∈ l, m q.1 = some q.2) : Fr h₀ L h (bnd m l) := by
  have : bnd m l = m := by
    funext y
    induction l with
    | nil => rfl
    | cons q r ih =>
      obtain ⟨x, v⟩ := q
      show (if y = x then some v else bnd m r y) = m y
      by_cases hy : y = x
      · subst hy; rw [if_pos rfl, e _ (.head _)]
      · rw [if_neg hy]; exact ih fun q hq => e q (.tail _ hq)
  rw [this]; exact F

section
variable {prog : Program} {w : World} {A : Around} {s : Shared} {E : Value → Shared → Prop} {h₀ : Heap} {L D : Addr} {led : List (Addr × Obj)}
theorem sub_el {value slice : PySem.Expr} {xs : List El} {n i : Nat} {k : Int} {u : Tok} {Q : Value → Shared → Prop} (N : News h₀ L s.heap led) (hm : (D, lst xs n) ∈ led) (hk : k = (i : Int)) (hi : i < xs.length) (hf : k < 2 ^ 63) (h : Q (xs.getD i dEl).1 s)
    (hs : subscripted slice false (.ref D) (.int k u) = operate [.ref D, .int k u] (getItem (.ref D) (.int k u)) := by with_unfolding_all rfl) :
    wpAny (model prog w) A (subscriptTail value slice (.ref D) (.int k u)) Q E s := by
  subst hk
  exact item_litK (PySem.IsL.isList (n := n) (N _ hm).1) (by omega) hf (fst_at hi) h hs

theorem app_v {m : Str → Option Value} {vs : List Value} {v : Value} {n : Nat} {Q : Value → Shared → Prop} {post : List (Addr × Obj)} (F : Fr h₀ L s.heap m) (N : News h₀ L s.heap ((D, PySem.W.listOf vs.toArray n) :: post)) (hoff : ∀ q ∈ post, q.1 ≠ D)
    (hz : vs.length < 2 ^ 20) (h : ∀ h', Fr h₀ L h' m → News h₀ L h' ((D, PySem.W.listOf (vs ++ [v]).toArray (n + 1)) :: post) → Q .none { s with heap := h' }) :
    wpAny (model prog w) A (call (.builtin "list.append") [.ref D, v]) Q E s := by
  refine append_K F N (news' := (D, PySem.W.listOf (vs.toArray.push v) (n + 1)) :: post) (Upd.head hoff) (fun h' F' N' => h h' F' ?_) (by rw [List.size_toArray, sizeLine_eq]; omega)
  have e : (vs ++ [v]).toArray = vs.toArray.push v := by simp
  rw [e]; exact N'
theorem app_el {m : Str → Option Value} {xs : List El} {e : El} {n : Nat} {Q : Value → Shared → Prop} {post : List (Addr × Obj)} (F : Fr h₀ L s.heap m) (N : News h₀ L s.heap ((D, lst xs n) :: post)) (hoff : ∀ q ∈ post, q.1 ≠ D)
    (hz : xs.length < 2 ^ 20) (h : ∀ h', Fr h₀ L h' m → News h₀ L h' ((D, lst (xs ++ [e]) (n + 1)) :: post) → Q .none { s with heap := h' }) :
    wpAny (model prog w) A (call (.builtin "list.append") [.ref D, e.1]) Q E s := by
  refine app_v F N hoff (by simpa using hz) (fun h' F' N' => h h' F' ?_)
  have e : (xs ++ [e]).map Prod.fst = xs.map Prod.fst ++ [e.1] := by simp
  show News h₀ L h' ((D, PySem.W.listOf ((xs ++ [_]).map Prod.fst).toArray (n + 1)) :: post)
  rw [e]; exact N'
theorem pop_v {m : Str → Option Value} {vs : List Value} {v : Value} {n : Nat} {Q : Value → Shared → Prop} {post : List (Addr × Obj)} (F : Fr h₀ L s.heap m) (N : News h₀ L s.heap ((D, PySem.W.listOf (vs ++ [v]).toArray n) :: post)) (hoff : ∀ q ∈ post, q.1 ≠ D)
    (hz : vs.length < 2 ^ 20) (h : ∀ h', Fr h₀ L h' m → News h₀ L h' ((D, PySem.W.listOf vs.toArray (n + 1)) :: post) → Q v { s with heap := h' }) :
    wpAny (model prog w) A (call (.builtin "list.pop") [.ref D]) Q E s := by
  refine kl_pop F N (p := vs) (y := v) (news' := (D, PySem.W.listOf vs.toArray (n + 1)) :: post) ?_ (Upd.head hoff) (by simp [sizeLine_eq]; omega) h
  have := kpa_last v vs
  simpa using this
theorem pop_el {m : Str → Option Value} {xs : List El} {e : El} {n : Nat} {Q : Value → Shared → Prop} {post : List (Addr × Obj)} (F : Fr h₀ L s.heap m) (N : News h₀ L s.heap ((D, lst (xs ++ [e]) n) :: post)) (hoff : ∀ q ∈ post, q.1 ≠ D)
    (hz : xs.length < 2 ^ 20) (h : ∀ h', Fr h₀ L h' m → News h₀ L h' ((D, lst xs (n + 1)) :: post) → Q e.1 { s with heap := h' }) :
    wpAny (model prog w) A (call (.builtin "list.pop") [.ref D]) Q E s := by
  refine pop_v (vs := xs.map Prod.fst) (n := n) (post := post) F ?_ hoff (by simpa using hz) h
  have e : (xs ++ [e]).map Prod.fst = xs.map Prod.fst ++ [e.1] := by simp
  rw [← e]; exact N
theorem truthy_v {vs : List Value} {n : Nat} {Q : Bool → Shared → Prop} (N : News h₀ L s.heap led) (hm : (D, PySem.W.listOf vs.toArray n) ∈ led) (hz : vs.length < 2 ^ 20) (h : ∀ tk, Q (!vs.isEmpty) { s with toks := tk }) :
    wpAny (model prog w) A (truthy (.ref D)) Q E s := by
  refine wpAny_truthy_list (PySem.IsL.isList (n := n) (N _ hm).1) (by rw [List.size_toArray]; omega) ?_
  have := h (s.toks + 1 + 1)
  simpa using this
theorem truthy_el {xs : List El} {n : Nat} {Q : Bool → Shared → Prop} (N : News h₀ L s.heap led) (hm : (D, lst xs n) ∈ led) (hz : xs.length < 2 ^ 20) (h : ∀ tk, Q (!xs.isEmpty) { s with toks := tk }) :
    wpAny (model prog w) A (truthy (.ref D)) Q E s := by
  refine truthy_v N hm (by simpa using hz) fun tk => ?_
  have := h tk
  simpa using this

theorem len_el {xs : List El} {n : Nat} {Q : Value → Shared → Prop} (N : News h₀ L s.heap led) (hm : (D, lst xs n) ∈ led) (hz : xs.length < 2 ^ 20) (h : ∀ t tk, Q (.int (xs.length : Int) t) { s with toks := tk }) :
    wpAny (model prog w) A (call (.builtin "len") [.ref D]) Q E s := by
  refine PyProof.Rows.len_list (PySem.IsL.isList (n := n) (N _ hm).1) (by simp; omega) ?_
  have := h (s.toks + 1) (s.toks + 1 + 1)
  simpa using this

theorem set_el {m : Str → Option Value} {xs : List El} {e : El} {n i : Nat} {k : Int} {u : Tok} {Q : Unit → Shared → Prop} {post : List (Addr × Obj)} (F : Fr h₀ L s.heap m) (N : News h₀ L s.heap ((D, lst xs n) :: post)) (hoff : ∀ q ∈ post, q.1 ≠ D)
    (hk : k = (i : Int)) (hi : i < xs.length) (hf : k < 2 ^ 63) (h : ∀ h', Fr h₀ L h' m → News h₀ L h' ((D, lst (xs.set i e) n) :: post) → Q () { s with heap := h' }) :
    wpAny (model prog w) A (setItem (.ref D) (.int k u) e.1) Q E s := by
  subst hk
  have z := N (D, lst xs n) (.head _)
  refine ki_setAt (n := n) z.1 (by omega) hf (by simpa using hi) (h _ (F.change (Heap.SameBut.update ..) z.2.1 z.2.2) (ki_turn (pre := []) _ N (fun _ h => nomatch h) hoff ?_ ?_))
  · apply Array.toList_inj.mp
    simp [List.map_set]
  · simp
end
theorem b20 {a b : Nat} (h : a ≤ b) (hb : b < 64) : a < 2 ^ 20 := Nat.lt_of_le_of_lt h (Nat.lt_of_lt_of_le hb (by decide))
theorem b64 {a b : Nat} (h : a ≤ b) (hb : b < 64) : a < 64 := Nat.lt_of_le_of_lt h hb
theorem lapp {vs : List Value} {x : Value} {i : Nat} (h : vs.length ≤ i) : (vs ++ [x]).length ≤ i + 1 := Nat.le_trans (Nat.le_of_eq List.length_append) (Nat.add_le_add_right h 1)
theorem lappt {vs : List Value} {R : List El} {i : Nat} (h : vs.length ≤ i) : (vs ++ (R.take 1).map Prod.fst).length ≤ i + 1 := by
  rw [List.length_append, List.length_map]
  exact Nat.add_le_add h (List.length_take_le 1 R)
theorem k4 {K : Int} (h1 : ¬ K < 2) (h2 : ¬ K = 2) (h3 : ¬ K = 3) : 3 < K := by omega
theorem cRk {r : Int} (h1 : 0 ≤ r) (h2 : r < 4) : ((r + 1).toNat : Int) = r + 1 ∧ 0 < (r + 1).toNat ∧ (r + 1).toNat < 64 := ⟨by omega, by omega, by omega⟩
theorem par_le (p : Nat) : (p - 1) / 2 ≤ p := Nat.le_trans (Nat.div_le_self _ _) (Nat.sub_le _ _)
theorem par_lt {p : Nat} (h : 0 < p) : (p - 1) / 2 < p := Nat.lt_of_le_of_lt (Nat.div_le_self _ _) (Nat.sub_lt h Nat.one_pos)
theorem par_ltn {p n : Nat} (h : p < n) : (p - 1) / 2 < n := Nat.lt_of_le_of_lt (par_le p) h
theorem par_ne {p : Nat} (h : 0 < p) : (p - 1) / 2 ≠ p := Nat.ne_of_lt (par_lt h)
theorem ch1 (p : Nat) : p < 2 * p + 1 := Nat.lt_succ_of_le (Nat.le_mul_of_pos_left p Nat.two_pos)
theorem ch2 (p : Nat) : p < 2 * p + 2 := Nat.lt_succ_of_lt (ch1 p)
theorem dec1 {n p : Nat} (h : 2 * p + 1 < n) : n - (2 * p + 1) < n - p := Nat.sub_lt_sub_left (Nat.lt_trans (ch1 p) h) (ch1 p)
theorem dec2 {n p : Nat} (h : 2 * p + 1 < n) : n - (2 * p + 2) < n - p := Nat.sub_lt_sub_left (Nat.lt_trans (ch1 p) h) (ch2 p)
theorem par_or {c p : Nat} (h : c = 2 * p + 1 ∨ c = 2 * p + 2) : (c - 1) / 2 = p := by
  rcases h with rfl | rfl
  · exact Nat.mul_div_cancel_left p Nat.two_pos
  · exact (Nat.mul_add_div Nat.two_pos p 1)
theorem or_par {j p : Nat} (h0 : 0 < j) (h : (j - 1) / 2 = p) : j = 2 * p + 1 ∨ j = 2 * p + 2 := by omega
theorem leaf_ne {j r n : Nat} (h0 : 0 < j) (hj : j < n) (hl : n ≤ 2 * r + 1) : (j - 1) / 2 ≠ r := fun a => by
  rcases or_par h0 a with rfl | rfl
  · exact Nat.lt_irrefl _ (Nat.lt_of_lt_of_le hj hl)
  · exact Nat.lt_irrefl _ (Nat.lt_trans (Nat.lt_succ_self _) (Nat.lt_of_lt_of_le hj hl))
theorem lset {α : Type} {n i : Nat} {v : α} {xs : List α} (h : n = xs.length) : n = (xs.set i v).length := h.trans List.length_set.symm
theorem lsetlt {α : Type} {p i : Nat} {v : α} {xs : List α} (h : p < xs.length) : p < (xs.set i v).length := Nat.lt_of_lt_of_eq h List.length_set.symm
theorem setlt {α : Type} {p i : Nat} {v : α} {xs : List α} (h : p < (xs.set i v).length) : p < xs.length := Nat.lt_of_lt_of_eq h List.length_set
theorem shr1 {p : Nat} (h : 1 ≤ p) : ((p : Int) - 1).fdiv (2 ^ Int.toNat 1) = (((p - 1) / 2 : Nat) : Int) := by
  show ((p : Int) - 1).fdiv 2 = _
  rw [← Int.ofNat_one, ← Int.ofNat_sub h]
  exact Int.fdiv_eq_ediv_of_nonneg _ (by decide)
section
variable {prog : Program} {w : World} {A : Around} {s : Shared} {E : Value → Shared → Prop}
theorem len_b {D : Addr} {xs : List El} {n : Nat} {Q : Value → Shared → Prop} (hl : s.heap.get? D = some (lst xs n)) (hz : xs.length < 2 ^ 20) (h : ∀ t tk, Q (.int (xs.length : Int) t) { s with toks := tk }) :
    wpAny (model prog w) A (call (.builtin "len") [.ref D]) Q E s := by
  refine PyProof.Rows.len_list (PySem.IsL.isList (n := n) hl) (by simp; omega) ?_
  have := h (s.toks + 1) (s.toks + 1 + 1)
  simpa using this
end

theorem at_P03_Cx : True := by
  w_top off
  trivial

structure Cx (w : World) (A : Around) (env : Env) (h₀ : Heap) (L : Addr) : Prop where
  bel : ∃ A₀ base outer, Below A₀ base outer h₀ ∧ A.frames = some (env :: outer) ∧ KtsDicts (outer.filterMap (·.frame)) h₀ ∧ (hd.heap_39 w.params).In base ∧ ∃ mean mg mb, Top hd.view_39 LO mean mg mb base
  fL : env.frame = some L
  knd : env.scope.kind = .function
  hh : A.handled = none
theorem Cx.X {w : World} {A : Around} {env : Env} {h₀ : Heap} {L : Addr} (C : Cx w A env h₀ L) : (hd.heap_39 w.params).In h₀ := by
  obtain ⟨_, _, _, B, _, _, X, _⟩ := C.bel
  exact X.keeps B.stays
theorem Cx.T {w : World} {A : Around} {env : Env} {h₀ : Heap} {L : Addr} (C : Cx w A env h₀ L) : ∃ mean mg mb, Top hd.view_39 LO mean mg mb h₀ := by
  obtain ⟨_, _, _, B, _, _, _, mean, mg, mb, T⟩ := C.bel
  exact ⟨mean, mg, mb, T.keeps B.stays⟩
theorem dicts_push {env : Env} {outer : List Env} {L : Addr} {h₀ g : Heap} {m : Str → Option Value} (hf : env.frame = some L) (D : KtsDicts (outer.filterMap (·.frame)) h₀) (F : Fr h₀ L g m) : KtsDicts ((env :: outer).filterMap (·.frame)) g := by
  intro b hb
  rw [List.filterMap_cons, hf] at hb
  rcases List.mem_cons.mp hb with e | hb
  · subst e
    obtain ⟨oL, es, ep, hL, hLd, _⟩ := F.ns
    exact ⟨oL, es, ep, hL, hLd⟩
  · obtain ⟨o, es, n, ho, hd⟩ := D b hb
    exact ⟨o, es, n, F.keep _ _ ho, hd⟩

def Room (n : Nat) (A : Around) : Prop := A.depth + n < recursionLimit ∧ A.units + 4 * n < cLine
theorem Room.deeper {n : Nat} {A : Around} {env : Env} (r : Room (n + 1) A) : Room n (A.deeper env) := by
  obtain ⟨a, b⟩ := r
  refine ⟨?_, ?_⟩
  · show A.depth + 1 + n < _; omega
  · show A.units + 3 + 4 * n < _; omega
theorem Room.in1 {n : Nat} {A : Around} (r : Room (n + 1) A) : Room n A.in1 := by
  obtain ⟨a, b⟩ := r
  refine ⟨?_, ?_⟩
  · show A.depth + n < _; omega
  · show A.units + 1 + 4 * n < _; omega
theorem Room.un {n k : Nat} {A : Around} (r : Room n A) (h : k ≤ 4 * n) : A.units + k < cLine := Nat.lt_of_le_of_lt (Nat.add_le_add_left h _) r.2
theorem Room.le {n k : Nat} {A : Around} (r : Room n A) (h : k ≤ n) : Room k A := ⟨by have := r.1; omega, by have := r.2; omega⟩

section
variable {w : World} {A : Around} {s : Shared} {h₀ : Heap} {L : Addr} {m : Str → Option Value} {env : Env} {W rest : List (Addr × Obj)} {Q E : Value → Shared → Prop}
  {name qual : Str} {params : Arguments} {body : List Stmt} {scope : Scope} {dV kV doc pm cdv ct oc : Value} {an od : Option Addr} {osl : Array (Option Value)} {f : Addr} {args : Args} {binds : List (Str × Value)}

theorem callF {rn : Nat} (C : Cx w A env h₀ L) (R : Room (rn + 1) A) (F : Fr h₀ L s.heap m) (N : News h₀ L s.heap (W ++ rest))
    (ho : (hd.heap_39 w.params).lookup f = some ⟨oc, od, .func (fnOf name qual params body scope dV kV doc pm an cdv ct), osl⟩) (hcd : codeIn (hd.heap_39 w.params) cdv qual = true)
    (hbind : BindsTo s (fnOf name qual params body scope dV kV doc pm an cdv ct) args binds) (hloc : ∀ y ∈ binds, scope.names.lookup y.1 = some .local)
    (hoff : ∀ q ∈ rest, q.1 ∉ W.map (·.1)) (hW : ∀ q ∈ W, q.2.cls ≠ .type "tuple")
    (h : ∀ g L' h₁ mean mg mb, Room rn (A.deeper (envOf qual scope L' f cdv)) → Fr g L' h₁ (fun y => binds.reverse.lookup y) → News g L' h₁ W → Cx w (A.deeper (envOf qual scope L' f cdv)) (envOf qual scope L' f cdv) g L' → (hd.heap_39 w.params).In g → Top hd.view_39 LO mean mg mb g →
      (∀ b o, s.heap.get? b = some o → b ∉ W.map (·.1) → g.get? b = some o) → (∀ b vs, s.heap.get? b = some (tup vs) → g.get? b = some (tup vs)) → (∀ b o, s.heap.get? b = some o → b < L') →
      wpAny (model PySem.Challenge.rw_ik0004_01.row.prog w) (A.deeper (envOf qual scope L' f cdv)) (execs body (envOf qual scope L' f cdv))
        (fun fl s' => Back h₀ L m rest g L' Q (match fl with | .ret v => v | _ => .none) s') NoE
        { s with heap := h₁, toks := s.toks + binds.length })
    (hco : scope.isCoroutine = false := by rfl) (hgen : scope.isGenerator = false := by rfl) (hk : scope.kind = .function := by rfl)
    (hcell : ∀ x ∈ scope.names, x.2 ≠ .cell := by decide) : wpAny (model PySem.Challenge.rw_ik0004_01.row.prog w) A (call (.ref f) args.pos args.kw) Q E s := by
  obtain ⟨A₀, base, outer, B, hA, D, XB, mean', mg', mb', TB⟩ := C.bel
  obtain ⟨mean, mg, mb, T⟩ := C.T
  refine wpAny_call ?_
  refine codeOf (binds := binds) B F C.X N T hA C.fL C.knd ho hcd (by have := R.1; omega) hbind hloc hoff (fun g L' h₁ F' N' FG B' X' T' big lt => ?_) hco hgen hk hcell
  refine wpAny_mono (h g L' h₁ mean mg mb R.deeper F' N' ⟨⟨A, base, env :: outer, B', Around.frames_deeper B'.stack, dicts_push C.fL D FG, XB, mean', mg', mb', TB⟩, rfl, hk, C.hh⟩ X' T' big (fun b vs e => big b _ e fun hm => ?_) lt) (fun fl s' b => b) (fun _ _ x => x.elim)
  obtain ⟨q, hq, rfl⟩ := List.mem_map.mp hm
  have := (N q (List.mem_append_left _ hq)).1
  rw [e] at this
  exact hW q hq (by rw [← Option.some.inj this])

/-- the outer frames may have been looked at -/
def Turned (A : Around) (g g' : Heap) : Prop := ∃ env outer, A.frames = some (env :: outer) ∧ KtsTurn (outer.filterMap (·.frame)) g g'
end
section
variable {w : World} {A : Around} {s : Shared} {h₀ h₁ h₂ : Heap} {L : Addr} {m : Str → Option Value} {env : Env} {W rest : List (Addr × Obj)} {Q E : Value → Shared → Prop}
theorem Cx.refl (C : Cx w A env h₀ L) : Turned A h₀ h₀ := by
  obtain ⟨_, _, outer, _, hA, _⟩ := C.bel
  exact ⟨env, outer, hA, .refl⟩
theorem Turned.trans (x : Turned A h₀ h₁) (y : Turned A h₁ h₂) : Turned A h₀ h₂ := by
  obtain ⟨e, o, h, a⟩ := x
  obtain ⟨e', o', h', b⟩ := y
  rw [h] at h'
  cases h'
  exact ⟨e, o, h, a.trans b⟩
theorem turn_below {A₀ : Around} {base g g' : Heap} {outer : List Env} (B : Below A₀ base outer g) (T : KtsTurn (outer.filterMap (·.frame)) g g') : Below A₀ base outer g' :=
  ⟨B.stack, fun b o e => T.other b o (B.stays b o e) (fun hm => by rw [(B.frames.mem hm).1] at e; cases e), B.frames.of_keeps fun b o e _ => by
    obtain ⟨sl, hs⟩ := T.up e
    exact ⟨_, hs, rfl⟩⟩
theorem Cx.turn (C : Cx w A env h₀ L) (T : Turned A h₀ h₁) : Cx w A env h₁ L := by
  obtain ⟨A₀, base, outer, B, hA, D, r⟩ := C.bel
  obtain ⟨e, o, h, a⟩ := T
  rw [hA] at h
  cases h
  exact ⟨⟨A₀, base, outer, turn_below B a, hA, D.turn a, r⟩, C.fL, C.knd, C.hh⟩
theorem Cx.get (C : Cx w A env h₀ L) (T : Turned A h₀ h₁) {b : Addr} {o : Obj} (e : h₀.get? b = some o) (hd : ∀ es n, o.data ≠ .dict es n) : h₁.get? b = some o := by
  obtain ⟨A₀, base, outer, B, hA, D, r⟩ := C.bel
  obtain ⟨e', o', h, a⟩ := T
  rw [hA] at h
  cases h
  refine a.other b o e fun hm => ?_
  obtain ⟨o', es, n, ho, hd'⟩ := D b hm
  rw [e] at ho
  cases ho
  exact hd _ _ hd'
theorem Cx.none_ (T : Turned A h₀ h₁) {b : Addr} (e : h₀.get? b = none) : h₁.get? b = none := by
  obtain ⟨_, _, _, a⟩ := T
  exact a.none_ _ e
end
section
variable {w : World} {A : Around} {s : Shared} {h₀ : Heap} {L : Addr} {m : Str → Option Value} {env : Env} {W rest : List (Addr × Obj)} {Q E : Value → Shared → Prop}
  {name qual : Str} {params : Arguments} {body : List Stmt} {scope : Scope} {dV kV doc pm cdv ct oc : Value} {an od : Option Addr} {osl : Array (Option Value)} {f : Addr} {args : Args} {binds : List (Str × Value)}

/-- a raised builtin exception, looked at from the frame that called -/
def Rz (w : World) (A : Around) (env : Env) (h₀ : Heap) (L : Addr) (m : Str → Option Value) (rest : List (Addr × Obj)) (cls : String) (vs : List Value) (W : List (Addr × Obj)) (ea : Addr) (h' : Heap) : Prop :=
  ∃ A₀ base outer G t mean mg mb, Below A₀ base outer h₀ ∧ A.frames = some (env :: outer) ∧ KtsDicts (outer.filterMap (·.frame)) h₀ ∧ (hd.heap_39 w.params).In base ∧ Top hd.view_39 LO mean mg mb base ∧
    RaisedS base G (env :: outer) ea (.type cls) t vs W h' ∧ G.UpToSlots h' ∧ Fr h₀ L G m ∧ ∀ q ∈ rest, G.get? q.1 = some q.2 ∧ q.1 ≠ L ∧ h₀.get? q.1 = none

/-- a body may end so: by a value, the frames outside looked at -/
def BackT (w : World) (A A' : Around) (env : Env) (h₀ : Heap) (L : Addr) (m : Str → Option Value) (rest : List (Addr × Obj)) (g : Heap) (L' : Addr) (Q : Value → Shared → Prop) (v : Value) (s' : Shared) : Prop :=
  ∃ g' m' W', Turned A' g g' ∧ Fr g' L' s'.heap m' ∧ News g' L' s'.heap W' ∧ ∀ h₀', Turned A h₀ h₀' → Cx w A env h₀' L → Fr h₀' L s'.heap m → News h₀' L s'.heap (W' ++ rest) → Q v s'
theorem turn_back {base g g' h : Heap} {A₀ : Around} {outer : List Env} {L' : Addr} {m' : Str → Option Value} (B : Below A₀ base outer h₀) (hf : env.frame = some L) (FG : Fr h₀ L g m) (hnL : h₀.get? L = none)
    (T : KtsTurn ((env :: outer).filterMap (·.frame)) g g') (F : Fr g' L' h m') : ∃ h₀', KtsTurn (outer.filterMap (·.frame)) h₀ h₀' ∧ Fr h₀' L h m := by
  have fe : (env :: outer).filterMap (·.frame) = L :: outer.filterMap (·.frame) := by rw [List.filterMap_cons, hf]
  rw [fe] at T
  obtain ⟨T', S⟩ := kts_turn_at (h := g') (fs := outer.filterMap (·.frame)) (g := h₀)
    (fun b hb => by
      obtain ⟨_, o, ho, _⟩ := B.frames.mem hb
      exact ⟨o, ho⟩)
    (fun b o e nm => T.other b o (FG.keep b o e) (fun hm => by
      rcases List.mem_cons.mp hm with z | z
      · rw [z, hnL] at e
        cases e
      · exact nm z))
    (fun b o e hm => T.frame b o (FG.keep b o e) (List.mem_cons_of_mem _ hm))
  refine ⟨_, T', ⟨?_, fun b o e => F.keep _ _ (S b o e), by rw [T'.size]; exact FG.above⟩⟩
  obtain ⟨oL, es, ep, hL, hLd, hLk, hLf⟩ := FG.ns
  obtain ⟨sl, hs⟩ := T.up hL
  exact ⟨_, es, ep, F.keep _ _ hs, hLd, hLk, hLf⟩
theorem none_self (F : Fr h₀ L s.heap m) : h₀.get? L = none := kts_self F

theorem callT {rn : Nat} (C : Cx w A env h₀ L) (R : Room (rn + 1) A) (F : Fr h₀ L s.heap m) (N : News h₀ L s.heap (W ++ rest))
    (ho : (hd.heap_39 w.params).lookup f = some ⟨oc, od, .func (fnOf name qual params body scope dV kV doc pm an cdv ct), osl⟩) (hcd : codeIn (hd.heap_39 w.params) cdv qual = true)
    (hbind : BindsTo s (fnOf name qual params body scope dV kV doc pm an cdv ct) args binds) (hloc : ∀ y ∈ binds, scope.names.lookup y.1 = some .local)
    (hoff : ∀ q ∈ rest, q.1 ∉ W.map (·.1)) (hW : ∀ q ∈ W, q.2.cls ≠ .type "tuple")
    (h : ∀ g L' h₁ mean mg mb, Room rn (A.deeper (envOf qual scope L' f cdv)) → Fr g L' h₁ (fun y => binds.reverse.lookup y) → News g L' h₁ W → Cx w (A.deeper (envOf qual scope L' f cdv)) (envOf qual scope L' f cdv) g L' → (hd.heap_39 w.params).In g → Top hd.view_39 LO mean mg mb g →
      (∀ b o, s.heap.get? b = some o → b ∉ W.map (·.1) → g.get? b = some o) → (∀ b vs, s.heap.get? b = some (tup vs) → g.get? b = some (tup vs)) → (∀ b o, s.heap.get? b = some o → b < L') →
      (∀ ea h m' W' vs cls s', Heap.MadeExcOf h s'.heap ea (.type cls) vs → Fr g L' h m' → News g L' h W' → (∀ h', Rz w A env h₀ L m rest cls vs W' ea h' → E (.ref ea) { s' with heap := h' }) →
        wpAny (model PySem.Challenge.rw_ik0004_01.row.prog w) (A.deeper (envOf qual scope L' f cdv)) (leaving (envOf qual scope L' f cdv) (.ref ea)) (fun _ s'' => E (.ref ea) s'') (fun e' s'' => E e' s'') s') →
      wpAny (model PySem.Challenge.rw_ik0004_01.row.prog w) (A.deeper (envOf qual scope L' f cdv)) (execs body (envOf qual scope L' f cdv))
        (fun fl s' => BackT w A (A.deeper (envOf qual scope L' f cdv)) env h₀ L m rest g L' Q (match fl with | .ret v => v | _ => .none) s')
        (fun e s' => wpAny (model PySem.Challenge.rw_ik0004_01.row.prog w) (A.deeper (envOf qual scope L' f cdv)) (leaving (envOf qual scope L' f cdv) e) (fun _ s'' => E e s'') (fun e' s'' => E e' s'') s')
        { s with heap := h₁, toks := s.toks + binds.length })
    (hco : scope.isCoroutine = false := by rfl) (hgen : scope.isGenerator = false := by rfl) (hk : scope.kind = .function := by rfl)
    (hcell : ∀ x ∈ scope.names, x.2 ≠ .cell := by decide) : codeAny (model PySem.Challenge.rw_ik0004_01.row.prog w) A (.call (.ref f) args) (fun r s' => match r with | .ok (.ret v) => Q v s' | .ok _ => False | .error e => E e s') s := by
  obtain ⟨A₀, base, outer, B, hA, D, XB, mean', mg', mb', TB⟩ := C.bel
  obtain ⟨mean, mg, mb, T⟩ := C.T
  have NW : News h₀ L s.heap W := fun q hq => N q (List.mem_append_left _ hq)
  obtain ⟨FG, BG, st, _⟩ := groundX (R := fun _ _ => True) B F NW hA C.fL C.knd
  have big : ∀ b o, s.heap.get? b = some o → b ∉ W.map (·.1) → (hideAll s.heap (W.map (·.1))).get? b = some o := fun b o e hb => hideAll_get _ e hb
  have X' := C.X.keeps F.keep
  have hroom : A.depth < recursionLimit := by have := R.1; omega
  refine codeAny_call_def (fd := fnOf name qual params body scope dV kV doc pm an cdv ct) (body := body) (binds := binds) hroom (X' _ _ ho) rfl (T.nolimit.keeps F.keep) (codeRec_of X' hcd) rfl hbind hcell hloc (fun h₁ hns hk₁ => ?_) hco hgen hk
  have F₁ : Fr (hideAll s.heap (W.map (·.1))) s.heap.objs.size h₁ (fun y => binds.reverse.lookup y) := ⟨hns, fun b o e => hk₁ b o (of_hideAll _ e), Nat.le_of_eq (hideAll_size _ _)⟩
  have B' : Below A base (env :: outer) (hideAll s.heap (W.map (·.1))) := BG
  refine wpAny_mono (h _ s.heap.objs.size h₁ mean mg mb R.deeper F₁
    (fun q hq => ⟨hk₁ _ _ (NW q hq).1, Nat.ne_of_lt (Heap.lt_size (NW q hq).1), hideAll_none _ (List.mem_map_of_mem hq)⟩)
    ⟨⟨A, base, env :: outer, B', Around.frames_deeper B'.stack, dicts_push C.fL D FG, XB, mean', mg', mb', TB⟩, rfl, hk, C.hh⟩ (C.X.keeps st) (T.keeps st) big (fun b vs e => big b _ e fun hm => ?_) (fun b o e => Heap.lt_size e) (fun ea hm m' W' vs cls s' hx F' N' k => ?_)) (fun fl s' hl => ?_) fun e s' hl => hl
  · obtain ⟨q, hq, rfl⟩ := List.mem_map.mp hm
    have := (N q (List.mem_append_left _ hq)).1
    rw [e] at this
    exact hW q hq (by rw [← Option.some.inj this])
  · refine leave_raiseS B' hx F' N' (fun h' t RS _ up => ?_) hk
    refine k h' ⟨A₀, base, outer, _, t, mean', mg', mb', B, hA, D, XB, TB, RS, up, FG, fun q hq => ?_⟩
    have z := N q (List.mem_append_right _ hq)
    exact ⟨big _ _ z.1 (hoff q hq), z.2⟩
  · obtain ⟨g', m', W', T', F', N', k⟩ := hl
    obtain ⟨e', o', hA', T'⟩ := T'
    rw [Around.frames_deeper B'.stack] at hA'
    cases hA'
    have hnL : h₀.get? L = none := kts_self F
    obtain ⟨h₀', T₀, F₀⟩ := turn_back B C.fL FG hnL T' F'
    have TT : Turned A h₀ h₀' := ⟨env, outer, hA, T₀⟩
    refine k h₀' TT (C.turn TT) F₀ fun q hq => ?_
    rcases List.mem_append.mp hq with hq | hq
    · have z := N' q hq
      refine ⟨z.1, fun e => ?_, ?_⟩
      · obtain ⟨oL, es, ep, hL, hLd, hLk, hLf⟩ := FG.ns
        obtain ⟨sl, hs⟩ := T'.up hL
        rw [← e, z.2.2] at hs
        cases hs
      · refine T₀.none_ _ ?_
        cases e : h₀.get? q.1 with
        | none => rfl
        | some o =>
          obtain ⟨sl, hs⟩ := T'.up (FG.keep _ _ e)
          rw [z.2.2] at hs
          cases hs
    · have z := N q (List.mem_append_right _ hq)
      refine ⟨F'.keep _ _ (T'.other _ _ (big _ _ z.1 (hoff q hq)) fun hm => ?_), z.2.1, T₀.none_ _ z.2.2⟩
      rw [List.filterMap_cons, C.fL] at hm
      rcases List.mem_cons.mp hm with e | hm
      · exact z.2.1 e
      · obtain ⟨_, o, ho, _⟩ := B.frames.mem hm
        rw [z.2.2] at ho
        cases ho
theorem Cx.same {A' : Around} (C : Cx w A env h₀ L) (h1 : A'.frames = A.frames) (h2 : A'.handled = A.handled) : Cx w A' env h₀ L := by
  obtain ⟨a, b, c, d⟩ := C
  exact ⟨h1 ▸ a, b, c, h2 ▸ d⟩
theorem callFC {rn : Nat} {R' : Result → Shared → Prop} (C : Cx w A env h₀ L) (R : Room (rn + 1) A) (F : Fr h₀ L s.heap m) (N : News h₀ L s.heap (W ++ rest))
    (ho : (hd.heap_39 w.params).lookup f = some ⟨oc, od, .func (fnOf name qual params body scope dV kV doc pm an cdv ct), osl⟩) (hcd : codeIn (hd.heap_39 w.params) cdv qual = true)
    (hbind : BindsTo s (fnOf name qual params body scope dV kV doc pm an cdv ct) args binds) (hloc : ∀ y ∈ binds, scope.names.lookup y.1 = some .local)
    (hoff : ∀ q ∈ rest, q.1 ∉ W.map (·.1)) (hW : ∀ q ∈ W, q.2.cls ≠ .type "tuple")
    (h : ∀ g L' h₁ mean mg mb, Room rn (A.deeper (envOf qual scope L' f cdv)) → Fr g L' h₁ (fun y => binds.reverse.lookup y) → News g L' h₁ W → Cx w (A.deeper (envOf qual scope L' f cdv)) (envOf qual scope L' f cdv) g L' → (hd.heap_39 w.params).In g → Top hd.view_39 LO mean mg mb g →
      (∀ b o, s.heap.get? b = some o → b ∉ W.map (·.1) → g.get? b = some o) → (∀ b vs, s.heap.get? b = some (tup vs) → g.get? b = some (tup vs)) → (∀ b o, s.heap.get? b = some o → b < L') →
      wpAny (model PySem.Challenge.rw_ik0004_01.row.prog w) (A.deeper (envOf qual scope L' f cdv)) (execs body (envOf qual scope L' f cdv))
        (fun fl s' => Back h₀ L m rest g L' (fun v s'' => R' (.ok (.ret v)) s'') (match fl with | .ret v => v | _ => .none) s') NoE
        { s with heap := h₁, toks := s.toks + binds.length })
    (hco : scope.isCoroutine = false := by rfl) (hgen : scope.isGenerator = false := by rfl) (hk : scope.kind = .function := by rfl)
    (hcell : ∀ x ∈ scope.names, x.2 ≠ .cell := by decide) : codeAny (model PySem.Challenge.rw_ik0004_01.row.prog w) A (.call (.ref f) args) R' s := by
  obtain ⟨A₀, base, outer, B, hA, D, XB, mean', mg', mb', TB⟩ := C.bel
  obtain ⟨mean, mg, mb, T⟩ := C.T
  refine codeOf (binds := binds) B F C.X N T hA C.fL C.knd ho hcd (by have := R.1; omega) hbind hloc hoff (fun g L' h₁ F' N' FG B' X' T' big lt => ?_) hco hgen hk hcell
  refine wpAny_mono (h g L' h₁ mean mg mb R.deeper F' N' ⟨⟨A, base, env :: outer, B', Around.frames_deeper B'.stack, dicts_push C.fL D FG, XB, mean', mg', mb', TB⟩, rfl, hk, C.hh⟩ X' T' big (fun b vs e => big b _ e fun hm => ?_) lt) (fun fl s' b => b) (fun _ _ x => x.elim)
  obtain ⟨q, hq, rfl⟩ := List.mem_map.mp hm
  have := (N q (List.mem_append_left _ hq)).1
  rw [e] at this
  exact hW q hq (by rw [← Option.some.inj this])
end
section
variable {M : Model} {w : World} {A : Around} {s : Shared} {h₀ : Heap} {L ea : Addr} {m : Str → Option Value} {env : Env} {W rest : List (Addr × Obj)} {E : Value → Shared → Prop} {vs : List Value} {cls : String}
theorem Rz.ground (C : Cx w A env h₀ L) (R : Rz w A env h₀ L m rest cls vs W ea s.heap) :
    (∃ h₀', Turned A h₀ h₀' ∧ Cx w A env h₀' L ∧ Fr h₀' L s.heap m ∧ News h₀' L s.heap (W ++ rest)) ∧ s.TypeIs (.ref ea) cls := by
  obtain ⟨A₀, base, outer, G, t, mean, mg, mb, B, hA, D, XB, TB, RS, up, FG, hr⟩ := R
  obtain ⟨⟨Bh, hB, hBG, hl, hfl, hnew⟩, htup⟩ := RS
  have hnL : h₀.get? L = none := kts_self FG
  have fe : (env :: outer).filterMap (·.frame) = L :: outer.filterMap (·.frame) := by rw [List.filterMap_cons, C.fL]
  obtain ⟨T', S⟩ := kts_turn_at (h := s.heap) (fs := outer.filterMap (·.frame)) (g := h₀)
    (fun b hb => by
      obtain ⟨_, o, ho, _⟩ := B.frames.mem hb
      exact ⟨o, ho⟩)
    (fun b o e nm => hfl.1 b o (hBG b o (FG.keep b o e) (fun hm => by
      rw [fe] at hm
      rcases List.mem_cons.mp hm with z | z
      · rw [z, hnL] at e
        cases e
      · exact nm z)))
    (fun b o e hm => by
      obtain ⟨_, o', ho', hd⟩ := B.frames.mem hm
      rw [e] at ho'
      cases ho'
      exact up b o (FG.keep b o e) hd)
  have TT : Turned A h₀ _ := ⟨env, outer, hA, T'⟩
  refine ⟨⟨_, TT, C.turn TT, ⟨up.ns FG.ns, S, by rw [T'.size]; exact FG.above⟩, fun q hq => ?_⟩, ?_⟩
  · rcases List.mem_append.mp hq with hq | hq
    · obtain ⟨a, b, c⟩ := hl q hq
      refine ⟨hfl.1 _ _ a, fun e => ?_, T'.none_ _ (kts_none FG.keep b)⟩
      obtain ⟨oL, es, ep, hL, _⟩ := FG.ns
      rw [← e, b] at hL
      cases hL
    · obtain ⟨a, b, c⟩ := hr q hq
      refine ⟨hfl.1 _ _ (hBG _ _ a fun hm => ?_), b, T'.none_ _ c⟩
      rw [fe] at hm
      rcases List.mem_cons.mp hm with z | z
      · exact b z
      · obtain ⟨_, o, ho, _⟩ := B.frames.mem z
        rw [c] at ho
        cases ho
  · obtain ⟨ob, hob, hobc⟩ := (flyingW_base hB hfl).there
    exact ⟨ob, hob, hobc⟩
theorem Rz.stop {Q : Option Value → Shared → Prop} (C : Cx w A env h₀ L) (R : Rz w A env h₀ L m rest "StopIteration" vs W ea s.heap)
    (k : ∀ h₀', Turned A h₀ h₀' → Cx w A env h₀' L → Fr h₀' L s.heap m → News h₀' L s.heap (W ++ rest) → Q none s) : OwitStop M A Q E (.ref ea) s := by
  obtain ⟨⟨h₀', a, b, c, d⟩, hT⟩ := R.ground C
  unfold OwitStop
  refine wpAny_isInstance hT (b := true) (by first | rfl | (rw [isSubtype_type]; kernel_rfl) | kernel_rfl) ?_
  show (if true = true then Q none s else E (.ref ea) s)
  rw [if_pos rfl]
  exact k h₀' a b c d
end
section
variable {w : World} {s : Shared} {h₀ g : Heap} {L L' : Addr} {m m' : Str → Option Value} {W' rest : List (Addr × Obj)} {Q : Value → Shared → Prop} {s' : Shared}
theorem news_off {r : Addr} {o : Obj} (big : ∀ b o, s.heap.get? b = some o → g.get? b = some o) (N : News h₀ L s.heap rest) (N8 : News g L' s'.heap ((r, o) :: W')) : ∀ q ∈ rest, q.1 ≠ r := by
  intro q hq e
  have e1 := big _ _ (N q hq).1
  rw [e, (N8 (r, o) (.head _)).2.2] at e1
  cases e1
theorem back_new {r : Addr} {o : Obj} {v : Value} (big : ∀ b o, s.heap.get? b = some o → g.get? b = some o) (N : News h₀ L s.heap rest) (F8 : Fr g L' s'.heap m') (N8 : News g L' s'.heap ((r, o) :: W'))
    (k : Fr h₀ L s'.heap m → News h₀ L s'.heap ((r, o) :: rest) → (∀ q ∈ rest, q.1 ≠ r) → Q v s') : Back h₀ L m rest g L' Q v s' :=
  back F8 N8 fun Fb Nb => k Fb (fun p hp => Nb p (by
    rcases List.mem_cons.mp hp with rfl | hp
    · exact .head _
    · exact List.mem_append_right _ hp)) (news_off big N N8)
end
section
variable {M : Model} {A : Around} {s : Shared} {E : Value → Shared → Prop} {Q : Value → Shared → Prop}
theorem is_ref_other' {x y : Addr} {ox oy : Obj} (hxy : x ≠ y) (hx : s.heap.get? x = some ox) (hy : s.heap.get? y = some oy) (hnt : oy.cls ≠ .type "tuple") (h : Q (.bool false) s) : wpAny M A (compareOp .Is (.ref x) (.ref y)) Q E s := by
  show wpAny M A (do return .bool (← isSame (.ref x) (.ref y))) Q E s
  exact wpAny_bind (PySem.SeqAt.wpAny_isSame_ref_other' hxy hx hy hnt (wpAny_pure h))
end

theorem at_P03b_Cells : True := by
  w_top off
  trivial
section
variable {w : World} {A : Around} {s : Shared} {h₀ : Heap} {L : Addr} {m : Str → Option Value} {env : Env} {rest : List (Addr × Obj)} {Q E : Value → Shared → Prop}
  {name qual : Str} {params : Arguments} {body : List Stmt} {scope : Scope} {dV kV doc pm cdv ct oc : Value} {an od : Option Addr} {osl : Array (Option Value)} {f : Addr} {args : Args} {binds : List (Str × Value)}

/-- a call of a text with cells, no list handed over to be written -/
theorem callC {rn : Nat} (C : Cx w A env h₀ L) (R : Room (rn + 1) A) (F : Fr h₀ L s.heap m) (N : News h₀ L s.heap rest)
    (ho : (hd.heap_39 w.params).lookup f = some ⟨oc, od, .func (fnOf name qual params body scope dV kV doc pm an cdv ct), osl⟩) (hcd : codeIn (hd.heap_39 w.params) cdv qual = true)
    (hbind : BindsTo s (fnOf name qual params body scope dV kV doc pm an cdv ct) args binds) (hkind : (binds.all fun y => scope.names.lookup y.1 == some .local || scope.names.lookup y.1 == some .cell) = true)
    (hnd : ((cellsFrom 0 scope.names []).map (·.1)).Nodup)
    (h : ∀ g L' h₁ tk cells mean mg mb, Room rn (A.deeper (envOfC qual scope L' f cdv)) → Fr g L' h₁ (bindL (envOfC qual scope L' f cdv).kindOf binds fun _ => none) → News g L' h₁ cells →
      CellsAre (bindC (envOfC qual scope L' f cdv).kindOf binds fun _ => none) (cellsFrom (L' + 1) scope.names []) cells →
      Cx w (A.deeper (envOfC qual scope L' f cdv)) (envOfC qual scope L' f cdv) g L' → (hd.heap_39 w.params).In g → Top hd.view_39 LO mean mg mb g →
      (∀ b o, s.heap.get? b = some o → g.get? b = some o) → (∀ b o, s.heap.get? b = some o → b < L') →
      wpAny (model PySem.Challenge.rw_ik0004_01.row.prog w) (A.deeper (envOfC qual scope L' f cdv)) (execs body (envOfC qual scope L' f cdv))
        (fun fl s' => Back h₀ L m rest g L' Q (match fl with | .ret v => v | _ => .none) s') NoE
        { s with heap := h₁, toks := tk })
    (hco : scope.isCoroutine = false := by rfl) (hgen : scope.isGenerator = false := by rfl) (hk : scope.kind = .function := by rfl) : wpAny (model PySem.Challenge.rw_ik0004_01.row.prog w) A (call (.ref f) args.pos args.kw) Q E s := by
  obtain ⟨A₀, base, outer, B, hA, D, XB, mean', mg', mb', TB⟩ := C.bel
  obtain ⟨mean, mg, mb, T⟩ := C.T
  obtain ⟨FG, BG, st, lv⟩ := groundX (R := fun _ _ => True) B F (News.nil : News h₀ L s.heap []) hA C.fL C.knd
  have big : ∀ b o, s.heap.get? b = some o → (hideAll s.heap (([] : List (Addr × Obj)).map (·.1))).get? b = some o := fun b o e => hideAll_get _ e (by simp)
  have X' := C.X.keeps F.keep
  have hroom : A.depth < recursionLimit := by have := R.1; omega
  have B' : Below A base (env :: outer) (hideAll s.heap (([] : List (Addr × Obj)).map (·.1))) := BG
  refine wpAny_call ?_
  refine codeAny_call_function hroom (X' _ _ ho) rfl hco hgen rfl (codeRec_of X' hcd) (hbind _ _ _ _ ?_)
  refine wpAny_newFunctionEnv_cells hk (kindsX hkind _) fun env' he s' x => ?_
  subst he
  refine ⟨(T.nolimit.keeps F.keep).keeps x.toInCall.keep, codeAny_func ?_⟩
  obtain ⟨h₁, tk, rfl, _⟩ := x.done
  have hk₁ := x.toInCall.keep
  obtain ⟨cells, NC, Y⟩ := Cl.news (h₀ := s.heap) (Nat.le_refl _) fun n c hm => ⟨x.cell n c (lookup_of_mem_nodup (cellsFrom_names scope.names 0 (s.heap.objs.size + 1) [] [] rfl ▸ hnd) hm), x.above n c hm⟩
  have F₁ : Fr (hideAll s.heap (([] : List (Addr × Obj)).map (·.1))) s.heap.objs.size h₁ _ := ⟨x.toInCall.ns, fun b o e => hk₁ b o (of_hideAll _ e), Nat.le_of_eq (hideAll_size _ _)⟩
  refine wpAny_mono (h _ s.heap.objs.size h₁ tk cells mean mg mb R.deeper F₁ (fun p hp => ⟨(NC p hp).1, (NC p hp).2.1, ?_⟩) Y
    ⟨⟨A, base, env :: outer, B', Around.frames_deeper B'.stack, dicts_push C.fL D FG, XB, mean', mg', mb', TB⟩, rfl, hk, C.hh⟩ (C.X.keeps st) (T.keeps st) big (fun b o e => Heap.lt_size e)) (fun fl s' hl => ?_) fun _ _ y => y.elim
  · cases q : (hideAll s.heap (([] : List (Addr × Obj)).map (·.1))).get? p.1 with
    | none => rfl
    | some o => have := of_hideAll _ q; rw [(NC p hp).2.2] at this; cases this
  · obtain ⟨m', W', F', N', k⟩ := hl
    have kp : ∀ b o, s.heap.get? b = some o → s'.heap.get? b = some o := fun b o e => F'.keep _ _ (big b o e)
    refine k (F.kept kp) fun q hq => ?_
    rcases List.mem_append.mp hq with hq | hq
    · have z := N' q hq
      refine ⟨z.1, fun e => ?_, ?_⟩
      · obtain ⟨oL, es, ep, hL, _⟩ := FG.ns
        rw [← e, z.2.2] at hL; cases hL
      · cases q2 : h₀.get? q.1 with
        | none => rfl
        | some o => have := st _ _ q2; rw [z.2.2] at this; cases this
    · have z := N q hq
      exact ⟨kp _ _ z.1, z.2⟩
end

theorem at_P03c_Comp : True := by
  w_top off
  trivial
section
variable {w : World} {A : Around} {s : Shared} {h₀ : Heap} {L : Addr} {m : Str → Option Value} {env : Env} {Q E : Value → Shared → Prop}
  {elt target iter : Expr} {ifs : List Expr} {scope : Scope} {cl : List (Str × Addr)} {pos : Pos}

/-- the loop of a comprehension ends so -/
def CompBack (K : Addr → Array Value → Nat → List (Addr × Obj) → Shared → Prop) (rest : List (Addr × Obj)) (g : Heap) (C D : Addr) : Result → Shared → Prop
  | .ok _, s' => ∃ m' vs c W', Fr g C s'.heap m' ∧ News g C s'.heap ((D, PySem.W.listOf vs c) :: W') ∧ K D vs c (W' ++ rest) s'
  | .error _, _ => False
/-- the comprehension's list is the value -/
def CompVal (h₀ : Heap) (L : Addr) (m : Str → Option Value) (Q : Value → Shared → Prop) (D : Addr) (vs : Array Value) (c : Nat) (W : List (Addr × Obj)) (s' : Shared) : Prop :=
  ∀ h', Fr h₀ L h' m → News h₀ L h' ((D, PySem.W.listOf vs c) :: W) → Q (.ref D) { s' with heap := h' }
/-- the comprehension's list is stored under a name -/
def CompStore (h₀ : Heap) (L : Addr) (m : Str → Option Value) (y : Str) (Q : Flow → Shared → Prop) (D : Addr) (vs : Array Value) (c : Nat) (W : List (Addr × Obj)) (s' : Shared) : Prop :=
  ∀ h' tk, Fr h₀ L h' (fun z => if z = y then some (.ref D) else m z) → News h₀ L h' ((D, PySem.W.listOf vs c) :: W) → Q .next { s' with heap := h', toks := tk }

/-- a comprehension's loop as a text of its own: base g, its own names at C, the list at D -/
def CompGo (w : World) (A : Around) (h₀ : Heap) (L : Addr) (m : Str → Option Value) (env : Env) (elt target iter : Expr) (ifs : List Expr) (scope : Scope) (cl : List (Str × Addr)) (pos : Pos) (K : Addr → Array Value → Nat → List (Addr × Obj) → Shared → Prop) (itv : Value) (s₂ : Shared) : Prop :=
  ∃ I W rest, itv = .ref I ∧ Fr h₀ L s₂.heap m ∧ News h₀ L s₂.heap (W ++ rest) ∧ (∀ q ∈ rest, q.1 ∉ W.map (·.1)) ∧
    (∀ (s' : Shared) (Q' : Value → Shared → Prop) (E' : Value → Shared → Prop), (∀ q ∈ W, s'.heap.get? q.1 = some q.2) → Q' (.ref I) s' → wpAny (model PySem.Challenge.rw_ik0004_01.row.prog w) A (pyIter (.ref I)) Q' E' s') ∧
    ∀ g C D h₁ tk mean mg mb, Fr g C h₁ (fun _ => none) → News g C h₁ ((D, PySem.W.listOf #[] 0) :: W) → (∀ b o, s₂.heap.get? b = some o → b ∉ W.map (·.1) → g.get? b = some o) → (∀ b o, s₂.heap.get? b = some o → @LT.lt Nat _ b D) → @LT.lt Nat _ D C →
      (hd.heap_39 w.params).In g → Top hd.view_39 LO mean mg mb g →
      codeAny (model PySem.Challenge.rw_ik0004_01.row.prog w) A (.compLoop (.ListComp elt [⟨target, iter, ifs, 0⟩] scope pos) 0 (.ref I) (.ref D) (compEnvC scope cl C env)) (CompBack K rest g C D) { s₂ with heap := h₁, toks := tk }

theorem comp_own (_F : Fr h₀ L s.heap m) (Cc : Cx w A env h₀ L) (hclos : closureFor scope env = pure cl) (hcell : ∀ y ∈ scope.names, y.2 ≠ .cell) (hkind : scope.kind = .function)
    (hnames : ∀ y ∈ scope.names, y.2 = .local → scope.names.lookup y.1 = some .local)
    (h : wpAny (model PySem.Challenge.rw_ik0004_01.row.prog w) A (eval iter env) (fun xv s₁ => wpAny (model PySem.Challenge.rw_ik0004_01.row.prog w) A (pyIter xv) (CompGo w A h₀ L m env elt target iter ifs scope cl pos (CompVal h₀ L m Q)) E s₁) E s)
    (hs : ∀ x, foldedSetIterable iter env x = pure x := by intro _; rfl) :
    wpAny (model PySem.Challenge.rw_ik0004_01.row.prog w) A (eval (.ListComp elt [⟨target, iter, ifs, 0⟩] scope pos) env) Q E s := by
  rw [eval_ListComp]
  refine wpAny_comprehension_free (use := none) rfl hs hclos hkind hnames (wpAny_mono h (fun xv s₁ h₁ => wpAny_mono h₁ (fun itv s₂ h₂ => ?_) (fun _ _ x => x)) fun _ _ x => x)
  obtain ⟨I, W, rest, rfl, F, N, hoff, self, go⟩ := h₂
  obtain ⟨A₀, base, outer, B, hA, _⟩ := Cc.bel
  obtain ⟨mean, mg, mb, T⟩ := Cc.T
  have NW : News h₀ L s₂.heap W := fun q hq => N q (List.mem_append_left _ hq)
  obtain ⟨FG, BG, st, _⟩ := groundX (R := fun _ _ => True) B F NW hA Cc.fL Cc.knd
  have big : ∀ b o, s₂.heap.get? b = some o → b ∉ W.map (·.1) → (hideAll s₂.heap (W.map (·.1))).get? b = some o := fun b o e hb => hideAll_get _ e hb
  refine wpAny_newObj_type (wpAny_newFunctionEnv hcell (by intro y hy; simp at hy) (fun h₁ hns₁ hsb₁ => ?_) hkind)
  dsimp only at hns₁ hsb₁ ⊢
  generalize hH2 : s₂.heap.push { cls := .type "list", dict := none, data := .seq ([] : List Value).toArray } = H2 at hns₁ hsb₁ ⊢
  have hC : H2.objs.size = s₂.heap.objs.size + 1 := by rw [← hH2, Heap.size_push]
  have old : ∀ b o, s₂.heap.get? b = some o → h₁.get? b = some o := fun b o e => hsb₁.extBut b o (by have := Heap.lt_size e; rw [hC]; exact Nat.ne_of_lt (Nat.lt_succ_of_lt this)) (Heap.get?_push_of_some _ (hH2 ▸ Heap.get?_push_of_some _ e))
  have hacc : h₁.get? s₂.heap.objs.size = some (PySem.W.listOf #[] 0) := hsb₁.extBut _ _ (by rw [hC]; exact Nat.ne_of_lt (Nat.lt_succ_self _)) (Heap.get?_push_of_some _ (hH2 ▸ Heap.get?_push_size _ rfl))
  have gnone : ∀ b, s₂.heap.objs.size ≤ b → (hideAll s₂.heap (W.map (·.1))).get? b = none := fun b hb => by
    cases q : (hideAll s₂.heap (W.map (·.1))).get? b with
    | none => rfl
    | some o => exact absurd (Heap.lt_size (of_hideAll _ q)) (Nat.not_lt.mpr hb)
  have F₁ : Fr (hideAll s₂.heap (W.map (·.1))) H2.objs.size h₁ (fun _ => none) := ⟨hns₁, fun b o e => old b o (of_hideAll _ e), by rw [hideAll_size, hC]; exact Nat.le_succ _⟩
  have N₁ : News (hideAll s₂.heap (W.map (·.1))) H2.objs.size h₁ ((s₂.heap.objs.size, PySem.W.listOf #[] 0) :: W) := fun q hq => by
    rcases List.mem_cons.mp hq with rfl | hq
    · exact ⟨hacc, by show s₂.heap.objs.size ≠ H2.objs.size; rw [hC]; exact Nat.ne_of_lt (Nat.lt_succ_self _), gnone _ (Nat.le_refl _)⟩
    · exact ⟨old _ _ (NW q hq).1, by rw [hC]; exact Nat.ne_of_lt (Nat.lt_succ_of_lt (Heap.lt_size (NW q hq).1)), hideAll_none _ (List.mem_map_of_mem hq)⟩
  have hLlt : L < s₂.heap.objs.size := F.ns.lt
  have loop := go _ H2.objs.size s₂.heap.objs.size h₁ (s₂.toks + ([] : List (Str × Value)).length) mean mg mb F₁ N₁ big (fun b o e => Heap.lt_size e) (by rw [hC]; exact Nat.lt_succ_self _) (Cc.X.keeps st) (T.keeps st)
  have loop' : codeAny (model PySem.Challenge.rw_ik0004_01.row.prog w) A (.compLoop (.ListComp elt [⟨target, iter, ifs, 0⟩] scope pos) 0 (.ref I) (.ref s₂.heap.objs.size) (compEnvC scope cl H2.objs.size env))
      (compPost (model PySem.Challenge.rw_ik0004_01.row.prog w) A E none Q (.ref s₂.heap.objs.size) H2.objs.size) { s₂ with heap := h₁, toks := s₂.toks + ([] : List (Str × Value)).length } := by
    refine codeAny_mono loop fun r s' hb => ?_
    cases r with
    | error e => exact hb.elim
    | ok fl =>
      obtain ⟨m', vs, c, W', F', N', k⟩ := hb
      refine ⟨m', F'.ns, fun h' hs' => k h' ?_ fun q hq => ?_⟩
      · obtain ⟨oL, es, ep, hL, hLd, hLk, hLf⟩ := FG.ns
        refine ⟨⟨oL, es, ep, (hs'.2 L (by rw [hC]; exact Nat.ne_of_lt (Nat.lt_succ_of_lt hLlt))).trans (F'.keep _ _ hL), hLd, hLk, hLf⟩, fun b o e => (hs'.2 b (by
          have := Heap.lt_size (of_hideAll _ (st _ _ e)); rw [hC]; exact Nat.ne_of_lt (Nat.lt_succ_of_lt this))).trans (F'.keep _ _ (st _ _ e)), F.above⟩
      · have new : ∀ q, q ∈ (s₂.heap.objs.size, PySem.W.listOf vs c) :: W' → h'.get? q.1 = some q.2 ∧ q.1 ≠ L ∧ h₀.get? q.1 = none := fun q hq => by
          have z := N' q hq
          refine ⟨(hs'.2 _ z.2.1).trans z.1, fun e => ?_, ?_⟩
          · obtain ⟨oL, es, ep, hL, _⟩ := FG.ns
            rw [← e, z.2.2] at hL; cases hL
          · cases q2 : h₀.get? q.1 with
            | none => rfl
            | some o => have := st _ _ q2; rw [z.2.2] at this; cases this
        rcases List.mem_cons.mp hq with rfl | hq
        · exact new _ (.head _)
        · rcases List.mem_append.mp hq with hq | hq
          · exact new _ (.tail _ hq)
          · have z := N q (List.mem_append_right _ hq)
            refine ⟨(hs'.2 _ (by have := Heap.lt_size z.1; rw [hC]; exact Nat.ne_of_lt (Nat.lt_succ_of_lt this))).trans (F'.keep _ _ (big _ _ z.1 (hoff q hq))), z.2⟩
  exact codeAny_compStart_list loop' (self _ _ _ (fun q hq => (N₁ q (.tail _ hq)).1) loop')
theorem comp_assign {y : Str} {py spos : Pos} {Qf : Flow → Shared → Prop} (hsw : swapsWith (.ListComp elt [⟨target, iter, ifs, 0⟩] scope pos) (some (.Name y py)) spos.line env = pure true) (hlo : env.kindOf y = some .local) (hel : env.locals = L) (_F : Fr h₀ L s.heap m) (Cc : Cx w A env h₀ L) (hclos : closureFor scope env = pure cl) (hcell : ∀ y ∈ scope.names, y.2 ≠ .cell) (hkind : scope.kind = .function)
    (hnames : ∀ y ∈ scope.names, y.2 = .local → scope.names.lookup y.1 = some .local)
    (h : wpAny (model PySem.Challenge.rw_ik0004_01.row.prog w) A (eval iter env) (fun xv s₁ => wpAny (model PySem.Challenge.rw_ik0004_01.row.prog w) A (pyIter xv) (CompGo w A h₀ L m env elt target iter ifs scope cl pos (CompStore h₀ L m y Qf)) E s₁) E s)
    (hs : ∀ x, foldedSetIterable iter env x = pure x := by intro _; rfl) :
    wpAny (model PySem.Challenge.rw_ik0004_01.row.prog w) A (exec (.Assign [.Name y py] (.ListComp elt [⟨target, iter, ifs, 0⟩] scope pos) spos) env) Qf E s := by
  have hp : (env.scope.kind == .class || (env.scope.kind == .module && env.locals != env.globals)) = false := by rw [Cc.knd]; rfl
  rw [exec_Assign_Name_used _ _ _ _ hsw]
  refine wpAny_bind (wpAny_standAt (wpAny_bind ?_))
  show wpAny _ A (do let _ ← comprehension (.ListComp elt [⟨target, iter, ifs, 0⟩] scope pos) scope env _ (newList []) false (eval iter env) (some (assign (.Name y py) env))) _ _ s
  refine wpAny_bind (wpAny_mono (wpAny_comprehension_free (use := some (assign (.Name y py) env)) (Q := fun _ s' => Qf .next s') rfl hs hclos hkind hnames (wpAny_mono h (fun xv s₁ h₁ => wpAny_mono h₁ (fun itv s₂ h₂ => ?_) (fun _ _ x => x)) fun _ _ x => x)) (fun _ s' hq => wpAny_pure (wpAny_pure hq)) fun _ _ e => e)
  obtain ⟨I, W, rest, rfl, F, N, hoff, self, go⟩ := h₂
  obtain ⟨A₀, base, outer, B, hA, _⟩ := Cc.bel
  obtain ⟨mean, mg, mb, T⟩ := Cc.T
  have NW : News h₀ L s₂.heap W := fun q hq => N q (List.mem_append_left _ hq)
  obtain ⟨FG, BG, st, _⟩ := groundX (R := fun _ _ => True) B F NW hA Cc.fL Cc.knd
  have big : ∀ b o, s₂.heap.get? b = some o → b ∉ W.map (·.1) → (hideAll s₂.heap (W.map (·.1))).get? b = some o := fun b o e hb => hideAll_get _ e hb
  refine wpAny_newObj_type (wpAny_newFunctionEnv hcell (by intro y hy; simp at hy) (fun h₁ hns₁ hsb₁ => ?_) hkind)
  dsimp only at hns₁ hsb₁ ⊢
  generalize hH2 : s₂.heap.push { cls := .type "list", dict := none, data := .seq ([] : List Value).toArray } = H2 at hns₁ hsb₁ ⊢
  have hC : H2.objs.size = s₂.heap.objs.size + 1 := by rw [← hH2, Heap.size_push]
  have old : ∀ b o, s₂.heap.get? b = some o → h₁.get? b = some o := fun b o e => hsb₁.extBut b o (by have := Heap.lt_size e; rw [hC]; exact Nat.ne_of_lt (Nat.lt_succ_of_lt this)) (Heap.get?_push_of_some _ (hH2 ▸ Heap.get?_push_of_some _ e))
  have hacc : h₁.get? s₂.heap.objs.size = some (PySem.W.listOf #[] 0) := hsb₁.extBut _ _ (by rw [hC]; exact Nat.ne_of_lt (Nat.lt_succ_self _)) (Heap.get?_push_of_some _ (hH2 ▸ Heap.get?_push_size _ rfl))
  have gnone : ∀ b, s₂.heap.objs.size ≤ b → (hideAll s₂.heap (W.map (·.1))).get? b = none := fun b hb => by
    cases q : (hideAll s₂.heap (W.map (·.1))).get? b with
    | none => rfl
    | some o => exact absurd (Heap.lt_size (of_hideAll _ q)) (Nat.not_lt.mpr hb)
  have F₁ : Fr (hideAll s₂.heap (W.map (·.1))) H2.objs.size h₁ (fun _ => none) := ⟨hns₁, fun b o e => old b o (of_hideAll _ e), by rw [hideAll_size, hC]; exact Nat.le_succ _⟩
  have N₁ : News (hideAll s₂.heap (W.map (·.1))) H2.objs.size h₁ ((s₂.heap.objs.size, PySem.W.listOf #[] 0) :: W) := fun q hq => by
    rcases List.mem_cons.mp hq with rfl | hq
    · exact ⟨hacc, by show s₂.heap.objs.size ≠ H2.objs.size; rw [hC]; exact Nat.ne_of_lt (Nat.lt_succ_self _), gnone _ (Nat.le_refl _)⟩
    · exact ⟨old _ _ (NW q hq).1, by rw [hC]; exact Nat.ne_of_lt (Nat.lt_succ_of_lt (Heap.lt_size (NW q hq).1)), hideAll_none _ (List.mem_map_of_mem hq)⟩
  have hLlt : L < s₂.heap.objs.size := F.ns.lt
  have loop := go _ H2.objs.size s₂.heap.objs.size h₁ (s₂.toks + ([] : List (Str × Value)).length) mean mg mb F₁ N₁ big (fun b o e => Heap.lt_size e) (by rw [hC]; exact Nat.lt_succ_self _) (Cc.X.keeps st) (T.keeps st)
  have loop' : codeAny (model PySem.Challenge.rw_ik0004_01.row.prog w) A (.compLoop (.ListComp elt [⟨target, iter, ifs, 0⟩] scope pos) 0 (.ref I) (.ref s₂.heap.objs.size) (compEnvC scope cl H2.objs.size env))
      (compPost (model PySem.Challenge.rw_ik0004_01.row.prog w) A E (some (assign (.Name y py) env)) (fun _ s' => Qf .next s') (.ref s₂.heap.objs.size) H2.objs.size) { s₂ with heap := h₁, toks := s₂.toks + ([] : List (Str × Value)).length } := by
    refine codeAny_mono loop fun r s' hb => ?_
    cases r with
    | error e => exact hb.elim
    | ok fl =>
      obtain ⟨m', vs, c, W', F', N', k⟩ := hb
      have lC : ∀ b o, s₂.heap.get? b = some o → b ≠ H2.objs.size := fun b o e => by
        have := Heap.lt_size e
        rw [hC]; exact Nat.ne_of_lt (Nat.lt_succ_of_lt this)
      obtain ⟨oL, es, ep, hL, hLd, hLk, hLf⟩ := FG.ns
      have hLC : L ≠ H2.objs.size := by rw [hC]; exact Nat.ne_of_lt (Nat.lt_succ_of_lt hLlt)
      have F0 : Fr h₀ L s'.heap m := ⟨⟨oL, es, ep, F'.keep _ _ hL, hLd, hLk, hLf⟩, fun b o e => F'.keep _ _ (st _ _ e), F.above⟩
      have N0 : News h₀ L s'.heap ((s₂.heap.objs.size, PySem.W.listOf vs c) :: (W' ++ rest)) := fun q hq => by
        have new : ∀ q, q ∈ (s₂.heap.objs.size, PySem.W.listOf vs c) :: W' → s'.heap.get? q.1 = some q.2 ∧ q.1 ≠ L ∧ h₀.get? q.1 = none := fun q hq => by
          have z := N' q hq
          refine ⟨z.1, fun e => ?_, ?_⟩
          · rw [← e, z.2.2] at hL; cases hL
          · cases q2 : h₀.get? q.1 with
            | none => rfl
            | some o => have := st _ _ q2; rw [z.2.2] at this; cases this
        rcases List.mem_cons.mp hq with rfl | hq
        · exact new _ (.head _)
        · rcases List.mem_append.mp hq with hq | hq
          · exact new _ (.tail _ hq)
          · have z := N q (List.mem_append_right _ hq)
            exact ⟨F'.keep _ _ (big _ _ z.1 (hoff q hq)), z.2⟩
      have nC : ∀ q, q ∈ (s₂.heap.objs.size, PySem.W.listOf vs c) :: (W' ++ rest) → q.1 ≠ H2.objs.size := fun q hq => by
        rcases List.mem_cons.mp hq with rfl | hq
        · exact (N' _ (.head _)).2.1
        · rcases List.mem_append.mp hq with hq | hq
          · exact (N' _ (.tail _ hq)).2.1
          · exact lC _ _ (N q (List.mem_append_right _ hq)).1
      show wpAny _ A (assign (.Name y py) env (.ref s₂.heap.objs.size)) _ _ _
      refine wpAny_assign_Name (wpAny_storeName_local hlo (hel ▸ F0.ns) (fun h₂ hn₂ hs₂ => ?_) hp)
      rw [hel] at hn₂ hs₂
      have F2 := F0.set hn₂ hs₂
      have N2 := N0.set hs₂
      refine ⟨m', F'.ns.sameBut hs₂ (Ne.symm hLC), fun h₃ hs₃ => k h₃ _ ?_ fun q hq => ?_⟩
      · obtain ⟨o2, es2, ep2, hL2, hd2, hk2, hf2⟩ := F2.ns
        exact ⟨⟨o2, es2, ep2, (hs₃.2 L hLC).trans hL2, hd2, hk2, hf2⟩, fun b o e => (hs₃.2 b (lC _ _ (of_hideAll _ (st _ _ e)))).trans (F2.keep _ _ e), F.above⟩
      · have z := N2 q hq
        exact ⟨(hs₃.2 _ (nC q hq)).trans z.1, z.2⟩
  exact codeAny_compStart_list loop' (self _ _ _ (fun q hq => (N₁ q (.tail _ hq)).1) loop')
end
section
variable {w : World} {A : Around} {s : Shared} {g : Heap} {C D : Addr} {env : Env}
  {elt target iter : Expr} {ifs : List Expr} {scope : Scope} {pos : Pos}
section
variable (g : Heap) (C D : Addr) (s : Shared) (J : Nat → (Str → Option Value) → List Value → List (Addr × Obj) → Prop)
/-- the state of a comprehension -/
inductive CompInv (n : Nat) (s' : Shared) : Prop
  | mk (h : Heap) (tk : Nat) (m₁ : Str → Option Value) (vs : List Value) (nx : List (Addr × Obj)) (c : Nat) (es : s' = { s with heap := h, toks := tk }) (F : Fr g C h m₁) (N : News g C h ((D, PySem.W.listOf vs.toArray c) :: nx)) (ho : ∀ q ∈ nx, q.1 ≠ D) (hJ : J n m₁ vs nx)
/-- one turn of a comprehension done: y the new item, if any -/
inductive CompTurn (n : Nat) (vs : List Value) (c : Nat) (y : Option Value) (s' : Shared) : Prop
  | mk (h' : Heap) (tk' : Nat) (m' : Str → Option Value) (nx' : List (Addr × Obj)) (n' : Nat) (hn : n' < n) (es : s' = { s with heap := h', toks := tk' }) (F : Fr g C h' m') (N : News g C h' ((D, PySem.W.listOf vs.toArray c) :: nx')) (ho : ∀ q ∈ nx', q.1 ≠ D) (hJ : J n' m' (vs ++ y.toList) nx')
end
theorem comp_loop {it : Value} {R : Result → Shared → Prop} {mC : Str → Option Value} {nx₀ : List (Addr × Obj)} {vs₀ : List Value} {c₀ n₀ : Nat} (J : Nat → (Str → Option Value) → List Value → List (Addr × Obj) → Prop)
    (F : Fr g C s.heap mC) (N : News g C s.heap ((D, PySem.W.listOf vs₀.toArray c₀) :: nx₀)) (hoff : ∀ q ∈ nx₀, q.1 ≠ D) (hj : J n₀ mC vs₀ nx₀) (hlen : ∀ n m vs nx, J n m vs nx → vs.length < 2 ^ 19)
    (turn : ∀ n m₁ vs nx c h tk (Qt : Option Value → Shared → Prop), (∀ y h' tk' m' nx' n', n' < n → Fr g C h' m' → News g C h' ((D, PySem.W.listOf vs.toArray c) :: nx') → (∀ q ∈ nx', q.1 ≠ D) → J n' m' (vs ++ y.toList) nx' → Qt y { s with heap := h', toks := tk' }) → Fr g C h m₁ → News g C h ((D, PySem.W.listOf vs.toArray c) :: nx) → (∀ q ∈ nx, q.1 ≠ D) → J n m₁ vs nx →
      wpAny (model PySem.Challenge.rw_ik0004_01.row.prog w) A (pyNext it) (fun r s₁ => match r with
        | none => R (.ok .next) s₁
        | some v => wpAny (model PySem.Challenge.rw_ik0004_01.row.prog w) A (letOwnedTupleGo target it v) (fun _ s₂ => wpAny (model PySem.Challenge.rw_ik0004_01.row.prog w) A (assign target env v) (fun _ s₃ =>
          wpAny (model PySem.Challenge.rw_ik0004_01.row.prog w) A (forIn ifs true fun c r => if r = true then do let ok ← isTrue c env (eval c env); pure (ForInStep.yield ok) else pure (ForInStep.yield r)) (fun ok s₄ =>
            if ok = true then wpAny (model PySem.Challenge.rw_ik0004_01.row.prog w) A (eval elt env) (fun x s₅ => Qt (some x) s₅) NoE s₄
            else Qt none s₄) NoE s₃) NoE s₂) NoE s₁) NoE { s with heap := h, toks := tk }) :
    codeAny (model PySem.Challenge.rw_ik0004_01.row.prog w) A (.compLoop (.ListComp elt [⟨target, iter, ifs, 0⟩] scope pos) 0 it (.ref D) env) R s := by
  refine codeAny_loop rfl (CompInv g C D s J) (fun n s' hI => ?_) n₀ ⟨s.heap, s.toks, mC, vs₀, nx₀, c₀, rfl, F, N, hoff, hj⟩
  obtain ⟨h, tk, m₁, vs, nx, c, rfl, F₁, N₁, ho, hJ⟩ := hI
  show wpAny _ A ((compTurn (.ListComp elt [⟨target, iter, ifs, 0⟩] scope pos) 0 it (.ref D) env).onRaise (fun x => do noteFrame x env; theTreesLotGoes x)) _ _ _
  refine wpAny_noted ?_
  rw [compTurn_list]
  refine wpAny_bind (wpAny_standAt (wpAny_bind (wpAny_mono (turn n m₁ vs nx c h tk (CompTurn g C D s J n vs c) (fun _ h' tk' m' nx' n' a b c d e => ⟨h', tk', m', nx', n', a, rfl, b, c, d, e⟩) F₁ N₁ ho hJ) (fun r s₁ h₁ => ?_) fun _ _ h' => h'.elim)))
  cases r with
  | none => exact wpAny_pure h₁
  | some v =>
    refine wpAny_bind (wpAny_mono h₁ (fun _ s₂ h₂ => ?_) fun _ _ h' => h'.elim)
    refine wpAny_bind (wpAny_mono h₂ (fun _ s₃ h₃ => wpAny_bind (wpAny_mono h₃ (fun ok s₄ h₄ => ?_) fun _ _ h' => h'.elim)) fun _ _ h' => h'.elim)
    cases ok with
    | false =>
      obtain ⟨h', tk', m', nx', n', hn, rfl, F', N', ho', hJ'⟩ := h₄
      exact wpAny_pure ⟨rfl, n', hn, h', tk', m', _, nx', c, rfl, F', (List.append_nil vs).symm ▸ N', ho', hJ'⟩
    | true =>
      refine wpAny_bind (wpAny_bind (wpAny_mono h₄ (fun x s₅ h₅ => ?_) fun _ _ h' => h'.elim))
      obtain ⟨h', tk', m', nx', n', hn, rfl, F', N', ho', hJ'⟩ := h₅
      have hl := hlen _ _ _ _ hJ'
      refine wpAny_bind (app_v (v := x) F' N' ho' (by simp at hl; omega) fun h'' F'' N'' => ?_)
      exact wpAny_pure (wpAny_pure ⟨rfl, n', hn, h'', tk', m', _, nx', _, rfl, F'', N'', ho', hJ'⟩)
end

theorem at_P03d_CompEnv : True := by
  w_top off
  trivial
section
variable {M : Model} {A : Around} {E : Value → Shared → Prop} {s : Shared} {g : Heap} {C : Addr} {m : Str → Option Value} {nx : List (Addr × Obj)} {scope : Scope} {cl : List (Str × Addr)} {env : Env}
theorem cst {x : Str} {v : Value} {Q : Unit → Shared → Prop} (F : Fr g C s.heap m) (N : News g C s.heap nx)
    (h : ∀ h', Fr g C h' (fun z => if z = x then some v else m z) → News g C h' nx → Q () { s with heap := h', toks := s.toks + 1 })
    (hl : scope.names.lookup x = some .local := by rfl) (hk : scope.kind = .function := by rfl) :
    wpAny M A (storeName (compEnvC scope cl C env) x v) Q E s :=
  wpAny_storeName_local (lookup_relabel_local hl) F.ns (fun h' hn hs => h h' (F.set hn hs) (N.set hs)) (by simp [compEnvC, relabel, hk])
theorem cld {x : Str} {pos : Pos} {v : Value} {Q : Value → Shared → Prop} (F : Fr g C s.heap m) (hv : m x = some v) (h : Q v s)
    (hl : scope.names.lookup x = some .local := by rfl) (hk : scope.kind = .function := by rfl) (hd : (x == ("__debug__" : Str)) = false := by decide) :
    wpAny M A (eval (.Name x pos) (compEnvC scope cl C env)) Q E s :=
  wpAny_Name (wpAny_loadName_local (by simp [compEnvC, relabel, hk]) (lookup_relabel_local hl) F.ns hv h) hd
end
local macro_rules | `(tactic| walk_at "MG") => `(tactic| first
  | (with_reducible show (if _ then _ else _))
  | (with_reducible show Frag.In _ _ ∧ _)
  | ((with_reducible show wpAny _ _ _ _ _ _); (fail_if_success (with_reducible first | refine zz1 ?_ | refine zz2 ?_ | refine zz3 ?_ | refine zz4 ?_ | refine zz5 ?_ | refine zz6 ?_ | refine zz7 ?_ | refine zz8 ?_ | refine zz9 ?_ | refine zz10 ?_ | refine zz11 ?_ | refine zz12 ?_ | refine zz13 ?_ | refine zz14 ?_ | refine zz15 ?_ | refine zz16 ?_ | refine zz17 ?_ | refine zz18 ?_ | refine zz19 ?_ | refine zz20 ?_ | refine zz21 ?_ | refine zz22 ?_))))
local macro_rules | `(tactic| walk_at "M1") => `(tactic| (walk_at "MG"; walk1; all_goals (try dsimp only)))
local macro_rules | `(tactic| walk_at "MW") => `(tactic| (repeat' walk_at "M1"))
local macro_rules | `(tactic| walk_at "call builtin:len") => `(tactic| (k_here; (with_reducible show wpAny _ _ (call (Value.builtin "len") [Value.ref _]) _ _ _); (refine len_el (by assumption) (by k_mem) (by first | omega | (simp only [List.length_append, List.length_cons, List.length_nil, List.length_set]; omega)) ?_); intro _ _))
local macro_rules | `(tactic| walk_at "MWI") => `(tactic| (repeat' ((fail_if_success (with_reducible refine zz26 ?_)); walk_at "M1")))
local macro_rules | `(tactic| walk_at "MWA") => `(tactic| (repeat' ((fail_if_success (with_reducible first | refine zz23 ?_ | refine zz24 ?_)); walk_at "M1")))
local macro_rules | `(tactic| walk_at "MWS") => `(tactic| (repeat' ((fail_if_success (with_reducible first | refine zz23 ?_ | refine zz24 ?_)); walk_at "M1")))
local macro_rules | `(tactic| walk_at "MWN") => `(tactic| (repeat' ((fail_if_success (with_reducible refine zz25 ?_)); walk_at "M1")))
local macro_rules | `(tactic| walk_at "MEM") => `(tactic| first | exact List.Mem.head _ | assumption | (refine List.Mem.tail _ ?_; walk_at "MEM"))
local macro_rules | `(tactic| walk_at "NS") => `(tactic| ((repeat (refine sub_cons (by walk_at "MEM") ?_)); (repeat (first | exact sub_nil | exact sub_refl _ | refine sub_tail ?_))))

theorem at_P04_SD : True := by
  w_top off
  trivial

def sd {α : Type} (lt : α → α → Bool) (x : α) (start pos : Nat) (xs : List α) : List α :=
  if start < pos then
    match xs[(pos-1)/2]? with
    | some y => if lt x y then sd lt x start ((pos-1)/2) (xs.set pos y) else xs.set pos x
    | none => xs.set pos x
  else xs.set pos x
termination_by pos
decreasing_by exact par_lt (Nat.zero_lt_of_lt (by assumption))


section
variable {w : World} {A : Around} {s : Shared} {h₀ : Heap} {L : Addr} {m : Str → Option Value} {env : Env} {rest : List (Addr × Obj)} {Q E : Value → Shared → Prop}

inductive SdInv (g : Heap) (L' : Addr) (hp : Addr) (fl : Bool) (x : El) (start : Nat) (N₀ : Nat) (goal : List El) (n : Nat) (m₁ : Str → Option Value) (nx : List (Addr × Obj)) : Prop
  | mk (ys : List El) (k : Nat) (t1 t2 : Tok) (h1 : nx = [(hp, lst ys k)]) (h2 : m₁ (Str.ofString "heap") = some (.ref hp)) (h3 : m₁ (Str.ofString "startpos") = some (.int start t1)) (h4 : m₁ (Str.ofString "pos") = some (.int n t2)) (h5 : m₁ (Str.ofString "newitem") = some x.1)
    (h6 : ys.length = N₀) (h7 : n < N₀) (h8 : ∀ e ∈ ys, ElOk fl g e) (h9 : sd elt x start n ys = goal)

/-- what siftdown's loop leaves -/
inductive SdEnd (s : Shared) (g : Heap) (L' hp : Addr) (x : El) (N₀ : Nat) (goal : List El) (fl : Flow) (s' : Shared) : Prop
  | mk (h' : Heap) (tk' : Nat) (m' : Str → Option Value) (p : Nat) (ys : List El) (k : Nat) (t : Tok) (e1 : fl = .next) (e2 : s' = { s with heap := h', toks := tk' }) (h1 : Fr g L' h' m') (h2 : News g L' h' [(hp, lst ys k)])
    (h3 : m' (Str.ofString "heap") = some (.ref hp)) (h4 : m' (Str.ofString "pos") = some (.int (p : Nat) t)) (h5 : m' (Str.ofString "newitem") = some x.1) (h6 : p < ys.length) (h7 : ys.length = N₀) (h8 : ys.set p x = goal)

theorem siftdown_ok {fl : Bool} {hp : Addr} {xs : List El} {n : Nat} {start pos : Nat} {i j : Int} {t1 t2 : Tok} (hi : i = (start : Int)) (hj : j = (pos : Int)) (C : Cx w A env h₀ L) (R : Room 3 A) (F : Fr h₀ L s.heap m) (N : News h₀ L s.heap ((hp, lst xs n) :: rest))
    (hoff : ∀ q ∈ rest, q.1 ≠ hp) (hpos : pos < xs.length) (hlen : xs.length < 2 ^ 20) (hok : ∀ e ∈ xs, ElOk fl s.heap e)
    (hQ : ∀ h' tk' n', Fr h₀ L h' m → News h₀ L h' ((hp, lst (sd elt (xs.getD pos dEl) start pos xs) n') :: rest) → Q .none { s with heap := h', toks := tk' }) :
    wpAny (model PySem.Challenge.rw_ik0004_01.row.prog w) A (call (.ref 56) [.ref hp, .int i t1, .int j t2]) Q E s := by
  subst hi hj
  k_dflt (refine' callF (W := [(hp, lst xs n)]) (rest := rest) (args := ⟨[.ref hp, .int start t1, .int pos t2], []⟩) (binds := [(Str.ofString "heap", .ref hp), (Str.ofString "startpos", .int start t1), (Str.ofString "pos", .int pos t2)]) C R F N ?k6 ?k7 ?k9 ?kB ?kO ?kW ?_ ?c2 ?c3 ?c4 ?c5; (case k6 => k_is); (case k7 => k_is); (case k9 => exact BindsTo.of_eq rfl); (case kB => exact locs rfl);  (case c5 => decide); (case c2 => exact rfl); (case c3 => exact rfl); (case c4 => exact rfl))
  case kO => exact fun q hq => nmemc (hoff q hq) nmem0
  case kW => exact allc lstW alln
  intro g L' h₁ mean mg mb R' F' N' C' X' T' big tk lt
  refine gn fun Qo hqo => ?_
  have hokg : ∀ e ∈ xs, ElOk fl g e := fun e he => (hok e he).keeps tk
  clear F N C R hok big tk
  walk_at "MW"
  refine sub_el N' (.head _) rfl hpos (by omega) ?_ (by with_unfolding_all rfl)
  walk_at "MW"
  rename Fr _ _ _ _ => F1
  rename News _ _ _ _ => N1
  refine wpAny_mono (Q := SdEnd s g L' hp (xs.getD pos dEl) xs.length (sd elt (xs.getD pos dEl) start pos xs)) (E := NoE) ?_ ?_ (fun _ _ x => x)
  · refine gn fun Qp hq => ?_
    refine While_g (n₀ := pos) (fun n m₁ nx => SdInv g L' hp fl (xs.getD pos dEl) start xs.length (sd elt (xs.getD pos dEl) start pos xs) n m₁ nx) F1 N1 ⟨xs, n, _, _, rfl, rfl, rfl, rfl, rfl, rfl, hpos, hokg, rfl⟩ ?_ ?_
    · clear F1 N1
      rintro p m₁ nx h₁ tk₁ Qb hn hc hb F₁ N₁ ⟨ys, k, t, t', rfl, hm1, hm2, hm3, hm4, hl, hp', hy, hg⟩
      replace F₁ := Fr.sees [(Str.ofString "heap", Value.ref hp), (Str.ofString "startpos", .int start t), (Str.ofString "pos", .int p t'), (Str.ofString "newitem", (xs.getD pos dEl).1)] F₁ (seesc hm1 (seesc hm2 (seesc hm3 (seesc hm4 sees0))))
      walk_at "MW"
      rotate_left
      · refine hq _ _ ⟨h₁, tk₁, _, p, ys, k, _, rfl, rfl, F₁, N₁, rfl, rfl, rfl, by omega, hl, ?_⟩
        · rename ¬ _ => hlt
          rw [← hg, sd, if_neg (by omega)]
      · rename (_ : Int) < _ => hlt
        have hpp : (p - 1) / 2 < ys.length := by omega
        have hx : ElOk fl g (xs.getD pos dEl) := hokg _ (by simp [hpos])
        refine sub_el (by assumption) (.head _) (shr1 (by omega)) hpp (by rw [shr1 (by omega)]; omega) ?_ (by with_unfolding_all rfl)
        walk_at "MW"
        rename Fr _ _ _ _ => F2
        refine lt_el (fl := fl) (Room.un R' (by decide)) (hx.keeps fun b vs e => F2.keep _ _ e) ((hy _ (by simp [hpp])).keeps fun b vs e => F2.keep _ _ e) ?_
        walk_at "MW"
        · refine set_el (by assumption) (by assumption) (by simp) rfl (by omega) (by omega) ?_
          intro h2 F3 N3
          walk_at "MW"
          rename Fr _ _ _ _ => F4
          rename News _ _ _ _ => N4
          rename _ = true => hlt2
          refine hc _ _ _ _ ((p - 1) / 2) F4 N4 (by omega) ⟨_, k, _, _, rfl, rfl, rfl, congrArg (fun z => some (Value.int z _)) (shr1 (by omega)), rfl, by simp [hl], by omega, ?_, ?_⟩
          · intro e he
            rcases List.mem_or_eq_of_mem_set he with he | rfl
            · exact hy e he
            · exact hy _ (by simp [hpp])
          · rw [← hg]
            conv => rhs; rw [sd]
            have e1 : ys[(p - 1) / 2]? = some (ys.getD ((p - 1) / 2) dEl) := by simp [hpp]
            rw [if_pos (by omega), e1]
            simp only [hlt2, if_true]
        · rename Fr _ _ _ _ => F4
          rename News _ _ _ _ => N4
          rename _ = false => hlt2
          refine hb _ (hq _ _ ⟨_, _, _, p, ys, k, _, rfl, rfl, F4, N4, rfl, rfl, rfl, by omega, hl, ?_⟩)
          · rw [← hg]
            conv => rhs; rw [sd]
            have e1 : ys[(p - 1) / 2]? = some (ys.getD ((p - 1) / 2) dEl) := by simp [hpp]
            rw [if_pos (by omega), e1]
            simp only [hlt2, Bool.false_eq_true, if_false]
    · exact fun _ _ x => x.elim
  · rintro f s' ⟨h', tk', m', p, ys, k, t, rfl, rfl, F2, N2, hm1, hm2, hm3, hp', hl, hg⟩
    clear F1 N1
    replace F2 := Fr.sees [(Str.ofString "heap", Value.ref hp), (Str.ofString "pos", .int p t), (Str.ofString "newitem", (xs.getD pos dEl).1)] F2 (seesc hm1 (seesc hm2 (seesc hm3 sees0)))
    dsimp only
    walk_at "MW"
    refine set_el (by assumption) (by assumption) (by simp) rfl hp' (by omega) ?_
    intro h2 F3 N3
    walk_at "MW"
    rw [hg] at N3
    exact hqo _ _ (back F3 N3 fun Fb Nb => hQ _ _ _ Fb Nb)
end

theorem at_P05_SU : True := by
  w_top off
  trivial
def suL {α : Type} (lt : α → α → Bool) (d : α) (n pos : Nat) (xs : List α) : List α × Nat :=
  if 2 * pos + 1 < n then
    (if 2 * pos + 2 < n ∧ lt (xs.getD (2 * pos + 1) d) (xs.getD (2 * pos + 2) d) = false then suL lt d n (2 * pos + 2) (xs.set pos (xs.getD (2 * pos + 2) d))
     else suL lt d n (2 * pos + 1) (xs.set pos (xs.getD (2 * pos + 1) d)))
  else (xs, pos)
termination_by n - pos
decreasing_by all_goals (first | exact dec2 (by assumption) | exact dec1 (by assumption))

def su {α : Type} (lt : α → α → Bool) (d : α) (pos : Nat) (xs : List α) : List α :=
  sd lt (xs.getD pos d) pos (suL lt d xs.length pos xs).2 ((suL lt d xs.length pos xs).1.set (suL lt d xs.length pos xs).2 (xs.getD pos d))

section
variable {w : World} {A : Around} {s : Shared} {h₀ : Heap} {L : Addr} {m : Str → Option Value} {env : Env} {rest : List (Addr × Obj)} {Q E : Value → Shared → Prop}

inductive SuInv (g : Heap) (hp : Addr) (fl : Bool) (x : El) (start : Nat) (N₀ : Nat) (goal : List El × Nat) (n : Nat) (m₁ : Str → Option Value) (nx : List (Addr × Obj)) : Prop
  | mk (ys : List El) (k p : Nat) (t1 t2 t3 t4 : Tok) (h1 : nx = [(hp, lst ys k)]) (h2 : n = N₀ - p) (h3 : m₁ (Str.ofString "heap") = some (.ref hp)) (h4 : m₁ (Str.ofString "startpos") = some (.int start t1)) (h5 : m₁ (Str.ofString "pos") = some (.int p t2))
    (h6 : m₁ (Str.ofString "endpos") = some (.int N₀ t3)) (h7 : m₁ (Str.ofString "childpos") = some (.int (2 * p + 1 : Nat) t4)) (h8 : m₁ (Str.ofString "newitem") = some x.1)
    (h9 : ys.length = N₀) (h10 : p < N₀) (h11 : ∀ e ∈ ys, ElOk fl g e) (h12 : suL elt dEl N₀ p ys = goal)

/-- what siftup's loop leaves -/
inductive SuEnd (s : Shared) (g : Heap) (L' hp : Addr) (fg : Bool) (x : El) (start N₀ : Nat) (goal : List El × Nat) (fl : Flow) (s' : Shared) : Prop
  | mk (h' : Heap) (tk' : Nat) (m' : Str → Option Value) (p : Nat) (ys : List El) (k : Nat) (t1 t2 : Tok) (e1 : fl = .next) (e2 : s' = { s with heap := h', toks := tk' }) (h1 : Fr g L' h' m') (h2 : News g L' h' [(hp, lst ys k)])
    (h3 : m' (Str.ofString "heap") = some (.ref hp)) (h4 : m' (Str.ofString "startpos") = some (.int start t1)) (h5 : m' (Str.ofString "pos") = some (.int p t2)) (h6 : m' (Str.ofString "newitem") = some x.1)
    (h7 : p < ys.length) (h8 : ys.length = N₀) (h9 : ∀ e ∈ ys, ElOk fg g e) (h10 : (ys, p) = goal)

/-- what its choice of a child leaves -/
inductive SuMid (s : Shared) (g : Heap) (L' hp : Addr) (x : El) (start p N₀ k : Nat) (ys : List El) (goal : List El × Nat) (fl : Flow) (s' : Shared) : Prop
  | mk (h' : Heap) (tk' : Nat) (m' : Str → Option Value) (c : Nat) (t1 t2 t3 t4 : Tok) (e1 : fl = .next) (e2 : s' = { s with heap := h', toks := tk' }) (h1 : Fr g L' h' m') (h2 : News g L' h' [(hp, lst ys k)])
    (h3 : m' (Str.ofString "heap") = some (.ref hp)) (h4 : m' (Str.ofString "startpos") = some (.int start t1)) (h5 : m' (Str.ofString "pos") = some (.int p t2)) (h6 : m' (Str.ofString "endpos") = some (.int N₀ t3)) (h7 : m' (Str.ofString "childpos") = some (.int (c : Nat) t4)) (h8 : m' (Str.ofString "newitem") = some x.1)
    (h9 : p < c) (h10 : c < ys.length) (h11 : suL elt dEl N₀ c (ys.set p (ys.getD c dEl)) = goal)

theorem siftup_ok {fl : Bool} {hp : Addr} {xs : List El} {n : Nat} {pos : Nat} {j : Int} {t2 : Tok} (hj : j = (pos : Int)) (C : Cx w A env h₀ L) (R : Room 5 A) (F : Fr h₀ L s.heap m) (N : News h₀ L s.heap ((hp, lst xs n) :: rest))
    (hoff : ∀ q ∈ rest, q.1 ≠ hp) (hpos : pos < xs.length) (hlen : xs.length < 2 ^ 20) (hok : ∀ e ∈ xs, ElOk fl s.heap e)
    (hQ : ∀ h' tk' n', Fr h₀ L h' m → News h₀ L h' ((hp, lst (su elt dEl pos xs) n') :: rest) → Q .none { s with heap := h', toks := tk' }) :
    wpAny (model PySem.Challenge.rw_ik0004_01.row.prog w) A (call (.ref 63) [.ref hp, .int j t2]) Q E s := by
  subst hj
  k_dflt (refine' callF (W := [(hp, lst xs n)]) (rest := rest) (args := ⟨[.ref hp, .int pos t2], []⟩) (binds := [(Str.ofString "heap", .ref hp), (Str.ofString "pos", .int pos t2)]) C R F N ?k6 ?k7 ?k9 ?kB ?kO ?kW ?_ ?c2 ?c3 ?c4 ?c5; (case k6 => k_is); (case k7 => k_is); (case k9 => exact BindsTo.of_eq rfl); (case kB => exact locs rfl);  (case c5 => decide); (case c2 => exact rfl); (case c3 => exact rfl); (case c4 => exact rfl))
  case kO => exact fun q hq => nmemc (hoff q hq) nmem0
  case kW => exact allc lstW alln
  intro g L' h₁ mean mg mb R' F' N' C' X' T' big tk lt
  refine gn fun Qo hqo => ?_
  have hokg : ∀ e ∈ xs, ElOk fl g e := fun e he => (hok e he).keeps tk
  clear F N C R hok big tk
  walk_at "MW"
  refine sub_el (by assumption) (.head _) rfl hpos (by omega) ?_ (by with_unfolding_all rfl)
  walk_at "MW"
  rename Fr _ _ _ _ => F1
  rename News _ _ _ _ => N1
  refine wpAny_mono (Q := SuEnd s g L' hp fl (xs.getD pos dEl) pos xs.length (suL elt dEl xs.length pos xs)) (E := NoE) ?_ ?_ (fun _ _ x => x)
  · refine gn fun Qp hq => ?_
    refine While_g (n₀ := xs.length - pos) (fun n m₁ nx => SuInv g hp fl (xs.getD pos dEl) pos xs.length (suL elt dEl xs.length pos xs) n m₁ nx) F1 N1 ⟨xs, n, pos, _, _, _, _, rfl, rfl, rfl, rfl, rfl, rfl, rfl, rfl, rfl, hpos, hokg, rfl⟩ ?_ ?_
    · clear F1 N1
      rintro n' m₁ nx h₁ tk₁ Qb hn hc' hb' F₁ N₁ ⟨ys, k, p, t, t', t3, t4, rfl, rfl, hm1, hm2, hm3, hm4, hm5, hm6, hl, hp', hy, hg⟩
      replace F₁ := Fr.sees [(Str.ofString "heap", Value.ref hp), (Str.ofString "startpos", .int pos t), (Str.ofString "pos", .int p t'), (Str.ofString "endpos", .int xs.length t3), (Str.ofString "childpos", .int (2 * p + 1 : Nat) t4), (Str.ofString "newitem", (xs.getD pos dEl).1)] F₁ (seesc hm1 (seesc hm2 (seesc hm3 (seesc hm4 (seesc hm5 (seesc hm6 sees0))))))
      walk_at "MWI"
      rotate_left
      · rename ¬ _ => hlt
        refine hq _ _ ⟨h₁, tk₁, _, p, ys, k, _, _, rfl, rfl, F₁, N₁, rfl, rfl, rfl, rfl, by omega, hl, hy, ?_⟩
        rw [← hg, suL, if_neg (by omega)]
      rename (_ : Int) < _ => hlt
      rename Fr _ _ _ _ => F2
      rename News _ _ _ _ => N2
      refine wpAny_mono (Q := SuMid s g L' hp (xs.getD pos dEl) pos p xs.length k ys (suL elt dEl xs.length p ys)) (E := NoE) ?_ ?_ (fun _ _ x => x)
      · refine gn fun Qm hqm => ?_
        have e1 : ∀ (h : ¬ (2 * p + 2 < xs.length ∧ elt (ys.getD (2 * p + 1) dEl) (ys.getD (2 * p + 2) dEl) = false)), suL elt dEl xs.length (2 * p + 1) (ys.set p (ys.getD (2 * p + 1) dEl)) = suL elt dEl xs.length p ys := by
          intro h
          conv => rhs; rw [suL]
          rw [if_pos (by omega), if_neg h]
        have e2 : ∀ (h : 2 * p + 2 < xs.length ∧ elt (ys.getD (2 * p + 1) dEl) (ys.getD (2 * p + 2) dEl) = false), suL elt dEl xs.length (2 * p + 2) (ys.set p (ys.getD (2 * p + 2) dEl)) = suL elt dEl xs.length p ys := by
          intro h
          conv => rhs; rw [suL]
          rw [if_pos (by omega), if_pos h]
        walk_at "MW"
        · rename (_ : Int) < _ => hlt2
          refine sub_el (i := 2 * p + 1) (by assumption) (.head _) (by omega) (by omega) (by omega) ?_ (by with_unfolding_all rfl)
          walk_at "MW"
          refine sub_el (i := 2 * p + 2) (by assumption) (.head _) (by omega) (by omega) (by omega) ?_ (by with_unfolding_all rfl)
          walk_at "MW"
          refine lt_el (fl := fl) (Room.un R' (by decide)) ((hy (ys.getD (2 * p + 1) dEl) (by simp [show 2 * p + 1 < ys.length by omega])).keeps fun b vs e => F2.keep _ _ e) ((hy (ys.getD (2 * p + 2) dEl) (by simp [show 2 * p + 2 < ys.length by omega])).keeps fun b vs e => F2.keep _ _ e) ?_
          walk_at "MW"
          · rename _ = true => hb
            rename Fr _ _ _ _ => F3
            rename News _ _ _ _ => N3
            exact hqm _ _ ⟨_, _, _, 2 * p + 1, _, _, _, _, rfl, rfl, F3, N3, rfl, rfl, rfl, rfl, rfl, rfl, by omega, by omega, e1 (by rintro ⟨_, h⟩; rw [hb] at h; cases h)⟩
          · rename _ = false => hb
            rename Fr _ _ _ _ => F3
            rename News _ _ _ _ => N3
            exact hqm _ _ ⟨_, _, _, 2 * p + 2, _, _, _, _, rfl, rfl, F3, N3, rfl, rfl, rfl, rfl, congrArg (fun z => some (Value.int z _)) (by omega), rfl, by omega, by omega, e2 ⟨by omega, hb⟩⟩
        · rename ¬ _ => hlt2
          rename Fr _ _ _ _ => F3
          rename News _ _ _ _ => N3
          exact hqm _ _ ⟨_, _, _, 2 * p + 1, _, _, _, _, rfl, rfl, F3, N3, rfl, rfl, rfl, rfl, rfl, rfl, by omega, by omega, e1 (by rintro ⟨h, _⟩; omega)⟩
      · rintro f s' ⟨h', tk', m', c, t, t', t3, t4, rfl, rfl, F3, N3, hm1, hm2, hm3, hm4, hm5, hm6, hpc, hc, hsu⟩
        clear F2 N2
        replace F3 := Fr.sees [(Str.ofString "heap", Value.ref hp), (Str.ofString "startpos", .int pos t), (Str.ofString "pos", .int p t'), (Str.ofString "endpos", .int xs.length t3), (Str.ofString "childpos", .int (c : Nat) t4), (Str.ofString "newitem", (xs.getD pos dEl).1)] F3 (seesc hm1 (seesc hm2 (seesc hm3 (seesc hm4 (seesc hm5 (seesc hm6 sees0))))))
        dsimp only
        walk_at "MW"
        refine sub_el (by assumption) (.head _) rfl hc (by omega) ?_ (by with_unfolding_all rfl)
        walk_at "MW"
        refine set_el (by assumption) (by assumption) (by simp) rfl (by omega) (by omega) ?_
        intro h2 F4 N4
        walk_at "MW"
        rename Fr _ _ _ _ => F5
        rename News _ _ _ _ => N5
        refine hn _ _ _ _ (xs.length - c) F5 N5 (Nat.sub_lt_sub_left (by assumption) (by assumption)) ⟨_, k, c, _, _, _, _, rfl, rfl, rfl, rfl, rfl, rfl, congrArg (fun z => some (Value.int z _)) (by omega), rfl, by simp [hl], by omega, ?_, ?_⟩
        · intro e he
          rcases List.mem_or_eq_of_mem_set he with he | rfl
          · exact hy e he
          · exact hy _ (by simp [hc])
        · rw [hsu, hg]
    · exact fun _ _ x => x.elim
  · rintro f s' ⟨h', tk', m', p, ys, k, t, t', rfl, rfl, F2, N2, hm1, hm2, hm3, hm4, hp', hl, hy, hg⟩
    clear F1 N1
    replace F2 := Fr.sees [(Str.ofString "heap", Value.ref hp), (Str.ofString "startpos", .int pos t), (Str.ofString "pos", .int p t'), (Str.ofString "newitem", (xs.getD pos dEl).1)] F2 (seesc hm1 (seesc hm2 (seesc hm3 (seesc hm4 sees0))))
    dsimp only
    walk_at "MW"
    refine set_el (by assumption) (by assumption) (by simp) rfl hp' (by omega) ?_
    intro h2 F3 N3
    walk_at "MW"
    have hx : ElOk fl g (xs.getD pos dEl) := hokg _ (by simp [hpos])
    refine siftdown_ok (rest := []) (fl := fl) (xs := ys.set p (xs.getD pos dEl)) (start := pos) (pos := p) rfl rfl C' (R'.le (by decide)) F3 N3 (by simp) (by simpa using hp') (by simp; omega) ?_ ?_
    · intro e he
      rcases List.mem_or_eq_of_mem_set he with he | rfl
      · exact (hy e he).keeps fun b vs e => F3.keep _ _ e
      · exact hx.keeps fun b vs e => F3.keep _ _ e
    · intro h' tk' n' F4 N4
      dsimp only
      walk_at "MW"
      have e : sd elt ((ys.set p (xs.getD pos dEl)).getD p dEl) pos p (ys.set p (xs.getD pos dEl)) = su elt dEl pos xs := by
        unfold su
        rw [← hg]
        have : (ys.set p (xs.getD pos dEl)).getD p dEl = xs.getD pos dEl := by simp [hp']
        rw [this]
      rw [e] at N4
      exact hqo _ _ (back F4 N4 fun Fb Nb => hQ _ _ _ Fb Nb)
end

theorem at_P06_Max : True := by
  w_top off
  trivial
-- by gen_max.py out of P04_SD and P05_SU

section
variable {w : World} {A : Around} {s : Shared} {h₀ : Heap} {L : Addr} {m : Str → Option Value} {env : Env} {rest : List (Addr × Obj)} {Q E : Value → Shared → Prop}

inductive SdInvM (g : Heap) (L' : Addr) (hp : Addr) (fl : Bool) (x : El) (start : Nat) (N₀ : Nat) (goal : List El) (n : Nat) (m₁ : Str → Option Value) (nx : List (Addr × Obj)) : Prop
  | mk (ys : List El) (k : Nat) (t1 t2 : Tok) (h1 : nx = [(hp, lst ys k)]) (h2 : m₁ (Str.ofString "heap") = some (.ref hp)) (h3 : m₁ (Str.ofString "startpos") = some (.int start t1)) (h4 : m₁ (Str.ofString "pos") = some (.int n t2)) (h5 : m₁ (Str.ofString "newitem") = some x.1)
    (h6 : ys.length = N₀) (h7 : n < N₀) (h8 : ∀ e ∈ ys, ElOk fl g e) (h9 : sd egt x start n ys = goal)

theorem siftdown_max_ok {fl : Bool} {hp : Addr} {xs : List El} {n : Nat} {start pos : Nat} {i j : Int} {t1 t2 : Tok} (hi : i = (start : Int)) (hj : j = (pos : Int)) (C : Cx w A env h₀ L) (R : Room 3 A) (F : Fr h₀ L s.heap m) (N : News h₀ L s.heap ((hp, lst xs n) :: rest))
    (hoff : ∀ q ∈ rest, q.1 ≠ hp) (hpos : pos < xs.length) (hlen : xs.length < 2 ^ 20) (hok : ∀ e ∈ xs, ElOk fl s.heap e)
    (hQ : ∀ h' tk' n', Fr h₀ L h' m → News h₀ L h' ((hp, lst (sd egt (xs.getD pos dEl) start pos xs) n') :: rest) → Q .none { s with heap := h', toks := tk' }) :
    wpAny (model PySem.Challenge.rw_ik0004_01.row.prog w) A (call (.ref 70) [.ref hp, .int i t1, .int j t2]) Q E s := by
  subst hi hj
  k_dflt (refine' callF (W := [(hp, lst xs n)]) (rest := rest) (args := ⟨[.ref hp, .int start t1, .int pos t2], []⟩) (binds := [(Str.ofString "heap", .ref hp), (Str.ofString "startpos", .int start t1), (Str.ofString "pos", .int pos t2)]) C R F N ?k6 ?k7 ?k9 ?kB ?kO ?kW ?_ ?c2 ?c3 ?c4 ?c5; (case k6 => k_is); (case k7 => k_is); (case k9 => exact BindsTo.of_eq rfl); (case kB => exact locs rfl);  (case c5 => decide); (case c2 => exact rfl); (case c3 => exact rfl); (case c4 => exact rfl))
  case kO => exact fun q hq => nmemc (hoff q hq) nmem0
  case kW => exact allc lstW alln
  intro g L' h₁ mean mg mb R' F' N' C' X' T' big tk lt
  refine gn fun Qo hqo => ?_
  have hokg : ∀ e ∈ xs, ElOk fl g e := fun e he => (hok e he).keeps tk
  clear F N C R hok big tk
  walk_at "MW"
  refine sub_el N' (.head _) rfl hpos (by omega) ?_ (by with_unfolding_all rfl)
  walk_at "MW"
  rename Fr _ _ _ _ => F1
  rename News _ _ _ _ => N1
  refine wpAny_mono (Q := SdEnd s g L' hp (xs.getD pos dEl) xs.length (sd egt (xs.getD pos dEl) start pos xs)) (E := NoE) ?_ ?_ (fun _ _ x => x)
  · refine gn fun Qp hq => ?_
    refine While_g (n₀ := pos) (fun n m₁ nx => SdInvM g L' hp fl (xs.getD pos dEl) start xs.length (sd egt (xs.getD pos dEl) start pos xs) n m₁ nx) F1 N1 ⟨xs, n, _, _, rfl, rfl, rfl, rfl, rfl, rfl, hpos, hokg, rfl⟩ ?_ ?_
    · clear F1 N1
      rintro p m₁ nx h₁ tk₁ Qb hn hc hb F₁ N₁ ⟨ys, k, t, t', rfl, hm1, hm2, hm3, hm4, hl, hp', hy, hg⟩
      replace F₁ := Fr.sees [(Str.ofString "heap", Value.ref hp), (Str.ofString "startpos", .int start t), (Str.ofString "pos", .int p t'), (Str.ofString "newitem", (xs.getD pos dEl).1)] F₁ (seesc hm1 (seesc hm2 (seesc hm3 (seesc hm4 sees0))))
      walk_at "MW"
      rotate_left
      · refine hq _ _ ⟨h₁, tk₁, _, p, ys, k, _, rfl, rfl, F₁, N₁, rfl, rfl, rfl, by omega, hl, ?_⟩
        · rename ¬ _ => hlt
          rw [← hg, sd, if_neg (by omega)]
      · rename (_ : Int) < _ => hlt
        have hpp : (p - 1) / 2 < ys.length := by omega
        have hx : ElOk fl g (xs.getD pos dEl) := hokg _ (by simp [hpos])
        refine sub_el (by assumption) (.head _) (shr1 (by omega)) hpp (by rw [shr1 (by omega)]; omega) ?_ (by with_unfolding_all rfl)
        walk_at "MW"
        rename Fr _ _ _ _ => F2
        refine gt_el (fl := fl) (Room.un R' (by decide)) ((hy _ (by simp [hpp])).keeps fun b vs e => F2.keep _ _ e) (hx.keeps fun b vs e => F2.keep _ _ e) ?_
        walk_at "MW"
        · refine set_el (by assumption) (by assumption) (by simp) rfl (by omega) (by omega) ?_
          intro h2 F3 N3
          walk_at "MW"
          rename Fr _ _ _ _ => F4
          rename News _ _ _ _ => N4
          rename _ = true => hlt2
          refine hc _ _ _ _ ((p - 1) / 2) F4 N4 (by omega) ⟨_, k, _, _, rfl, rfl, rfl, congrArg (fun z => some (Value.int z _)) (shr1 (by omega)), rfl, by simp [hl], by omega, ?_, ?_⟩
          · intro e he
            rcases List.mem_or_eq_of_mem_set he with he | rfl
            · exact hy e he
            · exact hy _ (by simp [hpp])
          · rw [← hg]
            conv => rhs; rw [sd]
            have e1 : ys[(p - 1) / 2]? = some (ys.getD ((p - 1) / 2) dEl) := by simp [hpp]
            rw [if_pos (by omega), e1]
            simp only [hlt2, if_true]
        · rename Fr _ _ _ _ => F4
          rename News _ _ _ _ => N4
          rename _ = false => hlt2
          refine hb _ (hq _ _ ⟨_, _, _, p, ys, k, _, rfl, rfl, F4, N4, rfl, rfl, rfl, by omega, hl, ?_⟩)
          · rw [← hg]
            conv => rhs; rw [sd]
            have e1 : ys[(p - 1) / 2]? = some (ys.getD ((p - 1) / 2) dEl) := by simp [hpp]
            rw [if_pos (by omega), e1]
            simp only [hlt2, Bool.false_eq_true, if_false]
    · exact fun _ _ x => x.elim
  · rintro f s' ⟨h', tk', m', p, ys, k, t, rfl, rfl, F2, N2, hm1, hm2, hm3, hp', hl, hg⟩
    clear F1 N1
    replace F2 := Fr.sees [(Str.ofString "heap", Value.ref hp), (Str.ofString "pos", .int p t), (Str.ofString "newitem", (xs.getD pos dEl).1)] F2 (seesc hm1 (seesc hm2 (seesc hm3 sees0)))
    dsimp only
    walk_at "MW"
    refine set_el (by assumption) (by assumption) (by simp) rfl hp' (by omega) ?_
    intro h2 F3 N3
    walk_at "MW"
    rw [hg] at N3
    exact hqo _ _ (back F3 N3 fun Fb Nb => hQ _ _ _ Fb Nb)
end

section
variable {w : World} {A : Around} {s : Shared} {h₀ : Heap} {L : Addr} {m : Str → Option Value} {env : Env} {rest : List (Addr × Obj)} {Q E : Value → Shared → Prop}

inductive SuInvM (g : Heap) (hp : Addr) (fl : Bool) (x : El) (start : Nat) (N₀ : Nat) (goal : List El × Nat) (n : Nat) (m₁ : Str → Option Value) (nx : List (Addr × Obj)) : Prop
  | mk (ys : List El) (k p : Nat) (t1 t2 t3 t4 : Tok) (h1 : nx = [(hp, lst ys k)]) (h2 : n = N₀ - p) (h3 : m₁ (Str.ofString "heap") = some (.ref hp)) (h4 : m₁ (Str.ofString "startpos") = some (.int start t1)) (h5 : m₁ (Str.ofString "pos") = some (.int p t2))
    (h6 : m₁ (Str.ofString "endpos") = some (.int N₀ t3)) (h7 : m₁ (Str.ofString "childpos") = some (.int (2 * p + 1 : Nat) t4)) (h8 : m₁ (Str.ofString "newitem") = some x.1)
    (h9 : ys.length = N₀) (h10 : p < N₀) (h11 : ∀ e ∈ ys, ElOk fl g e) (h12 : suL egt dEl N₀ p ys = goal)

/-- what its choice of a child leaves -/
inductive SuMidM (s : Shared) (g : Heap) (L' hp : Addr) (x : El) (start p N₀ k : Nat) (ys : List El) (goal : List El × Nat) (fl : Flow) (s' : Shared) : Prop
  | mk (h' : Heap) (tk' : Nat) (m' : Str → Option Value) (c : Nat) (t1 t2 t3 t4 : Tok) (e1 : fl = .next) (e2 : s' = { s with heap := h', toks := tk' }) (h1 : Fr g L' h' m') (h2 : News g L' h' [(hp, lst ys k)])
    (h3 : m' (Str.ofString "heap") = some (.ref hp)) (h4 : m' (Str.ofString "startpos") = some (.int start t1)) (h5 : m' (Str.ofString "pos") = some (.int p t2)) (h6 : m' (Str.ofString "endpos") = some (.int N₀ t3)) (h7 : m' (Str.ofString "childpos") = some (.int (c : Nat) t4)) (h8 : m' (Str.ofString "newitem") = some x.1)
    (h9 : p < c) (h10 : c < ys.length) (h11 : suL egt dEl N₀ c (ys.set p (ys.getD c dEl)) = goal)

theorem siftup_max_ok {fl : Bool} {hp : Addr} {xs : List El} {n : Nat} {pos : Nat} {j : Int} {t2 : Tok} (hj : j = (pos : Int)) (C : Cx w A env h₀ L) (R : Room 5 A) (F : Fr h₀ L s.heap m) (N : News h₀ L s.heap ((hp, lst xs n) :: rest))
    (hoff : ∀ q ∈ rest, q.1 ≠ hp) (hpos : pos < xs.length) (hlen : xs.length < 2 ^ 20) (hok : ∀ e ∈ xs, ElOk fl s.heap e)
    (hQ : ∀ h' tk' n', Fr h₀ L h' m → News h₀ L h' ((hp, lst (su egt dEl pos xs) n') :: rest) → Q .none { s with heap := h', toks := tk' }) :
    wpAny (model PySem.Challenge.rw_ik0004_01.row.prog w) A (call (.ref 77) [.ref hp, .int j t2]) Q E s := by
  subst hj
  k_dflt (refine' callF (W := [(hp, lst xs n)]) (rest := rest) (args := ⟨[.ref hp, .int pos t2], []⟩) (binds := [(Str.ofString "heap", .ref hp), (Str.ofString "pos", .int pos t2)]) C R F N ?k6 ?k7 ?k9 ?kB ?kO ?kW ?_ ?c2 ?c3 ?c4 ?c5; (case k6 => k_is); (case k7 => k_is); (case k9 => exact BindsTo.of_eq rfl); (case kB => exact locs rfl);  (case c5 => decide); (case c2 => exact rfl); (case c3 => exact rfl); (case c4 => exact rfl))
  case kO => exact fun q hq => nmemc (hoff q hq) nmem0
  case kW => exact allc lstW alln
  intro g L' h₁ mean mg mb R' F' N' C' X' T' big tk lt
  refine gn fun Qo hqo => ?_
  have hokg : ∀ e ∈ xs, ElOk fl g e := fun e he => (hok e he).keeps tk
  clear F N C R hok big tk
  walk_at "MW"
  refine sub_el (by assumption) (.head _) rfl hpos (by omega) ?_ (by with_unfolding_all rfl)
  walk_at "MW"
  rename Fr _ _ _ _ => F1
  rename News _ _ _ _ => N1
  refine wpAny_mono (Q := SuEnd s g L' hp fl (xs.getD pos dEl) pos xs.length (suL egt dEl xs.length pos xs)) (E := NoE) ?_ ?_ (fun _ _ x => x)
  · refine gn fun Qp hq => ?_
    refine While_g (n₀ := xs.length - pos) (fun n m₁ nx => SuInvM g hp fl (xs.getD pos dEl) pos xs.length (suL egt dEl xs.length pos xs) n m₁ nx) F1 N1 ⟨xs, n, pos, _, _, _, _, rfl, rfl, rfl, rfl, rfl, rfl, rfl, rfl, rfl, hpos, hokg, rfl⟩ ?_ ?_
    · clear F1 N1
      rintro n' m₁ nx h₁ tk₁ Qb hn hc' hb' F₁ N₁ ⟨ys, k, p, t, t', t3, t4, rfl, rfl, hm1, hm2, hm3, hm4, hm5, hm6, hl, hp', hy, hg⟩
      replace F₁ := Fr.sees [(Str.ofString "heap", Value.ref hp), (Str.ofString "startpos", .int pos t), (Str.ofString "pos", .int p t'), (Str.ofString "endpos", .int xs.length t3), (Str.ofString "childpos", .int (2 * p + 1 : Nat) t4), (Str.ofString "newitem", (xs.getD pos dEl).1)] F₁ (seesc hm1 (seesc hm2 (seesc hm3 (seesc hm4 (seesc hm5 (seesc hm6 sees0))))))
      walk_at "MWI"
      rotate_left
      · rename ¬ _ => hlt
        refine hq _ _ ⟨h₁, tk₁, _, p, ys, k, _, _, rfl, rfl, F₁, N₁, rfl, rfl, rfl, rfl, by omega, hl, hy, ?_⟩
        rw [← hg, suL, if_neg (by omega)]
      rename (_ : Int) < _ => hlt
      rename Fr _ _ _ _ => F2
      rename News _ _ _ _ => N2
      refine wpAny_mono (Q := SuMidM s g L' hp (xs.getD pos dEl) pos p xs.length k ys (suL egt dEl xs.length p ys)) (E := NoE) ?_ ?_ (fun _ _ x => x)
      · refine gn fun Qm hqm => ?_
        have e1 : ∀ (h : ¬ (2 * p + 2 < xs.length ∧ egt (ys.getD (2 * p + 1) dEl) (ys.getD (2 * p + 2) dEl) = false)), suL egt dEl xs.length (2 * p + 1) (ys.set p (ys.getD (2 * p + 1) dEl)) = suL egt dEl xs.length p ys := by
          intro h
          conv => rhs; rw [suL]
          rw [if_pos (by omega), if_neg h]
        have e2 : ∀ (h : 2 * p + 2 < xs.length ∧ egt (ys.getD (2 * p + 1) dEl) (ys.getD (2 * p + 2) dEl) = false), suL egt dEl xs.length (2 * p + 2) (ys.set p (ys.getD (2 * p + 2) dEl)) = suL egt dEl xs.length p ys := by
          intro h
          conv => rhs; rw [suL]
          rw [if_pos (by omega), if_pos h]
        walk_at "MW"
        · rename (_ : Int) < _ => hlt2
          refine sub_el (i := 2 * p + 2) (by assumption) (.head _) (by omega) (by omega) (by omega) ?_ (by with_unfolding_all rfl)
          walk_at "MW"
          refine sub_el (i := 2 * p + 1) (by assumption) (.head _) (by omega) (by omega) (by omega) ?_ (by with_unfolding_all rfl)
          walk_at "MW"
          refine gt_el (fl := fl) (Room.un R' (by decide)) ((hy (ys.getD (2 * p + 2) dEl) (by simp [show 2 * p + 2 < ys.length by omega])).keeps fun b vs e => F2.keep _ _ e) ((hy (ys.getD (2 * p + 1) dEl) (by simp [show 2 * p + 1 < ys.length by omega])).keeps fun b vs e => F2.keep _ _ e) ?_
          walk_at "MW"
          · rename _ = true => hb
            rename Fr _ _ _ _ => F3
            rename News _ _ _ _ => N3
            exact hqm _ _ ⟨_, _, _, 2 * p + 1, _, _, _, _, rfl, rfl, F3, N3, rfl, rfl, rfl, rfl, rfl, rfl, by omega, by omega, e1 (by rintro ⟨_, h⟩; rw [hb] at h; cases h)⟩
          · rename _ = false => hb
            rename Fr _ _ _ _ => F3
            rename News _ _ _ _ => N3
            exact hqm _ _ ⟨_, _, _, 2 * p + 2, _, _, _, _, rfl, rfl, F3, N3, rfl, rfl, rfl, rfl, congrArg (fun z => some (Value.int z _)) (by omega), rfl, by omega, by omega, e2 ⟨by omega, hb⟩⟩
        · rename ¬ _ => hlt2
          rename Fr _ _ _ _ => F3
          rename News _ _ _ _ => N3
          exact hqm _ _ ⟨_, _, _, 2 * p + 1, _, _, _, _, rfl, rfl, F3, N3, rfl, rfl, rfl, rfl, rfl, rfl, by omega, by omega, e1 (by rintro ⟨h, _⟩; omega)⟩
      · rintro f s' ⟨h', tk', m', c, t, t', t3, t4, rfl, rfl, F3, N3, hm1, hm2, hm3, hm4, hm5, hm6, hpc, hc, hsu⟩
        clear F2 N2
        replace F3 := Fr.sees [(Str.ofString "heap", Value.ref hp), (Str.ofString "startpos", .int pos t), (Str.ofString "pos", .int p t'), (Str.ofString "endpos", .int xs.length t3), (Str.ofString "childpos", .int (c : Nat) t4), (Str.ofString "newitem", (xs.getD pos dEl).1)] F3 (seesc hm1 (seesc hm2 (seesc hm3 (seesc hm4 (seesc hm5 (seesc hm6 sees0))))))
        dsimp only
        walk_at "MW"
        refine sub_el (by assumption) (.head _) rfl hc (by omega) ?_ (by with_unfolding_all rfl)
        walk_at "MW"
        refine set_el (by assumption) (by assumption) (by simp) rfl (by omega) (by omega) ?_
        intro h2 F4 N4
        walk_at "MW"
        rename Fr _ _ _ _ => F5
        rename News _ _ _ _ => N5
        refine hn _ _ _ _ (xs.length - c) F5 N5 (Nat.sub_lt_sub_left (by assumption) (by assumption)) ⟨_, k, c, _, _, _, _, rfl, rfl, rfl, rfl, rfl, rfl, congrArg (fun z => some (Value.int z _)) (by omega), rfl, by simp [hl], by omega, ?_, ?_⟩
        · intro e he
          rcases List.mem_or_eq_of_mem_set he with he | rfl
          · exact hy e he
          · exact hy _ (by simp [hc])
        · rw [hsu, hg]
    · exact fun _ _ x => x.elim
  · rintro f s' ⟨h', tk', m', p, ys, k, t, t', rfl, rfl, F2, N2, hm1, hm2, hm3, hm4, hp', hl, hy, hg⟩
    clear F1 N1
    replace F2 := Fr.sees [(Str.ofString "heap", Value.ref hp), (Str.ofString "startpos", .int pos t), (Str.ofString "pos", .int p t'), (Str.ofString "newitem", (xs.getD pos dEl).1)] F2 (seesc hm1 (seesc hm2 (seesc hm3 (seesc hm4 sees0))))
    dsimp only
    walk_at "MW"
    refine set_el (by assumption) (by assumption) (by simp) rfl hp' (by omega) ?_
    intro h2 F3 N3
    walk_at "MW"
    have hx : ElOk fl g (xs.getD pos dEl) := hokg _ (by simp [hpos])
    refine siftdown_max_ok (rest := []) (fl := fl) (xs := ys.set p (xs.getD pos dEl)) (start := pos) (pos := p) rfl rfl C' (R'.le (by decide)) F3 N3 (by simp) (by simpa using hp') (by simp; omega) ?_ ?_
    · intro e he
      rcases List.mem_or_eq_of_mem_set he with he | rfl
      · exact (hy e he).keeps fun b vs e => F3.keep _ _ e
      · exact hx.keeps fun b vs e => F3.keep _ _ e
    · intro h' tk' n' F4 N4
      dsimp only
      walk_at "MW"
      have e : sd egt ((ys.set p (xs.getD pos dEl)).getD p dEl) pos p (ys.set p (xs.getD pos dEl)) = su egt dEl pos xs := by
        unfold su
        rw [← hg]
        have : (ys.set p (xs.getD pos dEl)).getD p dEl = xs.getD pos dEl := by simp [hp']
        rw [this]
      rw [e] at N4
      exact hqo _ _ (back F4 N4 fun Fb Nb => hQ _ _ _ Fb Nb)
end

theorem at_P07_Heap : True := by
  w_top off
  trivial
def hpush {α : Type} (lt : α → α → Bool) (e : α) (xs : List α) : List α := sd lt e 0 xs.length (xs ++ [e])
def hpop {α : Type} (lt : α → α → Bool) (d : α) (xs : List α) : List α := if xs.dropLast = [] then [] else su lt d 0 (xs.dropLast.set 0 (xs.getLastD d))

section
variable {w : World} {A : Around} {s : Shared} {h₀ : Heap} {L : Addr} {m : Str → Option Value} {env : Env} {rest : List (Addr × Obj)} {Q E : Value → Shared → Prop}

theorem heappush_ok {fl : Bool} {hp : Addr} {xs : List El} {n : Nat} {e : El} (C : Cx w A env h₀ L) (R : Room 5 A) (F : Fr h₀ L s.heap m) (N : News h₀ L s.heap ((hp, lst xs n) :: rest))
    (hoff : ∀ q ∈ rest, q.1 ≠ hp) (hlen : xs.length + 1 < 2 ^ 20) (hok : ∀ e ∈ xs, ElOk fl s.heap e) (he : ElOk fl s.heap e)
    (hQ : ∀ h' tk' n', Fr h₀ L h' m → News h₀ L h' ((hp, lst (hpush elt e xs) n') :: rest) → Q .none { s with heap := h', toks := tk' }) :
    wpAny (model PySem.Challenge.rw_ik0004_01.row.prog w) A (call (.ref 21) [.ref hp, e.1]) Q E s := by
  k_dflt (refine' callF (W := [(hp, lst xs n)]) (rest := rest) (args := ⟨[.ref hp, e.1], []⟩) (binds := [(Str.ofString "heap", .ref hp), (Str.ofString "item", e.1)]) C R F N ?k6 ?k7 ?k9 ?kB ?kO ?kW ?_ ?c2 ?c3 ?c4 ?c5; (case k6 => k_is); (case k7 => k_is); (case k9 => exact BindsTo.of_eq rfl); (case kB => exact locs rfl);  (case c5 => decide); (case c2 => exact rfl); (case c3 => exact rfl); (case c4 => exact rfl))
  case kO => exact fun q hq => nmemc (hoff q hq) nmem0
  case kW => exact allc lstW alln
  intro g L' h₁ mean mg mb R' F' N' C' X' T' big tk lt
  refine gn fun Qo hqo => ?_
  have hokg : ∀ e ∈ xs, ElOk fl g e := fun e he => (hok e he).keeps tk
  have heg : ElOk fl g e := he.keeps tk
  clear F N C R hok big tk he
  walk_at "MW"
  refine app_el (by assumption) N' (by simp) (by omega) ?_
  intro h2 F2 N2
  walk_at "MW"
  refine siftdown_ok (rest := []) (fl := fl) (xs := xs ++ [e]) (start := 0) (pos := xs.length) (by rfl) (by rw [List.length_append, List.length_singleton]; omega) C' (R'.le (by decide)) F2 N2 (by simp) (by simp) (by simp; omega) ?_ ?_
  · intro y hy
    rcases List.mem_append.mp hy with hy | hy
    · exact (hokg y hy).keeps fun b vs e => F2.keep _ _ e
    · rw [List.mem_singleton.mp hy]; exact heg.keeps fun b vs e => F2.keep _ _ e
  · intro h' tk' n' F4 N4
    dsimp only
    walk_at "MW"
    have e1 : (xs ++ [e]).getD xs.length dEl = e := by simp
    rw [e1] at N4
    exact hqo _ _ (back F4 N4 fun Fb Nb => hQ _ _ _ Fb Nb)

theorem heappop_ok {fl : Bool} {hp : Addr} {xs : List El} {n : Nat} (C : Cx w A env h₀ L) (R : Room 6 A) (F : Fr h₀ L s.heap m) (N : News h₀ L s.heap ((hp, lst xs n) :: rest))
    (hoff : ∀ q ∈ rest, q.1 ≠ hp) (hlen : xs.length < 2 ^ 20) (hne : xs ≠ []) (hok : ∀ e ∈ xs, ElOk fl s.heap e)
    (hQ : ∀ h' tk' n', Fr h₀ L h' m → News h₀ L h' ((hp, lst (hpop elt dEl xs) n') :: rest) → Q (xs.getD 0 dEl).1 { s with heap := h', toks := tk' }) :
    wpAny (model PySem.Challenge.rw_ik0004_01.row.prog w) A (call (.ref 28) [.ref hp]) Q E s := by
  k_dflt (refine' callF (W := [(hp, lst xs n)]) (rest := rest) (args := ⟨[.ref hp], []⟩) (binds := [(Str.ofString "heap", .ref hp)]) C R F N ?k6 ?k7 ?k9 ?kB ?kO ?kW ?_ ?c2 ?c3 ?c4 ?c5; (case k6 => k_is); (case k7 => k_is); (case k9 => exact BindsTo.of_eq rfl); (case kB => exact locs rfl);  (case c5 => decide); (case c2 => exact rfl); (case c3 => exact rfl); (case c4 => exact rfl))
  case kO => exact fun q hq => nmemc (hoff q hq) nmem0
  case kW => exact allc lstW alln
  intro g L' h₁ mean mg mb R' F' N' C' X' T' big tk lt
  refine gn fun Qo hqo => ?_
  have hokg : ∀ e ∈ xs, ElOk fl g e := fun e he => (hok e he).keeps tk
  clear F N C R hok big tk
  obtain ⟨ys, z, rfl⟩ : ∃ ys z, xs = ys ++ [z] := ⟨xs.dropLast, xs.getLast hne, (List.dropLast_concat_getLast hne).symm⟩
  have hlen' : ys.length + 1 < 2 ^ 20 := by simpa using hlen
  walk_at "MW"
  refine pop_el (by assumption) N' (by simp) (by omega) ?_
  intro h2 F2 N2
  walk_at "MW"
  refine truthy_el (by assumption) (.head _) (by omega) fun _ => ?_
  walk_at "MW"
  · rename Fr _ _ _ _ => F3
    rename News _ _ _ _ => N3
    rename _ = true => hz
    have hz' : ys = [] := by simpa using hz
    subst hz'
    exact hqo _ _ (back F3 N3 fun Fb Nb => hQ _ _ _ Fb Nb)
  · rename _ = false => hz
    have hpos : 0 < ys.length := by
      rcases ys with _ | ⟨a, ys⟩
      · simp at hz
      · simp
    refine sub_el (i := 0) (by assumption) (.head _) rfl hpos (by omega) ?_ (by with_unfolding_all rfl)
    walk_at "MW"
    refine set_el (i := 0) (by assumption) (by assumption) (by simp) rfl hpos (by omega) ?_
    intro h3 F3 N3
    walk_at "MW"
    refine siftup_ok (rest := []) (fl := fl) (xs := ys.set 0 z) (pos := 0) (by rfl) C' (R'.le (by decide)) F3 N3 (by simp) (by simpa using hpos) (by simp; omega) ?_ ?_
    · intro y hy
      rcases List.mem_or_eq_of_mem_set hy with hy | rfl
      · exact (hokg y (List.mem_append_left _ hy)).keeps fun b vs e => F3.keep _ _ e
      · exact (hokg y (List.mem_append_right _ (.head _))).keeps fun b vs e => F3.keep _ _ e
    · intro h' tk' n' F4 N4
      dsimp only
      walk_at "MW"
      have e1 : (ys ++ [z]).getD 0 dEl = ys.getD 0 dEl := by simp [List.getElem?_append, hpos]
      have e2 : hpop elt dEl (ys ++ [z]) = su elt dEl 0 (ys.set 0 z) := by
        unfold hpop
        rw [List.dropLast_concat, if_neg (by intro e; rw [e] at hpos; cases hpos)]
        simp
      rw [e1, e2] at hQ
      exact hqo _ _ (back F4 N4 fun Fb Nb => hQ _ _ _ Fb Nb)
end

theorem at_P08_Heapify : True := by
  w_top off
  trivial
abbrev rangeObj (a b c : Int) (t u v : Tok) : Obj := { cls := .type "range", dict := none, data := .fields #[.int a t, .int b u, .int c v], slots := #[] }
abbrev riObj (x left step : Int) : Obj := { cls := .type "range_iterator", dict := none, data := .fields #[rawInt x, rawInt left, rawInt step], slots := #[] }

section
variable {prog : Program} {w : World} {A : Around} {s : Shared} {E : Value → Shared → Prop} {h₀ : Heap} {L : Addr} {m : Str → Option Value} {news : List (Addr × Obj)}

theorem range_v {n : Int} {t : Tok} {Q : Value → Shared → Prop} (F : Fr h₀ L s.heap m) (N : News h₀ L s.heap news)
    (h : ∀ r h' tk t u v, Fr h₀ L h' m → News h₀ L h' ((r, rangeObj 0 n 1 t u v) :: news) → (∀ q ∈ news, q.1 < r) → Q (.ref r) { s with heap := h', toks := tk }) :
    wpAny (model prog w) A (call (.type "range") [.int n t]) Q E s :=
  call_range_1 (h _ _ _ _ _ _ (F.push _) (News.push F N _) fun q hq => Heap.lt_size (N q hq).1)

theorem asInt_int (i : Int) (t : Tok) : asInt? (.int i t) = pure (some i) := rfl
theorem sub_ri_reversed : isSubtype (.type "range_iterator") (.type "reversed") = pure false := by rw [isSubtype_type]; kernel_rfl

theorem call_range_reversed {r : Addr} {n : Nat} {t u v : Tok} {Q : Value → Shared → Prop} (hr : IsRange s.heap r 0 n 1 t u v) (hn : n < 2 ^ 20)
    (h : Q (.ref s.heap.objs.size) { s with heap := s.heap.push (riObj ((n : Int) - 1) n (-1)) }) : wpAny (model prog w) A (call (.builtin "range.__reversed__") [.ref r]) Q E s := by
  have hT : s.TypeIs (.ref r) "range" := ⟨_, hr, rfl⟩
  refine wpAny_call_entry F.slot_range_reversed hT F.entry_range_reversed ?_ (F.args_range_reversed_1 _)
  have e1 : Builtin.Range.rangeSize 0 n 1 = (n : Int) := by
    unfold Builtin.Range.rangeSize
    rw [if_pos (by decide)]
    by_cases h0 : (0 : Int) < n
    · rw [if_pos h0]; omega
    · rw [if_neg h0]; omega
  have e2 : (Builtin.Range.rangeFitsLong 0 && Builtin.Range.rangeFitsLong (n : Int) && Builtin.Range.rangeFitsLong 1 && Builtin.Range.rangeFitsLong (-1) && Builtin.Range.rangeFitsLong (0 - 1) && Builtin.Range.rangeFitsLong (n : Int)) = true := by
    have h1 : Builtin.Range.rangeFitsLong (n : Int) = true := by
      unfold Builtin.Range.rangeFitsLong
      rw [Bool.and_eq_true, decide_eq_true_eq, decide_eq_true_eq]; omega
    rw [h1]; decide
  unfold Builtin.«range.__reversed__»
  refine wpAny_bind (wpAny_of_eq (a := Value.ref r) rfl ?_)
  refine wpAny_bind (m := Builtin.Range.rangeFields (.ref r)) ?_
  unfold Builtin.Range.rangeFields
  refine wpAny_bind (wpAny_field hr rfl (x := .int 0 t) rfl ?_)
  refine wpAny_bind (wpAny_of_eq (asInt_int _ _) ?_)
  refine wpAny_bind (wpAny_field hr rfl (x := .int n u) rfl ?_)
  refine wpAny_bind (wpAny_of_eq (asInt_int _ _) ?_)
  refine wpAny_bind (wpAny_field hr rfl (x := .int 1 v) rfl ?_)
  rw [asInt_int, pure_bind]
  refine wpAny_pure ?_
  show wpAny _ _ (do
    let n' := Builtin.Range.rangeSize 0 n 1
    let small := Builtin.Range.rangeFitsLong 0 && Builtin.Range.rangeFitsLong (n : Int) && Builtin.Range.rangeFitsLong 1 && Builtin.Range.rangeFitsLong (-1) && Builtin.Range.rangeFitsLong (0 - 1) && Builtin.Range.rangeFitsLong n'
    if !small then rule "range.reversed.long"
    ret (← newFields (if small then "range_iterator" else "longrange_iterator") [rawInt (0 + (n' - 1) * 1), rawInt n', rawInt (-1)])) _ _ _
  rw [e1]
  dsimp only
  rw [e2]
  simp only [Bool.not_true, Bool.false_eq_true, if_false, if_true]
  refine wpAny_bind (wpAny_newObj_type ?_ (by show (3 : Nat) ≤ _; rw [sizeLine_eq]; decide))
  have e3 : (0 : Int) + ((n : Int) - 1) * 1 = (n : Int) - 1 := by omega
  rw [e3]
  exact wpAny_pure ⟨_, rfl, h⟩

theorem reversed_range {r : Addr} {n : Nat} {t u v : Tok} {Q : Value → Shared → Prop} (hr : IsRange s.heap r 0 n 1 t u v) (hn : n < 2 ^ 20)
    (h : Q (.ref s.heap.objs.size) { s with heap := s.heap.push (riObj ((n : Int) - 1) n (-1)) }) : wpAny (model prog w) A (call (.type "reversed") [.ref r]) Q E s := by
  have hT : s.TypeIs (.ref r) "range" := ⟨_, hr, rfl⟩
  refine callType_other (U := "range_iterator") (Q₁ := fun obj s₁ => obj = .ref s.heap.objs.size ∧ s₁ = { s with heap := s.heap.push (riObj ((n : Int) - 1) n (-1)) }) (by decide +kernel) F.create_reversed ⟨_, _, F.mro_reversed⟩ F.made_reversed sub_ri_reversed (F.typeCall_reversed_1 _) ?_ ?_
  · refine codeAny_of_tree ?_
    show wpAny _ A.in1.in1 (do checkBuiltinCall "reversed.__new__" ⟨[.type "reversed", .ref r], []⟩; again (.builtin "reversed.__new__" ⟨[.type "reversed", .ref r], []⟩)) _ _ s
    refine wpAny_bind (wpAny_of_eq (F.newCall_reversed_1 _) (wpAny_pure ⟨plainId_quiet F.plain_reversed_new _, codeAny_builtin F.entry_reversed_new ?_⟩))
    rw [Around.under_plainId F.plain_reversed_new _]
    unfold Builtin.«reversed.__new__»
    refine wpAny_bind (wpAny_of_eq (newClass_reversed _) ?_)
    try dsimp only
    refine wpAny_bind (wpAny_of_eq (a := ()) (by first | rfl | kernel_rfl) ?_)
    refine wpAny_bind (wpAny_of_eq (a := ()) (by first | rfl | kernel_rfl) ?_)
    try dsimp only
    refine wpAny_bind (wpAny_specialOf hT F.slot_range_reversed.lookup ?_)
    try dsimp only
    refine wpAny_bind (wpAny_of_eq (F.slot_range_reversed.bind _) ?_)
    try dsimp only
    first
    | rw [if_neg (show ¬ ((Value.builtin "range.__reversed__" == Value.none) = true) from Bool.false_ne_true)]
    | (show wpAny _ _ (if (Value.builtin "range.__reversed__" == Value.none) = true then _ else _) _ _ _; rw [if_neg (show ¬ ((Value.builtin "range.__reversed__" == Value.none) = true) from Bool.false_ne_true)])
    refine wpAny_bind (wpAny_rule ?_)
    refine wpAny_bind (m := runValue (.call (.builtin "range.__reversed__") ⟨[.ref r], []⟩)) (show wpAny _ _ (call (.builtin "range.__reversed__") [.ref r]) _ _ _ from call_range_reversed hr hn ?_)
    first
    | exact wpAny_pure ⟨rfl, rfl⟩
    | exact wpAny_bind (wpAny_pure (wpAny_pure ⟨rfl, rfl⟩))
  · rintro obj s₁ ⟨rfl, rfl⟩
    exact ⟨⟨_, Heap.get?_push_size _ rfl, rfl⟩, h⟩

theorem reversed_v {r : Addr} {n : Nat} {t u v : Tok} {Q : Value → Shared → Prop} (F : Fr h₀ L s.heap m) (N : News h₀ L s.heap news) (hm : (r, rangeObj 0 n 1 t u v) ∈ news) (hn : n < 2 ^ 20)
    (h : ∀ I h', Fr h₀ L h' m → News h₀ L h' ((I, riObj ((n : Int) - 1) n (-1)) :: news) → (∀ q ∈ news, q.1 < I) → Q (.ref I) { s with heap := h' }) :
    wpAny (model prog w) A (call (.type "reversed") [.ref r]) Q E s :=
  reversed_range (N _ hm).1 hn (h _ _ (F.push _) (News.push F N _) fun q hq => Heap.lt_size (N q hq).1)

theorem loop_ri {env : Env} {x : Str} {body : List Stmt} {Q : Flow → Shared → Prop} {I : Addr} {a c : Int} {n : Nat} (J : Nat → (Str → Option Value) → List (Addr × Obj) → Prop)
    (hh : A.handled = none) (F : Fr h₀ env.locals s.heap m) (N : News h₀ env.locals s.heap ((I, riObj a n c) :: news)) (hoff : ∀ q ∈ news, q.1 ≠ I) (hj : J 0 m news)
    (turn : ∀ i t m₁ nx h tk own, i < n → OwnOff own (nx.map (·.1)) → J i m₁ nx → Fr h₀ env.locals h (fun y => if y = x then some (.int (a + (i : Nat) * c) t) else m₁ y) → News h₀ env.locals h (nx ++ own) →
      wpAny (model prog w) A (execs body env) (InvPostG h₀ env.locals (J (i + 1)) own { s with heap := h, toks := tk } Q) E { s with heap := h, toks := tk })
    (done : ∀ m₁ nx h tk, J n m₁ nx → Fr h₀ env.locals h m₁ → News h₀ env.locals h nx → Q .next { s with heap := h, toks := tk }) :
    LoopAtV prog w A h₀ env x body Q E (.ref I) s := by
  have hI := N _ (.head _)
  refine kdr_loop J (Walks.range hh I a c n) (fun _ h => h) (fun _ h => h) (fun i h st b hb => ?_) ?_ ?_ ?_ ?_ F (fun q hq => N q (.tail _ hq)) hj ?_ done
  · rw [List.mem_singleton.mp hb]; exact ⟨_, st⟩
  · intro h; exact hI.2.1 (List.mem_singleton.mp h).symm
  · intro b hb; rw [List.mem_singleton.mp hb]; exact hI.2.2
  · intro q hq h; exact hoff q hq (List.mem_singleton.mp h)
  · have e1 : a + ((0 : Nat) : Int) * c = a := by simp
    have e2 : (n : Int) - ((0 : Nat) : Int) = n := by simp
    rw [e1, e2]; exact hI.1
  · rintro i v m₁ nx h tk own hi ⟨t, rfl⟩ ho hJ F' N'
    exact turn i t m₁ nx h tk own hi ho hJ F' N'
end

def hfy {α : Type} (lt : α → α → Bool) (d : α) (xs : List α) : List α := (List.range (xs.length / 2)).reverse.foldl (fun ys i => su lt d i ys) xs

theorem sd_len {α : Type} (lt : α → α → Bool) (x : α) (start pos : Nat) (xs : List α) : (sd lt x start pos xs).length = xs.length := by
  induction pos using Nat.strongRecOn generalizing xs with
  | _ pos ih =>
    rw [sd]
    split
    · split
      · split
        · rw [ih _ (par_lt (Nat.zero_lt_of_lt (by assumption)))]; exact List.length_set
        · exact List.length_set
      · exact List.length_set
    · exact List.length_set
theorem suL_len {α : Type} (lt : α → α → Bool) (d : α) (n pos : Nat) (xs : List α) : (suL lt d n pos xs).1.length = xs.length := by
  generalize hk : n - pos = k
  induction k using Nat.strongRecOn generalizing pos xs with
  | _ k ih =>
    rw [suL]
    split
    · split
      · exact (ih _ (hk ▸ dec2 (by assumption)) _ _ rfl).trans List.length_set
      · exact (ih _ (hk ▸ dec1 (by assumption)) _ _ rfl).trans List.length_set
    · rfl
theorem su_len {α : Type} (lt : α → α → Bool) (d : α) (pos : Nat) (xs : List α) : (su lt d pos xs).length = xs.length := by
  unfold su; rw [sd_len, List.length_set, suL_len]
theorem sd_mem {α : Type} (lt : α → α → Bool) (x : α) (start pos : Nat) (xs : List α) : ∀ y ∈ sd lt x start pos xs, y = x ∨ y ∈ xs := by
  induction pos using Nat.strongRecOn generalizing xs with
  | _ pos ih =>
    rw [sd]
    split
    · split
      · rename_i z hz
        split
        · intro y hy
          rcases ih _ (par_lt (Nat.zero_lt_of_lt (by assumption))) _ y hy with h | h
          · exact .inl h
          · rcases List.mem_or_eq_of_mem_set h with h | rfl
            · exact .inr h
            · exact .inr (List.mem_of_getElem? hz)
        · intro y hy
          rcases List.mem_or_eq_of_mem_set hy with h | rfl
          · exact .inr h
          · exact .inl rfl
      · intro y hy
        rcases List.mem_or_eq_of_mem_set hy with h | rfl
        · exact .inr h
        · exact .inl rfl
    · intro y hy
      rcases List.mem_or_eq_of_mem_set hy with h | rfl
      · exact .inr h
      · exact .inl rfl
theorem suL_mem {α : Type} (lt : α → α → Bool) (d : α) (n pos : Nat) (xs : List α) (hn : n = xs.length) : ∀ y ∈ (suL lt d n pos xs).1, y ∈ xs := by
  generalize hk : n - pos = k
  induction k using Nat.strongRecOn generalizing pos xs with
  | _ k ih =>
    have key : ∀ c, c < n → pos < c → ∀ y ∈ (suL lt d n c (xs.set pos (xs.getD c d))).1, y ∈ xs := by
      intro c hc hp y hy
      have := ih (n - c) (hk ▸ Nat.sub_lt_sub_left (Nat.lt_trans hp hc) hp) c _ (lset hn) rfl y hy
      rcases List.mem_or_eq_of_mem_set this with h | rfl
      · exact h
      · have : c < xs.length := hn ▸ hc
        simp [this]
    rw [suL]
    split
    · split
      · rename_i h; exact key _ h.1 (ch2 pos)
      · exact key _ (by assumption) (ch1 pos)
    · exact fun y hy => hy
theorem su_mem {α : Type} (lt : α → α → Bool) (d : α) (pos : Nat) (xs : List α) (hp : pos < xs.length) : ∀ y ∈ su lt d pos xs, y ∈ xs := by
  intro y hy
  unfold su at hy
  have hx : xs.getD pos d ∈ xs := by simp [hp]
  rcases sd_mem _ _ _ _ _ y hy with rfl | h
  · exact hx
  · rcases List.mem_or_eq_of_mem_set h with h | rfl
    · exact suL_mem _ _ _ _ _ rfl y h
    · exact hx
theorem su_fold_len {α : Type} (lt : α → α → Bool) (d : α) : ∀ (is : List Nat) (xs : List α), (is.foldl (fun ys i => su lt d i ys) xs).length = xs.length
  | [], _ => rfl
  | i :: r, xs => by rw [List.foldl_cons, su_fold_len lt d r, su_len]
theorem su_fold_mem {α : Type} (lt : α → α → Bool) (d : α) : ∀ (is : List Nat) (xs : List α), (∀ i ∈ is, i < xs.length) → ∀ y ∈ is.foldl (fun ys i => su lt d i ys) xs, y ∈ xs
  | [], _, _ => fun _ hy => hy
  | i :: r, xs, h => fun y hy => by
    rw [List.foldl_cons] at hy
    exact su_mem lt d i xs (h i (.head _)) y (su_fold_mem lt d r _ (fun j hj => by rw [su_len]; exact h j (.tail _ hj)) y hy)

theorem rev_take {n i : Nat} (h : i < n) : (List.range n).reverse.take (i + 1) = (List.range n).reverse.take i ++ [n - 1 - i] := by
  rw [List.take_add_one]
  have hl : i < (List.range n).reverse.length := by simpa using h
  rw [List.getElem?_eq_getElem hl]
  simp

section
variable {w : World} {A : Around} {s : Shared} {h₀ : Heap} {L : Addr} {m : Str → Option Value} {env : Env} {rest : List (Addr × Obj)} {Q E : Value → Shared → Prop}

theorem heapify_ok {fl : Bool} {hp : Addr} {xs : List El} {n : Nat} (C : Cx w A env h₀ L) (R : Room 6 A) (F : Fr h₀ L s.heap m) (N : News h₀ L s.heap ((hp, lst xs n) :: rest))
    (hoff : ∀ q ∈ rest, q.1 ≠ hp) (hlen : xs.length < 2 ^ 20) (hok : ∀ e ∈ xs, ElOk fl s.heap e)
    (hQ : ∀ h' tk' n', Fr h₀ L h' m → News h₀ L h' ((hp, lst (hfy elt dEl xs) n') :: rest) → Q .none { s with heap := h', toks := tk' }) :
    wpAny (model PySem.Challenge.rw_ik0004_01.row.prog w) A (call (.ref 35) [.ref hp]) Q E s := by
  k_dflt (refine' callF (W := [(hp, lst xs n)]) (rest := rest) (args := ⟨[.ref hp], []⟩) (binds := [(Str.ofString "x", .ref hp)]) C R F N ?k6 ?k7 ?k9 ?kB ?kO ?kW ?_ ?c2 ?c3 ?c4 ?c5; (case k6 => k_is); (case k7 => k_is); (case k9 => exact BindsTo.of_eq rfl); (case kB => exact locs rfl);  (case c5 => decide); (case c2 => exact rfl); (case c3 => exact rfl); (case c4 => exact rfl))
  case kO => exact fun q hq => nmemc (hoff q hq) nmem0
  case kW => exact allc lstW alln
  intro g L' h₁ mean mg mb R' F' N' C' X' T' big tk lt
  refine gn fun Qo hqo => ?_
  have hokg : ∀ e ∈ xs, ElOk fl g e := fun e he => (hok e he).keeps tk
  clear F N C R hok big tk
  walk_at "MW"
  refine For_invV g (by rfl) (by rfl) ?_
  walk_at "MW"
  have e0 : ((xs.length : Nat) : Int).fdiv 2 = ((xs.length / 2 : Nat) : Int) := by
    rw [Int.fdiv_eq_ediv_of_nonneg _ (by omega)]; omega
  rw [e0]
  rename Fr _ _ _ _ => F1
  rename News _ _ _ _ => N1
  refine range_v F1 N1 ?_
  intro r h2 tk2 t2 u2 v2 F2 N2 l2
  walk_at "MW"
  refine reversed_v F2 N2 (.head _) (by omega) ?_
  intro I h3 F3 N3 l3
  walk_at "MW"
  refine wpAny_pyIter_rangeiter (N3 _ (.head _)).1 ?_
  refine loop_ri (I := I) (a := ((xs.length / 2 : Nat) : Int) - 1) (c := -1) (n := xs.length / 2) (news := [(hp, lst xs n)]) (fun i m₁ nx => ∃ k, nx = [(hp, lst (((List.range (xs.length / 2)).reverse.take i).foldl (fun ys i => su elt dEl i ys) xs) k)] ∧ m₁ (Str.ofString "x") = some (.ref hp)) C'.hh F3 (fun q hq => N3 q (by rcases List.mem_cons.mp hq with h | h; exact h ▸ .head _; exact .tail _ (.tail _ h))) ?_ ⟨n, rfl, rfl⟩ ?_ ?_
  · intro q hq; exact Nat.ne_of_lt (l3 q (.tail _ hq))
  · clear F1 N1 F2 N2 F3 N3 l2 l3
    rintro i t m₁ nx h tk own hi ho ⟨k, rfl, hm1⟩ F₁ N₁
    replace F₁ := Fr.sees [(Str.ofString "i", .int ((xs.length / 2 : Nat) - 1 + (i : Nat) * -1 : Int) t), (Str.ofString "x", Value.ref hp)] F₁ (seesx (seesn (by decide) hm1 sees0))
    dsimp only
    walk_at "MW"
    have hj : ((xs.length / 2 : Nat) : Int) - 1 + (i : Nat) * -1 = ((xs.length / 2 - 1 - i : Nat) : Int) := by omega
    have hin : ∀ j ∈ (List.range (xs.length / 2)).reverse.take i, j < xs.length := fun j hj => by
      have := List.mem_of_mem_take hj
      have := List.mem_range.mp (List.mem_reverse.mp this)
      omega
    refine siftup_ok (rest := own) (fl := fl) (pos := xs.length / 2 - 1 - i) hj C' (R'.le (by decide)) F₁ N₁ (fun q hq => ho q hq hp (.head _)) (by rw [su_fold_len]; omega) (by rw [su_fold_len]; omega) ?_ ?_
    · intro y hy
      exact (hokg y (su_fold_mem _ _ _ _ hin y hy)).keeps fun b vs e => F₁.keep _ _ e
    · intro h' tk' n' F4 N4
      dsimp only
      walk_at "MW"
      have e1 : su elt dEl (xs.length / 2 - 1 - i) (((List.range (xs.length / 2)).reverse.take i).foldl (fun ys i => su elt dEl i ys) xs) = ((List.range (xs.length / 2)).reverse.take (i + 1)).foldl (fun ys i => su elt dEl i ys) xs := by
        rw [rev_take hi, List.foldl_append]; rfl
      rw [e1] at N4
      exact InvEndG.intro F4 N4 ⟨n', rfl, rfl⟩ ho (fun q hq => List.mem_append_left own hq) (fun q hq => .tail _ hq)
  · rintro m₁ nx h tk ⟨k, rfl, hm1⟩ F₁ N₁
    dsimp only
    walk_at "MW"
    have e1 : (List.range (xs.length / 2)).reverse.take (xs.length / 2) = (List.range (xs.length / 2)).reverse := List.take_of_length_le (by simp)
    rw [e1] at N₁
    exact hqo _ _ (back F₁ N₁ fun Fb Nb => hQ _ _ _ Fb Nb)
end

theorem at_P09_Max2 : True := by
  w_top off
  trivial
-- by gen_max.py
section
variable {w : World} {A : Around} {s : Shared} {h₀ : Heap} {L : Addr} {m : Str → Option Value} {env : Env} {rest : List (Addr × Obj)} {Q E : Value → Shared → Prop}

theorem heapify_max_ok {fl : Bool} {hp : Addr} {xs : List El} {n : Nat} (C : Cx w A env h₀ L) (R : Room 6 A) (F : Fr h₀ L s.heap m) (N : News h₀ L s.heap ((hp, lst xs n) :: rest))
    (hoff : ∀ q ∈ rest, q.1 ≠ hp) (hlen : xs.length < 2 ^ 20) (hok : ∀ e ∈ xs, ElOk fl s.heap e)
    (hQ : ∀ h' tk' n', Fr h₀ L h' m → News h₀ L h' ((hp, lst (hfy egt dEl xs) n') :: rest) → Q .none { s with heap := h', toks := tk' }) :
    wpAny (model PySem.Challenge.rw_ik0004_01.row.prog w) A (call (.ref 49) [.ref hp]) Q E s := by
  k_dflt (refine' callF (W := [(hp, lst xs n)]) (rest := rest) (args := ⟨[.ref hp], []⟩) (binds := [(Str.ofString "x", .ref hp)]) C R F N ?k6 ?k7 ?k9 ?kB ?kO ?kW ?_ ?c2 ?c3 ?c4 ?c5; (case k6 => k_is); (case k7 => k_is); (case k9 => exact BindsTo.of_eq rfl); (case kB => exact locs rfl);  (case c5 => decide); (case c2 => exact rfl); (case c3 => exact rfl); (case c4 => exact rfl))
  case kO => exact fun q hq => nmemc (hoff q hq) nmem0
  case kW => exact allc lstW alln
  intro g L' h₁ mean mg mb R' F' N' C' X' T' big tk lt
  refine gn fun Qo hqo => ?_
  have hokg : ∀ e ∈ xs, ElOk fl g e := fun e he => (hok e he).keeps tk
  clear F N C R hok big tk
  walk_at "MW"
  refine For_invV g (by rfl) (by rfl) ?_
  walk_at "MW"
  have e0 : ((xs.length : Nat) : Int).fdiv 2 = ((xs.length / 2 : Nat) : Int) := by
    rw [Int.fdiv_eq_ediv_of_nonneg _ (by omega)]; omega
  rw [e0]
  rename Fr _ _ _ _ => F1
  rename News _ _ _ _ => N1
  refine range_v F1 N1 ?_
  intro r h2 tk2 t2 u2 v2 F2 N2 l2
  walk_at "MW"
  refine reversed_v F2 N2 (.head _) (by omega) ?_
  intro I h3 F3 N3 l3
  walk_at "MW"
  refine wpAny_pyIter_rangeiter (N3 _ (.head _)).1 ?_
  refine loop_ri (I := I) (a := ((xs.length / 2 : Nat) : Int) - 1) (c := -1) (n := xs.length / 2) (news := [(hp, lst xs n)]) (fun i m₁ nx => ∃ k, nx = [(hp, lst (((List.range (xs.length / 2)).reverse.take i).foldl (fun ys i => su egt dEl i ys) xs) k)] ∧ m₁ (Str.ofString "x") = some (.ref hp)) C'.hh F3 (fun q hq => N3 q (by rcases List.mem_cons.mp hq with h | h; exact h ▸ .head _; exact .tail _ (.tail _ h))) ?_ ⟨n, rfl, rfl⟩ ?_ ?_
  · intro q hq; exact Nat.ne_of_lt (l3 q (.tail _ hq))
  · clear F1 N1 F2 N2 F3 N3 l2 l3
    rintro i t m₁ nx h tk own hi ho ⟨k, rfl, hm1⟩ F₁ N₁
    replace F₁ := Fr.sees [(Str.ofString "i", .int ((xs.length / 2 : Nat) - 1 + (i : Nat) * -1 : Int) t), (Str.ofString "x", Value.ref hp)] F₁ (seesx (seesn (by decide) hm1 sees0))
    dsimp only
    walk_at "MW"
    have hj : ((xs.length / 2 : Nat) : Int) - 1 + (i : Nat) * -1 = ((xs.length / 2 - 1 - i : Nat) : Int) := by omega
    have hin : ∀ j ∈ (List.range (xs.length / 2)).reverse.take i, j < xs.length := fun j hj => by
      have := List.mem_of_mem_take hj
      have := List.mem_range.mp (List.mem_reverse.mp this)
      omega
    refine siftup_max_ok (rest := own) (fl := fl) (pos := xs.length / 2 - 1 - i) hj C' (R'.le (by decide)) F₁ N₁ (fun q hq => ho q hq hp (.head _)) (by rw [su_fold_len]; omega) (by rw [su_fold_len]; omega) ?_ ?_
    · intro y hy
      exact (hokg y (su_fold_mem _ _ _ _ hin y hy)).keeps fun b vs e => F₁.keep _ _ e
    · intro h' tk' n' F4 N4
      dsimp only
      walk_at "MW"
      have e1 : su egt dEl (xs.length / 2 - 1 - i) (((List.range (xs.length / 2)).reverse.take i).foldl (fun ys i => su egt dEl i ys) xs) = ((List.range (xs.length / 2)).reverse.take (i + 1)).foldl (fun ys i => su egt dEl i ys) xs := by
        rw [rev_take hi, List.foldl_append]; rfl
      rw [e1] at N4
      exact InvEndG.intro F4 N4 ⟨n', rfl, rfl⟩ ho (fun q hq => List.mem_append_left own hq) (fun q hq => .tail _ hq)
  · rintro m₁ nx h tk ⟨k, rfl, hm1⟩ F₁ N₁
    dsimp only
    walk_at "MW"
    have e1 : (List.range (xs.length / 2)).reverse.take (xs.length / 2) = (List.range (xs.length / 2)).reverse := List.take_of_length_le (by simp)
    rw [e1] at N₁
    exact hqo _ _ (back F₁ N₁ fun Fb Nb => hQ _ _ _ Fb Nb)
end

section
variable {w : World} {A : Around} {s : Shared} {h₀ : Heap} {L : Addr} {m : Str → Option Value} {env : Env} {rest : List (Addr × Obj)} {Q E : Value → Shared → Prop}

theorem heapreplace_max_ok {fl : Bool} {hp : Addr} {xs : List El} {n : Nat} {e : El} (C : Cx w A env h₀ L) (R : Room 6 A) (F : Fr h₀ L s.heap m) (N : News h₀ L s.heap ((hp, lst xs n) :: rest))
    (hoff : ∀ q ∈ rest, q.1 ≠ hp) (hlen : xs.length < 2 ^ 20) (hpos : 0 < xs.length) (hok : ∀ e ∈ xs, ElOk fl s.heap e) (he : ElOk fl s.heap e)
    (hQ : ∀ h' tk' n', Fr h₀ L h' m → News h₀ L h' ((hp, lst (su egt dEl 0 (xs.set 0 e)) n') :: rest) → Q (xs.getD 0 dEl).1 { s with heap := h', toks := tk' }) :
    wpAny (model PySem.Challenge.rw_ik0004_01.row.prog w) A (call (.ref 42) [.ref hp, e.1]) Q E s := by
  k_dflt (refine' callF (W := [(hp, lst xs n)]) (rest := rest) (args := ⟨[.ref hp, e.1], []⟩) (binds := [(Str.ofString "heap", .ref hp), (Str.ofString "item", e.1)]) C R F N ?k6 ?k7 ?k9 ?kB ?kO ?kW ?_ ?c2 ?c3 ?c4 ?c5; (case k6 => k_is); (case k7 => k_is); (case k9 => exact BindsTo.of_eq rfl); (case kB => exact locs rfl);  (case c5 => decide); (case c2 => exact rfl); (case c3 => exact rfl); (case c4 => exact rfl))
  case kO => exact fun q hq => nmemc (hoff q hq) nmem0
  case kW => exact allc lstW alln
  intro g L' h₁ mean mg mb R' F' N' C' X' T' big tk lt
  refine gn fun Qo hqo => ?_
  have hokg : ∀ e ∈ xs, ElOk fl g e := fun e he => (hok e he).keeps tk
  have heg : ElOk fl g e := he.keeps tk
  clear F N C R hok big tk he
  walk_at "MW"
  refine sub_el (i := 0) (by assumption) (.head _) rfl hpos (by omega) ?_ (by with_unfolding_all rfl)
  walk_at "MW"
  refine set_el (i := 0) (e := e) (by assumption) (by assumption) (by simp) rfl hpos (by omega) ?_
  intro h3 F3 N3
  walk_at "MW"
  refine siftup_max_ok (rest := []) (fl := fl) (xs := xs.set 0 e) (pos := 0) (by rfl) C' (R'.le (by decide)) F3 N3 (by simp) (by simpa using hpos) (by simp; omega) ?_ ?_
  · intro y hy
    rcases List.mem_or_eq_of_mem_set hy with hy | rfl
    · exact (hokg y hy).keeps fun b vs e => F3.keep _ _ e
    · exact heg.keeps fun b vs e => F3.keep _ _ e
  · intro h' tk' n' F4 N4
    dsimp only
    walk_at "MW"
    exact hqo _ _ (back F4 N4 fun Fb Nb => hQ _ _ _ Fb Nb)
end

theorem at_P10_Mw : True := by
  w_top off
  trivial
namespace Mw
theorem slot_wd_get : Slot "wrapper_descriptor" "__get__" "wrapper_descriptor.__get__" :=
  .of (owner := "wrapper_descriptor") (n := "__get__") (by rw [typeLookup_type, builtinLookup_eq_fast]; kernel_rfl) (by decide +kernel) (by decide +kernel) (by decide +kernel)
    (by first | exact .inl (by decide +kernel) | exact .inr (by decide +kernel)) (by rw [isSubtype_type]; kernel_rfl)
theorem entry_wd_get : entryFor table "wrapper_descriptor.__get__" = some Builtin.«wrapper_descriptor.__get__» := entryFor_of_tree (by kernel_rfl)
theorem noset_wd : typeLookup (.type "wrapper_descriptor") "__set__" = pure none := by rw [typeLookup_type, builtinLookup_eq_fast]; kernel_rfl
theorem nodel_wd : typeLookup (.type "wrapper_descriptor") "__delete__" = pure none := by rw [typeLookup_type, builtinLookup_eq_fast]; kernel_rfl
theorem type_contains : typeOf (.builtin "list.__contains__") = pure (.type "wrapper_descriptor") := by show builtinType _ = _; rw [builtinType_eq_fast]; kernel_rfl
theorem sub_ll : isSubtype (.type "list") (.type "list") = pure true := by rw [isSubtype_type]; kernel_rfl
theorem args_wd_get (a b c : Value) : argsOk "wrapper_descriptor.__get__" ⟨[a, b, c], []⟩ := by unfold argsOk; kernel_rfl
theorem owner_contains : (".".intercalate ("list.__contains__".cutAt '.').dropLast) = "list" := by decide +kernel
end Mw
abbrev mwObj (a : Addr) : Obj := { cls := .type "method-wrapper", data := .fields #[.builtin "list.__contains__", .ref a] }

section
variable {prog : Program} {w : World} {A : Around} {E : Value → Shared → Prop} {h : Heap} {g : Array GenState} {d : Drawn} {t : Nat} {os : OsState} {a : Addr} {o : Obj}
theorem mw_get {R : Result → Shared → Prop} {xs : Array Value} {n : Nat} (hx : h.get? a = some (PySem.W.listOf xs n)) (hq : R (.ok (.ret (.ref h.objs.size))) ⟨h.push (mwObj a), g, d, t, os⟩) :
    codeAny (model prog w) A (.call (.builtin "wrapper_descriptor.__get__") ⟨[.builtin "list.__contains__", .ref a, .type "list"], []⟩) R ⟨h, g, d, t, os⟩ := by
  have hT : (⟨h, g, d, t, os⟩ : Shared).TypeIs (.ref a) "list" := ⟨_, hx, rfl⟩
  have hT5 : (⟨h, g, d, t, os⟩ : Shared).TypeIs (.builtin "list.__contains__") "wrapper_descriptor" := Mw.type_contains
  have f9 : isSubtype (.type "list") (.type (".".intercalate ("list.__contains__".cutAt '.').dropLast)) = pure true := by rw [Mw.owner_contains]; exact Mw.sub_ll
  refine codeAny_call_builtin Mw.slot_wd_get.plain Mw.entry_wd_get (Mw.slot_wd_get.check _ _ _ _ _ _ _ _ hT5 (Mw.args_wd_get _ _ _) ?_)
  unfold Builtin.«wrapper_descriptor.__get__»
  repeat (any_goals (first | assumption | wp_step))

theorem mw_entry {tk : Tok} {Q : PySem.Fin → Shared → Prop} {xs : Array Value} {n : Nat} (hx : h.get? a = some (PySem.W.listOf xs n)) (hq : Q (.done (.ret (.ref h.objs.size))) ⟨h.push (mwObj a), g, d, t, os⟩) :
    wpAny (model prog w) A (Builtin.«object.__getattribute__» ⟨[.ref a, .str "__contains__" tk], []⟩) Q E ⟨h, g, d, t, os⟩ := by
  have hT : (⟨h, g, d, t, os⟩ : Shared).TypeIs (.ref a) "list" := ⟨_, hx, rfl⟩
  have hT5 : (⟨h, g, d, t, os⟩ : Shared).TypeIs (.builtin "list.__contains__") "wrapper_descriptor" := Mw.type_contains
  have f4 := F.slot_list_contains.lookup
  have f5 := Mw.type_contains
  have f6 := Mw.slot_wd_get.lookup
  have f7 := Mw.noset_wd
  have f8 := Mw.nodel_wd
  have f9 := Mw.sub_ll
  unfold Builtin.«object.__getattribute__»
  repeat (any_goals (first | assumption | wp_step))
  refine mw_get hx ?_
  exact wpAny_pure hq

theorem mw_attr {Q : Value → Shared → Prop} {xs : Array Value} {n : Nat} (hx : h.get? a = some (PySem.W.listOf xs n)) (hq : ∀ tk, Q (.ref h.objs.size) ⟨h.push (mwObj a), g, d, tk, os⟩) :
    wpAny (model prog w) A (getAttr (.ref a) (Str.ofString "__contains__") true) Q E ⟨h, g, d, t, os⟩ := by
  unfold getAttr
  refine wpAny_bind (wpAny_mkText ?_)
  have hT : (⟨h, g, d, t + 1, os⟩ : Shared).TypeIs (.ref a) "list" := ⟨_, hx, rfl⟩
  have f2 := F.slot_list_getattribute.lookup
  have f3 := F.slot_list_getattribute.bind (.ref a)
  unfold getAttrBy
  refine wpAny_holding (wpAny_bind (wpAny_typeOf hT (wpAny_bind (wpAny_of_eq f2 ?_))))
  show wpAny _ _ (getAttrByItsOwn _ _ _ _ _ _) _ _ _
  unfold getAttrByItsOwn
  refine wpAny_bind (wpAny_of_eq (a := none) rfl ?_)
  refine wpAny_bind (wpAny_attempt (wpAny_holding ?_))
  show wpAny _ _ (boundAndCalled _ _ _) _ _ _
  unfold boundAndCalled
  refine wpAny_bind (wpAny_of_eq f3 ?_)
  show wpAny _ _ (call _ _) _ _ _
  refine wpAny_call (codeAny_call_builtin F.slot_list_getattribute.plain F.entry_list_ga (F.slot_list_getattribute.check _ _ _ _ _ _ _ _ hT (F.args_list_getattribute_2 _ _) (mw_entry hx ?_)))
  exact wpAny_pure (hq _)

theorem mw_args (b v : Value) : argsOk "list.__contains__" ⟨[b, v], []⟩ := F.args_list_contains_2 _ _
theorem mw_kind : builtinKind "list.__contains__" = some .slot := by decide +kernel

theorem mw_call {s : Shared} {q : Addr} {v : Value} {Q : Value → Shared → Prop} {xs : Array Value} {n : Nat} (e : Value → Bool) (hq : s.heap.get? q = some (mwObj a)) (hx : s.heap.get? a = some (PySem.W.listOf xs n))
    (he : ∀ y, y ∈ xs → SeqAt.EqAt A.in1 s y v (e y)) (h : Q (.bool (xs.any e)) s) :
    wpAny (model prog w) A (call (.ref q) [v]) Q E s := by
  refine wpAny_call (codeAny_of_tree ?_)
  show wpAny _ A.in1 (callAny (.ref q) _) _ _ _
  simp only [callAny]
  refine wpAny_bind (wpAny_load hq ?_)
  have hck : checkBoundCall "list.__contains__" ⟨[.ref a, v], []⟩ = pure () := by
    have ha := mw_args (.ref a) v
    unfold argsOk at ha
    unfold checkBoundCall
    cases hs : Manifest.signature? "list.__contains__" with
    | none => rfl
    | some sig =>
      rw [hs] at ha
      rw [mw_kind]
      dsimp only
      rw [if_pos (by decide)]
      exact ha
  show wpAny _ _ (checkBoundCall "list.__contains__" ⟨[.ref a, v], []⟩ >>= fun _ => again (.builtin "list.__contains__" ⟨[.ref a, v], []⟩)) _ _ _
  rw [hck]
  refine wpAny_pure (And.intro (plainId_quiet F.slot_list_contains.plain _) (codeAny_builtin F.entry_list_contains ?_))
  rw [Around.under_plainId F.slot_list_contains.plain _]
  exact SeqAt.list_containsAt a xs n none #[] v e prog w A _ s ⟨hx, he, h⟩

theorem mw_v {s : Shared} {h₀ : Heap} {L : Addr} {m : Str → Option Value} {news : List (Addr × Obj)} {Q : Value → Shared → Prop} {xs : Array Value} {n : Nat} (F : Fr h₀ L s.heap m) (N : News h₀ L s.heap news) (hx : s.heap.get? a = some (PySem.W.listOf xs n))
    (hq : ∀ q h' tk, Fr h₀ L h' m → News h₀ L h' ((q, mwObj a) :: news) → (∀ p ∈ news, p.1 < q) → Q (.ref q) { s with heap := h', toks := tk }) :
    wpAny (model prog w) A (getAttr (.ref a) (Str.ofString "__contains__") true) Q E s := by
  obtain ⟨h, g, d, t, os⟩ := s
  exact mw_attr hx fun tk => hq _ _ tk (F.push _) (News.push F N _) fun p hp => Heap.lt_size (N p hp).1
end

theorem at_P10b_Iter : True := by
  w_top off
  trivial
abbrev liObj (a : Addr) (i : Nat) : Obj := { cls := .type "list_iterator", data := .fields #[.ref a, rawInt i] }
abbrev liEnd (i : Nat) : Obj := { cls := .type "list_iterator", data := .fields #[.none, rawInt i] }
section
variable {prog : Program} {w : World} {A : Around} {E : Value → Shared → Prop} {s : Shared} {h₀ : Heap} {L it a : Addr} {m : Str → Option Value} {news news' : List (Addr × Obj)} {i : Nat} {vs : List Value} {n : Nat}

theorem get_ge {h : Heap} {b : Addr} (e : h.objs.size ≤ b) : h.get? b = none := by
  cases q : h.get? b with
  | none => rfl
  | some o => exact absurd (Heap.lt_size q) (Nat.not_lt.mpr e)
theorem li_at (i : Nat) {h : Heap} (e : h.get? it = some (liObj a i)) : h.IsListIter it a i := ⟨_, e, rfl, rfl⟩
theorem iter_v {Q : Value → Shared → Prop} (F : Fr h₀ L s.heap m) (N : News h₀ L s.heap news) (hl : s.heap.get? a = some (PySem.W.listOf vs.toArray n))
    (h : ∀ q h', Fr h₀ L h' m → News h₀ L h' ((q, liObj a 0) :: news) → (∀ p ∈ news, p.1 < q) → Q (.ref q) { s with heap := h' }) :
    wpAny (model prog w) A (call (.builtin "iter") [.ref a]) Q E s := by
  refine call_function_entry (by decide +kernel) (by decide +kernel) kdk_entry_iter (kdk_args_iter _) ?_
  unfold Builtin.«iter»
  refine wpAny_bind (m := someArgs "iter" 1 2 _) (wpAny_of_eq (a := [Value.ref a]) (by first | rfl | kernel_rfl!) ?_)
  dsimp only
  refine wpAny_bind (wpAny_pyIter_list (items := vs.toArray) ⟨_, hl, rfl, _, rfl⟩ ?_)
  exact wpAny_pure ⟨_, rfl, h _ _ (F.push _) (News.push F N _) fun q hq => Heap.lt_size (N q hq).1⟩
theorem li_item {R : Option Value → Shared → Prop} {x : Value} (hit : s.heap.get? it = some (liObj a i)) (hl : s.heap.get? a = some (PySem.W.listOf vs.toArray n)) (hx : vs[i]? = some x)
    (h : ∀ h', h'.get? it = some (liObj a (i + 1)) → Heap.SameBut it s.heap h' → R (some x) { s with heap := h' }) : wpAny (model prog w) A (callSpecial? (.ref it) (Str.ofString "__next__")) R E s := by
  refine wpAny_callSpecial?_slot (name := Str.ofString "__next__") (li_at i hit).typeIs slot_listiter_next
    (wpAny_call_entry slot_listiter_next (li_at i hit).typeIs entry_listiter_next ?_ (args_listiter_next _))
  show wpAny _ _ (field (.ref it) 0 >>= _) _ _ s
  refine wpAny_bind (wpAny_field hit rfl (x := .ref a) rfl ?_)
  show wpAny _ _ (if (Value.ref a == Value.none) = true then _ else _) _ _ s
  rw [if_neg (show ¬ ((Value.ref a == Value.none) = true) from Bool.false_ne_true)]
  show wpAny _ _ (field (.ref it) 1 >>= _) _ _ s
  refine wpAny_bind (wpAny_field hit rfl (x := .int i 0) rfl ?_)
  show wpAny _ _ (seqItems? (.ref a) >>= _) _ _ s
  refine wpAny_bind (wpAny_seqItems hl rfl ?_)
  simp only [Int.toNat_natCast, List.getElem?_toArray, hx]
  refine wpAny_bind (wpAny_setField hit rfl (by simp) (wpAny_pure ⟨x, rfl, h _ ?_ (Heap.SameBut.update ..)⟩))
  exact Heap.get?_update_self _ hit (Obj.isFreed_of_fields (Obj.data_mapFields rfl _))
theorem li_end {R : Option Value → Shared → Prop} (hh : A.handled = none) (hit : s.heap.get? it = some (liObj a i)) (hl : s.heap.get? a = some (PySem.W.listOf vs.toArray n)) (hx : vs[i]? = none)
    (h : ∀ h' h'' e, h'.get? it = some (liEnd i) → Heap.SameBut it s.heap h' → Heap.MadeExcOf h' h'' e (.type "StopIteration") [] → E (.ref e) { s with heap := h'' }) : wpAny (model prog w) A (callSpecial? (.ref it) (Str.ofString "__next__")) R E s := by
  refine wpAny_callSpecial?_slot (name := Str.ofString "__next__") (li_at i hit).typeIs slot_listiter_next
    (wpAny_call_entry slot_listiter_next (li_at i hit).typeIs entry_listiter_next ?_ (args_listiter_next _))
  show wpAny _ _ (field (.ref it) 0 >>= _) _ _ s
  refine wpAny_bind (wpAny_field hit rfl (x := .ref a) rfl ?_)
  show wpAny _ _ (if (Value.ref a == Value.none) = true then _ else _) _ _ s
  rw [if_neg (show ¬ ((Value.ref a == Value.none) = true) from Bool.false_ne_true)]
  show wpAny _ _ (field (.ref it) 1 >>= _) _ _ s
  refine wpAny_bind (wpAny_field hit rfl (x := .int i 0) rfl ?_)
  show wpAny _ _ (seqItems? (.ref a) >>= _) _ _ s
  refine wpAny_bind (wpAny_seqItems hl rfl ?_)
  simp only [Int.toNat_natCast, List.getElem?_toArray, hx]
  refine wpAny_bind (wpAny_rule (wpAny_bind (wpAny_setField hit rfl (by simp) ?_)))
  show wpAny _ _ (newExc (.type "StopIteration") [] >>= _) _ _ _
  refine wpAny_bind ?_
  simp only [newExc, newTuple]
  refine wpAny_bind (wpAny_newObj_type ?_ (by size_fits))
  refine wpAny_bind (m := firstArgMember _ _) (wpAny_of_eq (a := Value.none) (by first | rfl | (simp only [firstArgMember]; rfl)) ?_)
  refine wpAny_newObj_type ?_ (by size_fits)
  simp only [raiseNew]
  refine wpAny_bind (wpAny_handled ?_)
  first | rw [show A.in1.handled = none from hh] | rw [hh]
  refine wpAny_bind (wpAny_pure (wpAny_throw ?_))
  refine h _ _ _ (Heap.get?_update_self _ hit (Obj.isFreed_of_fields (Obj.data_mapFields rfl _))) (Heap.SameBut.update ..) ⟨fun b o e => Heap.get?_push_of_some _ (Heap.get?_push_of_some _ e), ?_, ⟨_, Heap.get?_push_size _ rfl, ?_, ?_⟩⟩
  · exact get_ge (by rw [Heap.size_push]; omega)
  · exact get_ge (Nat.le_refl _)
  · exact Heap.get?_push_of_some _ (Heap.get?_push_size _ rfl)
theorem next_item {Q : Value → Shared → Prop} {x : Value} {g : Obj → List (Addr × Obj)} (F : Fr h₀ L s.heap m) (N : News h₀ L s.heap news) (U : UpdF it (liObj a i) news g) (hl : s.heap.get? a = some (PySem.W.listOf vs.toArray n)) (hx : vs[i]? = some x)
    (h : ∀ h', Fr h₀ L h' m → News h₀ L h' (g (liObj a (i + 1))) → Q x { s with heap := h' }) :
    wpAny (model prog w) A (call (.builtin "next") [.ref it]) Q E s := by
  obtain ⟨pre, post, hl', hg, ha, hb⟩ := U.split
  have hm := N (it, liObj a i) (by rw [hl']; exact List.mem_append_right _ (.head _))
  refine call_function_entry (by decide +kernel) (by decide +kernel) kdk_entry_next (kdk_args_next _) ?_
  unfold Builtin.«next»
  refine wpAny_bind (m := someArgs "next" 1 2 _) (wpAny_of_eq (a := [Value.ref it]) (by first | rfl | kernel_rfl!) ?_)
  dsimp only
  refine wpAny_bind (wpAny_specialOf (name := Str.ofString "__next__") (li_at i hm.1).typeIs slot_listiter_next.lookup ?_)
  refine wpAny_ite_split (fun hab => absurd hab (by decide)) (fun _ => ?_)
  refine wpAny_bind (li_item hm.1 hl hx fun h' hit' hs => ?_)
  exact wpAny_pure ⟨_, rfl, h h' (F.change hs hm.2.1 hm.2.2) (hg (liObj a (i + 1)) ▸ (show News h₀ L s.heap (pre ++ (it, liObj a i) :: post) from hl' ▸ N).setIn ha hb hs hit')⟩
theorem next_end {Q : Value → Shared → Prop} {g : Obj → List (Addr × Obj)} (hh : A.handled = none) (F : Fr h₀ L s.heap m) (N : News h₀ L s.heap news) (U : UpdF it (liObj a i) news g) (hl : s.heap.get? a = some (PySem.W.listOf vs.toArray n)) (hx : vs[i]? = none)
    (h : ∀ h' h'' e, Fr h₀ L h' m → News h₀ L h' (g (liEnd i)) → Heap.MadeExcOf h' h'' e (.type "StopIteration") [] → E (.ref e) { s with heap := h'' }) :
    wpAny (model prog w) A (call (.builtin "next") [.ref it]) Q E s := by
  obtain ⟨pre, post, hl', hg, ha, hb⟩ := U.split
  have hm := N (it, liObj a i) (by rw [hl']; exact List.mem_append_right _ (.head _))
  refine call_function_entry (by decide +kernel) (by decide +kernel) kdk_entry_next (kdk_args_next _) ?_
  unfold Builtin.«next»
  refine wpAny_bind (m := someArgs "next" 1 2 _) (wpAny_of_eq (a := [Value.ref it]) (by first | rfl | kernel_rfl!) ?_)
  dsimp only
  refine wpAny_bind (wpAny_specialOf (name := Str.ofString "__next__") (li_at i hm.1).typeIs slot_listiter_next.lookup ?_)
  refine wpAny_ite_split (fun hab => absurd hab (by decide)) (fun _ => ?_)
  refine wpAny_bind (li_end hh hm.1 hl hx fun h' h'' e hit' hs he => ?_)
  exact h h' h'' e (F.change hs hm.2.1 hm.2.2) (hg (liEnd i) ▸ (show News h₀ L s.heap (pre ++ (it, liObj a i) :: post) from hl' ▸ N).setIn ha hb hs hit') he
end

theorem at_P11_FNext : True := by
  w_top off
  trivial
local macro_rules | `(tactic| walk_at "cls_diff") => `(tactic| (intro e; have h := congrArg Obj.cls e; first | (exact absurd (Value.type.inj h) (by decide)) | (cases h)))
section
variable {w : World} {A : Around} {s : Shared} {h₀ : Heap} {L : Addr} {m : Str → Option Value} {env : Env} {rest : List (Addr × Obj)} {Q E : Value → Shared → Prop}

def keepEl (ks : List El) (x : El) : Bool := !(ks.any fun y => y.2.1 == x.2.1 && y.2.2.1 == x.2.2.1)
/-- the filter, made -/
abbrev ffObj (d it q : Addr) : Obj := { cls := .ref 116, dict := some d, data := .plain, slots := #[some (.ref q), some (.ref it)] }

theorem cls_ref_ne {C : Addr} {o : Obj} (h : o.cls = .ref C) : o.cls ≠ .type "tuple" := by rw [h]; intro e; cases e
theorem cls_type_ne {n : String} {o : Obj} (h : o.cls = .type n) (hn : n ≠ "tuple") : o.cls ≠ .type "tuple" := by rw [h]; intro e; exact hn (Value.type.inj e)

theorem mw_callWith_of {M : Model} {q a : Addr} {pos : Pos} {first : List Value} {args : List (Bool × Sem Value)} (hplain : args.any (·.1) = false)
    (h : wpAny M A (evalArgs (.ref q) true args []) (fun x s₁ => s₁.heap.get? q = some (mwObj a) ∧ wpAny M A (call (.ref q) (first ++ x.pos) x.kw) Q E s₁) E s) : wpAny M A (callWith pos (.ref q) first args []) Q E s := by
  unfold callWith
  refine wpAny_bind (wpAny_holding (wpAny_mono h (fun x s₁ h₁ => wpAny_bind (wpAny_standAt ?_)) fun _ _ x => x))
  obtain ⟨ho, hcall⟩ := h₁
  simp only [hplain, List.any_nil, Bool.or_false]
  refine wpAny_bind (m := keeperOf (.ref q)) ?_
  unfold keeperOf
  refine wpAny_bind (wpAny_load ho ?_)
  simp only [mwObj, show (Value.type "method-wrapper" != Value.type "method") = true by decide, show (Value.type "method-wrapper" == Value.type "builtin_function_or_method" || Value.type "method-wrapper" == Value.type "method-wrapper") = true by decide, if_true]
  refine wpAny_pure ?_
  exact wpAny_bind (wpAny_mono hcall (fun r s₂ hr => wpAny_bind (wpAny_holding (wpAny_point (wpAny_pure hr)))) fun _ _ x => x)
theorem mw_callWith {M : Model} {q a : Addr} {pos : Pos} {first : List Value} {env : Env} {e : Expr} {rest : List Expr}
    (h : wpAny M A (spliced (backTo pos (starEach (e :: rest) env))) (fun vs s₁ => s₁.heap.get? q = some (mwObj a) ∧ wpAny M A (call (.ref q) (first ++ vs)) Q E s₁) E s)
    (he : starEach (e :: rest) env = (false, eval e env) :: starEach rest env := by rfl) (hplain : (backTo pos (starEach rest env)).any (·.1) = false := by rfl) :
    wpAny M A (callWith pos (.ref q) first (backTo pos (starEach (e :: rest) env)) []) Q E s := by
  rw [he] at h ⊢
  refine mw_callWith_of (a := a) (by show (false || (backTo pos (starEach rest env)).any (·.1)) = false; rw [hplain]; rfl) ?_
  exact evalArgs_plain h

theorem elF_same {h : Heap} {x y : El} (hx : ElF h x) (hy : ElF h y) (e : x.1 = y.1) : x.2.1 = y.2.1 ∧ x.2.2.1 = y.2.2.1 := by
  obtain ⟨a, t, u, e1, e2, _⟩ := hx
  obtain ⟨b, t', u', f1, f2, _⟩ := hy
  rw [e1, f1] at e
  cases e
  rw [e2] at f2
  injection f2 with f2
  injection f2 with _ _ f2 _
  simp [tup] at f2
  exact ⟨f2.1.1, f2.2.1⟩
open Classical in
theorem contains_el {prog : Program} {q sa : Addr} {ks : List El} {k : Nat} {v : El} (hq : s.heap.get? q = some (mwObj sa)) (hsa : s.heap.get? sa = some (lst ks k)) (hok : ∀ e ∈ ks, ElF s.heap e) (hv : ElF s.heap v) (hu : A.units + 1 < cLine)
    (h : Q (.bool (!(keepEl ks v))) s) : wpAny (model prog w) A (call (.ref q) [v.1]) Q E s := by
  have hf : ∀ z0 ∈ ks, decide (∃ z ∈ ks, z.1 = z0.1 ∧ (z.2.1 == v.2.1 && z.2.2.1 == v.2.2.1) = true) = (z0.2.1 == v.2.1 && z0.2.2.1 == v.2.2.1) := by
    intro z0 h0
    rw [Bool.eq_iff_iff, decide_eq_true_iff]
    constructor
    · rintro ⟨z, hz, e, hm⟩
      obtain ⟨e1, e2⟩ := elF_same (hok z hz) (hok z0 h0) e
      rw [← e1, ← e2]; exact hm
    · intro hm
      exact ⟨z0, h0, rfl, hm⟩
  refine mw_call (xs := (ks.map Prod.fst).toArray) (n := k) (fun y => decide (∃ z ∈ ks, z.1 = y ∧ (z.2.1 == v.2.1 && z.2.2.1 == v.2.2.1) = true)) hq hsa ?_ ?_
  · intro y hy
    have hy' : y ∈ ks.map Prod.fst := by simpa using hy
    obtain ⟨z0, h0, rfl⟩ := List.mem_map.mp hy'
    intro prog w E Q hQ
    have e0 := hf z0 h0
    obtain ⟨a, t, u, e1, e2, _⟩ := hok z0 h0
    obtain ⟨b, t', u', f1, f2, _⟩ := hv
    rw [e1, f1]
    refine eqb_flat (by show A.units + 1 < cLine; omega) e2 f2 ?_
    rw [← e0]
    exact hQ
  · have e : (ks.map Prod.fst).toArray.any (fun y => decide (∃ z ∈ ks, z.1 = y ∧ (z.2.1 == v.2.1 && z.2.2.1 == v.2.2.1) = true)) = !(keepEl ks v) := by
      unfold keepEl
      rw [Bool.not_not, List.any_toArray, List.any_map]
      rw [Bool.eq_iff_iff, List.any_eq_true, List.any_eq_true]
      constructor
      · rintro ⟨z, hz, hh⟩
        exact ⟨z, hz, (hf z hz) ▸ hh⟩
      · rintro ⟨z, hz, hh⟩
        exact ⟨z, hz, (hf z hz).trans hh⟩
    rw [e]; exact h

/-- while, the body's end a name of its own: a body that goes on or returns -/
theorem While_r {prog : Program} {E : Value → Shared → Prop} {Q : Flow → Shared → Prop} {test : Expr} {body : List Stmt} {pos : Pos} {m : Str → Option Value} {news : List (Addr × Obj)} (J : Nat → (Str → Option Value) → List (Addr × Obj) → Prop) {n₀ : Nat}
    (F : Fr h₀ L s.heap m) (N : News h₀ L s.heap news) (hJ : J n₀ m news)
    (turn : ∀ n m₁ nx h tk (Qb : Flow → Shared → Prop), (∀ h' tk' m' nx' n', Fr h₀ L h' m' → News h₀ L h' nx' → n' < n → J n' m' nx' → Qb .next { s with heap := h', toks := tk' }) →
      (∀ v s', Q (.ret v) s' → Qb (.ret v) s') → Fr h₀ L h m₁ → News h₀ L h nx → J n m₁ nx →
      wpAny (model prog w) A (isTrue test env (eval test env)) (fun b s₂ =>
        if b = true then wpAny (model prog w) A (execs body env) Qb E s₂ else Q .next s₂) E { s with heap := h, toks := tk })
    (hE : PassesOwn (model prog w) A env E := by passes_own) :
    wpAny (model prog w) A (exec (.While test body [] pos) env) Q E s :=
  While_inv2 J F N hJ (fun n m₁ nx h tk f nn j => turn n m₁ nx h tk _ (fun _ _ _ _ n' a b c d => ⟨_, _, _, _, n', rfl, a, b, c, d⟩) (fun _ _ x => x) f nn j) hE
inductive FnInv (L' fa it x d q : Addr) (xs ks : List El) (i : Nat) (n : Nat) (m : Str → Option Value) (nx : List (Addr × Obj)) : Prop
  | mk (j : Nat) (h1 : n = xs.length - j) (h2 : j ≤ xs.length) (h3 : nx = [(it, liObj fa j), (x, ffObj d it q), (d, emptyDict)]) (h4 : m (Str.ofString "self") = some (.ref x)) (h5 : m (Str.ofString "func") = some (.ref q)) (h6 : (xs.drop i).filter (keepEl ks) = (xs.drop j).filter (keepEl ks))

theorem ffnext_ok {fa sa it x d q : Addr} {xs ks : List El} {n k i : Nat} {Q : Option Value → Shared → Prop} (C : Cx w A env h₀ L) (R : Room 4 A) (F : Fr h₀ L s.heap m)
    (N : News h₀ L s.heap ([(it, liObj fa i), (x, ffObj d it q), (d, emptyDict)] ++ rest)) (l1 : @LT.lt Nat _ d x) (l2 : @LT.lt Nat _ x it) (hoff : ∀ p ∈ rest, p.1 ≠ it ∧ p.1 ≠ x ∧ p.1 ≠ d)
    (hfa : s.heap.get? fa = some (lst xs n)) (hsa : s.heap.get? sa = some (lst ks k)) (hq : s.heap.get? q = some (mwObj sa)) (hlen : xs.length < 2 ^ 20) (hok : ∀ e ∈ xs, ElF s.heap e) (hok2 : ∀ e ∈ ks, ElF s.heap e) (hi : i ≤ xs.length)
    (hsome : ∀ e j h₀' h' tk, (xs.drop i).filter (keepEl ks) = e :: (xs.drop j).filter (keepEl ks) → j ≤ xs.length → Turned A h₀ h₀' → Cx w A env h₀' L → Fr h₀' L h' m → News h₀' L h' ([(it, liObj fa j), (x, ffObj d it q), (d, emptyDict)] ++ rest) → Q (some e.1) { s with heap := h', toks := tk })
    (hnone : ∀ j h₀' h' tk, (xs.drop i).filter (keepEl ks) = [] → Turned A h₀ h₀' → Cx w A env h₀' L → Fr h₀' L h' m → News h₀' L h' ([(it, liEnd j), (x, ffObj d it q), (d, emptyDict)] ++ rest) → Q none { s with heap := h', toks := tk }) :
    wpAny (model PySem.Challenge.rw_ik0004_01.row.prog w) A (pyNext (.ref x)) Q E s := by
  have hx := (N (x, ffObj d it q) (by simp)).1
  have hd := (N (d, emptyDict) (by simp)).1
  have hit := (N (it, liObj fa i) (by simp)).1
  have off : ∀ b o, s.heap.get? b = some o → o ≠ liObj fa i → o ≠ ffObj d it q → o ≠ emptyDict → b ∉ ([(it, liObj fa i), (x, ffObj d it q), (d, emptyDict)] : List (Addr × Obj)).map (·.1) := by
    intro b o e n1 n2 n3 hm
    have : b = it ∨ b = x ∨ b = d := by simpa using hm
    rcases this with rfl | rfl | rfl
    · rw [hit] at e; exact n1 (Option.some.inj e).symm
    · rw [hx] at e; exact n2 (Option.some.inj e).symm
    · rw [hd] at e; exact n3 (Option.some.inj e).symm
  have I : InstAt s.heap x (ffObj d it q) 116 (some emptyDict) := ⟨hx, rfl, rfl, hd⟩
  k_dflt (refine' owit_next F C.X I ?hs ?hf ?_; (case hs => k_is); (case hf => k_is))
  refine wpAny_call ?_
  k_dflt (refine' callT (E := OwitStop _ _ _ _) (W := [(it, liObj fa i), (x, ffObj d it q), (d, emptyDict)]) (rest := rest) (args := ⟨[.ref x], []⟩) (binds := [(Str.ofString "self", .ref x)]) C R F N ?k6 ?k7 ?k9 ?kB ?kO ?kW ?_ ?c2 ?c3 ?c4 ?c5; (case k6 => k_is); (case k7 => k_is); (case k9 => exact BindsTo.of_eq rfl); (case kB => exact locs rfl);  (case c5 => decide); (case c2 => exact rfl); (case c3 => exact rfl); (case c4 => exact rfl))
  case kO =>
    intro p hp hm
    have : p.1 = it ∨ p.1 = x ∨ p.1 = d := by simpa using hm
    obtain ⟨a, b, c⟩ := hoff p hp
    rcases this with h | h | h
    · exact a h
    · exact b h
    · exact c h
  case kW =>
    intro p hp
    rcases List.mem_cons.mp hp with e | hp
    · rw [e]; exact cls_type_ne rfl (by decide)
    rcases List.mem_cons.mp hp with e | hp
    · rw [e]; exact cls_ref_ne rfl
    · rw [List.mem_singleton.mp hp]; exact cls_type_ne rfl (by decide)
  intro g L' h₁ mean mg mb R' F' N' C' X' T' big tk lt lv
  have hsg : g.get? sa = some (lst ks k) := big _ _ hsa (off _ _ hsa (by walk_at "cls_diff") (by walk_at "cls_diff") (by walk_at "cls_diff"))
  have hfg : g.get? fa = some (lst xs n) := big _ _ hfa (off _ _ hfa (by walk_at "cls_diff") (by walk_at "cls_diff") (by walk_at "cls_diff"))
  have hqg : g.get? q = some (mwObj sa) := big _ _ hq (off _ _ hq (by walk_at "cls_diff") (by walk_at "cls_diff") (by walk_at "cls_diff"))
  have hokg : ∀ e ∈ xs, ElF g e := fun e he => ElOk.keeps (fl := true) (hok e he) tk
  have hok2g : ∀ e ∈ ks, ElF g e := fun e he => ElOk.keeps (fl := true) (hok2 e he) tk
  walk_at "MW"
  clear hx hd hit I off
  rename Fr _ _ _ _ => F1
  rename News _ _ _ _ => N1
  k_lt2 l2
  refine gn fun Qo hqo => ?_
  refine While_r (n₀ := xs.length - i) (FnInv L' fa it x d q xs ks i) F1 N1 ⟨i, rfl, hi, rfl, rfl, rfl, rfl⟩ ?_
  clear F1 N1
  rintro p m₁ nx h₁ tk₁ Qb hn hb F₁ N₁ ⟨j, rfl, hj, rfl, hm1, hm2, hfil⟩
  replace F₁ := Fr.sees [(Str.ofString "self", Value.ref x), (Str.ofString "func", Value.ref q)] F₁ (seesc hm1 (seesc hm2 sees0))
  walk_at "MW"
  rcases Nat.lt_or_ge j xs.length with hj1 | hj1
  · have hx : xs[j]? = some (xs.getD j dEl) := by simp [hj1]
    have hd : xs.drop j = xs.getD j dEl :: xs.drop (j + 1) := by
      rw [List.drop_eq_getElem_cons hj1]
      simp [List.getD_eq_getElem?_getD, hj1]
    have hmem : xs.getD j dEl ∈ xs := by
      have := List.mem_of_getElem? hx
      exact this
    refine next_item (x := (xs.getD j dEl).1) (vs := xs.map Prod.fst) (n := n) F₁ N₁ (by k_updF) (F₁.keep _ _ hfg) (by rw [List.getElem?_map, hx]; rfl) ?_
    intro h2 F2 N2
    (try dsimp only at N2)
    walk_at "MW"
    rename Fr _ _ _ _ => F3
    rename News _ _ _ _ => N3
    refine mw_callWith (a := sa) ?_
    walk_at "MW"
    rename Fr _ _ _ _ => F4
    refine contains_el (q := q) (sa := sa) (ks := ks) (k := k) (v := xs.getD j dEl) ?k1 ?k2 ?k3 ?k4 ?k5 ?_
    case k1 => exact F4.keep _ _ hqg
    case k2 => exact F4.keep _ _ hsg
    case k3 => exact fun e he => ElOk.keeps (fl := true) (hok2g e he) fun b vs e => F4.keep _ _ e
    case k4 => exact ElOk.keeps (fl := true) (hokg _ hmem) fun b vs e => F4.keep _ _ e
    case k5 => exact Room.un R' (by decide)
    cases hk : keepEl ks (xs.getD j dEl) with
    | true =>
      walk_at "MW"
      rename Fr _ _ _ _ => F5
      rename News _ _ _ _ => N5
      refine hb _ _ (hqo _ _ ⟨g, _, _, C'.refl, F5, N5, fun h₀' T0 C0 Fb Nb => ?_⟩)
      refine hsome (xs.getD j dEl) (j + 1) h₀' _ _ ?_ hj1 T0 C0 Fb Nb
      rw [hfil, hd, List.filter_cons, if_pos hk]
    | false =>
      walk_at "MW"
      rename Fr _ _ _ _ => F5
      rename News _ _ _ _ => N5
      refine hn _ _ _ _ (xs.length - (j + 1)) F5 N5 (by omega) ⟨j + 1, rfl, hj1, rfl, rfl, rfl, ?_⟩
      rw [hfil, hd, List.filter_cons, if_neg (by rw [hk]; simp)]
  · refine next_end (vs := xs.map Prod.fst) (n := n) C'.hh F₁ N₁ (by k_updF) (F₁.keep _ _ hfg) (List.getElem?_eq_none (by rw [List.length_map]; exact hj1)) ?_
    intro h2 h3 e F2 N2 hmade
    refine lv _ _ _ _ _ _ _ hmade F2 N2 fun h' rz => ?_
    refine Rz.stop C rz fun h₀' T0 C0 Fb Nb => ?_
    refine hnone j h₀' _ _ ?_ T0 C0 Fb Nb
    rw [hfil, List.drop_eq_nil_of_le hj1]
    rfl
end

theorem at_P11b_ListFf : True := by
  w_top off
  trivial
section
variable {w : World} {A : Around} {s : Shared} {h₀ : Heap} {L : Addr} {m : Str → Option Value} {env : Env} {rest : List (Addr × Obj)} {Q E : Value → Shared → Prop}

abbrev ffLed (it : Addr) (io : Obj) (x d q : Addr) : List (Addr × Obj) := [(it, io), (x, ffObj d it q), (d, emptyDict)]

theorem ff_loop {fa sa it x d q S : Addr} {xs ks : List El} {n k : Nat} {Rr : Result → Shared → Prop} (res : Value) (C : Cx w A env h₀ L) (R : Room 5 A) (l1 : @LT.lt Nat _ d x) (l2 : @LT.lt Nat _ x it)
    (hoff : ∀ p ∈ rest, p.1 ≠ it ∧ p.1 ≠ x ∧ p.1 ≠ d ∧ p.1 ≠ S) (hS : S ≠ it ∧ S ≠ x ∧ S ≠ d) (hfa : h₀.get? fa = some (lst xs n)) (hsa : h₀.get? sa = some (lst ks k)) (hq : (q, mwObj sa) ∈ rest) (hlen : xs.length < 2 ^ 20)
    (hok : ∀ e ∈ xs, ElF h₀ e) (hok2 : ∀ e ∈ ks, ElF h₀ e) :
    ∀ (ys : List El) (i c : Nat) (acc : List El) (h₀' : Heap) (s : Shared), (xs.drop i).filter (keepEl ks) = ys → i ≤ xs.length → acc.length + ys.length < 2 ^ 20 → Turned A h₀ h₀' → Cx w A env h₀' L → Fr h₀' L s.heap m →
      News h₀' L s.heap (ffLed it (liObj fa i) x d q ++ ((S, lst acc c) :: rest)) →
      (∀ h₀'' h' tk c' j, Turned A h₀ h₀'' → Cx w A env h₀'' L → Fr h₀'' L h' m → News h₀'' L h' (ffLed it (liEnd j) x d q ++ ((S, lst (acc ++ ys) c') :: rest)) → Rr (.ok (.ret res)) { s with heap := h', toks := tk }) →
      codeAny (model PySem.Challenge.rw_ik0004_01.row.prog w) A (.builtin "list.extend.loop" ⟨[.ref S, .ref x, res], []⟩) Rr s := by
  intro ys
  induction ys with
  | nil =>
    intro i c acc h₀' s hf hi hl T C' F N hR
    refine codeAny_builtin PySem.F.entry_extend_loop ?_
    rw [Around.under_plainId PySem.F.plain_extend_loop _]
    show wpAny _ A.in1 (pyNext (.ref x) >>= _) _ _ s
    have hq' := (N (q, mwObj sa) (List.mem_append_right _ (.tail _ hq))).1
    refine wpAny_bind (ffnext_ok (fa := fa) (sa := sa) (rest := (S, lst acc c) :: rest) (xs := xs) (ks := ks) (n := n) (k := k) (C'.same rfl rfl) (R.in1) F N l1 l2 ?_ (F.keep _ _ (C.get T hfa (by intro _ _ h; cases h))) (F.keep _ _ (C.get T hsa (by intro _ _ h; cases h))) hq' hlen ?_ ?_ hi ?_ ?_)
    · exact allc (hS) (fun p hp => ⟨(hoff p hp).1, (hoff p hp).2.1, (hoff p hp).2.2.1⟩)
    · exact fun e he => ElOk.keeps (fl := true) (hok e he) fun b vs e => F.keep _ _ (C.get T e (by intro _ _ h; cases h))
    · exact fun e he => ElOk.keeps (fl := true) (hok2 e he) fun b vs e => F.keep _ _ (C.get T e (by intro _ _ h; cases h))
    · intro e j h₂ h' tk h
      rw [hf] at h
      cases h
    · intro j h₂ h' tk _ T2 C2 F2 N2
      refine wpAny_pure ?_
      refine hR h₂ h' tk c j (T.trans T2) (C2.same rfl rfl) F2 ?_
      rw [List.append_nil]
      exact N2
  | cons y ys ih =>
    intro i c acc h₀' s hf hi hl T C' F N hR
    refine codeAny_builtin PySem.F.entry_extend_loop ?_
    rw [Around.under_plainId PySem.F.plain_extend_loop _]
    show wpAny _ A.in1 (pyNext (.ref x) >>= _) _ _ s
    have hq' := (N (q, mwObj sa) (List.mem_append_right _ (.tail _ hq))).1
    refine wpAny_bind (ffnext_ok (fa := fa) (sa := sa) (rest := (S, lst acc c) :: rest) (xs := xs) (ks := ks) (n := n) (k := k) (C'.same rfl rfl) (R.in1) F N l1 l2 ?_ (F.keep _ _ (C.get T hfa (by intro _ _ h; cases h))) (F.keep _ _ (C.get T hsa (by intro _ _ h; cases h))) hq' hlen ?_ ?_ hi ?_ ?_)
    · exact allc (hS) (fun p hp => ⟨(hoff p hp).1, (hoff p hp).2.1, (hoff p hp).2.2.1⟩)
    · exact fun e he => ElOk.keeps (fl := true) (hok e he) fun b vs e => F.keep _ _ (C.get T e (by intro _ _ h; cases h))
    · exact fun e he => ElOk.keeps (fl := true) (hok2 e he) fun b vs e => F.keep _ _ (C.get T e (by intro _ _ h; cases h))
    · intro e j h₂ h' tk h hj T2 C2 F2 N2
      rw [hf] at h
      injection h with h1 h2
      subst h1
      show wpAny _ A.in1 (updateSeq S (·.push y.1) >>= _) _ _ _
      have hSat := (N2 (S, lst acc c) (List.mem_append_right _ (.head _))).1
      have hz := N2 (S, lst acc c) (List.mem_append_right _ (.head _))
      refine wpAny_bind ?_
      refine wpAny_updateSeq hSat rfl (wpAny_pure ⟨plainId_quiet PySem.F.plain_extend_loop _, ?_⟩) ?_ ?_
      · refine ih j (c + 1) (acc ++ [y]) h₂ _ h2.symm hj (by simp at hl ⊢; omega) (T.trans T2) (C2.same rfl rfl) (F2.change (Heap.SameBut.update ..) hz.2.1 hz.2.2) (ki_turn (pre := ffLed it (liObj fa j) x d q) (its := (acc.map Prod.fst).toArray) (its' := ((acc ++ [y]).map Prod.fst).toArray) (n := c) (·.push y.1) N2 ?_ ?_ ?_ ?_) fun h₃ h₄ tk' c' j' T3 C3 F3 N3 => ?_
        · intro p hp
          have : p = (it, liObj fa j) ∨ p = (x, ffObj d it q) ∨ p = (d, emptyDict) := by simpa using hp
          rcases this with rfl | rfl | rfl
          · exact fun h => hS.1 h.symm
          · exact fun h => hS.2.1 h.symm
          · exact fun h => hS.2.2 h.symm
        · exact fun p hp => (hoff p hp).2.2.2
        · simp
        · simp
        · have := hR h₃ h₄ tk' c' j' T3 C3 F3 (by simpa using N3)
          exact this
      · simp [sizeLine_eq] at hl ⊢; omega
      · simp [sizeLine_eq] at hl ⊢; omega
    · intro j h₂ h' tk h
      rw [hf] at h
      cases h

theorem ff_iter {it x d q : Addr} {io : Obj} (C : Cx w A env h₀ L) (R : Room 5 A) (F : Fr h₀ L s.heap m) (N : News h₀ L s.heap (ffLed it io x d q ++ rest)) (hio : io.cls = .type "list_iterator")
    (hQ : ∀ h' tk, Fr h₀ L h' m → News h₀ L h' (ffLed it io x d q ++ rest) → Q (.ref x) { s with heap := h', toks := tk }) :
    wpAny (model PySem.Challenge.rw_ik0004_01.row.prog w) A (pyIter (.ref x)) Q NoE s := by
  have hx := (N (x, ffObj d it q) (by simp)).1
  have hd := (N (d, emptyDict) (by simp)).1
  have I : InstAt s.heap x (ffObj d it q) 116 (some emptyDict) := ⟨hx, rfl, rfl, hd⟩
  k_dflt (refine' owit_iter F C.X I ?hs ?hf ?_; (case hs => k_is); (case hf => k_is))
  k_dflt (refine' callF (W := []) (rest := ffLed it io x d q ++ rest) (args := ⟨[.ref x], []⟩) (binds := [(Str.ofString "self", .ref x)]) C R F N ?k6 ?k7 ?k9 ?kB ?kO ?kW ?_ ?c2 ?c3 ?c4 ?c5; (case k6 => k_is); (case k7 => k_is); (case k9 => exact BindsTo.of_eq rfl); (case kB => exact locs rfl);  (case c5 => decide); (case c2 => exact rfl); (case c3 => exact rfl); (case c4 => exact rfl))
  case kO => intro p hp hm; cases hm
  case kW => intro p hp; cases hp
  intro g L' h₁ mean mg mb R' F' N' C' X' T' big tk lt
  refine gn fun Qo hqo => ?_
  walk_at "MW"
  rename Fr _ _ _ _ => F1
  rename News _ _ _ _ => N1
  refine hqo _ _ (back F1 N1 fun Fb Nb => ?_)
  have I' : InstAt _ x (ffObj d it q) 116 (some emptyDict) := ⟨(Nb (x, ffObj d it q) (by simp)).1, rfl, rfl, (Nb (d, emptyDict) (by simp)).1⟩
  k_dflt (refine' owit_it Fb C.X I' ?hs ?_; (case hs => k_is))
  exact hQ _ _ Fb Nb

theorem ff_extend {fa sa it x d q S : Addr} {xs ks : List El} {n k : Nat} {Rr : Result → Shared → Prop} (res : Value) (C : Cx w A env h₀ L) (R : Room 6 A) (l1 : @LT.lt Nat _ d x) (l2 : @LT.lt Nat _ x it)
    (hoff : ∀ p ∈ rest, p.1 ≠ it ∧ p.1 ≠ x ∧ p.1 ≠ d ∧ p.1 ≠ S) (hS : S ≠ it ∧ S ≠ x ∧ S ≠ d) (hfa : h₀.get? fa = some (lst xs n)) (hsa : h₀.get? sa = some (lst ks k)) (hq : (q, mwObj sa) ∈ rest) (hlen : xs.length < 2 ^ 20)
    (hok : ∀ e ∈ xs, ElF h₀ e) (hok2 : ∀ e ∈ ks, ElF h₀ e) (F : Fr h₀ L s.heap m) (N : News h₀ L s.heap (ffLed it (liObj fa 0) x d q ++ ((S, lst [] 0) :: rest)))
    (hR : ∀ h₀'' h' tk c' j, Turned A h₀ h₀'' → Cx w A env h₀'' L → Fr h₀'' L h' m → News h₀'' L h' (ffLed it (liEnd j) x d q ++ ((S, lst (xs.filter (keepEl ks)) c') :: rest)) → Rr (.ok (.ret res)) { s with heap := h', toks := tk }) :
    wpAny (model PySem.Challenge.rw_ik0004_01.row.prog w) A.in1 (Builtin.List.listExtendWith (.ref S) (.ref x) res)
      (fun fin s' => match fin with | .done f => Rr (.ok f) s' | .again c' => c'.quiet = true ∧ codeAny (model PySem.Challenge.rw_ik0004_01.row.prog w) A c' Rr s') (fun e s' => Rr (.error e) s') s := by
  have hx := (N (x, ffObj d it q) (by simp)).1
  have hd := (N (d, emptyDict) (by simp)).1
  have I : InstAt s.heap x (ffObj d it q) 116 (some emptyDict) := ⟨hx, rfl, rfl, hd⟩
  unfold Builtin.List.listExtendWith
  refine wpAny_bind (I.type.here ?_)
  have h1 : Builtin.List.listSameRef (.ref S) (.ref x) = false := by simp [Builtin.List.listSameRef, hS.2.1]
  have h2 : (Value.ref 116 == Value.type "list") = false := by decide
  have h3 : (Value.ref 116 == Value.type "tuple") = false := by decide
  simp only [h1, h2, h3, Bool.or_false, Bool.false_eq_true, if_false]
  refine wpAny_bind (wpAny_mono (ff_iter (Q := fun v s' => v = .ref x ∧ ∃ h' tk, s' = { s with heap := h', toks := tk } ∧ Fr h₀ L h' m ∧ News h₀ L h' (ffLed it (liObj fa 0) x d q ++ ((S, lst [] 0) :: rest))) (C.same rfl rfl) (R.in1) F N rfl (fun h' tk F' N' => ⟨rfl, h', tk, rfl, F', N'⟩)) (fun v s' hv => ?_) fun _ _ z => z.elim)
  obtain ⟨rfl, h', tk, rfl, F', N'⟩ := hv
  have I' : InstAt h' x (ffObj d it q) 116 (some emptyDict) := ⟨(N' (x, ffObj d it q) (by simp)).1, rfl, rfl, (N' (d, emptyDict) (by simp)).1⟩
  have X' := C.X.keeps F'.keep
  refine wpAny_bind (wpAny_holding ?_)
  unfold Builtin.List.listLengthHint
  refine wpAny_bind ?_
  refine wpAny_bind (I'.type.here ?_)
  k_dflt (refine' (looks_findIn X' ?hs).here ?_; (case hs => k_is))
  show wpAny _ A.in1 (specialOf (Value.ref x) (Str.ofString "__length_hint__") >>= _) _ _ _
  refine wpAny_bind ?_
  refine wpAny_bind (I'.type.here ?_)
  k_dflt (refine' (looks_findIn X' ?hs).here ?_; (case hs => k_is))
  refine wpAny_pure ?_
  show wpAny _ A.in1 (rule "list.extend.makes-room" >>= fun _ => Builtin.List.listTouch (.ref S) >>= fun _ =>
    again (.builtin "list.extend.loop" ⟨[.ref S, .ref x, res], []⟩)) _ _ _
  refine wpAny_bind (wpAny_rule ?_)
  refine wpAny_bind ?_
  have offS : ∀ p ∈ ffLed it (liObj fa 0) x d q, p.1 ≠ S := by
    intro p hp
    have : p = (it, liObj fa 0) ∨ p = (x, ffObj d it q) ∨ p = (d, emptyDict) := by simpa using hp
    rcases this with rfl | rfl | rfl
    · exact fun h => hS.1 h.symm
    · exact fun h => hS.2.1 h.symm
    · exact fun h => hS.2.2 h.symm
  have offR : ∀ p ∈ rest, p.1 ≠ S := fun p hp => (hoff p hp).2.2.2
  have hz := N' (S, lst [] 0) (List.mem_append_right _ (.head _))
  have hS1 := hz.1
  show wpAny _ A.in1 (updateSeq S (·.push .none) >>= fun _ => updateSeq S (·.pop)) _ _ _
  refine wpAny_bind (wpAny_updateSeq hS1 rfl ?_)
  have N2 := ki_turn (pre := ffLed it (liObj fa 0) x d q) (its := (([] : List El).map Prod.fst).toArray) (its' := #[Value.none]) (n := 0) (n' := 1) (·.push Value.none) N' offS offR (by simp) (by simp)
  have F2 : Fr h₀ L _ m := F'.change (Heap.SameBut.update h' S (Obj.mapSeq (·.push Value.none))) hz.2.1 hz.2.2
  have hz2 := N2 (S, PySem.W.listOf #[Value.none] 1) (List.mem_append_right _ (.head _))
  refine wpAny_updateSeq (hz := by simp [sizeLine_eq]) hz2.1 rfl ?_
  have N3 := ki_turn (pre := ffLed it (liObj fa 0) x d q) (its := #[Value.none]) (its' := (([] : List El).map Prod.fst).toArray) (n := 1) (n' := 2) (·.pop) N2 offS offR (by simp) (by simp)
  have F3 : Fr h₀ L _ m := F2.change (Heap.SameBut.update _ S (Obj.mapSeq (·.pop))) hz2.2.1 hz2.2.2
  refine wpAny_pure ⟨plainId_quiet PySem.F.plain_extend_loop _, ?_⟩
  refine ff_loop (rest := rest) res C (R.le (by decide)) l1 l2 hoff hS hfa hsa hq hlen hok hok2 _ 0 2 [] h₀ _ rfl (Nat.zero_le _) ?_ C.refl C F3 N3 ?_
  · rw [List.drop_zero]
    have := List.length_filter_le (keepEl ks) xs
    simp
    omega
  · intro h₂ h₃ tk' c' j T2 C2 F4 N4
    rw [List.drop_zero, List.nil_append] at N4
    exact hR h₂ h₃ tk' c' j T2 C2 F4 N4

theorem list_ff {fa sa it x d q : Addr} {xs ks : List El} {n k : Nat} (C : Cx w A env h₀ L) (R : Room 8 A) (l1 : @LT.lt Nat _ d x) (l2 : @LT.lt Nat _ x it)
    (hoff : ∀ p ∈ rest, p.1 ≠ it ∧ p.1 ≠ x ∧ p.1 ≠ d) (hfa : h₀.get? fa = some (lst xs n)) (hsa : h₀.get? sa = some (lst ks k)) (hq : (q, mwObj sa) ∈ rest) (hlen : xs.length < 2 ^ 20)
    (hok : ∀ e ∈ xs, ElF h₀ e) (hok2 : ∀ e ∈ ks, ElF h₀ e) (F : Fr h₀ L s.heap m) (N : News h₀ L s.heap (ffLed it (liObj fa 0) x d q ++ rest))
    (hQ : ∀ S h₀'' h' tk c' j, Turned A h₀ h₀'' → Cx w A env h₀'' L → Fr h₀'' L h' m → News h₀'' L h' (ffLed it (liEnd j) x d q ++ ((S, lst (xs.filter (keepEl ks)) c') :: rest)) → Q (.ref S) { s with heap := h', toks := tk }) :
    wpAny (model PySem.Challenge.rw_ik0004_01.row.prog w) A (call (.type "list") [.ref x]) Q E s := by
  have hlt : ∀ p ∈ ffLed it (liObj fa 0) x d q ++ rest, p.1 ≠ s.heap.objs.size := fun p hp => Nat.ne_of_lt (Heap.lt_size (N p hp).1)
  have N1 : News h₀ L (s.heap.push { cls := .type "list", data := .seq #[] }) ((s.heap.objs.size, lst [] 0) :: (ffLed it (liObj fa 0) x d q ++ rest)) := News.push F N _
  have F1 : Fr h₀ L (s.heap.push { cls := .type "list", data := .seq #[] }) m := F.push _
  have N2 : News h₀ L (s.heap.push { cls := .type "list", data := .seq #[] }) (ffLed it (liObj fa 0) x d q ++ (s.heap.objs.size, lst [] 0) :: rest) := fun p hp => N1 p (by
    rcases List.mem_append.mp hp with h | h
    · exact .tail _ (List.mem_append_left _ h)
    · rcases List.mem_cons.mp h with rfl | h
      · exact .head _
      · exact .tail _ (List.mem_append_right _ h))
  refine callType_codes (Q₁ := fun obj s₁ => obj = .ref s.heap.objs.size ∧ s₁ = { s with heap := s.heap.push { cls := .type "list", data := .seq #[] } }) PySem.F.called_list (PySem.F.typeCall_list_1 _) PySem.F.entry_list_init
    (code_list_new _ ⟨rfl, rfl⟩) fun obj s₁ h₁ => ?_
  obtain ⟨rfl, rfl⟩ := h₁
  have hS : (s.heap.push { cls := .type "list", data := .seq #[] }).get? s.heap.objs.size = some { cls := .type "list", data := .seq #[] } := Heap.get?_push_size _ rfl
  refine ⟨⟨_, hS, rfl⟩, PySem.F.args_list_init_2 _ _, ?_⟩
  generalize hSS : s.heap.objs.size = S at *
  show wpAny _ A.in1.in1 (do let old ← Builtin.List.listItems (.ref S); Builtin.List.listUpdate (.ref S) (fun _ => #[]); letGo old.toList.reverse; Builtin.List.listExtendWith (.ref S) (.ref x) .none) _ _ _
  refine wpAny_bind ?_
  unfold Builtin.List.listItems
  refine wpAny_bind (wpAny_seqItems hS rfl (wpAny_pure ?_))
  show wpAny _ A.in1.in1 (updateSeq S (fun _ => #[]) >>= fun _ => letGo (#[] : Array Value).toList.reverse >>= fun _ => Builtin.List.listExtendWith (.ref S) (.ref x) .none) _ _ _
  refine wpAny_bind (wpAny_updateSeq hS rfl ?_)
  refine wpAny_bind (wpAny_letGo ?_)
  have offS : ∀ p ∈ ffLed it (liObj fa 0) x d q, p.1 ≠ S := fun p hp => hlt p (List.mem_append_left _ hp)
  have offR : ∀ p ∈ rest, p.1 ≠ S := fun p hp => hlt p (List.mem_append_right _ hp)
  have hz := N2 (S, lst [] 0) (List.mem_append_right _ (.head _))
  have N3 := ki_turn (pre := ffLed it (liObj fa 0) x d q) (its := (([] : List El).map Prod.fst).toArray) (its' := (([] : List El).map Prod.fst).toArray) (n := 0) (n' := 0) (fun _ => #[]) N2 offS offR (by simp) (by simp)
  have F3 : Fr h₀ L _ m := F1.change (Heap.SameBut.update _ S (Obj.mapSeq (fun _ => (#[] : Array Value)))) hz.2.1 hz.2.2
  refine ff_extend (A := A.in1) (rest := rest) .none (C.same rfl rfl) ((R.le (by decide)).in1) l1 l2 (fun p hp => ⟨(hoff p hp).1, (hoff p hp).2.1, (hoff p hp).2.2, offR p hp⟩) ⟨fun h => offS (it, liObj fa 0) (.head _) h.symm, fun h => offS (x, ffObj d it q) (.tail _ (.head _)) h.symm, fun h => offS (d, emptyDict) (.tail _ (.tail _ (.head _))) h.symm⟩ hfa hsa hq hlen hok hok2 F3 N3 ?_
  intro h₂ h₃ tk' c' j T2 C2 F4 N4
  exact ⟨rfl, hQ S h₂ h₃ tk' c' j T2 (C2.same rfl rfl) F4 N4⟩
end

theorem at_P12_Filter : True := by
  w_top off
  trivial
section
variable {w : World} {A : Around} {s : Shared} {h₀ : Heap} {L : Addr} {m : Str → Option Value} {env : Env} {rest : List (Addr × Obj)} {Q E : Value → Shared → Prop}

theorem filter_ok {fa sa : Addr} {xs ks : List El} {n k : Nat} (C : Cx w A env h₀ L) (R : Room 9 A) (F : Fr h₀ L s.heap m) (N : News h₀ L s.heap rest)
    (hfa : s.heap.get? fa = some (lst xs n)) (hsa : s.heap.get? sa = some (lst ks k)) (hlen : xs.length < 2 ^ 20) (hlen2 : ks.length < 2 ^ 20) (hok : ∀ e ∈ xs, ElF s.heap e) (hok2 : ∀ e ∈ ks, ElF s.heap e)
    (hQ : ∀ h₀' h' tk' n' r, Turned A h₀ h₀' → Cx w A env h₀' L → Fr h₀' L h' m → News h₀' L h' ((r, lst (xs.filter (keepEl ks)) n') :: rest) → (∀ q ∈ rest, q.1 ≠ r) → Q (.ref r) { s with heap := h', toks := tk' }) :
    wpAny (model PySem.Challenge.rw_ik0004_01.row.prog w) A (call (.ref 127) [.ref fa, .ref sa]) Q NoE s := by
  refine wpAny_call ?_
  refine codeAny_mono (R := fun r s' => match r with | .ok (.ret v) => Q v s' | .ok _ => False | .error e => NoE e s') ?_ (fun r s' h => by rcases r with _ | ⟨⟩ <;> exact h)
  k_dflt (refine' callT (E := NoE) (W := []) (rest := rest) (args := ⟨[.ref fa, .ref sa], []⟩) (binds := [(Str.ofString "flist", .ref fa), (Str.ofString "skip", .ref sa)]) C R F N ?k6 ?k7 ?k9 ?kB ?kO ?kW ?_ ?c2 ?c3 ?c4 ?c5; (case k6 => k_is); (case k7 => k_is); (case k9 => exact BindsTo.of_eq rfl); (case kB => exact locs rfl);  (case c5 => decide); (case c2 => exact rfl); (case c3 => exact rfl); (case c4 => exact rfl))
  case kO => exact fun _ _ h => nomatch h
  case kW => exact alln
  intro g L' h₁ mean mg mb R' F' N' C' X' T' big tkk lt lv
  refine wpAny_mono (E := NoE) ?_ (fun _ _ x => x) (fun _ _ e => e.elim)
  refine gn fun Qo hqo => ?_
  clear lv
  walk_at "MW"
  have hsg : g.get? sa = some (lst ks k) := big _ _ hsa (fun h => nomatch h)
  have hfg : g.get? fa = some (lst xs n) := big _ _ hfa (fun h => nomatch h)
  refine mw_v F' N' (F'.keep _ _ hsg) ?_
  intro q h2 tk2 F2 N2 l2
  walk_at "MW"
  k_dflt (refine' call_cls ?k1 ?k2 ?k3 ?k4 ?k5 ?k6 ?_; (case k1 => k_asm); (case k2 => k_asm); (case k3 => k_asm); (case k4 => k_is); (case k5 => k_is); (case k6 => k_is); k_whole; intro x' d' h' F' N' l1 l2)
  (try k_lt l1)
  k_lt2 l2
  k_dflt (refine' callFC (W := [(x', instObj 116 d'), (d', emptyDict)]) (rest := [(q, mwObj sa)]) (args := ⟨[.ref x', .ref q, .ref fa], []⟩) (binds := [(Str.ofString "self", .ref x'), (Str.ofString "function", .ref q), (Str.ofString "iterable", .ref fa)]) (C'.same rfl rfl) (rn := 4) ?kR F' ?kN ?k6 ?k7 ?k9 ?kB ?kO ?kW ?_ ?c2 ?c3 ?c4 ?c5; (case k6 => k_is); (case k7 => k_is); (case k9 => exact BindsTo.of_eq rfl); (case kB => exact locs rfl);  (case c5 => decide); (case c2 => exact rfl); (case c3 => exact rfl); (case c4 => exact rfl))
  case kR =>
    have e1 := (R'.le (by decide : 6 ≤ 8)).1
    have e2 := (R'.le (by decide : 6 ≤ 8)).2
    refine ⟨?_, ?_⟩
    · rw [depth_under_make]; omega
    · show _ + 1 + 4 * (4 + 1) < _; omega
  case kN => exact N'
  case kO =>
    intro q' hq'
    rw [List.mem_singleton.mp hq']
    intro h
    have h2 : q = x' ∨ q = d' := by simpa using h
    have h3 := h2.imp (fun e : @Eq Nat q x' => e) (fun e : @Eq Nat q d' => e)
    omega
  case kW =>
    intro q hq
    rcases List.mem_cons.mp hq with e | hq
    · rw [e]; exact cls_ref_ne rfl
    · rw [List.mem_singleton.mp hq]; exact cls_type_ne rfl (by decide)
  intro g3 L3 h3 mean3 mg3 mb3 R3 F3 N3 C3 X3 T3 big3 tk3 lt3
  walk_at "MW"
  have hfg3 : g3.get? fa = some (lst xs n) := big3 _ _ (F'.keep _ _ hfg) (nin_news (l := [(x', instObj 116 d'), (d', emptyDict)]) (nsubs N' (by walk_at "NS")) hfg)
  refine iter_v F3 N3 (F3.keep _ _ hfg3) ?_
  intro it h4 F4 N4 l4
  (try k_lt l4)
  walk_at "MW"
  rename Fr _ _ _ _ => F5
  rename News _ _ _ _ => N5
  refine back F5 N5 fun Fb Nb => ⟨rfl, ?_⟩
  dsimp only [List.cons_append, List.nil_append] at Nb
  walk_at "MW"
  have l1' : @LT.lt Nat _ q d' := by first | exact l1 | exact l1.1
  have l4' : @LT.lt Nat _ x' it := l4.1
  have nq : ∀ p ∈ [(q, mwObj sa)], p.1 ≠ it ∧ p.1 ≠ x' ∧ p.1 ≠ d' := by
    intro p hp
    rw [List.mem_singleton.mp hp]
    refine ⟨?_, ?_, ?_⟩
    · k_ne
    · k_ne
    · k_ne
  refine list_ff (rest := [(q, mwObj sa)]) C' (R'.le (by decide)) l2 l4' nq hfg hsg (.head _) hlen (fun e he => ElOk.keeps (fl := true) (hok e he) tkk) (fun e he => ElOk.keeps (fl := true) (hok2 e he) tkk) Fb Nb ?_
  intro S h₀'' h5 tk5 c5 j5 T5 C5 F5 N5
  have nS := N5 (S, lst (xs.filter (keepEl ks)) c5) (List.mem_append_right _ (.head _))
  refine hqo _ _ ⟨h₀'', _, [(S, lst (xs.filter (keepEl ks)) c5)], T5, F5, allc nS alln, fun h₀' T0 C0 Fc Nc => ?_⟩
  · refine hQ h₀' _ _ c5 S T0 C0 Fc Nc fun p hp e => ?_
    have e1 := big _ _ (N p hp).1 (fun h => nomatch h)
    obtain ⟨_, _, _, T6⟩ := T5
    obtain ⟨sl, e2⟩ := T6.up e1
    have e3 := nS.2.2
    rw [← e, e2] at e3
    cases e3
end

theorem at_P13_Kas : True := by
  w_top off
  trivial
section
/-- a comparison tree, run with a given order of the numbers below n -/
def kruns {α : Type} (lt : Nat → Nat → Bool) (n : Nat) : KasT α → (α → Prop) → Prop
  | .ret a, P => P a
  | .ask i j k, P => i < n ∧ j < n ∧ kruns lt n (k (lt i j)) P
theorem kruns_bind {α β : Type} {lt : Nat → Nat → Bool} {n : Nat} {f : α → KasT β} {P : β → Prop} : ∀ (t : KasT α), kruns lt n t (fun a => kruns lt n (f a) P) → kruns lt n (t.bind f) P
  | .ret _, h => h
  | .ask _ _ k, h => ⟨h.1, h.2.1, kruns_bind (k _) h.2.2⟩
theorem kruns_mono {α : Type} {lt : Nat → Nat → Bool} {n : Nat} {P P' : α → Prop} (hp : ∀ a, P a → P' a) : ∀ (t : KasT α), kruns lt n t P → kruns lt n t P'
  | .ret _, h => hp _ h
  | .ask _ _ k, h => ⟨h.1, h.2.1, kruns_mono hp (k _) h.2.2⟩
theorem kruns_wp {α : Type} {lt : Nat → Nat → Bool} {n : Nat} {P : α → Prop} {cmp : Nat → Nat → (Bool → Shared → Prop) → Shared → Prop} {Q : α → Shared → Prop} {s : Shared}
    (hc : ∀ i j C, i < n → j < n → C (lt i j) s → cmp i j C s) (hq : ∀ a, P a → Q a s) : ∀ (t : KasT α), kruns lt n t P → t.kasWp cmp Q s
  | .ret _, h => hq _ h
  | .ask i j k, h => hc i j _ h.1 h.2.1 (kruns_wp hc hq (k _) h.2.2)

/-- a strict total order on the numbers below n -/
structure KOrd (lt : Nat → Nat → Bool) (n : Nat) : Prop where
  asym : ∀ i j, lt i j = true → lt j i = false
  trans : ∀ i j k, lt i j = true → lt j k = true → lt i k = true
  tot : ∀ i j, i < n → j < n → i ≠ j → lt i j = true ∨ lt j i = true

def KPerm (n : Nat) (p : Array Nat) : Prop := p.toList.Perm (List.range n)
theorem KPerm.size {n : Nat} {p : Array Nat} (h : KPerm n p) : p.size = n := by
  have := h.length_eq
  simpa using this
theorem KPerm.lt {n : Nat} {p : Array Nat} (h : KPerm n p) {i : Nat} (hi : i < n) : p.getD i 0 < n := by
  have hs := h.size
  have : p.getD i 0 ∈ p.toList := by
    rw [Array.getD_eq_getD_getElem?, Array.getElem?_eq_getElem (Nat.lt_of_lt_of_eq hi hs.symm)]
    simp
  have := h.mem_iff.mp this
  simpa using this
theorem KPerm.inj {n : Nat} {p : Array Nat} (h : KPerm n p) {i j : Nat} (hi : i < n) (hj : j < n) (hne : i ≠ j) : p.getD i 0 ≠ p.getD j 0 := by
  have hs := h.size
  have nd : p.toList.Nodup := h.nodup_iff.mpr List.nodup_range
  rw [Array.getD_eq_getD_getElem?, Array.getD_eq_getD_getElem?, Array.getElem?_eq_getElem (Nat.lt_of_lt_of_eq hi hs.symm), Array.getElem?_eq_getElem (Nat.lt_of_lt_of_eq hj hs.symm)]
  intro e
  have e' : p.toList[i]'(Nat.lt_of_lt_of_eq hi hs.symm) = p.toList[j]'(Nat.lt_of_lt_of_eq hj hs.symm) := by simpa using e
  exact hne ((List.getElem_inj nd).mp e')
def KUp (lt : Nat → Nat → Bool) (p : Array Nat) (k : Nat) : Prop := ∀ i j, i < j → j < k → lt (p.getD i 0) (p.getD j 0) = true
def KDown (lt : Nat → Nat → Bool) (p : Array Nat) (k : Nat) : Prop := ∀ i j, i < j → j < k → lt (p.getD j 0) (p.getD i 0) = true

variable {lt : Nat → Nat → Bool} {n : Nat}
theorem KUp.snoc (O : KOrd lt n) {p : Array Nat} (hp : KPerm n p) {k : Nat} (h : KUp lt p k) (hk : 1 ≤ k) (hkn : k < n) (hlt : lt (p.getD k 0) (p.getD (k - 1) 0) = false) : KUp lt p (k + 1) := by
  have h1 : lt (p.getD (k - 1) 0) (p.getD k 0) = true := by
    have k1 := Nat.sub_lt hk Nat.one_pos
    have k1n := Nat.lt_trans k1 hkn
    rcases O.tot _ _ (hp.lt k1n) (hp.lt hkn) (hp.inj k1n hkn (Nat.ne_of_lt k1)) with h | h
    · exact h
    · rw [hlt] at h; cases h
  intro i j hij hj
  rcases Nat.lt_or_ge j k with hjk | hjk
  · exact h i j hij hjk
  · obtain rfl : j = k := Nat.le_antisymm (Nat.le_of_lt_succ hj) hjk
    rcases Nat.lt_or_ge i (j - 1) with hi | hi
    · exact O.trans _ _ _ (h i (j - 1) hi (Nat.sub_lt hk Nat.one_pos)) h1
    · obtain rfl : i = j - 1 := Nat.le_antisymm (Nat.le_sub_one_of_lt hij) hi
      exact h1
theorem KDown.snoc (O : KOrd lt n) {p : Array Nat} {k : Nat} (h : KDown lt p k) (hk : 1 ≤ k) (hlt : lt (p.getD k 0) (p.getD (k - 1) 0) = true) : KDown lt p (k + 1) := by
  intro i j hij hj
  rcases Nat.lt_or_ge j k with hjk | hjk
  · exact h i j hij hjk
  · obtain rfl : j = k := Nat.le_antisymm (Nat.le_of_lt_succ hj) hjk
    rcases Nat.lt_or_ge i (j - 1) with hi | hi
    · exact O.trans _ _ _ hlt (h i (j - 1) hi (Nat.sub_lt hk Nat.one_pos))
    · obtain rfl : i = j - 1 := Nat.le_antisymm (Nat.le_sub_one_of_lt hij) hi
      exact hlt
theorem kas_asc_runs (O : KOrd lt n) {p : Array Nat} (hp : KPerm n p) : ∀ (f k : Nat), KUp lt p k → 1 ≤ k → k + f ≤ n →
    kruns lt n (kas_asc p f k) (fun m => k ≤ m ∧ m ≤ k + f ∧ KUp lt p m ∧ (m = k + f ∨ lt (p.getD m 0) (p.getD (m - 1) 0) = true))
  | 0, k, h, hk, hn => ⟨Nat.le_refl _, Nat.le_refl _, h, .inl rfl⟩
  | f + 1, k, h, hk, hn => by
    have kn : k < n := Nat.lt_of_lt_of_le (Nat.lt_add_of_pos_right (Nat.succ_pos f)) hn
    have k1n : k - 1 < n := Nat.lt_of_le_of_lt (Nat.sub_le k 1) kn
    have e1 : k + 1 + f = k + (f + 1) := Nat.add_right_comm k 1 f
    refine ⟨hp.lt (by assumption), hp.lt (by assumption), ?_⟩
    cases hc : lt (p.getD k 0) (p.getD (k - 1) 0) with
    | true => exact ⟨Nat.le_refl _, Nat.le_add_right _ _, h, .inr hc⟩
    | false =>
      refine kruns_mono (fun m hm => ?_) _ (kas_asc_runs O hp f (k + 1) (h.snoc O hp hk kn hc) (Nat.le_add_left 1 k) (Nat.le_trans (Nat.le_of_eq e1) hn))
      obtain ⟨a, b, c, d⟩ := hm
      exact ⟨Nat.le_of_succ_le a, Nat.le_trans b (Nat.le_of_eq e1), c, d.imp (fun d => d.trans e1) id⟩
theorem kas_desc_runs (O : KOrd lt n) : ∀ (f : Nat) (p : Array Nat) (k : Nat), KPerm n p → KDown lt p k → 1 ≤ k → k + f ≤ n →
    kruns lt n (kas_desc f p k 0) (fun r => r.1 = p ∧ k ≤ r.2.1 ∧ r.2.1 ≤ k + f ∧ KDown lt p r.2.1 ∧ r.2.2 = 0)
  | 0, p, k, hp, h, hk, hn => ⟨rfl, Nat.le_refl _, Nat.le_refl _, h, rfl⟩
  | f + 1, p, k, hp, h, hk, hn => by
    have kn : k < n := Nat.lt_of_lt_of_le (Nat.lt_add_of_pos_right (Nat.succ_pos f)) hn
    have k1 := Nat.sub_lt hk Nat.one_pos
    have k1n : k - 1 < n := Nat.lt_trans k1 kn
    have e1 : k + 1 + f = k + (f + 1) := Nat.add_right_comm k 1 f
    refine ⟨hp.lt (by assumption), hp.lt (by assumption), ?_⟩
    cases hc : lt (p.getD k 0) (p.getD (k - 1) 0) with
    | true =>
      simp only [if_true, Nat.lt_irrefl, gt_iff_lt, if_false]
      refine kruns_mono (fun r hr => ?_) _ (kas_desc_runs O f p (k + 1) hp (h.snoc O hk hc) (Nat.le_add_left 1 k) (Nat.le_trans (Nat.le_of_eq e1) hn))
      obtain ⟨a, b, c, d, e⟩ := hr
      exact ⟨a, Nat.le_of_succ_le b, Nat.le_trans c (Nat.le_of_eq e1), d, e⟩
    | false =>
      have h1 : lt (p.getD (k - 1) 0) (p.getD k 0) = true := by
        rcases O.tot _ _ (hp.lt k1n) (hp.lt kn) (hp.inj k1n kn (Nat.ne_of_lt k1)) with h | h
        · exact h
        · rw [hc] at h; cases h
      simp only [Bool.false_eq_true, if_false]
      refine ⟨hp.lt (by assumption), hp.lt (by assumption), ?_⟩
      rw [h1]
      exact ⟨rfl, Nat.le_refl _, Nat.le_add_right _ _, h, rfl⟩
theorem kas_rev_runs {p : Array Nat} (hp : KPerm n p) {k : Nat} (hk : k ≤ n) (h : KDown lt p k) : KPerm n (kas_rev p 0 k) ∧ KUp lt (kas_rev p 0 k) k := by
  have hs := hp.size
  refine ⟨(Array.perm_iff_toList_perm.mp (mirror_perm p 0 k _)).trans hp, ?_⟩
  have hg : ∀ i, i < k → (kas_rev p 0 k).getD i 0 = p.getD (k - 1 - i) 0 := by
    intro i hi
    unfold kas_rev
    rw [Array.getD_eq_getD_getElem?, Array.getD_eq_getD_getElem?, getElem?_mirror_all (by omega) i]
    simp [hi]
  intro i j hij hj
  have k0 := Nat.zero_lt_of_lt hj
  rw [hg i (Nat.lt_trans hij hj), hg j hj]
  exact h _ _ (Nat.sub_lt_sub_left (Nat.lt_of_lt_of_le hij (Nat.le_sub_one_of_lt hj)) hij) (Nat.lt_of_le_of_lt (Nat.sub_le _ _) (Nat.sub_lt k0 Nat.one_pos))
theorem kas_tail3_runs (O : KOrd lt n) {p : Array Nat} (hp : KPerm n p) {k : Nat} (hk1 : 1 ≤ k) (hk : k ≤ n) (h : KDown lt p k) :
    kruns lt n (kas_tail3 k n p) (fun r => KPerm n r.2 ∧ 1 ≤ r.1 ∧ r.1 ≤ n ∧ KUp lt r.2 r.1) := by
  obtain ⟨a, b⟩ := kas_rev_runs hp hk h
  refine kruns_bind _ (kruns_mono (fun m hm => ?_) _ (kas_asc_runs O a (n - k) k b hk1 (Nat.le_of_eq (Nat.add_sub_cancel' hk))))
  exact ⟨a, Nat.le_trans hk1 hm.1, Nat.le_trans hm.2.1 (Nat.le_of_eq (Nat.add_sub_cancel' hk)), hm.2.2.1⟩
theorem kas_count_runs (O : KOrd lt n) {p : Array Nat} (hp : KPerm n p) (hn : 2 ≤ n) : kruns lt n (kas_count n p) (fun r => KPerm n r.2 ∧ 1 ≤ r.1 ∧ r.1 ≤ n ∧ KUp lt r.2 r.1) := by
  have e1 : 1 + (n - 1) = n := Nat.add_sub_cancel' (Nat.le_of_succ_le hn)
  have e2 : 2 + (n - 2) = n := Nat.add_sub_cancel' hn
  have n0 : 0 < n := Nat.lt_of_lt_of_le Nat.two_pos hn
  have n1 : 1 < n := hn
  refine kruns_bind _ (kruns_mono (fun m hm => ?_) _ (kas_asc_runs O hp (n - 1) 1 (fun i j a b => absurd (Nat.lt_of_lt_of_le a (Nat.le_of_lt_succ b)) (Nat.not_lt_zero _)) (Nat.le_refl _) (Nat.le_of_eq e1)))
  obtain ⟨a, b, c, d⟩ := hm
  have mn := Nat.le_trans b (Nat.le_of_eq e1)
  by_cases e : m = n
  · rw [if_pos (by simp [e])]
    exact ⟨hp, a, mn, c⟩
  · rw [if_neg (by simp [e])]
    by_cases h1 : m > 1
    · rw [if_pos h1]
      have z : 0 < m - 1 := Nat.sub_pos_of_lt h1
      have zm : m - 1 < m := Nat.sub_lt a Nat.one_pos
      have zn : m - 1 < n := Nat.lt_of_lt_of_le zm mn
      refine ⟨hp.lt (by assumption), hp.lt (by assumption), ?_⟩
      rw [c 0 (m - 1) z zm]
      exact ⟨hp, a, mn, c⟩
    · rw [if_neg h1]
      obtain rfl : m = 1 := Nat.le_antisymm (Nat.le_of_not_lt h1) a
      have hd : lt (p.getD 1 0) (p.getD 0 0) = true := by
        rcases d with d | d
        · exact absurd (d.trans e1) e
        · exact d
      have h2 : KDown lt p 2 := fun i j hij hj => by
        obtain rfl : i = 0 := by omega
        obtain rfl : j = 1 := by omega
        exact hd
      refine kruns_bind _ (kruns_mono (fun r hr => ?_) _ (kas_desc_runs O (n - (1 + 1)) p (1 + 1) hp h2 (by decide) (Nat.le_of_eq e2)))
      obtain ⟨f1, f2, f3, f4, f5⟩ := hr
      rw [if_neg (by rw [f5]; decide), f1]
      exact kas_tail3_runs O hp (Nat.le_of_succ_le f2) (Nat.le_trans f3 (Nat.le_of_eq e2)) f4
theorem kas_place_runs (O : KOrd lt n) {p : Array Nat} (hp : KPerm n p) {k : Nat} (hk : k < n) (hu : KUp lt p k) : ∀ (f l r : Nat), l ≤ r → r ≤ k → r - l ≤ f →
    (∀ i, i < l → lt (p.getD k 0) (p.getD i 0) = false) → (∀ i, r ≤ i → i < k → lt (p.getD k 0) (p.getD i 0) = true) →
    kruns lt n (kas_place p k f l r) (fun m => m ≤ k ∧ (∀ i, i < m → lt (p.getD k 0) (p.getD i 0) = false) ∧ (∀ i, m ≤ i → i < k → lt (p.getD k 0) (p.getD i 0) = true))
  | 0, l, r, h1, h2, h3, hl, hr => ⟨Nat.le_trans h1 h2, hl, fun i a b => hr i (Nat.le_trans (Nat.sub_eq_zero_iff_le.mp (Nat.le_zero.mp h3)) a) b⟩
  | f + 1, l, r, h1, h2, h3, hl, hr => by
    unfold kas_place
    by_cases e : l ≥ r
    · rw [if_pos e]
      exact ⟨Nat.le_trans h1 h2, hl, fun i a b => hr i (Nat.le_trans e a) b⟩
    · rw [if_neg e]
      have hm1 : l ≤ (l + r) / 2 := by omega
      have hm2 : (l + r) / 2 < r := by omega
      have hmk := Nat.lt_of_lt_of_le hm2 h2
      refine ⟨hp.lt hk, hp.lt (Nat.lt_trans hmk hk), ?_⟩
      cases hc : lt (p.getD k 0) (p.getD ((l + r) / 2) 0) with
      | true =>
        show kruns lt n (if true = true then _ else _) _
        rw [if_pos rfl]
        refine kas_place_runs O hp hk hu f l ((l + r) / 2) hm1 (Nat.le_of_lt hmk) (by omega) hl fun i a b => ?_
        rcases Nat.lt_or_ge ((l + r) / 2) i with h | h
        · exact O.trans _ _ _ hc (hu _ _ h b)
        · obtain rfl : i = (l + r) / 2 := Nat.le_antisymm h a
          exact hc
      | false =>
        show kruns lt n (if false = true then _ else _) _
        rw [if_neg Bool.false_ne_true]
        refine kas_place_runs O hp hk hu f ((l + r) / 2 + 1) r hm2 h2 (by omega) (fun i a => ?_) hr
        rcases Nat.lt_or_ge i ((l + r) / 2) with h | h
        · cases hq : lt (p.getD k 0) (p.getD i 0) with
          | false => rfl
          | true =>
            have := O.trans _ _ _ hq (hu i _ h hmk)
            rw [hc] at this; cases this
        · obtain rfl : i = (l + r) / 2 := Nat.le_antisymm (Nat.le_of_lt_succ a) h
          exact hc
theorem kas_bubble_runs (O : KOrd lt n) {p : Array Nat} (hp : KPerm n p) {k m : Nat} (hk : k < n) (hu : KUp lt p k) (hm : m ≤ k) (h1 : ∀ i, i < m → lt (p.getD k 0) (p.getD i 0) = false) (h2 : ∀ i, m ≤ i → i < k → lt (p.getD k 0) (p.getD i 0) = true) :
    KPerm n (bubble p k (k - m)) ∧ KUp lt (bubble p k (k - m)) (k + 1) := by
  have hs := hp.size
  refine ⟨(Array.perm_iff_toList_perm.mp (bubble_perm p k _)).trans hp, ?_⟩
  have hg : ∀ i, (bubble p k (k - m)).getD i 0 = if i = m then p.getD k 0 else if m < i ∧ i ≤ k then p.getD (i - 1) 0 else p.getD i 0 := by
    intro i
    rw [Array.getD_eq_getD_getElem?, getElem?_bubble (by rw [hs]; exact hk) (k - m) (Nat.sub_le k m) i]
    have e : k - (k - m) = m := Nat.sub_sub_self hm
    rw [e]
    simp only [Array.getD_eq_getD_getElem?]
    split
    · rfl
    · split <;> rfl
  have h1' : ∀ i, i < m → lt (p.getD i 0) (p.getD k 0) = true := fun i hi => by
    have ik := Nat.lt_of_lt_of_le hi hm
    rcases O.tot _ _ (hp.lt (Nat.lt_trans ik hk)) (hp.lt hk) (hp.inj (Nat.lt_trans ik hk) hk (Nat.ne_of_lt ik)) with h | h
    · exact h
    · rw [h1 i hi] at h; cases h
  intro i j hij hj
  have jk := Nat.le_of_lt_succ hj
  have ik := Nat.lt_of_lt_of_le hij jk
  have pjk : j - 1 < k := Nat.lt_of_lt_of_le (Nat.sub_lt (Nat.zero_lt_of_lt hij) Nat.one_pos) jk
  rw [hg i, hg j]
  by_cases ei : i = m
  · have mj : m < j := ei ▸ hij
    rw [if_pos ei, if_neg (Nat.ne_of_gt mj), if_pos ⟨mj, jk⟩]
    exact h2 _ (Nat.le_sub_one_of_lt mj) pjk
  · rw [if_neg ei]
    by_cases ej : j = m
    · have im : i < m := ej ▸ hij
      rw [if_pos ej, if_neg (fun a => Nat.lt_asymm a.1 im)]
      exact h1' i im
    · rw [if_neg ej]
      by_cases a : m < i ∧ i ≤ k
      · rw [if_pos a, if_pos ⟨Nat.lt_trans a.1 hij, jk⟩]
        exact hu _ _ (Nat.sub_lt_sub_right (Nat.zero_lt_of_lt a.1) hij) pjk
      · rw [if_neg a]
        have im : i < m := Nat.lt_of_le_of_ne (Nat.le_of_not_lt fun q => a ⟨q, Nat.le_of_lt ik⟩) ei
        by_cases b : m < j ∧ j ≤ k
        · rw [if_pos b]
          exact hu _ _ (Nat.lt_of_lt_of_le im (Nat.le_sub_one_of_lt b.1)) pjk
        · rw [if_neg b]
          exact hu _ _ hij (Nat.lt_of_lt_of_le (Nat.lt_of_le_of_ne (Nat.le_of_not_lt fun q => b ⟨q, jk⟩) ej) hm)
theorem kas_bin_runs (O : KOrd lt n) : ∀ (f : Nat) (p : Array Nat) (k : Nat), KPerm n p → KUp lt p k → k + f = n → kruns lt n (kas_bin f p k) (fun q => KPerm n q ∧ KUp lt q n)
  | 0, p, k, hp, h, hn => ⟨hp, by rw [← hn]; exact h⟩
  | f + 1, p, k, hp, h, hn => by
    unfold kas_bin
    have kn : k < n := Nat.lt_of_lt_of_eq (Nat.lt_add_of_pos_right (Nat.succ_pos f)) hn
    refine kruns_bind _ (kruns_mono (fun m hm => ?_) _ (kas_place_runs O hp kn h k 0 k (Nat.zero_le _) (Nat.le_refl _) (Nat.le_refl k) (fun i a => absurd a (Nat.not_lt_zero _)) (fun i a b => absurd b (Nat.not_lt_of_le a))))
    obtain ⟨a, b⟩ := kas_bubble_runs O hp kn h hm.1 hm.2.1 hm.2.2
    exact kas_bin_runs O f _ (k + 1) a b ((Nat.add_right_comm k 1 f).trans hn)
theorem kas_sort_runs (O : KOrd lt n) (hn : 2 ≤ n) : kruns lt n (kas_sort n) (fun q => KPerm n q ∧ KUp lt q n) := by
  unfold kas_sort
  refine kruns_bind _ (kruns_mono (fun r hr => ?_) _ (kas_count_runs O (p := List.toArray (List.range n)) (by unfold KPerm; simp) hn))
  obtain ⟨a, b, c, d⟩ := hr
  by_cases e : r.1 < n
  · rw [if_pos e, Nat.max_eq_left b]
    exact kas_bin_runs O _ _ _ a d (Nat.add_sub_cancel' c)
  · rw [if_neg e]
    have : r.1 = n := Nat.le_antisymm c (Nat.le_of_not_lt e)
    exact ⟨a, this ▸ d⟩
end

theorem at_P13b_Sort : True := by
  w_top off
  trivial
section
theorem lex_asym {a b : Int} {P Q : Prop} (hP : P → ¬ Q) (h : a < b ∨ a = b ∧ P) : ¬ (b < a ∨ b = a ∧ Q) := fun h' => by
  rcases h with h | ⟨rfl, p⟩
  · rcases h' with h' | ⟨rfl, _⟩
    · exact Int.lt_irrefl _ (Int.lt_trans h h')
    · exact Int.lt_irrefl _ h
  · rcases h' with h' | ⟨_, q⟩
    · exact Int.lt_irrefl _ h'
    · exact hP p q
theorem lex_trans {a b c : Int} {P Q R : Prop} (hP : P → Q → R) (h : a < b ∨ a = b ∧ P) (h' : b < c ∨ b = c ∧ Q) : a < c ∨ a = c ∧ R := by
  rcases h with h | ⟨rfl, p⟩
  · rcases h' with h' | ⟨rfl, _⟩
    · exact .inl (Int.lt_trans h h')
    · exact .inl h
  · exact h'.imp id (And.imp id (hP p))
theorem lex_neg {a b c : Int} {P Q R : Prop} (hP : P → Q ∨ R) (h : a < c ∨ a = c ∧ P) : (a < b ∨ a = b ∧ Q) ∨ (b < c ∨ b = c ∧ R) := by
  rcases Int.lt_trichotomy a b with h1 | rfl | h1
  · exact .inl (.inl h1)
  · rcases h with h | ⟨h, p⟩
    · exact .inr (.inl h)
    · exact (hP p).imp (fun q => .inr ⟨rfl, q⟩) (fun r => .inr ⟨h, r⟩)
  · rcases h with h | ⟨rfl, _⟩
    · exact .inr (.inl (Int.lt_trans h1 h))
    · exact .inr (.inl h1)
theorem lex_tot {a b : Int} {P Q : Prop} (h : a = b → P ∨ Q) : (a < b ∨ a = b ∧ P) ∨ (b < a ∨ b = a ∧ Q) := by
  rcases Int.lt_trichotomy a b with h1 | rfl | h1
  · exact .inl (.inl h1)
  · exact (h rfl).imp (fun q => .inr ⟨rfl, q⟩) (fun r => .inr ⟨rfl, r⟩)
  · exact .inr (.inl h1)
theorem klt_iff (a b : Key) : klt a b = true ↔ (a.1 < b.1 ∨ a.1 = b.1 ∧ (a.2.1 < b.2.1 ∨ a.2.1 = b.2.1 ∧ a.2.2 < b.2.2)) := by
  simp only [klt, Bool.or_eq_true, Bool.and_eq_true, decide_eq_true_eq, beq_iff_eq]
theorem klt_asym (a b : Key) (h : klt a b = true) : klt b a = false :=
  Bool.eq_false_iff.mpr fun h' => lex_asym (lex_asym fun x y => Int.lt_irrefl _ (Int.lt_trans x y)) ((klt_iff a b).mp h) ((klt_iff b a).mp h')
theorem klt_trans (a b c : Key) (h : klt a b = true) (h' : klt b c = true) : klt a c = true :=
  (klt_iff a c).mpr (lex_trans (lex_trans fun x y => Int.lt_trans x y) ((klt_iff a b).mp h) ((klt_iff b c).mp h'))
theorem klt_neg (a b c : Key) (h : klt a c = true) : klt a b = true ∨ klt b c = true :=
  (lex_neg (b := b.1) (lex_neg (b := b.2.1) fun x => by
    rcases Int.lt_or_le a.2.2 b.2.2 with y | y
    · exact .inl y
    · exact .inr (Int.lt_of_le_of_lt y x)) ((klt_iff a c).mp h)).imp (klt_iff a b).mpr (klt_iff b c).mpr
theorem klt_tot (a b : Key) (h : a ≠ b) : klt a b = true ∨ klt b a = true :=
  (lex_tot fun e1 => lex_tot fun e2 => Int.lt_or_gt_of_ne fun e3 => h (Prod.ext e1 (Prod.ext e2 e3))).imp (klt_iff a b).mpr (klt_iff b a).mpr
theorem klt_irrefl (a : Key) : klt a a = false := by
  obtain ⟨x, y, z⟩ := a
  simp [klt]

/-- keys all apart -/
def KD (xs : List El) : Prop := (xs.map Prod.snd).Nodup
def Up (ys : List El) : Prop := ys.Pairwise (fun a b => elt a b = true)

def insE (x : El) : List El → List El
  | [] => [x]
  | y :: ys => if elt x y then x :: y :: ys else y :: insE x ys
/-- the list in order -/
def srt (xs : List El) : List El := xs.foldr insE []
theorem insE_perm (x : El) : ∀ ys, (insE x ys).Perm (x :: ys)
  | [] => .refl _
  | y :: ys => by
    unfold insE
    split
    · exact .refl _
    · exact ((insE_perm x ys).cons y).trans (.swap _ _ _)
theorem srt_perm : ∀ xs, (srt xs).Perm xs
  | [] => .refl _
  | x :: xs => (insE_perm x (srt xs)).trans ((srt_perm xs).cons x)
theorem insE_up (x : El) : ∀ ys, Up ys → (∀ y ∈ ys, y.2 ≠ x.2) → Up (insE x ys)
  | [], _, _ => List.pairwise_singleton _ _
  | y :: ys, h, hd => by
    have h' := List.pairwise_cons.mp h
    unfold insE
    split
    · rename_i e
      refine List.pairwise_cons.mpr ⟨fun z hz => ?_, h⟩
      rcases List.mem_cons.mp hz with rfl | hz
      · exact e
      · exact klt_trans _ _ _ e (h'.1 z hz)
    · rename_i e
      refine List.pairwise_cons.mpr ⟨fun z hz => ?_, insE_up x ys h'.2 fun z hz => hd z (.tail _ hz)⟩
      rcases List.mem_cons.mp ((insE_perm x ys).mem_iff.mp hz) with rfl | hz
      · rcases klt_tot z.2 y.2 (fun e => hd y (.head _) e.symm) with h1 | h1
        · exact absurd h1 e
        · exact h1
      · exact h'.1 z hz
theorem srt_up : ∀ xs, KD xs → Up (srt xs)
  | [], _ => List.Pairwise.nil
  | x :: xs, h => by
    have h' := List.nodup_cons.mp h
    refine insE_up x _ (srt_up xs h'.2) fun y hy e => h'.1 ?_
    have := (srt_perm xs).mem_iff.mp hy
    rw [← e]
    exact List.mem_map_of_mem this
theorem up_unique : ∀ {xs ys : List El}, Up xs → Up ys → xs.Perm ys → xs = ys
  | [], ys, _, _, h => h.nil_eq
  | x :: xs, [], _, _, h => h.eq_nil
  | x :: xs, y :: ys, h1, h2, h => by
    have a := List.pairwise_cons.mp h1
    have b := List.pairwise_cons.mp h2
    have e : x = y := by
      rcases List.mem_cons.mp (h.mem_iff.mp (List.mem_cons_self)) with e | e
      · exact e
      · rcases List.mem_cons.mp (h.mem_iff.mpr (List.mem_cons_self)) with f | f
        · exact f.symm
        · have := klt_asym _ _ (a.1 y f)
          have q := b.1 x e
          unfold elt at q
          rw [this] at q
          cases q
    subst e
    rw [up_unique a.2 b.2 (List.Perm.cons_inv h)]
theorem srt_eq {xs ys : List El} (h : Up ys) (p : ys.Perm xs) (hd : KD xs) : ys = srt xs := up_unique h (srt_up xs hd) (p.trans (srt_perm xs).symm)
theorem srt_short {xs : List El} (h : xs.length < 2) : srt xs = xs := by
  cases xs with
  | nil => rfl
  | cons x ys =>
    cases ys with
    | nil => rfl
    | cons y zs => exact absurd h (by simp)

def ltAt (xs : List El) (i j : Nat) : Bool := elt (xs.getD i dEl) (xs.getD j dEl)
theorem ltAt_ord {xs : List El} (hd : KD xs) : KOrd (ltAt xs) xs.length := by
  refine ⟨fun i j => klt_asym _ _, fun i j k => klt_trans _ _ _, fun i j hi hj hne => klt_tot _ _ fun e => hne ?_⟩
  have e1 : (xs.map Prod.snd)[i]'(by simpa using hi) = (xs.map Prod.snd)[j]'(by simpa using hj) := by
    simp only [List.getElem_map]
    rw [List.getD_eq_getElem?_getD, List.getD_eq_getElem?_getD, List.getElem?_eq_getElem hi, List.getElem?_eq_getElem hj] at e
    exact e
  exact (List.getElem_inj hd).mp e1
theorem out_srt {xs : List El} (hd : KD xs) {p : Array Nat} (hp : KPerm xs.length p) (hu : KUp (ltAt xs) p xs.length) : p.toList.map (fun i => xs.getD i dEl) = srt xs := by
  refine srt_eq ?_ ?_ hd
  · have hs := hp.size
    refine List.pairwise_map.mpr (List.pairwise_iff_getElem.mpr fun i j hi hj hij => ?_)
    have := hu i j hij (by rw [← hs]; simpa using hj)
    unfold ltAt at this
    rw [Array.getD_eq_getD_getElem?, Array.getD_eq_getD_getElem?, Array.getElem?_eq_getElem (by simpa using hi), Array.getElem?_eq_getElem (by simpa using hj)] at this
    simpa using this
  · refine (hp.map fun i => xs.getD i dEl).trans ?_
    have : (List.range xs.length).map (fun i => xs.getD i dEl) = xs := by
      apply List.ext_getElem
      · simp
      · intro i h1 h2
        simp only [List.getElem_map, List.getElem_range]
        rw [List.getD_eq_getElem?_getD, List.getElem?_eq_getElem h2]
        rfl
    rw [this]
theorem out_vals {xs : List El} {p : Array Nat} (hp : KPerm xs.length p) : (p.toList.map fun i => (xs.map Prod.fst).getD i Value.none) = (p.toList.map (fun i => xs.getD i dEl)).map Prod.fst := by
  rw [List.map_map]
  refine List.map_congr_left fun i hi => ?_
  have : i < xs.length := by simpa using hp.mem_iff.mp hi
  simp only [Function.comp, List.getD_eq_getElem?_getD, List.getElem?_map, List.getElem?_eq_getElem this]
  rfl
end

section
variable {prog : Program} {w : World} {A : Around} {s : Shared} {E : Value → Shared → Prop} {h₀ : Heap} {L a : Addr} {m : Str → Option Value} {news : List (Addr × Obj)}

theorem kind_el {fl : Bool} {xs : List El} {Q : SortKind → Shared → Prop} (hne : 0 < xs.length) (hok : ∀ e ∈ xs, ElOk fl s.heap e) (h : Q (tuples' fl) s) : wpAny (model prog w) A (keyKind' (xs.map Prod.fst).toArray) Q E s := by
  cases fl with
  | true =>
    have t : ∀ (ys : List El), (∀ e ∈ ys, ElF s.heap e) → ∃ fs, fs.length = ys.length ∧ KatTups s.heap (ys.map Prod.fst) fs ∧ ∀ v ∈ fs, ∃ n t, v = Value.int n t := by
      intro ys
      induction ys with
      | nil => intro _; exact ⟨[], rfl, .nil, by intro v hv; cases hv⟩
      | cons y ys ih =>
        intro hy
        obtain ⟨fs, hl, ht, hv⟩ := ih fun e he => hy e (.tail _ he)
        obtain ⟨b, t, u, e1, e2, _⟩ := hy y (.head _)
        refine ⟨.int y.2.1 t :: fs, by simp [hl], ?_, ?_⟩
        · show KatTups s.heap (y.1 :: ys.map Prod.fst) _
          rw [e1]
          exact .cons e2 rfl rfl rfl ht
        · intro v hv'
          rcases List.mem_cons.mp hv' with rfl | hv'
          · exact ⟨_, _, rfl⟩
          · exact hv v hv'
    obtain ⟨fs, hl, ht, hv⟩ := t xs hok
    refine kat_kind (T := .type "int") ht (by omega) (fun v hv' => ?_) (by decide) h
    obtain ⟨n, t, rfl⟩ := hv v hv'
    exact .now
  | false =>
    have t : ∀ (ys : List El), (∀ e ∈ ys, ElN s.heap e) → ∃ fs, fs.length = ys.length ∧ KatTups s.heap (ys.map Prod.fst) fs ∧ ∀ v ∈ fs, Looks (model prog w) s.heap (typeOf v) (.type "tuple") := by
      intro ys
      induction ys with
      | nil => intro _; exact ⟨[], rfl, .nil, by intro v hv; cases hv⟩
      | cons y ys ih =>
        intro hy
        obtain ⟨fs, hl, ht, hv⟩ := ih fun e he => hy e (.tail _ he)
        obtain ⟨b, c, t, u, v, e1, e2, e3⟩ := hy y (.head _)
        refine ⟨.ref c :: fs, by simp [hl], ?_, ?_⟩
        · show KatTups s.heap (y.1 :: ys.map Prod.fst) _
          rw [e1]
          exact .cons e2 rfl rfl rfl ht
        · intro v hv'
          rcases List.mem_cons.mp hv' with rfl | hv'
          · exact (Looks.ld e3).andThen .now
          · exact hv v hv'
    obtain ⟨fs, hl, ht, hv⟩ := t xs hok
    exact kat_kind (T := .type "tuple") ht (by omega) hv (by decide) h

theorem ask_el {fl : Bool} {x y : El} {Q : Bool → Shared → Prop} (hu : A.units + 3 < cLine) (hx : ElOk fl s.heap x) (hy : ElOk fl s.heap y) (h : Q (elt x y) s) : wpAny (model prog w) A (keyLt' (tuples' fl) x.1 y.1) Q E s := by
  obtain ⟨xv, r, p, o⟩ := x
  obtain ⟨yv, r', p', o'⟩ := y
  cases fl with
  | true =>
    obtain ⟨a, t, u, e1, e2, e3⟩ := hx
    obtain ⟨b, t', u', f1, f2, f3⟩ := hy
    dsimp only at e1 e2 e3 f1 f2 f3 ⊢
    subst e1 f1 e3 f3
    refine kat_lt e2 rfl f2 rfl ?_
    refine kat_cons (wpAny_eqBool_int ?_)
    by_cases h1 : r = r'
    · subst h1
      rw [beq_self_eq_true]
      refine kat_yes (kat_cons (wpAny_eqBool_int ?_))
      by_cases h2 : p = p'
      · subst h2
        rw [beq_self_eq_true]
        refine kat_yes (kat_nil ?_)
        simpa [elt, klt] using h
      · have e : (p == p') = false := by simpa using h2
        rw [e]
        refine kat_no (kat_one _ _ (lt_int ?_))
        show Q _ _
        simpa [elt, klt, e] using h
    · have e : (r == r') = false := by simpa using h1
      rw [e]
      refine kat_no (oneLt_int ?_)
      simpa [elt, klt, e] using h
  | false =>
    obtain ⟨a, b, t, u, v, e1, e2, e3⟩ := hx
    obtain ⟨a', b', t', u', v', f1, f2, f3⟩ := hy
    dsimp only at e1 e2 e3 f1 f2 f3 ⊢
    subst e1 f1
    refine kat_lt e2 rfl f2 rfl ?_
    refine kat_cons (eqb_flat (by omega) e3 f3 ?_)
    cases hc : (r == r' && p == p') with
    | true =>
      have h1 : r = r' ∧ p = p' := by simpa using hc
      obtain ⟨rfl, rfl⟩ := h1
      refine kat_yes (kat_cons (wpAny_eqBool_int ?_))
      by_cases h2 : o = o'
      · subst h2
        rw [beq_self_eq_true]
        refine kat_yes (kat_nil ?_)
        simpa [elt, klt] using h
      · have e : (o == o') = false := by simpa using h2
        rw [e]
        refine kat_no (kat_one _ _ (lt_int ?_))
        show Q _ _
        simpa [elt, klt, e] using h
    | false =>
      refine kat_no (kat_one _ _ (lt_flat (by omega) e3 f3 ?_))
      show Q _ _
      have e2 : elt (Value.ref a, r, p, o) (Value.ref a', r', p', o') = (decide (r < r') || (r == r' && decide (p < p'))) := by
        simp only [elt, klt]
        have : ¬ (r = r' ∧ p = p') := by simpa using hc
        by_cases h1 : r = r'
        · have h2 : p ≠ p' := fun e => this ⟨h1, e⟩
          simp [h1, h2]
        · have h1' : (r == r') = false := by simpa using h1
          rw [h1']; simp
      rw [← e2]; exact h

theorem small_list_sort {vs : List Value} {n : Nat} {P : PySem.Fin → Shared → Prop} (F : Fr h₀ L s.heap m) (N : News h₀ L s.heap news) (ho : s.heap.get? a = some (seqObj "list" vs.toArray n)) (haL : a ≠ L) (ha0 : h₀.get? a = none) (hna : ∀ p ∈ news, p.1 ≠ a)
    (h2 : vs.length < 2) (h : ∀ h' c, Fr h₀ L h' m → News h₀ L h' ((a, seqObj "list" vs.toArray c) :: news) → P (.done (.ret .none)) { s with heap := h' }) :
    wpAny (model prog w) A (Builtin.«list.sort» ⟨[.ref a], []⟩) P E s := by
  have s1 := Heap.SameBut.update s.heap a (Obj.mapSeq fun _ => (#[] : Array Value))
  obtain ⟨e1, ho1⟩ : ∃ e1, (s.heap.update a (Obj.mapSeq fun _ => (#[] : Array Value))).get? a = some (seqObj "list" #[] e1) := ⟨_, get?_update_seq ho fun _ => #[]⟩
  have F3 : Fr h₀ L (((s.heap.update a (Obj.mapSeq fun _ => (#[] : Array Value))).push (seqObj "tuple" vs.toArray 0)).push (seqObj "list" #[] 0)) m := ((kas_fr F s1 haL ha0).push _).push _
  have N2 : News h₀ L (((s.heap.update a (Obj.mapSeq fun _ => (#[] : Array Value))).push (seqObj "tuple" vs.toArray 0)).push (seqObj "list" #[] 0)) news :=
    (kas_news N s1 hna).grown fun b x e => Heap.get?_push_of_some _ (Heap.get?_push_of_some _ e)
  have hA : (((s.heap.update a (Obj.mapSeq fun _ => (#[] : Array Value))).push (seqObj "tuple" vs.toArray 0)).push (seqObj "list" #[] 0)).get? a = some (seqObj "list" #[] e1) := Heap.get?_push_of_some _ (Heap.get?_push_of_some _ ho1)
  have N3 : News h₀ L (((s.heap.update a (Obj.mapSeq fun _ => (#[] : Array Value))).push (seqObj "tuple" vs.toArray 0)).push (seqObj "list" #[] 0)) ((a, seqObj "list" #[] e1) :: news) := fun p hp => by
    rcases List.mem_cons.mp hp with rfl | hp
    · exact ⟨hA, haL, ha0⟩
    · exact N2 p hp
  rw [list_sort_plain]
  refine wpAny_bind (listItems_at ho rfl ?_)
  refine wpAny_bind (listUpdate_at ho rfl ?_ (by rw [List.size_toArray, sizeLine_eq]; omega) (Nat.zero_le _))
  refine wpAny_bind (seqEpoch_at ho1 rfl ?_)
  refine wpAny_bind (wpAny_newTuple ?_ (by show vs.length ≤ _; rw [sizeLine_eq]; omega))
  refine wpAny_bind (wpAny_newList ?_ (Nat.zero_le _))
  refine wpAny_holding ?_
  show wpAny (model prog w) A _ P E { s with heap := ((s.heap.update a (Obj.mapSeq fun _ => (#[] : Array Value))).push (seqObj "tuple" vs.toArray 0)).push (seqObj "list" #[] 0) }
  dsimp only
  have hn2 : vs.toArray.size < 2 := by rw [List.size_toArray]; omega
  rw [if_pos hn2, if_pos hn2]
  refine wpAny_bind (wpAny_pure ?_)
  refine wpAny_bind (m := (pure () : StateT SortSt Sem Unit).run _) (wpAny_pure ?_)
  dsimp only
  have e0 : (arrOf (SortSt.mk' general' (vs.toArray.zip vs.toArray) #[] 7 none)).map (·.2) = vs.toArray := by
    show (vs.toArray.zip vs.toArray).map (·.2) = vs.toArray
    apply Array.toList_inj.mp
    simp only [Array.toList_map, Array.toList_zip]
    exact List.map_snd_zip (Nat.le_refl _)
  have ef : failedOf (SortSt.mk' general' (vs.toArray.zip vs.toArray) #[] 7 none) = none := rfl
  rw [e0]
  refine wpAny_bind (seqEpoch_at hA rfl ?_)
  refine wpAny_bind (listUpdate_at hA rfl ?_ (Nat.zero_le _) (by rw [List.size_toArray, sizeLine_eq]; omega))
  simp only [bne_self_eq_false, Bool.false_eq_true, if_false]
  have s2 := Heap.SameBut.update (((s.heap.update a (Obj.mapSeq fun _ => (#[] : Array Value))).push (seqObj "tuple" vs.toArray 0)).push (seqObj "list" #[] 0)) a (Obj.mapSeq fun _ => vs.toArray)
  obtain ⟨c2, hc2⟩ : ∃ c2, ((((s.heap.update a (Obj.mapSeq fun _ => (#[] : Array Value))).push (seqObj "tuple" vs.toArray 0)).push (seqObj "list" #[] 0)).update a (Obj.mapSeq fun _ => vs.toArray)).get? a = some (seqObj "list" vs.toArray c2) := ⟨_, get?_update_seq hA fun _ => vs.toArray⟩
  refine wpAny_pure (h _ c2 (kas_fr F3 s2 haL ha0) fun p hp => ?_)
  rcases List.mem_cons.mp hp with rfl | hp
  · exact ⟨hc2, haL, ha0⟩
  · exact kas_news N2 s2 hna p hp

theorem el_list_sort {fl : Bool} {xs : List El} {n : Nat} {P : PySem.Fin → Shared → Prop} (hu : A.units + 3 < cLine) (F : Fr h₀ L s.heap m) (N : News h₀ L s.heap news) (ho : s.heap.get? a = some (lst xs n)) (haL : a ≠ L) (ha0 : h₀.get? a = none) (hna : ∀ p ∈ news, p.1 ≠ a)
    (h64 : xs.length < 64) (hd : KD xs) (hok : ∀ h', Fr h₀ L h' m → News h₀ L h' news → ∀ e ∈ xs, ElOk fl h' e)
    (h : ∀ h' c, Fr h₀ L h' m → News h₀ L h' ((a, lst (srt xs) c) :: news) → P (.done (.ret .none)) { s with heap := h' }) :
    wpAny (model prog w) A (Builtin.«list.sort» ⟨[.ref a], []⟩) P E s := by
  rcases Nat.lt_or_ge xs.length 2 with h2 | h2
  · refine small_list_sort (vs := xs.map Prod.fst) F N ho haL ha0 hna (by simpa using h2) fun h' c F' N' => h h' c F' ?_
    rw [srt_short h2]
    exact N'
  · refine kat_list_sort (vs := xs.map Prod.fst) F N ho haL ha0 hna (by simpa using h2) (by simpa using h64) fun e1 h' F' N' => ?_
    have hk := hok h' F' fun p hp => N' p (.tail _ hp)
    refine kind_el (s := { s with heap := h' }) (by omega) hk ?_
    rw [List.length_map]
    refine kruns_wp (lt := ltAt xs) (n := xs.length) (P := fun p => KPerm xs.length p ∧ KUp (ltAt xs) p xs.length) (fun i j C hi hj hC => ?_) (fun p hp => ?_) _ (kas_sort_runs (ltAt_ord hd) h2)
    · unfold kas_ask
      have e : ∀ i, i < xs.length → (xs.map Prod.fst).getD i Value.none = (xs.getD i dEl).1 := by
        intro i hi
        simp only [List.getD_eq_getElem?_getD, List.getElem?_map, List.getElem?_eq_getElem hi]
        rfl
      have me : ∀ i, i < xs.length → xs.getD i dEl ∈ xs := by
        intro i hi
        rw [List.getD_eq_getElem?_getD, List.getElem?_eq_getElem hi]
        exact List.getElem_mem hi
      rw [e i hi, e j hj]
      exact ask_el hu (hk _ (me i hi)) (hk _ (me j hj)) hC
    · refine KasFin.intro F' N' (UpdF.head hna) fun h'' c F'' N'' => ?_
      refine h h'' c F'' ?_
      rw [out_vals hp.1, out_srt hd hp.1 hp.2] at N''
      exact N''
end

theorem at_P13c_Sorted : True := by
  w_top off
  trivial
section
variable {prog : Program} {w : World} {A : Around} {s : Shared} {E : Value → Shared → Prop} {h₀ : Heap} {L : Addr} {m : Str → Option Value} {news : List (Addr × Obj)} {Q : Value → Shared → Prop}
abbrev kwNone : List (Str × Value) := [(Str.ofString "key", .none)]
theorem args_sorted_none (a : Value) : argsOk "sorted" ⟨[a], kwNone⟩ := by unfold argsOk; kernel_rfl
theorem args_lsort_none (a : Value) : argsOk "list.sort" ⟨[a], kwNone⟩ := by unfold argsOk; kernel_rfl
theorem list_sort_none (a : Addr) : Builtin.«list.sort» ⟨[.ref a], kwNone⟩ = Builtin.«list.sort» ⟨[.ref a], []⟩ := rfl

theorem sorted_el {fl : Bool} {l : Addr} {xs : List El} {n : Nat} {kw : List (Str × Value)} (hu : A.units + 5 < cLine) (F : Fr h₀ L s.heap m) (N : News h₀ L s.heap news) (hl : s.heap.get? l = some (lst xs n))
    (h64 : xs.length < 64) (hd : KD xs) (hok : ∀ h', Fr h₀ L h' m → News h₀ L h' news → ∀ e ∈ xs, ElOk fl h' e)
    (ha1 : argsOk "sorted" ⟨[.ref l], kw⟩) (ha2 : ∀ x, argsOk "list.sort" ⟨[.ref x], kw⟩) (ht : ∀ x, Builtin.«list.sort» ⟨[.ref x], kw⟩ = Builtin.«list.sort» ⟨[.ref x], []⟩)
    (h : ∀ D h' c, Fr h₀ L h' m → News h₀ L h' ((D, lst (srt xs) c) :: news) → (∀ q ∈ news, q.1 < D) → Q (.ref D) { s with heap := h' }) :
    wpAny (model prog w) A (call (.builtin "sorted") [.ref l] kw) Q E s := by
  have hlen : (xs.map Prod.fst).length < 64 := by simpa using h64
  refine call_function_entry_kw kind_sorted plain_sorted entry_sorted ha1 ?_
  unfold Builtin.«sorted»
  refine wpAny_bind (m := checkCount "sorted" 1 1 _) (wpAny_pure ?_)
  refine wpAny_bind (collect_list (vs := xs.map Prod.fst) (PySem.IsL.isList hl) ?_ (by rw [sizeLine_eq]; omega))
  refine wpAny_bind (wpAny_newList ?_ (by rw [sizeLine_eq]; omega))
  generalize hvs : xs.map Prod.fst = vs at *
  have hsz : ((s.heap.push (seqObj "list" #[] 0)).update s.heap.objs.size (Obj.mapSeq (· ++ vs.toArray))).objs.size = s.heap.objs.size + 1 := by
    rw [Heap.size_update, size_push']
  have hoL : (((s.heap.push (seqObj "list" #[] 0)).update s.heap.objs.size (Obj.mapSeq (· ++ vs.toArray))).push (seqObj "list" vs.toArray 0)).get? (s.heap.objs.size + 1) = some (seqObj "list" vs.toArray 0) := by
    rw [← hsz]; exact Heap.get?_push_size _ rfl
  have keep : ∀ b o, s.heap.get? b = some o → (((s.heap.push (seqObj "list" #[] 0)).update s.heap.objs.size (Obj.mapSeq (· ++ vs.toArray))).push (seqObj "list" vs.toArray 0)).get? b = some o := fun b o q => by
    have hlt : b < s.heap.objs.size := Heap.lt_size q
    rw [Heap.get?_push_ne _ _ _ (by rw [hsz]; exact Nat.ne_of_lt (Nat.lt_succ_of_lt hlt)), Heap.get?_update_ne _ _ _ _ (Nat.ne_of_lt hlt), Heap.get?_push_ne _ _ _ (Nat.ne_of_lt hlt)]
    exact q
  have hL : L < s.heap.objs.size := F.ns.lt
  show wpAny _ _ _ _ _ { s with heap := ((s.heap.push (seqObj "list" #[] 0)).update s.heap.objs.size (Obj.mapSeq (· ++ vs.toArray))).push (seqObj "list" vs.toArray 0) }
  rw [hsz]
  refine wpAny_bind (wpAny_holding (wpAny_call_entry_kw slot_list_sort ⟨_, hoL, rfl⟩ entry_list_sort ?body (ha2 _)))
  case body =>
    rw [show Builtin.«list.sort» ⟨[.ref (s.heap.objs.size + 1)], kw⟩ = _ from ht _]
    subst hvs
    refine el_list_sort (fl := fl) (xs := xs) (n := 0) (news := news) (s := { s with heap := ((s.heap.push (seqObj "list" #[] 0)).update s.heap.objs.size (Obj.mapSeq (· ++ (xs.map Prod.fst).toArray))).push (seqObj "list" (xs.map Prod.fst).toArray 0) })
      (by show A.units + 1 + 1 + 3 < cLine; omega) (F.kept keep) (N.grown keep) hoL (Nat.ne_of_gt (Nat.lt_succ_of_lt hL)) (Heap.get?_none_of_le (Nat.le_trans F.above (Nat.le_succ_of_le (Nat.le_of_lt hL))))
      (fun p hp => Nat.ne_of_lt (Nat.lt_succ_of_lt (Heap.lt_size (N p hp).1))) h64 hd hok fun h' c F' N' => ?_
    exact ⟨_, rfl, wpAny_pure ⟨_, rfl, h _ h' c F' N' fun q hq => Nat.lt_succ_of_lt (Heap.lt_size (N q hq).1)⟩⟩

theorem lsort_el {fl : Bool} {D : Addr} {xs : List El} {n : Nat} (hu : A.units + 4 < cLine) (F : Fr h₀ L s.heap m) (N : News h₀ L s.heap ((D, lst xs n) :: news)) (hoff : ∀ q ∈ news, q.1 ≠ D)
    (h64 : xs.length < 64) (hd : KD xs) (hok : ∀ h', Fr h₀ L h' m → News h₀ L h' news → ∀ e ∈ xs, ElOk fl h' e)
    (h : ∀ h' c, Fr h₀ L h' m → News h₀ L h' ((D, lst (srt xs) c) :: news) → Q .none { s with heap := h' }) :
    wpAny (model prog w) A (call (.builtin "list.sort") [.ref D]) Q E s := by
  have nz := N _ (.head _)
  refine wpAny_call_entry slot_list_sort ⟨_, nz.1, rfl⟩ entry_list_sort ?_ (args_list_sort _)
  refine el_list_sort (fl := fl) (xs := xs) (n := n) (news := news) (by show A.units + 1 + 3 < cLine; omega) F (fun p hp => N p (.tail _ hp)) nz.1 nz.2.1 nz.2.2 hoff h64 hd hok fun h' c F' N' => ?_
  exact ⟨_, rfl, h h' c F' N'⟩
end

theorem at_P13d_Min : True := by
  w_top off
  trivial
def minE (b : El) : List El → El
  | [] => b
  | x :: xs => minE (if elt x b then x else b) xs
section
variable {prog : Program} {w : World} {A : Around} {E : Value → Shared → Prop} {s : Shared} {h₀ : Heap} {L it a : Addr} {m : Str → Option Value} {news news' : List (Addr × Obj)} {i : Nat} {vs : List Value} {n : Nat}
theorem pn_item {Q : Option Value → Shared → Prop} {x : Value} {g : Obj → List (Addr × Obj)} (F : Fr h₀ L s.heap m) (N : News h₀ L s.heap news) (U : UpdF it (liObj a i) news g) (hl : s.heap.get? a = some (PySem.W.listOf vs.toArray n)) (hx : vs[i]? = some x)
    (h : ∀ h', Fr h₀ L h' m → News h₀ L h' (g (liObj a (i + 1))) → Q (some x) { s with heap := h' }) :
    wpAny (model prog w) A (pyNext (.ref it)) Q E s := by
  obtain ⟨pre, post, hl', hg, ha, hb⟩ := U.split
  have hm := N (it, liObj a i) (by rw [hl']; exact List.mem_append_right _ (.head _))
  unfold pyNext
  refine wpAny_bind (wpAny_attempt (li_item hm.1 hl hx fun h' hit' hs => ?_))
  exact wpAny_pure (h h' (F.change hs hm.2.1 hm.2.2) (hg (liObj a (i + 1)) ▸ (show News h₀ L s.heap (pre ++ (it, liObj a i) :: post) from hl' ▸ N).setIn ha hb hs hit'))
theorem pn_end {Q : Option Value → Shared → Prop} {g : Obj → List (Addr × Obj)} (hh : A.handled = none) (F : Fr h₀ L s.heap m) (N : News h₀ L s.heap news) (U : UpdF it (liObj a i) news g) (hl : s.heap.get? a = some (PySem.W.listOf vs.toArray n)) (hx : vs[i]? = none)
    (h : ∀ h', Fr h₀ L h' m → News h₀ L h' (g (liEnd i)) → Q none { s with heap := h' }) :
    wpAny (model prog w) A (pyNext (.ref it)) Q E s := by
  obtain ⟨pre, post, hl', hg, ha, hb⟩ := U.split
  have hm := N (it, liObj a i) (by rw [hl']; exact List.mem_append_right _ (.head _))
  unfold pyNext
  refine wpAny_bind (wpAny_attempt (li_end hh hm.1 hl hx fun h' h'' e hit' hs he => ?_))
  obtain ⟨t, ht, _⟩ := he.there
  refine wpAny_bind (wpAny_isInstance (T := "StopIteration") (b := true) ⟨_, ht, rfl⟩ isSubtype_stop ?_)
  have F' := F.change hs hm.2.1 hm.2.2
  have N' : News h₀ L h' (g (liEnd i)) := hg (liEnd i) ▸ (show News h₀ L s.heap (pre ++ (it, liObj a i) :: post) from hl' ▸ N).setIn ha hb hs hit'
  exact wpAny_pure (h h'' (F'.keeps he.keeps) fun p hp => ⟨he.keeps _ _ (N' p hp).1, (N' p hp).2⟩)

theorem args_min_dk (a x : Value) : argsOk "min" ⟨[a], [(Str.ofString "default", x), (Str.ofString "key", .none)]⟩ := by unfold argsOk; kernel_rfl

theorem min_loop {S d : Addr} {xs : List El} {R : Result → Shared → Prop} (hh : A.handled = none) (hu : A.units + 5 < cLine) (ha : h₀.get? a = some (lst xs n)) (hok : ∀ e ∈ xs, ElF h₀ e)
    (hnS : ∀ p ∈ news, p.1 ≠ S) (hnI : ∀ p ∈ news, p.1 ≠ it) (hSI : it ≠ S) :
    ∀ (ys : List El) (i : Nat) (b : El) (c : Nat) (s : Shared), xs.drop i = ys → b ∈ xs → Fr h₀ L s.heap m → News h₀ L s.heap ((S, seqObj "list" #[b.1, b.1] c) :: (it, liObj a i) :: news) →
      (∀ h' tk o, Fr h₀ L h' m → News h₀ L h' ((it, o) :: news) → R (.ok (.ret (minE b ys).1)) { s with heap := h', toks := tk }) →
      codeAny (model prog w) A (.builtin "min.loop" ⟨[.ref it, .none, .ref S], [(Str.ofString "default", .ref d)]⟩) R s := by
  have hname : (toString "min" ++ toString ".loop" : String) = "min.loop" := by decide
  intro ys
  induction ys with
  | nil =>
    intro i b c s hd hb F N hR
    have nS := N (S, seqObj "list" #[b.1, b.1] c) (.head _)
    refine codeAny_builtin PySem.F.entry_min_loop ?_
    rw [Around.under_plainId PySem.F.plain_min_loop _]
    show wpAny _ A.in1 (seqItems? (.ref S) >>= _) _ _ _
    refine wpAny_bind (wpAny_seqItems nS.1 rfl ?_)
    show wpAny _ A.in1 (tryCatch (pyNext (.ref it)) _ >>= _) _ _ _
    have hle : xs.length ≤ i := by
      rcases Nat.lt_or_ge i xs.length with h | h
      · rw [List.drop_eq_getElem_cons h] at hd; cases hd
      · exact h
    refine wpAny_bind (wpAny_tryCatch (pn_end (vs := xs.map Prod.fst) (n := n) hh F N (.tail hSI.symm (.head hnI)) (F.keep _ _ ha) (List.getElem?_eq_none (by rw [List.length_map]; exact hle)) fun h' F1 N1 => ?_))
    have nS1 := N1 (S, seqObj "list" #[b.1, b.1] c) (.head _)
    show wpAny _ A.in1 (updateSeq S (fun _ => #[]) >>= _) _ _ _
    refine wpAny_bind ?_
    have s1 := Heap.SameBut.update h' S (Obj.mapSeq fun _ => (#[] : Array Value))
    refine wpAny_updateSeq nS1.1 rfl (wpAny_bind (wpAny_letGo (wpAny_pure ?_)))
    exact hR _ _ _ (kas_fr F1 s1 nS1.2.1 nS1.2.2) (kas_news (fun p hp => N1 p (.tail _ hp)) s1 (by
      exact allc (hSI) (fun p hp => hnS p hp)))
  | cons y ys ih =>
    intro i b c s hd hb F N hR
    have nS := N (S, seqObj "list" #[b.1, b.1] c) (.head _)
    have hi : i < xs.length := by
      rcases Nat.lt_or_ge i xs.length with h | h
      · exact h
      · rw [List.drop_eq_nil_of_le h] at hd; cases hd
    rw [List.drop_eq_getElem_cons hi] at hd
    injection hd with hy hd
    have hym : y ∈ xs := hy ▸ List.getElem_mem hi
    refine codeAny_builtin PySem.F.entry_min_loop ?_
    rw [Around.under_plainId PySem.F.plain_min_loop _]
    show wpAny _ A.in1 (seqItems? (.ref S) >>= _) _ _ _
    refine wpAny_bind (wpAny_seqItems nS.1 rfl ?_)
    show wpAny _ A.in1 (tryCatch (pyNext (.ref it)) _ >>= _) _ _ _
    refine wpAny_bind (wpAny_tryCatch (pn_item (x := y.1) (vs := xs.map Prod.fst) (n := n) F N (.tail hSI.symm (.head hnI)) (F.keep _ _ ha) (by rw [List.getElem?_map, List.getElem?_eq_getElem hi, hy]; rfl) fun h' F1 N1 => ?_))
    have nS1 := N1 (S, seqObj "list" #[b.1, b.1] c) (.head _)
    have nI1 := N1 (it, liObj a (i + 1)) (.tail _ (.head _))
    show wpAny _ A.in1 (tryCatch (holding [y.1, y.1] (richCompare .Lt y.1 b.1 >>= _)) _ >>= _) _ _ _
    have hy' : ElOk true h' y := ElOk.keeps (fl := true) (hok y hym) fun b vs e => F1.keep _ _ e
    have hb' : ElOk true h' b := ElOk.keeps (fl := true) (hok b hb) fun b vs e => F1.keep _ _ e
    refine wpAny_bind (wpAny_tryCatch (wpAny_holding (wpAny_bind (lt_el (s := { s with heap := h' }) (fl := true) (by show A.units + 1 + 3 < cLine; omega) hy' hb' ?_))))
    refine wpAny_bind (wpAny_holding (wpAny_truthy_bool ?_))
    refine wpAny_bind (wpAny_letGo (wpAny_pure ?_))
    cases hc : elt y b with
    | true =>
      have s1 := Heap.SameBut.update h' S (Obj.mapSeq fun _ => #[y.1, y.1])
      obtain ⟨c2, hc2⟩ : ∃ c2, (h'.update S (Obj.mapSeq fun _ => #[y.1, y.1])).get? S = some (seqObj "list" #[y.1, y.1] c2) := ⟨_, get?_update_seq nS1.1 fun _ => #[y.1, y.1]⟩
      simp only [if_true]
      refine wpAny_bind ?_
      refine wpAny_updateSeq nS1.1 rfl (wpAny_bind (wpAny_letGo ?_))
      rw [hname]
      refine wpAny_pure ⟨plainId_quiet PySem.F.plain_min_loop _, ih (i + 1) y c2 _ hd hym (kas_fr F1 s1 nS1.2.1 nS1.2.2) (fun p hp => ?_) fun h2 tk2 o F2 N2 => ?_⟩
      · rcases List.mem_cons.mp hp with rfl | hp
        · exact ⟨hc2, nS1.2⟩
        · refine kas_news (fun p hp => N1 p (.tail _ hp)) s1 ?_ p hp
          exact allc (hSI) (fun p hp => hnS p hp)
      · have := hR h2 tk2 o F2 N2
        unfold minE at this
        rw [hc, if_pos rfl] at this
        exact this
    | false =>
      simp only [Bool.false_eq_true, if_false]
      refine wpAny_bind (wpAny_letGo ?_)
      rw [hname]
      refine wpAny_pure ⟨plainId_quiet PySem.F.plain_min_loop _, ih (i + 1) b c _ hd hb F1 N1 fun h2 tk2 o F2 N2 => ?_⟩
      have := hR h2 tk2 o F2 N2
      unfold minE at this
      rw [hc, if_neg Bool.false_ne_true] at this
      exact this

theorem min_el {d : Addr} {xs : List El} {Q : Value → Shared → Prop} (hh : A.handled = none) (hu : A.units + 5 < cLine) (ha : h₀.get? a = some (lst xs n)) (hok : ∀ e ∈ xs, ElF h₀ e) (F : Fr h₀ L s.heap m)
    (N : News h₀ L s.heap ((it, liObj a 0) :: news)) (hnI : ∀ p ∈ news, p.1 ≠ it)
    (h : ∀ h' tk o, Fr h₀ L h' m → News h₀ L h' ((it, o) :: news) → Q (match xs with | [] => .ref d | b :: ys => (minE b ys).1) { s with heap := h', toks := tk }) :
    wpAny (model prog w) A (call (.builtin "min") [.ref it] [(Str.ofString "default", .ref d), (Str.ofString "key", .none)]) Q E s := by
  have hname : (toString "min" ++ toString ".loop" : String) = "min.loop" := by decide
  have nI := N (it, liObj a 0) (.head _)
  refine kmk_tree PySem.F.kind_min PySem.F.plain_min PySem.F.entry_min (args_min_dk _ _) ?_
  show wpAny _ A.in1 (Builtin.Builtins.bindParams "min" ["key", "default"] 0 ⟨[], [(Str.ofString "default", .ref d), (Str.ofString "key", .none)]⟩ >>= _) _ _ s
  refine wpAny_bind (wpAny_of_eq (show Builtin.Builtins.bindParams "min" ["key", "default"] 0 ⟨[], [(Str.ofString "default", .ref d), (Str.ofString "key", .none)]⟩ = pure [some .none, some (.ref d)] from rfl) ?_)
  refine wpAny_bind (wpAny_pure ?_)
  refine wpAny_bind (wpAny_pyIter_listiter (li_at 0 nI.1) ?_)
  refine wpAny_bind (wpAny_newList ?_ (Nat.zero_le _))
  rw [hname]
  have hnS : ∀ p ∈ (it, liObj a 0) :: news, p.1 ≠ s.heap.objs.size := fun p hp => Nat.ne_of_lt (Heap.lt_size (N p hp).1)
  refine wpAny_pure ⟨plainId_quiet PySem.F.plain_min_loop _, ?_⟩
  have FH : Fr h₀ L (s.heap.push (seqObj "list" #[] 0)) m := F.push _
  have NH : News h₀ L (s.heap.push (seqObj "list" #[] 0)) ((s.heap.objs.size, seqObj "list" #[] 0) :: (it, liObj a 0) :: news) := News.push F N _
  generalize hSS : s.heap.objs.size = S at *
  refine codeAny_builtin PySem.F.entry_min_loop ?_
  rw [Around.under_plainId PySem.F.plain_min_loop _]
  have gS := NH (S, seqObj "list" #[] 0) (.head _)
  have hSI : it ≠ S := hnS _ (.head _)
  show wpAny _ A.in1 (seqItems? (.ref S) >>= _) _ _ _
  refine wpAny_bind (wpAny_seqItems gS.1 rfl ?_)
  show wpAny _ A.in1 (tryCatch (pyNext (.ref it)) _ >>= _) _ _ _
  cases xs with
  | nil =>
    refine wpAny_bind (wpAny_tryCatch (pn_end (vs := []) (n := n) hh FH NH (.tail hSI.symm (.head hnI)) (FH.keep _ _ ha) rfl fun h' F1 N1 => ?_))
    show wpAny _ A.in1 (rule _ >>= _) _ _ _
    refine wpAny_bind (wpAny_rule (wpAny_pure ?_))
    exact h _ _ _ F1 fun p hp => N1 p (.tail _ hp)
  | cons b ys =>
    refine wpAny_bind (wpAny_tryCatch (pn_item (x := b.1) (vs := (b :: ys).map Prod.fst) (n := n) FH NH (.tail hSI.symm (.head hnI)) (FH.keep _ _ ha) rfl fun h' F1 N1 => ?_))
    have nS1 := N1 (S, seqObj "list" #[] 0) (.head _)
    have s1 := Heap.SameBut.update h' S (Obj.mapSeq fun _ => #[b.1, b.1])
    obtain ⟨c2, hc2⟩ : ∃ c2, (h'.update S (Obj.mapSeq fun _ => #[b.1, b.1])).get? S = some (seqObj "list" #[b.1, b.1] c2) := ⟨_, get?_update_seq nS1.1 fun _ => #[b.1, b.1]⟩
    show wpAny _ A.in1 (updateSeq S (fun _ => #[b.1, b.1]) >>= _) _ _ _
    refine wpAny_bind ?_
    refine wpAny_updateSeq nS1.1 rfl ?_
    rw [hname]
    have hnS' : ∀ p ∈ (it, liObj a (0 + 1)) :: news, p.1 ≠ S := by
      exact allc (hSI) (fun p hp => hnS p (.tail _ hp))
    refine wpAny_pure ⟨plainId_quiet PySem.F.plain_min_loop _, min_loop (S := S) (xs := b :: ys) (news := news) (n := n) hh hu ha hok (fun p hp => hnS' p (.tail _ hp)) hnI hSI ys 1 b c2 _ rfl (.head _) (kas_fr F1 s1 nS1.2.1 nS1.2.2) (fun p hp => ?_) fun h2 tk2 o F2 N2 => ?_⟩
    · rcases List.mem_cons.mp hp with rfl | hp
      · exact ⟨hc2, nS1.2⟩
      · exact kas_news (fun p hp => N1 p (.tail _ hp)) s1 hnS' p hp
    · exact h _ _ _ F2 N2
end

theorem at_P13e_Object : True := by
  w_top off
  trivial
namespace Ob
theorem mro_object : mroOf (.type "object") = pure [.type "object"] := by rw [mroOf_type]; kernel_rfl
theorem lookup_new : typeLookup (.type "object") "__new__" = pure (some (.builtin "object.__new__")) := by rw [typeLookup_type, builtinLookup_eq_fast]; kernel_rfl
theorem slot_init : Slot "object" "__init__" "object.__init__" :=
  .of (owner := "object") (n := "__init__") (by rw [typeLookup_type, builtinLookup_eq_fast]; kernel_rfl) (by decide +kernel) (by decide +kernel) (by decide +kernel)
    (by first | exact .inl (by decide +kernel) | exact .inr (by decide +kernel)) (by rw [isSubtype_type]; kernel_rfl)
theorem plain_new : plainId "object.__new__" = true := by decide +kernel
theorem sub_self : isSubtype (.type "object") (.type "object") = pure true := by rw [isSubtype_type]; kernel_rfl
theorem made : Bind.madeBy (.type "object") = pure (some "object.__new__") := madeBy_type mro_object lookup_new (by decide +kernel)
theorem called : TypeCalled "object" "object.__new__" "object.__init__" :=
  ⟨by decide +kernel, by decide +kernel, ⟨_, _, mro_object⟩, made, plain_new, sub_self, slot_init⟩
theorem typeCall : checkTypeCall "object" ⟨[], []⟩ = pure () := by kernel_rfl
theorem newCall : checkBuiltinCall "object.__new__" ⟨[.type "object"], []⟩ = pure () := by kernel_rfl
theorem entry_init : entryFor table "object.__init__" = some Builtin.«object.__init__» := entryFor_of_tree (by kernel_rfl)
theorem args_init (a : Value) : argsOk "object.__init__" ⟨[a], []⟩ := by unfold argsOk; kernel_rfl
theorem type_type : typeOf (.type "object") = pure (.type "type") := by first | rfl | kernel_rfl
end Ob
abbrev objObj : Obj := { cls := .type "object", data := .plain }
section
variable {prog : Program} {w : World} {A : Around} {E : Value → Shared → Prop} {s : Shared} {h₀ : Heap} {L : Addr} {m : Str → Option Value} {news : List (Addr × Obj)}
theorem code_object_new {Q₁ : Value → Shared → Prop} (h : Q₁ (.ref s.heap.objs.size) { s with heap := s.heap.push objObj }) :
    codeAny (model prog w) A (.call (.builtin "object.__new__") ⟨[.type "object"], []⟩) (wants Q₁ E) s := by
  refine codeAny_of_tree ?_
  show wpAny _ A.in1 (do checkBuiltinCall "object.__new__" ⟨[.type "object"], []⟩; again (.builtin "object.__new__" ⟨[.type "object"], []⟩)) _ _ s
  refine wpAny_bind (wpAny_of_eq Ob.newCall (wpAny_pure ⟨plainId_quiet Ob.plain_new _, codeAny_builtin PySem.F.entry_object_new ?_⟩))
  rw [Around.under_plainId Ob.plain_new _]
  unfold Builtin.«object.__new__»
  have h1 := Ob.made
  have h2 := Ob.lookup_new
  obtain ⟨hp, g, d, tk, os⟩ := s
  repeat (any_goals (first | assumption | wp_step))
theorem object_v {Q : Value → Shared → Prop} (F : Fr h₀ L s.heap m) (N : News h₀ L s.heap news)
    (h : ∀ q h', Fr h₀ L h' m → News h₀ L h' ((q, objObj) :: news) → (∀ p ∈ news, p.1 < q) → Q (.ref q) { s with heap := h' }) :
    wpAny (model prog w) A (call (.type "object") []) Q E s := by
  refine callType_codes (Q₁ := fun obj s₁ => obj = .ref s.heap.objs.size ∧ s₁ = { s with heap := s.heap.push objObj }) Ob.called Ob.typeCall Ob.entry_init (code_object_new ⟨rfl, rfl⟩) fun obj s₁ h₁ => ?_
  obtain ⟨rfl, rfl⟩ := h₁
  refine ⟨⟨_, Heap.get?_push_size _ rfl, rfl⟩, Ob.args_init _, ?_⟩
  unfold Builtin.«object.__init__»
  exact wpAny_pure ⟨rfl, h _ _ (F.push _) (News.push F N _) fun q hq => Heap.lt_size (N q hq).1⟩
end

theorem at_P13f_Slice : True := by
  w_top off
  trivial
section
variable {prog : Program} {w : World} {A : Around} {E : Value → Shared → Prop} {h₀ h : Heap} {g : Array GenState} {d : Drawn} {tk : Nat} {os : OsState} {L D : Addr} {m : Str → Option Value} {news : List (Addr × Obj)} {xs : List El} {n : Nat}
theorem slice_upto {value slice : Expr} {k : Nat} {t : Tok} {ops : List Value} {Q : Value → Shared → Prop} (F : Fr h₀ L h m) (N : News h₀ L h news) (hl : h.get? D = some (lst xs n)) (hlen : xs.length < 2 ^ 20)
    (hq : ∀ r h', Fr h₀ L h' m → News h₀ L h' ((r, lst (xs.take k) 0) :: news) → (∀ q ∈ news, q.1 < r) → Q (.ref r) ⟨h', g, d, tk, os⟩)
    (hs : subscripted slice false (.ref D) (.ref h.objs.size) = operate ops (getItem (.ref D) (.ref h.objs.size)) := by with_unfolding_all rfl)
    (ht : ∀ r, letTemporaryGo value (.ref D) r = pure () := by intro _; with_unfolding_all rfl) :
    wpAny (model prog w) A (subscriptTail value slice (.ref D) (.ref h.objs.size)) Q E ⟨h.push { cls := .type "slice", data := .fields #[.none, .int (k : Int) t, .none] }, g, d, tk, os⟩ := by
  refine slice_list3 (s := ⟨h, g, d, tk, os⟩) (items := (xs.map Prod.fst).toArray) (lo := none) (hi := some (k : Int)) (st := none) F N (PySem.IsL.isList hl) .none (.int _ _) .none (by simp) (fun h' F' N' => hq _ h' F' ?_ fun q hq => Nat.lt_succ_of_lt (Heap.lt_size (N q hq).1)) hs ht (by simp [sizeLine_eq]; omega)
  rw [slicePick_upto'] at N'
  have e : ((xs.map Prod.fst).toArray.toList.take k).toArray = ((xs.take k).map Prod.fst).toArray := by simp [List.map_take]
  rw [e] at N'
  exact N'
theorem slice_from {value slice : Expr} {k : Nat} {t : Tok} {ops : List Value} {Q : Value → Shared → Prop} (F : Fr h₀ L h m) (N : News h₀ L h news) (hl : h.get? D = some (lst xs n)) (hlen : xs.length < 2 ^ 20)
    (hq : ∀ r h', Fr h₀ L h' m → News h₀ L h' ((r, lst (xs.drop k) 0) :: news) → (∀ q ∈ news, q.1 < r) → Q (.ref r) ⟨h', g, d, tk, os⟩)
    (hs : subscripted slice false (.ref D) (.ref h.objs.size) = operate ops (getItem (.ref D) (.ref h.objs.size)) := by with_unfolding_all rfl)
    (ht : ∀ r, letTemporaryGo value (.ref D) r = pure () := by intro _; with_unfolding_all rfl) :
    wpAny (model prog w) A (subscriptTail value slice (.ref D) (.ref h.objs.size)) Q E ⟨h.push { cls := .type "slice", data := .fields #[.int (k : Int) t, .none, .none] }, g, d, tk, os⟩ := by
  refine slice_list3 (s := ⟨h, g, d, tk, os⟩) (items := (xs.map Prod.fst).toArray) (lo := some (k : Int)) (hi := none) (st := none) F N (PySem.IsL.isList hl) (.int _ _) .none .none (by simp) (fun h' F' N' => hq _ h' F' ?_ fun q hq => Nat.lt_succ_of_lt (Heap.lt_size (N q hq).1)) hs ht (by simp [sizeLine_eq]; omega)
  rw [slicePick_from'] at N'
  have e : ((xs.map Prod.fst).toArray.toList.drop k).toArray = ((xs.drop k).map Prod.fst).toArray := by simp [List.map_drop]
  rw [e] at N'
  exact N'
end

theorem at_P13g_Zip : True := by
  w_top off
  trivial
abbrev zipObj (f0 : Value) (TI TO : Addr) : Obj := { cls := .type "zip", dict := none, data := .fields #[f0, .bool false, .bool false, .ref TI, .ref TO], slots := #[] }
section
variable {prog : Program} {w : World} {A : Around} {E : Value → Shared → Prop} {s : Shared} {ri it l z TI TO : Addr} {k n : Nat} {vs : List Value} {x left : Int} {a b y : Value}
theorem nx_range_item {Q : Value → Shared → Prop} (hit : s.heap.get? ri = some (riObj x left 1)) (hleft : 0 < left)
    (hQ : ∀ h' t, h'.get? ri = some (riObj (x + 1) (left - 1) 1) → Heap.SameBut ri s.heap h' → Q (.int x t) { s with heap := h', toks := s.toks + 1 }) :
    wpAny (model prog w) A (Builtin.SmallTypes.nextOf (.ref ri)) Q E s := by
  have hT : s.TypeIs (.ref ri) "range_iterator" := ⟨_, hit, rfl⟩
  unfold Builtin.SmallTypes.nextOf
  refine wpAny_bind (wpAny_callSpecial?_slot (name := Str.ofString "__next__") hT PySem.F.slot_range_iterator_next
    (call_meets PySem.F.slot_range_iterator_next hT PySem.F.entry_range_iterator_next (PySem.F.args_range_iterator_next_1 _) (AutoRange.range_iterator___next___range_iterator_1 ri x left 1 (by omega)) ⟨hit, ?_⟩))
  exact wpAny_pure (hQ _ _ (Heap.get?_update_self _ (Heap.get?_update_self _ hit rfl) rfl) ((Heap.SameBut.update ..).trans (Heap.SameBut.update ..)))
theorem nx_range_end {Q : Value → Shared → Prop} (hh : A.handled = none) (hit : s.heap.get? ri = some (riObj x left 1)) (hleft : left ≤ 0)
    (hE : ∀ h' e, (∀ c o, s.heap.get? c = some o → h'.get? c = some o) → (∃ o, h'.get? e = some o ∧ o.cls = .type "StopIteration") → E (.ref e) { s with heap := h' }) :
    wpAny (model prog w) A (Builtin.SmallTypes.nextOf (.ref ri)) Q E s := by
  have hT : s.TypeIs (.ref ri) "range_iterator" := ⟨_, hit, rfl⟩
  unfold Builtin.SmallTypes.nextOf
  refine wpAny_bind (wpAny_callSpecial?_slot (name := Str.ofString "__next__") hT PySem.F.slot_range_iterator_next
    (wpAny_call_entry PySem.F.slot_range_iterator_next hT PySem.F.entry_range_iterator_next ?_ (PySem.F.args_range_iterator_next_1 _)))
  show wpAny _ _ (field (.ref ri) 0 >>= _) _ _ s
  refine wpAny_bind (wpAny_field hit rfl (x := rawInt x) rfl ?_)
  show wpAny _ _ (field (.ref ri) 1 >>= _) _ _ s
  refine wpAny_bind (wpAny_field hit rfl (x := rawInt left) rfl ?_)
  show wpAny _ _ (field (.ref ri) 2 >>= _) _ _ s
  refine wpAny_bind (wpAny_field hit rfl (x := rawInt 1) rfl ?_)
  show wpAny _ _ (if left ≤ 0 then _ else _) _ _ s
  rw [if_pos hleft]
  refine wpAny_bind (wpAny_rule ?_)
  refine wpAny_bind ?_
  show wpAny _ _ (newExc (.type "StopIteration") [] >>= _) _ _ _
  refine wpAny_bind ?_
  simp only [newExc, newTuple]
  refine wpAny_bind (wpAny_newObj_type ?_ (by size_fits))
  refine wpAny_bind (m := firstArgMember _ _) (wpAny_of_eq (a := Value.none) (by first | rfl | (simp only [firstArgMember]; rfl)) ?_)
  refine wpAny_newObj_type ?_ (by size_fits)
  simp only [raiseNew]
  refine wpAny_bind (wpAny_handled ?_)
  first | rw [show A.in1.handled = none from hh] | rw [hh]
  refine wpAny_bind (wpAny_pure (wpAny_throw ?_))
  exact hE _ _ (fun c o e => Heap.get?_push_of_some _ (Heap.get?_push_of_some _ e)) ⟨_, Heap.get?_push_size _ rfl, rfl⟩

theorem nx_li_item {Q : Value → Shared → Prop} (hit : s.heap.get? it = some (liObj l k)) (hl : s.heap.get? l = some (PySem.W.listOf vs.toArray n)) (hx : vs[k]? = some y)
    (h : ∀ h', h'.get? it = some (liObj l (k + 1)) → Heap.SameBut it s.heap h' → Q y { s with heap := h' }) : wpAny (model prog w) A (Builtin.SmallTypes.nextOf (.ref it)) Q E s := by
  unfold Builtin.SmallTypes.nextOf
  exact wpAny_bind (li_item hit hl hx fun h' a b => wpAny_pure (h h' a b))

structure ZApart (z TI TO ri it l : Addr) : Prop where
  TIz : TI ≠ z
  TOz : TO ≠ z
  riz : ri ≠ z
  itz : it ≠ z
  lz : l ≠ z
  TITO : TI ≠ TO
  TIri : TI ≠ ri
  TIit : TI ≠ it
  TOri : TO ≠ ri
  TOit : TO ≠ it
  TOl : l ≠ TO
  riit : ri ≠ it
  lri : l ≠ ri
  lit : l ≠ it

theorem zn_item {Q : Value → Shared → Prop} (D : ZApart z TI TO ri it l)
    (hz : s.heap.get? z = some (zipObj .none TI TO)) (hTI : IsPair s.heap TI (.ref ri) (.ref it)) (hTO : IsPair s.heap TO a b)
    (h1 : s.heap.get? ri = some (riObj x left 1)) (hleft : 0 < left) (h2 : s.heap.get? it = some (liObj l k)) (hl : s.heap.get? l = some (PySem.W.listOf vs.toArray n)) (hy : vs[k]? = some y)
    (hQ : ∀ h' tk t, h'.get? z = some (zipObj (rawInt s.heap.objs.size) TI TO) → IsPair h' TO (.int x t) y → h'.get? ri = some (riObj (x + 1) (left - 1) 1) → h'.get? it = some (liObj l (k + 1)) → IsPair h' s.heap.objs.size (.int x t) y → h'.objs.size = s.heap.objs.size + 1 →
      (∀ c o, c ≠ z → c ≠ TO → c ≠ ri → c ≠ it → s.heap.get? c = some o → h'.get? c = some o) → Q (.ref s.heap.objs.size) { s with heap := h', toks := tk }) :
    wpAny (model prog w) A (Builtin.«zip.__next__» ⟨[.ref z], []⟩) (fun fin s' => ∃ v, fin = .done (.ret v) ∧ Q v s') E s := by
  show wpAny _ _ (field (.ref z) 2 >>= _) _ _ _
  refine wpAny_bind (wpAny_field hz rfl (x := .bool false) rfl ?_)
  show wpAny _ _ (field (.ref z) 3 >>= _) _ _ _
  refine wpAny_bind (wpAny_field hz rfl (x := .ref TI) rfl ?_)
  refine wpAny_bind (wpAny_seqItems hTI rfl ?_)
  show wpAny _ _ (Builtin.SmallTypes.ownedTupleIsFree (.ref z) >>= _) _ _ _
  refine wpAny_bind ?_
  unfold Builtin.SmallTypes.ownedTupleIsFree
  refine wpAny_bind (wpAny_field hz rfl (x := .none) rfl (wpAny_pure ?_))
  simp only [if_true]
  refine wpAny_bind (wpAny_rule ?_)
  refine wpAny_bind (wpAny_field hz rfl (x := .ref TO) rfl ?_)
  refine wpAny_bind (wpAny_setField_rec hz (by simp) fun h₁ hz₁ hs₁ => ?_)
  replace hz₁ : h₁.get? z = some (zipObj .ellipsis TI TO) := hz₁
  refine wpAny_bind ?_
  simp only [List.zipIdx_cons, List.zipIdx_nil, List.forIn_cons, List.forIn_nil]
  refine wpAny_bind (wpAny_bind (wpAny_onRaise ?_))
  show wpAny _ _ (Builtin.SmallTypes.nextOf (.ref ri) >>= _) _ _ _
  refine wpAny_bind (nx_range_item (s := { s with heap := h₁ }) ((hs₁.2 _ D.riz).trans h1) hleft fun h₂ t h1₂ hs₂ => wpAny_pure ?_)
  have hTO₂ : IsPair h₂ TO a b := (hs₂.2 _ D.TOri).trans ((hs₁.2 _ D.TOz).trans hTO)
  refine wpAny_bind (wpAny_seqItems hTO₂ rfl ?_)
  refine wpAny_bind (wpAny_updateSeq_pair hTO₂ fun h₃ hTO₃ hs₃ => ?_)
  replace hTO₃ : IsPair h₃ TO (.int x t) b := hTO₃
  refine wpAny_bind (wpAny_letGo (wpAny_pure ?_))
  refine wpAny_bind (wpAny_bind (wpAny_onRaise ?_))
  show wpAny _ _ (Builtin.SmallTypes.nextOf (.ref it) >>= _) _ _ _
  have h2₃ : h₃.get? it = some (liObj l k) := (hs₃.2 _ D.TOit.symm).trans ((hs₂.2 _ D.riit.symm).trans ((hs₁.2 _ D.itz).trans h2))
  have hl₃ : h₃.get? l = some (PySem.W.listOf vs.toArray n) := (hs₃.2 _ D.TOl).trans ((hs₂.2 _ D.lri).trans ((hs₁.2 _ D.lz).trans hl))
  refine wpAny_bind (nx_li_item h2₃ hl₃ hy fun h₄ h2₄ hs₄ => wpAny_pure ?_)
  have hTO₄ : IsPair h₄ TO (.int x t) b := (hs₄.2 _ D.TOit).trans hTO₃
  refine wpAny_bind (wpAny_seqItems hTO₄ rfl ?_)
  refine wpAny_bind (wpAny_updateSeq_pair hTO₄ fun h₅ hTO₅ hs₅ => ?_)
  replace hTO₅ : IsPair h₅ TO (.int x t) y := hTO₅
  refine wpAny_bind (wpAny_letGo (wpAny_pure (wpAny_pure ?_)))
  refine wpAny_bind (wpAny_seqItems hTO₅ rfl ?_)
  refine wpAny_bind (wpAny_newTuple ?_)
  have hsz : h₅.objs.size = s.heap.objs.size := by rw [hs₅.1, hs₄.1, hs₃.1, hs₂.1, hs₁.1]
  have hk₅ : ∀ c o, c ≠ z → c ≠ TO → c ≠ ri → c ≠ it → s.heap.get? c = some o → h₅.get? c = some o := fun c o c1 c2 c3 c4 e =>
    (hs₅.2 _ c2).trans ((hs₄.2 _ c4).trans ((hs₃.2 _ c2).trans ((hs₂.2 _ c3).trans ((hs₁.2 _ c1).trans e))))
  have hz₅ : h₅.get? z = some (zipObj .ellipsis TI TO) := (hs₅.2 _ D.TOz.symm).trans ((hs₄.2 _ D.itz.symm).trans ((hs₃.2 _ D.TOz.symm).trans ((hs₂.2 _ D.riz.symm).trans hz₁)))
  have h1₅ : h₅.get? ri = some (riObj (x + 1) (left - 1) 1) := (hs₅.2 _ D.TOri.symm).trans ((hs₄.2 _ D.riit).trans ((hs₃.2 _ D.TOri.symm).trans h1₂))
  have h2₅ : h₅.get? it = some (liObj l (k + 1)) := (hs₅.2 _ D.TOit.symm).trans h2₄
  have hzlt : z < h₅.objs.size := Heap.lt_size hz₅
  show wpAny _ _ (Builtin.SmallTypes.ownedTupleHandOut (.ref z) (.ref h₅.objs.size) >>= _) _ _ _
  refine wpAny_bind ?_
  unfold Builtin.SmallTypes.ownedTupleHandOut
  have hz₆ : (h₅.push { cls := .type "tuple", data := .seq #[.int x t, y] }).get? z = some (zipObj .ellipsis TI TO) := Heap.get?_push_of_some _ hz₅
  refine wpAny_bind (wpAny_setField_rec hz₆ (by simp) fun h₇ hz₇ hs₇ => ?_)
  replace hz₇ : h₇.get? z = some (zipObj (rawInt h₅.objs.size) TI TO) := hz₇
  refine wpAny_setField_rec hz₇ (by simp) fun h₈ hz₈ hs₈ => ?_
  replace hz₈ : h₈.get? z = some (zipObj (rawInt h₅.objs.size) TI TO) := hz₈
  have up : ∀ c o, c ≠ z → h₅.get? c = some o → h₈.get? c = some o := fun c o c1 e => (hs₈.2 _ c1).trans ((hs₇.2 _ c1).trans (Heap.get?_push_of_some _ e))
  have hT₈ : IsPair h₈ h₅.objs.size (.int x t) y := (hs₈.2 _ (Nat.ne_of_gt hzlt)).trans ((hs₇.2 _ (Nat.ne_of_gt hzlt)).trans (Heap.get?_push_size _ rfl))
  have hz8 : h₈.objs.size = h₅.objs.size + 1 := by rw [hs₈.1, hs₇.1, Heap.size_push]
  rw [hsz] at hz₈ hT₈ hz8
  refine wpAny_pure ⟨_, rfl, ?_⟩
  show Q (.ref h₅.objs.size) _
  rw [hsz]
  exact hQ h₈ _ t hz₈ (up _ _ D.TOz hTO₅) (up _ _ D.riz h1₅) (up _ _ D.itz h2₅) hT₈ hz8 fun c o c1 c2 c3 c4 e => up c o c1 (hk₅ c o c1 c2 c3 c4 e)

theorem pn_zip_item {Q : Option Value → Shared → Prop} (D : ZApart z TI TO ri it l)
    (hz : s.heap.get? z = some (zipObj .none TI TO)) (hTI : IsPair s.heap TI (.ref ri) (.ref it)) (hTO : IsPair s.heap TO a b)
    (h1 : s.heap.get? ri = some (riObj x left 1)) (hleft : 0 < left) (h2 : s.heap.get? it = some (liObj l k)) (hl : s.heap.get? l = some (PySem.W.listOf vs.toArray n)) (hy : vs[k]? = some y)
    (hQ : ∀ h' tk t, h'.get? z = some (zipObj (rawInt s.heap.objs.size) TI TO) → IsPair h' TO (.int x t) y → h'.get? ri = some (riObj (x + 1) (left - 1) 1) → h'.get? it = some (liObj l (k + 1)) → IsPair h' s.heap.objs.size (.int x t) y → h'.objs.size = s.heap.objs.size + 1 →
      (∀ c o, c ≠ z → c ≠ TO → c ≠ ri → c ≠ it → s.heap.get? c = some o → h'.get? c = some o) → Q (some (.ref s.heap.objs.size)) { s with heap := h', toks := tk }) :
    wpAny (model prog w) A (pyNext (.ref z)) Q E s := by
  have hT : s.TypeIs (.ref z) "zip" := ⟨_, hz, rfl⟩
  unfold pyNext
  exact wpAny_bind (wpAny_attempt (wpAny_callSpecial?_slot (name := Str.ofString "__next__") hT PySem.F.slot_zip_next
    (wpAny_call_entry PySem.F.slot_zip_next hT PySem.F.entry_zip_next
      (zn_item D hz hTI hTO h1 hleft h2 hl hy fun h' tk t a1 a2 a3 a4 a5 a6 a7 => wpAny_pure (hQ h' tk t a1 a2 a3 a4 a5 a6 a7)) (PySem.F.args_zip_next_1 _))))

theorem zn_end {Q : PySem.Fin → Shared → Prop} (hh : A.handled = none) (D : ZApart z TI TO ri it l)
    (hz : s.heap.get? z = some (zipObj .none TI TO)) (hTI : IsPair s.heap TI (.ref ri) (.ref it))
    (h1 : s.heap.get? ri = some (riObj x left 1)) (hleft : left ≤ 0) 
    (hE : ∀ h' e, (∀ c o, c ≠ z → s.heap.get? c = some o → h'.get? c = some o) → (∃ o, h'.get? e = some o ∧ o.cls = .type "StopIteration") → E (.ref e) { s with heap := h' }) :
    wpAny (model prog w) A (Builtin.«zip.__next__» ⟨[.ref z], []⟩) Q E s := by
  show wpAny _ _ (field (.ref z) 2 >>= _) _ _ _
  refine wpAny_bind (wpAny_field hz rfl (x := .bool false) rfl ?_)
  show wpAny _ _ (field (.ref z) 3 >>= _) _ _ _
  refine wpAny_bind (wpAny_field hz rfl (x := .ref TI) rfl ?_)
  refine wpAny_bind (wpAny_seqItems hTI rfl ?_)
  show wpAny _ _ (Builtin.SmallTypes.ownedTupleIsFree (.ref z) >>= _) _ _ _
  refine wpAny_bind ?_
  unfold Builtin.SmallTypes.ownedTupleIsFree
  refine wpAny_bind (wpAny_field hz rfl (x := .none) rfl (wpAny_pure ?_))
  simp only [if_true]
  refine wpAny_bind (wpAny_rule ?_)
  refine wpAny_bind (wpAny_field hz rfl (x := .ref TO) rfl ?_)
  refine wpAny_bind (wpAny_setField_rec hz (by simp) fun h₁ hz₁ hs₁ => ?_)
  replace hz₁ : h₁.get? z = some (zipObj .ellipsis TI TO) := hz₁
  refine wpAny_bind ?_
  simp only [List.zipIdx_cons, List.zipIdx_nil, List.forIn_cons, List.forIn_nil]
  refine wpAny_bind (wpAny_bind (wpAny_onRaise ?_))
  show wpAny _ _ (Builtin.SmallTypes.nextOf (.ref ri) >>= _) _ _ _
  refine wpAny_bind (nx_range_end (s := { s with heap := h₁ }) hh ((hs₁.2 _ D.riz).trans h1) hleft fun h₂ e hs₂ he => ?_)
  obtain ⟨oe, hoe, hce⟩ := he
  have hz₂ : h₂.get? z = some (zipObj .ellipsis TI TO) := hs₂ _ _ hz₁
  have hez : e ≠ z := fun q => by subst q; rw [hz₂] at hoe; cases hoe; simp at hce
  refine wpAny_setField_rec hz₂ (by simp) fun h₃ _ hs₃ => hE h₃ e (fun c o c1 q => (hs₃.2 _ c1).trans (hs₂ _ _ ((hs₁.2 _ c1).trans q))) ⟨oe, (hs₃.2 _ hez).trans hoe, hce⟩
theorem pn_zip_end {Q : Option Value → Shared → Prop} (hh : A.handled = none) (D : ZApart z TI TO ri it l)
    (hz : s.heap.get? z = some (zipObj .none TI TO)) (hTI : IsPair s.heap TI (.ref ri) (.ref it))
    (h1 : s.heap.get? ri = some (riObj x left 1)) (hleft : left ≤ 0) 
    (hQ : ∀ h', (∀ c o, c ≠ z → s.heap.get? c = some o → h'.get? c = some o) → Q none { s with heap := h' }) :
    wpAny (model prog w) A (pyNext (.ref z)) Q E s := by
  have hT : s.TypeIs (.ref z) "zip" := ⟨_, hz, rfl⟩
  unfold pyNext
  refine wpAny_bind (wpAny_attempt (wpAny_callSpecial?_slot (name := Str.ofString "__next__") hT PySem.F.slot_zip_next
    (wpAny_call_entry PySem.F.slot_zip_next hT PySem.F.entry_zip_next (zn_end hh D hz hTI h1 hleft fun h' e hk he => ?_) (PySem.F.args_zip_next_1 _))))
  obtain ⟨o, ho, hc⟩ := he
  refine wpAny_bind (wpAny_isInstance (T := "StopIteration") (b := true) ⟨o, ho, hc⟩ isSubtype_stop ?_)
  exact wpAny_pure (hQ _ hk)
end

theorem at_P13h_ZipCall : True := by
  w_top off
  trivial
section
theorem meets_zip_ri (r it l : Addr) (k n : Nat) (t u v : Tok) (hsm : Builtin.Range.small 0 n 1 = true) :
    Meets (Builtin.«zip.__new__» ⟨[.type "zip", .ref r, .ref it], []⟩) (fun _ R s => s.heap.get? r = some (rangeObj 0 n 1 t u v) ∧ s.heap.get? it = some (liObj l k) ∧
      R (.ok (.ret (.ref (s.heap.objs.size + 3)))) { s with heap := (((s.heap.push (riObj 0 (Builtin.Range.rangeSize 0 n 1) 1)).push { cls := .type "tuple", data := .seq #[.ref s.heap.objs.size, .ref it] }).push { cls := .type "tuple", data := .seq #[.none, .none] }).push (zipObj .none (s.heap.objs.size + 1) (s.heap.objs.size + 2)) }) :=
  .of_wp fun prog w A R s h => by
    obtain ⟨hp, g, d, tk, os⟩ := s; obtain ⟨hr, hit, h⟩ := h
    have hsub := sub_zip
    have hR : IsRange (Shared.heap ⟨hp, g, d, tk, os⟩) r 0 n 1 t u v := hr
    have hI : (Shared.heap ⟨hp.push (riObj 0 (Builtin.Range.rangeSize 0 n 1) 1), g, d, tk, os⟩).IsListIter it l k := li_at k (Heap.get?_push_of_some _ hit)
    wp_walk using wpAny_pyIter_range hR hsm, wpAny_pyIter_listiter hI
    refine ⟨_, rfl, ?_⟩
    simp only [Heap.size_push, Nat.add_assoc, Nat.reduceAdd] at h ⊢
    exact h
end
section
variable {prog : Program} {w : World} {A : Around} {E : Value → Shared → Prop} {s : Shared} {h₀ : Heap} {L : Addr} {m : Str → Option Value} {news : List (Addr × Obj)}
theorem zip_v {r it l : Addr} {k n : Nat} {t u v : Tok} {Q : Value → Shared → Prop} (F : Fr h₀ L s.heap m) (N : News h₀ L s.heap news) (hr : (r, rangeObj 0 n 1 t u v) ∈ news) (hit : (it, liObj l k) ∈ news) (hn : n < 2 ^ 20)
    (h : ∀ z TI TO ri h', Fr h₀ L h' m → News h₀ L h' ((z, zipObj .none TI TO) :: (TO, { cls := .type "tuple", data := .seq #[.none, .none] }) :: (TI, { cls := .type "tuple", data := .seq #[.ref ri, .ref it] }) :: (ri, riObj 0 n 1) :: news) →
      (∀ q ∈ news, @LT.lt Nat _ q.1 ri) → @LT.lt Nat _ ri TI → @LT.lt Nat _ TI TO → @LT.lt Nat _ TO z → Q (.ref z) { s with heap := h' }) :
    wpAny (model prog w) A (call (.type "zip") [.ref r, .ref it]) Q E s := by
  have hsm : Builtin.Range.small 0 n 1 = true := small_one (by decide) (by decide) (by omega) (by omega)
  have hsz : Builtin.Range.rangeSize 0 n 1 = n := by
    unfold Builtin.Range.rangeSize
    rw [if_pos (by decide)]
    by_cases h0 : (0 : Int) < n
    · rw [if_pos h0]; omega
    · rw [if_neg h0]; omega
  refine callType_new PySem.F.called_zip (by decide) (PySem.F.typeCall_zip_2 _ _) (PySem.F.newCall_zip_2 _ _) (fun obj => PySem.F.args_object_init_3 obj _ _) PySem.F.entry_zip_new
    (meets_zip_ri r it l k n t u v hsm) ⟨(N _ hr).1, (N _ hit).1, ?_⟩
  rw [hsz]
  have F1 := F.push (riObj 0 n 1)
  have N1 := News.push F N (riObj 0 n 1)
  have F2 := F1.push { cls := .type "tuple", data := .seq #[.ref s.heap.objs.size, .ref it] }
  have N2 := News.push F1 N1 { cls := .type "tuple", data := .seq #[.ref s.heap.objs.size, .ref it] }
  have F3 := F2.push { cls := .type "tuple", data := .seq #[.none, .none] }
  have N3 := News.push F2 N2 { cls := .type "tuple", data := .seq #[.none, .none] }
  have F4 := F3.push (zipObj .none (s.heap.objs.size + 1) (s.heap.objs.size + 2))
  have N4 := News.push F3 N3 (zipObj .none (s.heap.objs.size + 1) (s.heap.objs.size + 2))
  simp only [Heap.size_push, Nat.add_assoc, Nat.reduceAdd] at N4
  exact ⟨⟨_, (N4 _ (.head _)).1, rfl⟩, h _ _ _ _ _ F4 N4 (fun q hq => Heap.lt_size (N q hq).1) (Nat.lt_succ_self _) (Nat.lt_succ_self _) (Nat.lt_succ_self _)⟩
end

theorem at_P13i_ZipComp : True := by
  w_top off
  trivial
abbrev pr (a b : Value) : Obj := { cls := .type "tuple", data := .seq #[a, b] }
theorem Fr_but {g h h' : Heap} {C : Addr} {m : Str → Option Value} {P : Addr → Prop} (F : Fr g C h m) (k : ∀ b o, ¬ P b → h.get? b = some o → h'.get? b = some o) (hC : ¬ P C) (hg : ∀ b o, g.get? b = some o → ¬ P b) : Fr g C h' m := by
  obtain ⟨oL, a1, a2, hL, a3⟩ := F.ns
  exact ⟨⟨oL, a1, a2, k _ _ hC hL, a3⟩, fun b o e => k b o (hg b o e) (F.keep b o e), F.above⟩
theorem ltne {a b : Addr} (h : @LT.lt Nat _ a b) : a ≠ b := Nat.ne_of_lt h
theorem gtne {a b : Addr} (h : @LT.lt Nat _ b a) : a ≠ b := Nat.ne_of_gt h
theorem some_ne_none {g : Heap} {a b : Addr} {o : Obj} (e : g.get? a = some o) (f : g.get? b = none) : a ≠ b := fun q => by rw [q, f] at e; cases e
section
variable {w : World} {A : Around} {s : Shared} {g : Heap} {C D z TI TO ri it fa : Addr} {env : Env} {xs : List El} {n k : Nat}

inductive ZJ (z TI TO ri it fa D : Addr) (xs : List El) (k : Nat) (nn : Nat) (_m : Str → Option Value) (vs : List Value) (nx : List (Addr × Obj)) : Prop
  | mk (i : Nat) (a b : Value) (ts : List (Addr × Obj)) (h1 : nn = k - i) (h2 : i ≤ k) (h3 : vs.length = i) (h4 : nx = (z, zipObj .none TI TO) :: (TO, pr a b) :: (TI, pr (.ref ri) (.ref it)) :: (ri, riObj (i : Nat) ((k : Int) - (i : Nat)) 1) :: (it, liObj fa i) :: ts)
    (h5 : ∀ q ∈ ts, @LT.lt Nat _ D q.1) (h6 : ∀ j, j < i → ∃ e t, vs[j]? = some (.ref e) ∧ (e, tup [(xs.getD j dEl).1, .int (j : Nat) t]) ∈ ts)

theorem zip_comp {iter : Expr} {scope : Scope} {cl : List (Str × Addr)} {pos pe pi pt pe2 pi2 pt2 : Pos} {ka kb : Nat} {R : Result → Shared → Prop} (hh : A.handled = none) (hkind : scope.kind = .function) (hle : scope.names.lookup (Str.ofString "elem") = some .local) (hli : scope.names.lookup (Str.ofString "i") = some .local)
    (hk : k ≤ xs.length) (hlen : xs.length < 64) (hfg : g.get? fa = some (lst xs n)) (F : Fr g C s.heap (fun _ => none))
    (N : News g C s.heap ((D, PySem.W.listOf #[] 0) :: [(z, zipObj .none TI TO), (TO, pr .none .none), (TI, pr (.ref ri) (.ref it)), (ri, riObj 0 k 1), (it, liObj fa 0)]))
    (l1 : @LT.lt Nat _ it ri) (l2 : @LT.lt Nat _ ri TI) (l3 : @LT.lt Nat _ TI TO) (l4 : @LT.lt Nat _ TO z) (l5 : @LT.lt Nat _ z D) (l6 : @LT.lt Nat _ D C)
    (fin : ∀ (m' : Str → Option Value) (c : Nat) (h' : Heap) (tk : Nat) (ts : List (Addr × Obj)) (vs : List Value), Fr g C h' m' → News g C h' ((D, PySem.W.listOf vs.toArray c) :: (it, liObj fa k) :: ts) →
      vs.length = k → (∀ q ∈ ts, @LT.lt Nat _ D q.1) → (∀ j, j < k → ∃ e t, vs[j]? = some (.ref e) ∧ (e, tup [(xs.getD j dEl).1, .int (j : Nat) t]) ∈ ts) → R (.ok .next) { s with heap := h', toks := tk }) :
    codeAny (model PySem.Challenge.rw_ik0004_01.row.prog w) A (.compLoop (.ListComp (.Tuple [.Name (Str.ofString "elem") pe, .Name (Str.ofString "i") pi] ka pt) [⟨.Tuple [.Name (Str.ofString "i") pi2, .Name (Str.ofString "elem") pe2] kb pt2, iter, [], 0⟩] scope pos) 0 (.ref z) (.ref D) (compEnvC scope cl C env)) R s := by
  refine comp_loop (vs₀ := []) (c₀ := 0) (n₀ := k) (ZJ z TI TO ri it fa D xs k) F N ?_ ⟨0, .none, .none, [], rfl, Nat.zero_le _, rfl, by simp, (by intro q hq; cases hq), (by intro j hj; omega)⟩ ?_ ?_
  · have g1 : @LT.lt Nat _ TO D := Nat.lt_trans l4 l5
    have g2 : @LT.lt Nat _ TI D := Nat.lt_trans l3 g1
    have g3 : @LT.lt Nat _ ri D := Nat.lt_trans l2 g2
    exact allc (ltne l5) (allc (ltne g1) (allc (ltne g2) (allc (ltne g3) (allc (ltne (Nat.lt_trans l1 g3)) alln))))
  · rintro nn m vs nx ⟨i, a, b, ts, rfl, hi, hl, _, _, _⟩
    omega
  · rintro nn m₁ vs nx c h tk Qt hqt F₁ N₁ ho ⟨i, a, b, ts, rfl, hi, hl, rfl, hts, hel⟩
    have nz := N₁ (z, zipObj .none TI TO) (by walk_at "MEM")
    have nTO := N₁ (TO, pr a b) (by walk_at "MEM")
    have nTI := N₁ (TI, pr (.ref ri) (.ref it)) (by walk_at "MEM")
    have nri := N₁ (ri, riObj (i : Nat) ((k : Int) - (i : Nat)) 1) (by walk_at "MEM")
    have nit := N₁ (it, liObj fa i) (by walk_at "MEM")
    have nD := N₁ (D, PySem.W.listOf vs.toArray c) (by walk_at "MEM")
    dsimp only at nz nTO nTI nri nit nD
    have hfa := F₁.keep _ _ hfg
    have b1 : @LT.lt Nat _ it TI := Nat.lt_trans l1 l2
    have b2 : @LT.lt Nat _ ri TO := Nat.lt_trans l2 l3
    have b3 : @LT.lt Nat _ TI z := Nat.lt_trans l3 l4
    have b4 : @LT.lt Nat _ it TO := Nat.lt_trans b1 l3
    have b5 : @LT.lt Nat _ ri z := Nat.lt_trans b2 l4
    have b6 : @LT.lt Nat _ it z := Nat.lt_trans b4 l4
    have g1 : @LT.lt Nat _ TO D := Nat.lt_trans l4 l5
    have g3 : @LT.lt Nat _ ri D := Nat.lt_trans b5 l5
    have g4 : @LT.lt Nat _ it D := Nat.lt_trans b6 l5
    have D' : ZApart z TI TO ri it fa :=
      ⟨ltne b3, ltne l4, ltne b5, ltne b6, some_ne_none hfg nz.2.2, ltne l3, gtne l2, gtne b1, gtne b2, gtne b4, some_ne_none hfg nTO.2.2, gtne l1, some_ne_none hfg nri.2.2, some_ne_none hfg nit.2.2⟩
    rcases Nat.lt_or_ge i k with hik | hik
    · have hy : (xs.map Prod.fst)[i]? = some (xs.getD i dEl).1 := by simp [Nat.lt_of_lt_of_le hik hk]
      refine pn_zip_item (vs := xs.map Prod.fst) D' nz.1 nTI.1 nTO.1 nri.1 (by omega) nit.1 hfa hy fun h2 tk2 t z2 TO2 ri2 it2 T2 sz2 keep2 => ?_
      dsimp only at z2 TO2 ri2 it2 T2 sz2 keep2 ⊢
      have hTz : h.objs.size ≠ z := Nat.ne_of_gt (Heap.lt_size nz.1)
      refine wpAny_letOwnedTupleGo_zip z2 fun h3 z3 hs3 => ?_
      dsimp only at z3 hs3 ⊢
      have T3 := (hs3.2 _ hTz).trans T2
      refine assign_Tuple_tuple hh ⟨_, T3, rfl, _, rfl⟩ rfl rfl fun h4 he4 => ?_
      dsimp only at he4 ⊢
      have hsz3 : h3.objs.size = h.objs.size + 1 := by rw [hs3.1, sz2]
      have up4 : ∀ b o, b ≠ z → h2.get? b = some o → h4.get? b = some o := fun b o q e => by
        have e3 := (hs3.2 _ q).trans e
        have := Heap.lt_size e3
        exact he4 b o (Nat.ne_of_lt this) e3
      have keep4 : ∀ b o, ¬ (b = z ∨ b = TO ∨ b = ri ∨ b = it) → h.get? b = some o → h4.get? b = some o := fun b o q e => by
        simp only [not_or] at q
        exact up4 b o q.1 (keep2 b o q.1 q.2.1 q.2.2.1 q.2.2.2 e)
      have F4 : Fr g C h4 m₁ := by
        refine Fr_but F₁ (P := fun b => b = z ∨ b = TO ∨ b = ri ∨ b = it) keep4 ?_ ?_
        · rintro (q | q | q | q)
          · exact gtne (Nat.lt_trans l5 l6) q
          · exact gtne (Nat.lt_trans g1 l6) q
          · exact gtne (Nat.lt_trans g3 l6) q
          · exact gtne (Nat.lt_trans g4 l6) q
        · rintro b o e (q | q | q | q)
          · exact some_ne_none e nz.2.2 q
          · exact some_ne_none e nTO.2.2 q
          · exact some_ne_none e nri.2.2 q
          · exact some_ne_none e nit.2.2 q
      have N4 : News g C h4 ((D, PySem.W.listOf vs.toArray c) :: (z, zipObj .none TI TO) :: (TO, pr (.int (i : Nat) t) (xs.getD i dEl).1) :: (TI, pr (.ref ri) (.ref it)) :: (ri, riObj ((i + 1 : Nat) : Int) ((k : Int) - (i + 1 : Nat)) 1) :: (it, liObj fa (i + 1)) :: ts) := by
        refine allc ?_ (allc ?_ (allc ?_ (allc ?_ (allc ?_ (allc ?_ (fun q hq => ?_))))))
        · exact ⟨keep4 _ _ (by rintro (q | q | q | q); exact gtne l5 q; exact gtne g1 q; exact gtne g3 q; exact gtne g4 q) nD.1, nD.2⟩
        · exact ⟨he4 _ _ (ltne (Heap.lt_size z3)) z3, nz.2⟩
        · exact ⟨up4 _ _ D'.TOz TO2, nTO.2⟩
        · exact ⟨keep4 _ _ (by rintro (q | q | q | q); exact ltne b3 q; exact ltne l3 q; exact gtne l2 q; exact gtne b1 q) nTI.1, nTI.2⟩
        · refine ⟨?_, nri.2⟩
          have e1 : (((i + 1 : Nat) : Int)) = (i : Int) + 1 := by omega
          have e2 : (k : Int) - ((i + 1 : Nat) : Int) = (k : Int) - (i : Int) - 1 := by omega
          rw [e2, e1]
          exact up4 _ _ D'.riz ri2
        · exact ⟨up4 _ _ D'.itz it2, nit.2⟩
        · have nq := N₁ q (by walk_at "MEM")
          have lq := hts q hq
          exact ⟨keep4 _ _ (by rintro (q | q | q | q); exact gtne (Nat.lt_trans l5 lq) q; exact gtne (Nat.lt_trans g1 lq) q; exact gtne (Nat.lt_trans g3 lq) q; exact gtne (Nat.lt_trans g4 lq) q) nq.1, nq.2⟩
      refine assignInOrder_cons (wpAny_assign_Name (cst F4 N4 (fun h5 F5 N5 => ?_) hli hkind))
      refine assignInOrder_cons (wpAny_assign_Name (cst F5 N5 (fun h6 F6 N6 => ?_) hle hkind))
      refine assignInOrder_nil ?_
      refine wpAny_tests_nil ?_
      simp only [if_true]
      refine Tuple_ (spliced_cons (cld F6 (v := (xs.getD i dEl).1) rfl (spliced_cons (cld F6 (v := .int (i : Nat) t) rfl (spliced_nil ?_) hli hkind)) hle hkind))
      refine newTuple_N F6 N6 fun h7 F7 N7 => ?_
      have eD : @LT.lt Nat _ D h6.objs.size := Heap.lt_size (N6 _ (.head _)).1
      refine hqt _ h7 _ _ ((z, zipObj .none TI TO) :: (TO, pr (.int (i : Nat) t) (xs.getD i dEl).1) :: (TI, pr (.ref ri) (.ref it)) :: (ri, riObj ((i + 1 : Nat) : Int) ((k : Int) - (i + 1 : Nat)) 1) :: (it, liObj fa (i + 1)) :: (h6.objs.size, tup [(xs.getD i dEl).1, .int (i : Nat) t]) :: ts) (k - (i + 1)) (Nat.sub_lt_sub_left hik (Nat.lt_succ_self i)) F7 (nsubs N7 (by walk_at "NS")) ?_ ⟨i + 1, _, _, _, rfl, hik, by rw [List.length_append, hl]; rfl, rfl, allc eD hts, ?_⟩
      · refine allc (ho (z, zipObj .none TI TO) (by walk_at "MEM")) (allc (ho (TO, pr a b) (by walk_at "MEM")) (allc (ho (TI, pr (.ref ri) (.ref it)) (by walk_at "MEM")) (allc (ho (ri, riObj (i : Nat) ((k : Int) - (i : Nat)) 1) (by walk_at "MEM")) (allc (ho (it, liObj fa i) (by walk_at "MEM")) (allc (Nat.ne_of_gt eD) fun q hq => ho q (by walk_at "MEM"))))))
      · intro j hj
        rcases Nat.lt_or_ge j i with h | h
        · obtain ⟨e, t, h1, h2⟩ := hel j h
          exact ⟨e, t, (List.getElem?_append_left (Nat.lt_of_lt_of_eq h hl.symm)).trans h1, .tail _ h2⟩
        · obtain rfl : j = i := by omega
          exact ⟨h6.objs.size, t, by rw [← hl]; exact List.getElem?_concat_length, .head _⟩
    · obtain rfl : i = k := by omega
      refine pn_zip_end hh D' nz.1 nTI.1 nri.1 (by omega) fun h' keep => ?_
      have keep' : ∀ b o, b ≠ z → h.get? b = some o → h'.get? b = some o := keep
      have F' : Fr g C h' m₁ := by
        refine Fr_but F₁ (P := fun b => b = z) keep' ?_ ?_
        · exact gtne (Nat.lt_trans l5 l6)
        · intro b o e q
          exact some_ne_none e nz.2.2 q
      refine fin m₁ c h' _ ts vs F' ?_ hl hts hel
      refine allc ?_ (fun q hq => ?_)
      · exact ⟨keep' _ _ (gtne l5) nD.1, nD.2⟩
      · rcases List.mem_cons.mp hq with rfl | hq
        · exact ⟨keep' _ _ D'.itz nit.1, nit.2⟩
        · have nq := N₁ q (by walk_at "MEM")
          have lq := hts q hq
          exact ⟨keep' _ _ (gtne (Nat.lt_trans l5 lq)) nq.1, nq.2⟩
end

theorem at_P13j_ForLi : True := by
  w_top off
  trivial
section
variable {w : World} {A : Around} {s : Shared} {g : Heap} {L it fa : Addr} {m : Str → Option Value} {env : Env} {i₀ n : Nat} {vs : List Value} {nx₀ : List (Addr × Obj)} {Q : Flow → Shared → Prop} {x : Str} {px pos : Pos} {iter : Expr} {body : List Stmt}

section
variable (g : Heap) (L it fa : Addr) (s : Shared) (len : Nat) (J : Nat → (Str → Option Value) → List (Addr × Obj) → Prop)
/-- the state of a loop over a list iterator -/
inductive LiInv (k : Nat) (s' : Shared) : Prop
  | mk (i : Nat) (h : Heap) (tk : Nat) (m₁ : Str → Option Value) (nx : List (Addr × Obj)) (e : k = len - i) (hi : i ≤ len) (es : s' = { s with heap := h, toks := tk }) (F : Fr g L h m₁) (N : News g L h ((it, liObj fa i) :: nx)) (hJ : J i m₁ nx)
/-- what one turn of it leaves -/
inductive LiTurn (i : Nat) (fl : Flow) (s' : Shared) : Prop
  | mk (h' : Heap) (tk' : Nat) (m' : Str → Option Value) (nx' : List (Addr × Obj)) (hf : fl = .next ∨ fl = .cont) (es : s' = { s with heap := h', toks := tk' }) (F : Fr g L h' m') (N : News g L h' ((it, liObj fa (i + 1)) :: nx')) (hJ : J (i + 1) m' nx')
end
/-- for x in it: the list iterator it stands at i₀ -/
theorem for_li (hh : A.handled = none) (J : Nat → (Str → Option Value) → List (Addr × Obj) → Prop) (hel : env.locals = L) (hx : env.kindOf x = some .local) (hp : (env.scope.kind == .class || (env.scope.kind == .module && env.locals != env.globals)) = false)
    (hfg : g.get? fa = some (PySem.W.listOf vs.toArray n)) (hoff : ∀ i m nx, J i m nx → ∀ q ∈ nx, q.1 ≠ it) (F : Fr g L s.heap m) (N : News g L s.heap ((it, liObj fa i₀) :: nx₀)) (hj : J i₀ m nx₀) (hi₀ : i₀ ≤ vs.length)
    (hev : ∀ (Q' : Value → Shared → Prop) (E' : Value → Shared → Prop), Q' (.ref it) s → wpAny (model PySem.Challenge.rw_ik0004_01.row.prog w) A (eval iter env) Q' E' s)
    (turn : ∀ i m₁ nx h tk v (Qb : Flow → Shared → Prop), (∀ fl h' tk' m' nx', fl = .next ∨ fl = .cont → Fr g L h' m' → News g L h' ((it, liObj fa (i + 1)) :: nx') → J (i + 1) m' nx' → Qb fl { s with heap := h', toks := tk' }) →
      vs[i]? = some v → J i m₁ nx → Fr g L h (fun z => if z = x then some v else m₁ z) → News g L h ((it, liObj fa (i + 1)) :: nx) → 
      wpAny (model PySem.Challenge.rw_ik0004_01.row.prog w) A (execs body env) Qb NoE { s with heap := h, toks := tk })
    (done : ∀ m₁ nx h tk, J vs.length m₁ nx → Fr g L h m₁ → News g L h nx → Q .next { s with heap := h, toks := tk })
    (hs : ∀ x, foldedSetIterable iter env x = pure x := by intro _; rfl) :
    wpAny (model PySem.Challenge.rw_ik0004_01.row.prog w) A (exec (.For (.Name x px) iter body [] pos) env) Q NoE s := by
  subst hel
  refine wpAny_For (hev _ _ ?_) hs
  refine wpAny_pyIter_listiter (li_at (a := fa) i₀ (N _ (.head _)).1) ?_
  refine codeAny_forLoop (R := fun r s' => match r with | .ok f => Q f s' | .error e => cameBackBy (model PySem.Challenge.rw_ik0004_01.row.prog w) A env NoE e s')
    (LiInv g env.locals it fa s vs.length J) (fun k s' hI => ?_) (vs.length - i₀) ⟨i₀, s.heap, s.toks, m, nx₀, rfl, hi₀, rfl, F, N, hj⟩ (by intro _; rfl)
  obtain ⟨i, h, tk, m₁, nx, rfl, hi, rfl, F₁, N₁, hJ⟩ := hI
  have ho := hoff _ _ _ hJ
  have U : UpdF it (liObj fa i) ((it, liObj fa i) :: nx) (fun o => (it, o) :: nx) := UpdF.head ho
  rcases Nat.lt_or_ge i vs.length with hlt | hge
  · have hv : vs[i]? = some vs[i] := List.getElem?_eq_getElem hlt
    refine pn_item F₁ N₁ U (F₁.keep _ _ hfg) hv fun h2 F2 N2 => ?_
    refine wpAny_assign_Name (wpAny_storeName_local hx F2.ns (fun h3 hn3 hs3 => ?_) hp)
    refine wpAny_mono (turn i m₁ nx h3 _ _ (LiTurn g env.locals it fa s J i) (fun _ h' tk' m' nx' a b c d => ⟨h', tk', m', nx', a, rfl, b, c, d⟩) hv hJ (F2.set hn3 hs3) (N2.set hs3)) (fun fl s' hq => ?_) fun _ _ e => e.elim
    obtain ⟨h', tk', m', nx', hf, rfl, F', N', hJ'⟩ := hq
    have : ∃ m, m < vs.length - i ∧ LiInv g env.locals it fa s vs.length J m { s with heap := h', toks := tk' } :=
      ⟨vs.length - (i + 1), by omega, i + 1, h', tk', m', nx', rfl, hlt, rfl, F', N', hJ'⟩
    rcases hf with rfl | rfl <;> exact this
  · obtain rfl : i = vs.length := by omega
    refine pn_end hh F₁ N₁ U (F₁.keep _ _ hfg) (by simp) fun h2 F2 N2 => ?_
    refine wpAny_execs_nil ?_
    exact done m₁ nx h2 tk hJ F2 fun q hq => N2 q (.tail _ hq)
end

theorem at_P13k_CompIt : True := by
  w_top off
  trivial
/-- an iterator I that stands at St i, over base g -/
structure Its (w : World) (A : Around) (g : Heap) (I : Addr) (St : Nat → Obj) (n : Nat) (P : Nat → Value → Prop) : Prop where
  item : ∀ i (s : Shared) (Q : Option Value → Shared → Prop), i < n → s.heap.get? I = some (St i) → (∀ b o, g.get? b = some o → s.heap.get? b = some o) →
    (∀ v h' tk, P i v → h'.get? I = some (St (i + 1)) → Heap.SameBut I s.heap h' → Q (some v) { s with heap := h', toks := tk }) → wpAny (model PySem.Challenge.rw_ik0004_01.row.prog w) A (pyNext (.ref I)) Q NoE s
  done : ∀ (s : Shared) (Q : Option Value → Shared → Prop), s.heap.get? I = some (St n) → (∀ b o, g.get? b = some o → s.heap.get? b = some o) →
    (∀ h', (∀ b o, b ≠ I → s.heap.get? b = some o → h'.get? b = some o) → Q none { s with heap := h' }) → wpAny (model PySem.Challenge.rw_ik0004_01.row.prog w) A (pyNext (.ref I)) Q NoE s
section
variable {w : World} {A : Around} {g : Heap} {I fa : Addr} {vs : List Value} {n k : Nat}
theorem its_li (hh : A.handled = none) (hfg : g.get? fa = some (PySem.W.listOf vs.toArray n)) : Its w A g I (liObj fa) vs.length (fun i v => vs[i]? = some v) where
  item := fun i s Q hi st kg hQ => by
    have hv : vs[i]? = some vs[i] := List.getElem?_eq_getElem hi
    unfold pyNext
    exact wpAny_bind (wpAny_attempt (li_item st (kg _ _ hfg) hv fun h' hit' hs => wpAny_pure (hQ _ h' s.toks hv hit' hs)))
  done := fun s Q st kg hQ => by
    have hv : vs[vs.length]? = none := by simp
    unfold pyNext
    refine wpAny_bind (wpAny_attempt (li_end hh st (kg _ _ hfg) hv fun h' h'' e hit' hs he => ?_))
    obtain ⟨t, ht, _⟩ := he.there
    refine wpAny_bind (wpAny_isInstance (T := "StopIteration") (b := true) ⟨_, ht, rfl⟩ isSubtype_stop ?_)
    exact wpAny_pure (hQ _ fun b o hb e => he.keeps _ _ ((hs.2 _ hb).trans e))
theorem its_ri (hh : A.handled = none) : Its w A g I (fun i => riObj (i : Nat) ((k : Int) - (i : Nat)) 1) k (fun i v => ∃ t, v = .int (i : Nat) t) where
  item := fun i s Q hi st kg hQ => by
    refine wpAny_pyNext_range_item st (by omega) fun h' hit' hs => ?_
    have e1 : ((i + 1 : Nat) : Int) = (i : Int) + 1 := by omega
    have e2 : (k : Int) - ((i + 1 : Nat) : Int) = (k : Int) - (i : Int) - 1 := by omega
    exact hQ _ h' _ ⟨_, rfl⟩ (by rw [e2, e1]; exact hit') hs
  done := fun s Q st kg hQ => by
    refine wpAny_pyNext_range_end hh st (by omega) fun h' he => ?_
    exact hQ h' fun b o hb e => he b o hb e
end
section
variable {w : World} {A : Around} {s : Shared} {h₀ : Heap} {L : Addr} {m : Str → Option Value} {env : Env} {E : Value → Shared → Prop}
  {elt target iter : Expr} {ifs : List Expr} {scope : Scope} {cl : List (Str × Addr)} {pos : Pos} {nx : List (Addr × Obj)} {K : Addr → Array Value → Nat → List (Addr × Obj) → Shared → Prop}
theorem go_li {fa : Addr} {vs : List Value} {n : Nat} (F : Fr h₀ L s.heap m) (N : News h₀ L s.heap nx) (hfa : s.heap.get? fa = some (PySem.W.listOf vs.toArray n))
    (loop : ∀ I g C D h₁ tk mean mg mb, Fr g C h₁ (fun _ => none) → News g C h₁ [(D, PySem.W.listOf #[] 0), (I, liObj fa 0)] → (∀ b o, s.heap.get? b = some o → g.get? b = some o) → @LT.lt Nat _ I D → @LT.lt Nat _ D C →
      (hd.heap_39 w.params).In g → Top hd.view_39 LO mean mg mb g →
      codeAny (model PySem.Challenge.rw_ik0004_01.row.prog w) A (.compLoop (.ListComp elt [⟨target, iter, ifs, 0⟩] scope pos) 0 (.ref I) (.ref D) (compEnvC scope cl C env)) (CompBack K nx g C D) { s with heap := h₁, toks := tk }) :
    wpAny (model PySem.Challenge.rw_ik0004_01.row.prog w) A (pyIter (.ref fa)) (CompGo w A h₀ L m env elt target iter ifs scope cl pos K) E s := by
  refine wpAny_pyIter_list (items := vs.toArray) ⟨_, hfa, rfl, _, rfl⟩ ?_
  have hI : (s.heap.push { cls := .type "list_iterator", data := .fields #[.ref fa, .int 0 0] }).get? s.heap.objs.size = some (liObj fa 0) := Heap.get?_push_size _ rfl
  refine ⟨s.heap.objs.size, [(s.heap.objs.size, liObj fa 0)], nx, rfl, F.push _, News.push F N _, fun q hq => ?_, fun s' Q' E' hW hq => ?_, ?_⟩
  · simp only [List.map_cons, List.map_nil, List.mem_cons, List.not_mem_nil, or_false]
    exact Nat.ne_of_lt (Heap.lt_size (N q hq).1)
  · exact wpAny_pyIter_listiter (li_at (a := fa) 0 (hW _ (.head _))) hq
  · intro g C D h₁ tk mean mg mb F1 N1 big lt ltD X T
    refine loop _ g C D h₁ tk mean mg mb F1 N1 (fun b o e => big b o (Heap.get?_push_of_some _ e) ?_) (lt _ _ hI) ltD X T
    simp only [List.map_cons, List.map_nil, List.mem_cons, List.not_mem_nil, or_false]
    exact Nat.ne_of_lt (Heap.lt_size e)
theorem go_ri {r : Addr} {k : Nat} {t u v : Tok} (F : Fr h₀ L s.heap m) (N : News h₀ L s.heap nx) (hr : s.heap.get? r = some (rangeObj 0 k 1 t u v)) (hk : k < 2 ^ 20)
    (loop : ∀ I g C D h₁ tk mean mg mb, Fr g C h₁ (fun _ => none) → News g C h₁ [(D, PySem.W.listOf #[] 0), (I, riObj 0 k 1)] → (∀ b o, s.heap.get? b = some o → g.get? b = some o) → @LT.lt Nat _ I D → @LT.lt Nat _ D C →
      (hd.heap_39 w.params).In g → Top hd.view_39 LO mean mg mb g →
      codeAny (model PySem.Challenge.rw_ik0004_01.row.prog w) A (.compLoop (.ListComp elt [⟨target, iter, ifs, 0⟩] scope pos) 0 (.ref I) (.ref D) (compEnvC scope cl C env)) (CompBack K nx g C D) { s with heap := h₁, toks := tk }) :
    wpAny (model PySem.Challenge.rw_ik0004_01.row.prog w) A (pyIter (.ref r)) (CompGo w A h₀ L m env elt target iter ifs scope cl pos K) E s := by
  have hrs : Builtin.Range.rangeSize 0 (k : Int) 1 = (k : Int) := by
    unfold Builtin.Range.rangeSize
    rw [if_pos (by decide)]
    by_cases h0 : (0 : Int) < k
    · rw [if_pos h0]; omega
    · rw [if_neg h0]; omega
  refine wpAny_pyIter_range hr (small_one (by decide) (by decide) (by omega) (by omega)) ?_
  rw [hrs]
  have hI : (s.heap.push { cls := .type "range_iterator", data := .fields #[rawInt 0, rawInt k, rawInt 1] }).get? s.heap.objs.size = some (riObj 0 k 1) := Heap.get?_push_size _ rfl
  refine ⟨s.heap.objs.size, [(s.heap.objs.size, riObj 0 k 1)], nx, rfl, F.push _, News.push F N _, fun q hq => ?_, fun s' Q' E' hW hq => ?_, ?_⟩
  · simp only [List.map_cons, List.map_nil, List.mem_cons, List.not_mem_nil, or_false]
    exact Nat.ne_of_lt (Heap.lt_size (N q hq).1)
  · exact wpAny_pyIter_rangeiter (hW (s.heap.objs.size, riObj 0 k 1) (.head _)) hq
  · intro g C D h₁ tk mean mg mb F1 N1 big lt ltD X T
    refine loop _ g C D h₁ tk mean mg mb F1 N1 (fun b o e => big b o (Heap.get?_push_of_some _ e) ?_) (lt _ _ hI) ltD X T
    simp only [List.map_cons, List.map_nil, List.mem_cons, List.not_mem_nil, or_false]
    exact Nat.ne_of_lt (Heap.lt_size e)
end
section
variable {w : World} {A : Around} {s : Shared} {g : Heap} {C D I : Addr} {env : Env} {St : Nat → Obj} {n : Nat} {P : Nat → Value → Prop}
  {elt target iter : Expr} {ifs : List Expr} {scope : Scope} {pos : Pos} {m₀ : Str → Option Value}
/-- the state of a comprehension over an iterator -/
inductive ItJ (I : Addr) (St : Nat → Obj) (n : Nat) (J : Nat → List Value → List (Addr × Obj) → Prop) (nn : Nat) (_m : Str → Option Value) (out : List Value) (nx : List (Addr × Obj)) : Prop
  | mk (i : Nat) (ts : List (Addr × Obj)) (h1 : nn = n - i) (h2 : i ≤ n) (h3 : nx = (I, St i) :: ts) (h4 : J i out ts)
theorem comp_it {R : Result → Shared → Prop} (W : Its w A g I St n P) (J : Nat → List Value → List (Addr × Obj) → Prop) (F : Fr g C s.heap m₀) (N : News g C s.heap [(D, PySem.W.listOf #[] 0), (I, St 0)]) (hID : @LT.lt Nat _ I D) (hj : J 0 [] [])
    (hlen : ∀ i out ts, J i out ts → out.length < 2 ^ 19) (hts : ∀ i out ts, J i out ts → ∀ q ∈ ts, @LT.lt Nat _ D q.1)
    (hgo : ∀ i v (Q : Unit → Shared → Prop) (s' : Shared), P i v → s'.heap.get? I = some (St (i + 1)) → Q () s' → wpAny (model PySem.Challenge.rw_ik0004_01.row.prog w) A (letOwnedTupleGo target (.ref I) v) Q NoE s')
    (turn : ∀ i m₁ out ts c h tk v (Qt : Option Value → Shared → Prop), (∀ x h' tk' m' ts', Fr g C h' m' → News g C h' ((D, PySem.W.listOf out.toArray c) :: (I, St (i + 1)) :: ts') → J (i + 1) (out ++ x.toList) ts' → Qt x { s with heap := h', toks := tk' }) → i < n → P i v → J i out ts → Fr g C h m₁ → News g C h ((D, PySem.W.listOf out.toArray c) :: (I, St (i + 1)) :: ts) → 
      wpAny (model PySem.Challenge.rw_ik0004_01.row.prog w) A (assign target env v) (fun _ s₃ =>
        wpAny (model PySem.Challenge.rw_ik0004_01.row.prog w) A (forIn ifs true fun c r => if r = true then do let ok ← isTrue c env (eval c env); pure (ForInStep.yield ok) else pure (ForInStep.yield r)) (fun ok s₄ =>
          if ok = true then wpAny (model PySem.Challenge.rw_ik0004_01.row.prog w) A (eval elt env) (fun x s₅ => Qt (some x) s₅) NoE s₄
          else Qt none s₄) NoE s₃) NoE { s with heap := h, toks := tk })
    (done : ∀ m₁ out ts c h tk, J n out ts → Fr g C h m₁ → News g C h ((D, PySem.W.listOf out.toArray c) :: ts) → R (.ok .next) { s with heap := h, toks := tk }) :
    codeAny (model PySem.Challenge.rw_ik0004_01.row.prog w) A (.compLoop (.ListComp elt [⟨target, iter, ifs, 0⟩] scope pos) 0 (.ref I) (.ref D) env) R s := by
  refine comp_loop (vs₀ := []) (c₀ := 0) (n₀ := n) (nx₀ := [(I, St 0)]) (ItJ I St n J) F N ?_ ⟨0, [], rfl, Nat.zero_le _, rfl, hj⟩ ?_ ?_
  · intro q hq
    rw [List.mem_singleton.mp hq]
    exact Nat.ne_of_lt hID
  · rintro nn m vs nx ⟨i, ts, _, _, _, hJ⟩
    exact hlen _ _ _ hJ
  · rintro nn m₁ out nx c h tk Qt hqt F₁ N₁ ho ⟨i, ts, rfl, hi, rfl, hJ⟩
    have nI := N₁ (I, St i) (.tail _ (.head _))
    rcases Nat.lt_or_ge i n with hlt | hge
    · refine W.item i _ _ hlt nI.1 (fun b o e => F₁.keep _ _ e) fun v h' tk' hP hit hs => ?_
      dsimp only at hit hs ⊢
      refine hgo i v _ _ hP hit ?_
      have F' : Fr g C h' m₁ := F₁.change hs nI.2.1 nI.2.2
      have N' : News g C h' ((D, PySem.W.listOf out.toArray c) :: (I, St (i + 1)) :: ts) := fun q hq => by
        rcases List.mem_cons.mp hq with rfl | hq
        · have z := N₁ (D, PySem.W.listOf out.toArray c) (.head _)
          exact ⟨(hs.2 _ (Nat.ne_of_gt hID)).trans z.1, z.2⟩
        · rcases List.mem_cons.mp hq with rfl | hq
          · exact ⟨hit, nI.2⟩
          · have z := N₁ q (.tail _ (.tail _ hq))
            exact ⟨(hs.2 _ (Nat.ne_of_gt (Nat.lt_trans hID (hts _ _ _ hJ q hq)))).trans z.1, z.2⟩
      exact turn i m₁ out ts c h' tk' v Qt (fun x h5 tk5 m5 ts5 F5 N5 J5 => hqt x h5 tk5 m5 ((I, St (i + 1)) :: ts5) (n - (i + 1)) (Nat.sub_lt_sub_left hlt (Nat.lt_succ_self i)) F5 N5 (allc (Nat.ne_of_lt hID) fun q hq => Nat.ne_of_gt (hts _ _ _ J5 q hq)) ⟨i + 1, ts5, rfl, hlt, rfl, J5⟩) hlt hP hJ F' N'
    · obtain rfl : i = n := by omega
      refine W.done _ _ nI.1 (fun b o e => F₁.keep _ _ e) fun h' keep => ?_
      dsimp only at keep ⊢
      refine done m₁ out ts c h' tk hJ ?_ fun q hq => ?_
      · obtain ⟨oL, a1, a2, hL, a3⟩ := F₁.ns
        exact ⟨⟨oL, a1, a2, keep _ _ (fun e => nI.2.1 e.symm) hL, a3⟩, fun b o e => keep b o (fun q => by rw [q, nI.2.2] at e; cases e) (F₁.keep b o e), F₁.above⟩
      · rcases List.mem_cons.mp hq with rfl | hq
        · have z := N₁ (D, PySem.W.listOf out.toArray c) (.head _)
          exact ⟨keep _ _ (Nat.ne_of_gt hID) z.1, z.2⟩
        · have z := N₁ q (.tail _ (.tail _ hq))
          exact ⟨keep _ _ (Nat.ne_of_gt (Nat.lt_trans hID (hts _ _ _ hJ q hq))) z.1, z.2⟩
end

theorem at_P14_Nsm1 : True := by
  w_top off
  trivial
section
variable {w : World} {A : Around} {s : Shared} {h₀ : Heap} {L : Addr} {m : Str → Option Value} {env : Env} {rest : List (Addr × Obj)} {Q E : Value → Shared → Prop}

theorem cls_type_ne' {n : String} {o : Obj} (h : o.cls = .type n) (hn : n ≠ "tuple") : o.cls ≠ .type "tuple" := by rw [h]; intro e; exact hn (Value.type.inj e)
theorem news_swap {h₀ h : Heap} {L : Addr} {a b : Addr × Obj} {r : List (Addr × Obj)} (N : News h₀ L h (a :: b :: r)) : News h₀ L h (b :: a :: r) := fun p hp => N p (by
  rcases List.mem_cons.mp hp with rfl | hp
  · exact .tail _ (.head _)
  · rcases List.mem_cons.mp hp with rfl | hp
    · exact .head _
    · exact .tail _ (.tail _ hp))
theorem minE_mem : ∀ (ys : List El) (b : El), minE b ys = b ∨ minE b ys ∈ ys
  | [], b => .inl rfl
  | y :: ys, b => by
    unfold minE
    cases h : elt y b with
    | true =>
      rw [if_pos rfl]
      rcases minE_mem ys y with h | h
      · rw [h]; exact .inr (.head _)
      · exact .inr (.tail _ h)
    | false =>
      rw [if_neg Bool.false_ne_true]
      rcases minE_mem ys b with h | h
      · exact .inl h
      · exact .inr (.tail _ h)
theorem nsm_one {fa : Addr} {xs : List El} {n : Nat} {t : Tok} (C : Cx w A env h₀ L) (R : Room 8 A) (F : Fr h₀ L s.heap m) (N : News h₀ L s.heap rest)
    (hfa : s.heap.get? fa = some (lst xs n)) (hlen : xs.length < 64) (hok : ∀ e ∈ xs, ElF s.heap e)
    (hQ : ∀ h' tk' n' r, Fr h₀ L h' m → News h₀ L h' ((r, lst (match xs with | [] => [] | b :: ys => [minE b ys]) n') :: rest) → (∀ q ∈ rest, q.1 ≠ r) → Q (.ref r) { s with heap := h', toks := tk' }) :
    wpAny (model PySem.Challenge.rw_ik0004_01.row.prog w) A (call (.ref 83) [.int 1 t, .ref fa]) Q E s := by
  k_dflt (refine' callC (rest := rest) (args := ⟨[.int 1 t, .ref fa], []⟩) (binds := [(Str.ofString "n", .int 1 t), (Str.ofString "iterable", .ref fa), (Str.ofString "key", .none)]) C R F N ?k6 ?k7 ?k9 ?kB ?kD ?_ ?c2 ?c3 ?c4; (case k6 => k_is); (case k7 => k_is); (case k9 => exact binds_K (C.X.keeps F.keep) rfl (by k_is) rfl rfl rfl); (case kB => exact rfl); (case kD => decide +kernel); (case c2 => exact rfl); (case c3 => exact rfl); (case c4 => exact rfl))
  intro g L' h₁ tk0 cells mean mg mb R' F' N' Y' C' X' T' big lt
  k_cells Y'
  refine gn fun Qo hqo => ?_
  have hfg : g.get? fa = some (lst xs n) := big _ _ hfa
  walk_at "MW"
  rotate_left
  · exfalso
    first | omega | (rename_i hc; exact hc rfl) | (rename_i hc; simp at hc)
  rename Fr _ _ _ _ => F1
  rename News _ _ _ _ => N1
  refine iter_v F1 N1 (F1.keep _ _ hfg) ?_
  intro it h2 F2 N2 l2
  (try k_lt l2)
  walk_at "MW"
  rename Fr _ _ _ _ => F3
  rename News _ _ _ _ => N3
  refine object_v F3 N3 ?_
  intro q h3 F4 N4 l4
  (try k_lt l4)
  walk_at "MW"
  rename Fr _ _ _ _ => F5
  rename News _ _ _ _ => N5
  have hokg : ∀ e ∈ xs, ElF g e := fun e he => ElOk.keeps (fl := true) (hok e he) fun b vs e => big _ _ e
  have N6 := news_swap N5
  show wpAny _ _ (call (.builtin "min") [.ref it] [(Str.ofString "default", .ref q), (Str.ofString "key", .none)]) _ _ _
  refine min_el (n := n) C'.hh (Room.un R' (by decide)) hfg hokg F5 N6 (by k_all) ?_
  intro h6 tk6 o6 F7 N7
  cases xs with
  | nil =>
    dsimp only
    walk_at "MW"
    rename Fr _ _ _ _ => F8
    rename News _ _ _ _ => N8
    exact hqo _ _ (back_new big N F8 N8 fun Fb Nb ho => hQ _ _ _ _ Fb Nb ho)
  | cons b ys =>
    dsimp only
    have hm : minE b ys ∈ b :: ys := by
      rcases minE_mem ys b with h | h
      · rw [h]; exact .head _
      · exact .tail _ h
    obtain ⟨a', u1, u2, e1, e2, _⟩ := hokg _ hm
    have hne : a' ≠ q := fun e => by
      have := (N7 (q, objObj) (by walk_at "MEM")).2.2
      rw [← e, e2] at this
      cases this
    rw [e1]
    walk_at "MW"
    rename Fr _ _ _ _ => F8
    rename News _ _ _ _ => N8
    refine is_ref_other' hne (F8.keep _ _ e2) (N8 (q, objObj) (by walk_at "MEM")).1 (cls_type_ne' rfl (by decide)) ?_
    walk_at "MW"
    rename Fr _ _ _ _ => F9
    rename News _ _ _ _ => N9
    refine hqo _ _ (back_new big N F9 N9 fun Fb Nb ho => hQ _ _ 0 _ Fb ?_ ho)
    dsimp only [lst, List.map]
    rw [e1]
    exact Nb
end

theorem at_P14b_Nsm2 : True := by
  w_top off
  trivial
section
variable {w : World} {A : Around} {s : Shared} {h₀ : Heap} {L : Addr} {m : Str → Option Value} {env : Env} {rest : List (Addr × Obj)} {Q E : Value → Shared → Prop}

theorem nsm_all {fa : Addr} {xs : List El} {n k : Nat} {t : Tok} (C : Cx w A env h₀ L) (R : Room 8 A) (F : Fr h₀ L s.heap m) (N : News h₀ L s.heap rest)
    (hfa : s.heap.get? fa = some (lst xs n)) (hlen : xs.length < 64) (hok : ∀ e ∈ xs, ElF s.heap e) (hd : KD xs) (hk1 : k ≠ 1) (hk : xs.length ≤ k) (hkb : k < 2 ^ 20)
    (hQ : ∀ h' tk' n' r, Fr h₀ L h' m → News h₀ L h' ((r, lst (srt xs) n') :: rest) → (∀ q ∈ rest, q.1 ≠ r) → Q (.ref r) { s with heap := h', toks := tk' }) :
    wpAny (model PySem.Challenge.rw_ik0004_01.row.prog w) A (call (.ref 83) [.int (k : Int) t, .ref fa]) Q E s := by
  k_dflt (refine' callC (rest := rest) (args := ⟨[.int (k : Int) t, .ref fa], []⟩) (binds := [(Str.ofString "n", .int (k : Int) t), (Str.ofString "iterable", .ref fa), (Str.ofString "key", .none)]) C R F N ?k6 ?k7 ?k9 ?kB ?kD ?_ ?c2 ?c3 ?c4; (case k6 => k_is); (case k7 => k_is); (case k9 => exact binds_K (C.X.keeps F.keep) rfl (by k_is) rfl rfl rfl); (case kB => exact rfl); (case kD => decide +kernel); (case c2 => exact rfl); (case c3 => exact rfl); (case c4 => exact rfl))
  intro g L' h₁ tk0 cells mean mg mb R' F' N' Y' C' X' T' big lt
  k_cells Y'
  refine gn fun Qo hqo => ?_
  have hfg : g.get? fa = some (lst xs n) := big _ _ hfa
  have hokg : ∀ e ∈ xs, ElF g e := fun e he => ElOk.keeps (fl := true) (hok e he) fun b vs e => big _ _ e
  walk_at "MW"
  · exfalso
    first | omega | (rename_i hc; first | omega | (simp at hc; omega))
  refine wpAny_Try_except ?_
  walk_at "MWN"
  rename Fr _ _ _ _ => F1
  refine len_b (F1.keep _ _ hfg) (by omega) ?_
  intro t1 tk1
  walk_at "MW"
  rotate_left
  · exfalso
    first | omega | (rename_i hc; first | omega | (simp at hc; omega))
  rename Fr _ _ _ _ => F2
  rename News _ _ _ _ => N2
  show wpAny _ _ (call (.builtin "sorted") [.ref fa] kwNone) _ _ _
  refine sorted_el (fl := true) (Room.un R' (by decide)) F2 N2 (F2.keep _ _ hfg) hlen hd (fun h' F' N' e he => ElOk.keeps (fl := true) (hokg e he) fun b vs e => F'.keep _ _ e) (args_sorted_none _) (fun x => args_lsort_none _) list_sort_none ?_
  intro D h3 c3 F3 N3 l3
  (try k_lt l3)
  walk_at "MW"
  refine slice_upto (D := D) (xs := srt xs) (n := c3) F3 N3 (N3 (D, lst (srt xs) c3) (.head _)).1 (by rw [(srt_perm xs).length_eq]; omega) ?_
  intro r h5 F5 N5 l5
  have e : (srt xs).take k = srt xs := List.take_of_length_le (by rw [(srt_perm xs).length_eq]; exact hk)
  rw [e] at N5
  exact hqo _ _ (back_new big N F5 N5 fun Fb Nb ho => hQ _ _ _ _ Fb Nb ho)
end

theorem at_P15_HeapLaw : True := by
  w_top off
  trivial
section
variable {α : Type}
/-- a strict weak order -/
structure WO (lt : α → α → Bool) : Prop where
  asym : ∀ a b, lt a b = true → lt b a = false
  neg : ∀ a b c, lt a c = true → lt a b = true ∨ lt b c = true
theorem WO.tr {lt : α → α → Bool} (O : WO lt) {a b c : α} (h1 : lt a b = false) (h2 : lt b c = false) : lt a c = false := by
  cases h : lt a c with
  | false => rfl
  | true =>
    rcases O.neg a b c h with q | q
    · rw [h1] at q; cases q
    · rw [h2] at q; cases q
theorem WO.irr {lt : α → α → Bool} (O : WO lt) (a : α) : lt a a = false := by
  cases q : lt a a with
  | false => rfl
  | true => have := O.asym _ _ q; rw [q] at this; cases this
theorem getD_set' (xs : List α) (i j : Nat) (v d : α) : (xs.set i v).getD j d = if i = j ∧ i < xs.length then v else xs.getD j d := by
  rw [List.getD_eq_getElem?_getD, List.getD_eq_getElem?_getD, List.getElem?_set]
  by_cases h : i = j
  · subst h
    by_cases h2 : i < xs.length
    · simp [h2]
    · simp [h2]
  · simp [h]
theorem gset_ne {xs : List α} {i j : Nat} {v d : α} (h : j ≠ i) : (xs.set i v).getD j d = xs.getD j d := by
  rw [getD_set', if_neg fun a => h a.1.symm]
theorem gset_eq {xs : List α} {i : Nat} {v d : α} (h : i < xs.length) : (xs.set i v).getD i d = v := by
  rw [getD_set', if_pos ⟨rfl, h⟩]
inductive Desc (s : Nat) : Nat → Prop
  | refl : Desc s s
  | step {p : Nat} : 0 < p → Desc s ((p-1)/2) → Desc s p
theorem Desc.le {s p : Nat} (h : Desc s p) : s ≤ p := by
  induction h with
  | refl => exact Nat.le_refl _
  | step a b c => exact Nat.le_trans c (par_le _)
theorem Desc.up {s p : Nat} (h : Desc s p) (hp : s < p) : Desc s ((p-1)/2) := by
  cases h with
  | refl => exact absurd hp (Nat.lt_irrefl _)
  | step a b => exact b
theorem Desc.zero : ∀ p, Desc 0 p := fun p => by
  induction p using Nat.strongRecOn with
  | _ p ih =>
    rcases Nat.eq_zero_or_pos p with h | h
    · subst h; exact .refl
    · exact .step h (ih _ (par_lt h))
theorem swap_perm {xs : List α} {i j : Nat} (hi : i < xs.length) (hj : j < xs.length) (hne : i ≠ j) (x d : α) : ((xs.set i (xs.getD j d)).set j x).Perm (xs.set i x) := by
  have h := List.set_set_perm (as := xs.set i x) (i := i) (j := j) (by simpa using hi) (by simpa using hj)
  have e1 : (xs.set i x)[i]'(by simpa using hi) = x := by simp
  have e2 : (xs.set i x)[j]'(by simpa using hj) = xs.getD j d := by
    rw [List.getElem_set_ne hne, List.getD_eq_getElem?_getD, List.getElem?_eq_getElem hj]; rfl
  rw [e1, e2, List.set_set] at h
  exact h
/-- each at least its parent, from start on -/
def Hp (lt : α → α → Bool) (d : α) (start : Nat) (xs : List α) : Prop := ∀ j, 0 < j → j < xs.length → start ≤ (j-1)/2 → lt (xs.getD j d) (xs.getD ((j-1)/2) d) = false

theorem getD_at {xs : List α} {i : Nat} (h : i < xs.length) (d : α) : xs[i] = xs.getD i d := by rw [List.getD_eq_getElem?_getD, List.getElem?_eq_getElem h]; rfl
theorem sd_perm {lt : α → α → Bool} (x : α) (start pos : Nat) (xs : List α) (hp : pos < xs.length) : (sd lt x start pos xs).Perm (xs.set pos x) := by
  induction pos using Nat.strongRecOn generalizing xs with
  | _ pos ih =>
    rw [sd]
    split
    · rename_i h
      have hl := par_ltn hp
      have h0 := par_lt (Nat.zero_lt_of_lt h)
      rw [List.getElem?_eq_getElem hl]
      dsimp only
      split
      · refine (ih _ h0 _ (lsetlt hl)).trans ?_
        rw [getD_at hl x]
        exact swap_perm hp hl (Nat.ne_of_gt h0) x x
      · exact .refl _
    · exact .refl _
theorem suL_perm {lt : α → α → Bool} (d x : α) (n pos : Nat) (xs : List α) (hn : n = xs.length) (hp : pos < xs.length) : ((suL lt d n pos xs).1.set (suL lt d n pos xs).2 x).Perm (xs.set pos x) ∧ (suL lt d n pos xs).2 < n := by
  generalize hk : n - pos = k
  induction k using Nat.strongRecOn generalizing pos xs with
  | _ k ih =>
    rw [suL]
    split
    · rename_i h
      split
      · rename_i h2
        have hc := Nat.lt_of_lt_of_eq h2.1 hn
        obtain ⟨a, b⟩ := ih _ (hk ▸ dec2 h) (2 * pos + 2) (xs.set pos (xs.getD (2 * pos + 2) d)) (lset hn) (lsetlt hc) rfl
        exact ⟨a.trans (swap_perm hp hc (Nat.ne_of_lt (ch2 pos)) x d), b⟩
      · have hc := Nat.lt_of_lt_of_eq h hn
        obtain ⟨a, b⟩ := ih _ (hk ▸ dec1 h) (2 * pos + 1) (xs.set pos (xs.getD (2 * pos + 1) d)) (lset hn) (lsetlt hc) rfl
        exact ⟨a.trans (swap_perm hp hc (Nat.ne_of_lt (ch1 pos)) x d), b⟩
    · exact ⟨.refl _, hn ▸ hp⟩
theorem su_perm {lt : α → α → Bool} (d : α) (pos : Nat) (xs : List α) (hp : pos < xs.length) : (su lt d pos xs).Perm xs := by
  unfold su
  obtain ⟨a, b⟩ := suL_perm (lt := lt) d (xs.getD pos d) xs.length pos xs rfl hp
  refine (sd_perm _ _ _ _ (by rw [List.length_set, suL_len]; exact b)).trans ?_
  rw [List.set_set]
  refine a.trans ?_
  have e : xs.getD pos d = xs[pos] := by rw [List.getD_eq_getElem?_getD, List.getElem?_eq_getElem hp]; rfl
  rw [e, List.set_getElem_self]

theorem sd_heap {lt : α → α → Bool} (O : WO lt) (d x : α) (start pos : Nat) (xs : List α) (hp : pos < xs.length) (D : Desc start pos)
    (H1 : ∀ j, 0 < j → j < xs.length → start ≤ (j-1)/2 → j ≠ pos → lt ((xs.set pos x).getD j d) ((xs.set pos x).getD ((j-1)/2) d) = false)
    (H2 : start < pos → ∀ c, 0 < c → c < xs.length → (c-1)/2 = pos → lt (xs.getD c d) (xs.getD ((pos-1)/2) d) = false) : Hp lt d start (sd lt x start pos xs) := by
  induction pos using Nat.strongRecOn generalizing xs with
  | _ pos ih =>
    have H1' : ∀ j, 0 < j → j < xs.length → start ≤ (j-1)/2 → j ≠ pos → (j-1)/2 ≠ pos → lt (xs.getD j d) (xs.getD ((j-1)/2) d) = false := fun j h0 hj hs hne hn2 => by
      have := H1 j h0 hj hs hne
      rw [gset_ne hne, gset_ne hn2] at this
      exact this
    rw [sd]
    split
    · rename_i h
      have h0p : 0 < pos := Nat.zero_lt_of_lt h
      have D' := D.up h
      have hle' := D'.le
      have hl := par_ltn hp
      rw [List.getElem?_eq_getElem hl]
      dsimp only
      rw [getD_at hl d]
      split
      · rename_i hlt
        have hsib : ∀ j, 0 < j → j < xs.length → (j-1)/2 = (pos-1)/2 → j ≠ pos → lt (xs.getD j d) (xs.getD ((pos-1)/2) d) = false := fun j h0 hj hpar hne => by
          have := H1' j h0 hj (Nat.le_trans hle' (Nat.le_of_eq hpar.symm)) hne (fun a => par_ne h0p (hpar.symm.trans a))
          rw [hpar] at this
          exact this
        refine ih _ (par_lt h0p) (xs.set pos (xs.getD ((pos-1)/2) d)) (lsetlt hl) D' (fun j h0 hj hs hne => ?_) (fun h' c h0 hc hpar => ?_)
        · replace hj := setlt hj
          rw [gset_ne hne]
          by_cases c3 : (j-1)/2 = (pos-1)/2
          · rw [c3, gset_eq (lsetlt hl)]
            by_cases c1 : j = pos
            · rw [c1, gset_eq hp]; exact O.asym _ _ hlt
            · rw [gset_ne c1]
              exact O.tr (hsib j h0 hj c3 c1) (O.asym _ _ hlt)
          · have c1 : j ≠ pos := fun a => c3 (a ▸ rfl)
            rw [gset_ne c3, gset_ne c1]
            by_cases c2 : (j-1)/2 = pos
            · rw [c2, gset_eq hp]; exact H2 h j h0 hj c2
            · rw [gset_ne c2]; exact H1' j h0 hj hs c1 c2
        · replace hc := setlt hc
          have hq0 := Nat.zero_lt_of_lt h'
          have hn := Nat.ne_of_lt (Nat.lt_trans (par_lt hq0) (par_lt h0p))
          have epp := H1' _ hq0 hl (D'.up h').le (par_ne h0p) hn
          rw [gset_ne hn]
          by_cases c1 : c = pos
          · rw [c1, gset_eq hp]; exact epp
          · rw [gset_ne c1]; exact O.tr (hsib c h0 hc hpar c1) epp
      · rename_i hlt
        intro j h0 hj hs
        by_cases c1 : j = pos
        · rw [c1, gset_eq hp, gset_ne (par_ne h0p)]
          exact Bool.eq_false_iff.mpr hlt
        · exact H1 j h0 (setlt hj) hs c1
    · rename_i h
      intro j h0 hj hs
      exact H1 j h0 (setlt hj) hs (fun a => h (a ▸ Nat.lt_of_le_of_lt hs (par_lt h0)))

/-- what the sinking loop leaves -/
structure SuOk (lt : α → α → Bool) (d : α) (n start : Nat) (r : List α × Nat) : Prop where
  desc : Desc start r.2
  leaf : n ≤ 2 * r.2 + 1
  ok : ∀ j, 0 < j → j < n → start ≤ (j-1)/2 → j ≠ r.2 → (j-1)/2 ≠ r.2 → lt (r.1.getD j d) (r.1.getD ((j-1)/2) d) = false
theorem suL_heap {lt : α → α → Bool} (O : WO lt) (d : α) (n start pos : Nat) (xs : List α) (hn : n = xs.length) (hp : pos < xs.length) (D : Desc start pos)
    (K1 : ∀ j, 0 < j → j < n → start ≤ (j-1)/2 → j ≠ pos → (j-1)/2 ≠ pos → lt (xs.getD j d) (xs.getD ((j-1)/2) d) = false)
    (K2 : start < pos → ∀ c, 0 < c → c < n → (c-1)/2 = pos → lt (xs.getD c d) (xs.getD ((pos-1)/2) d) = false) : SuOk lt d n start (suL lt d n pos xs) := by
  generalize hk : n - pos = k
  induction k using Nat.strongRecOn generalizing pos xs with
  | _ k ih =>
    have step : ∀ c, pos < c → (c-1)/2 = pos → c < n → (∀ j, 0 < j → j < n → (j-1)/2 = pos → lt (xs.getD j d) (xs.getD c d) = false) → SuOk lt d n start (suL lt d n c (xs.set pos (xs.getD c d))) := by
      intro c hlt hcp hcn hmin
      have h0c := Nat.zero_lt_of_lt hlt
      refine ih (n - c) (hk ▸ Nat.sub_lt_sub_left (Nat.lt_trans hlt hcn) hlt) c (xs.set pos (xs.getD c d)) (lset hn) (lsetlt (Nat.lt_of_lt_of_eq hcn hn)) (.step h0c (hcp.symm ▸ D)) (fun j h0 hj hs hne hpne => ?_) (fun hs cc h0 hcc hpar => ?_) rfl
      · by_cases c1 : j = pos
        · rw [c1] at h0 hs ⊢
          rw [gset_eq hp, gset_ne (par_ne h0)]
          exact K2 (Nat.lt_of_le_of_lt hs (par_lt h0)) c h0c hcn hcp
        · rw [gset_ne c1]
          by_cases c2 : (j-1)/2 = pos
          · rw [c2, gset_eq hp]; exact hmin j h0 hj c2
          · rw [gset_ne c2]; exact K1 j h0 hj hs c1 c2
      · have hcc2 : c < cc := hpar ▸ par_lt h0
        have := K1 cc h0 hcc (hpar.symm ▸ Nat.le_of_lt hs) (Nat.ne_of_gt (Nat.lt_trans hlt hcc2)) (hpar.symm ▸ Nat.ne_of_gt hlt)
        rw [hpar] at this
        rw [hcp, gset_eq hp, gset_ne (Nat.ne_of_gt (Nat.lt_trans hlt hcc2))]
        exact this
    rw [suL]
    split
    · rename_i h
      split
      · rename_i h2
        refine step _ (ch2 pos) (par_or (.inr rfl)) h2.1 fun j h0 hj hpar => ?_
        rcases or_par h0 hpar with e | e
        · rw [e]; exact h2.2
        · rw [e]; exact O.irr _
      · rename_i h2
        refine step _ (ch1 pos) (par_or (.inl rfl)) h fun j h0 hj hpar => ?_
        rcases or_par h0 hpar with e | e
        · rw [e]; exact O.irr _
        · rw [e] at hj ⊢
          refine O.asym _ _ ?_
          cases q : lt (xs.getD (2 * pos + 1) d) (xs.getD (2 * pos + 2) d) with
          | true => rfl
          | false => exact absurd ⟨hj, q⟩ h2
    · rename_i h
      exact ⟨D, Nat.le_of_not_lt h, K1⟩

theorem su_heap {lt : α → α → Bool} (O : WO lt) (d : α) (start : Nat) (xs : List α) (hp : start < xs.length)
    (K : ∀ j, 0 < j → j < xs.length → start < (j-1)/2 → lt (xs.getD j d) (xs.getD ((j-1)/2) d) = false) : Hp lt d start (su lt d start xs) := by
  unfold su
  obtain ⟨D, hleaf, K1⟩ := suL_heap O d xs.length start start xs rfl hp .refl (fun j h0 hj hs h1 h2 => K j h0 hj (Nat.lt_of_le_of_ne hs (Ne.symm h2))) (fun h => absurd h (Nat.lt_irrefl _))
  obtain ⟨_, hlt⟩ := suL_perm (lt := lt) d d xs.length start xs rfl hp
  have hl := suL_len lt d xs.length start xs
  refine sd_heap O d _ _ _ _ (lsetlt (Nat.lt_of_lt_of_eq hlt hl.symm)) D (fun j h0 hj hs hne => ?_) (fun hs c h0 hc hpar => ?_)
  · have hj := Nat.lt_of_lt_of_eq (setlt hj) hl
    have hn := leaf_ne h0 hj hleaf
    rw [List.set_set, gset_ne hne, gset_ne hn]
    exact K1 j h0 hj hs hne hn
  · exact absurd hpar (leaf_ne h0 (Nat.lt_of_lt_of_eq (setlt hc) hl) hleaf)
theorem hp_root {lt : α → α → Bool} (O : WO lt) {d : α} {xs : List α} (H : Hp lt d 0 xs) : ∀ j, j < xs.length → lt (xs.getD j d) (xs.getD 0 d) = false := by
  intro j
  induction j using Nat.strongRecOn with
  | _ j ih =>
    intro hj
    rcases Nat.eq_zero_or_pos j with h | h
    · rw [h]; exact O.irr _
    · exact O.tr (H j h hj (Nat.zero_le _)) (ih _ (par_lt h) (par_ltn hj))
theorem hp_min {lt : α → α → Bool} (O : WO lt) {d : α} {xs : List α} (H : Hp lt d 0 xs) : ∀ y ∈ xs, lt y (xs.getD 0 d) = false := by
  intro y hy
  obtain ⟨j, hj, rfl⟩ := List.getElem_of_mem hy
  have := hp_root O H j hj
  rw [List.getD_eq_getElem?_getD, List.getElem?_eq_getElem hj] at this
  exact this
theorem hfy_ix {n k : Nat} (h : k + 1 ≤ n / 2) : n / 2 - 1 - k < n ∧ ∀ q, n / 2 - 1 - k < q → n / 2 - k ≤ q := ⟨by omega, fun q hq => by omega⟩
theorem half_par {n j : Nat} (h0 : 0 < j) (hj : j < n) (h : n / 2 ≤ (j - 1) / 2) : False := by omega
theorem hfy_law {lt : α → α → Bool} (O : WO lt) (d : α) (xs : List α) : (hfy lt d xs).Perm xs ∧ Hp lt d 0 (hfy lt d xs) := by
  have key : ∀ k, k ≤ xs.length / 2 → (((List.range (xs.length / 2)).reverse.take k).foldl (fun ys i => su lt d i ys) xs).Perm xs ∧ Hp lt d (xs.length / 2 - k) (((List.range (xs.length / 2)).reverse.take k).foldl (fun ys i => su lt d i ys) xs) := by
    intro k
    induction k with
    | zero => exact fun _ => ⟨.refl _, fun j h0 hj hs => (half_par h0 hj hs).elim⟩
    | succ k ih =>
      intro hk
      obtain ⟨p, H⟩ := ih (Nat.le_of_succ_le hk)
      obtain ⟨i1, i2⟩ := hfy_ix hk
      rw [rev_take hk, List.foldl_append]
      simp only [List.foldl_cons, List.foldl_nil]
      have hl := Nat.lt_of_lt_of_eq i1 p.length_eq.symm
      refine ⟨(su_perm d _ _ hl).trans p, ?_⟩
      rw [Nat.add_comm k 1, ← Nat.sub_sub]
      exact su_heap O d _ _ hl fun j h0 hj hs => H j h0 hj (i2 _ hs)
  have := key (xs.length / 2) (Nat.le_refl _)
  rw [List.take_of_length_le (by simp), Nat.sub_self] at this
  exact this
theorem lt_app1 {xs : List α} {e : α} {j : Nat} (h : j < (xs ++ [e]).length) : j ≤ xs.length := Nat.le_of_lt_succ (Nat.lt_of_lt_of_eq h List.length_append)
theorem hpush_law {lt : α → α → Bool} (O : WO lt) (d e : α) (xs : List α) (H : Hp lt d 0 xs) : (hpush lt e xs).Perm (e :: xs) ∧ Hp lt d 0 (hpush lt e xs) := by
  unfold hpush
  have e1 : (xs ++ [e]).set xs.length e = xs ++ [e] := by
    rw [List.set_append_right _ _ (Nat.le_refl _)]; simp
  refine ⟨(sd_perm e 0 _ _ (by simp)).trans (by rw [e1]; exact List.perm_append_singleton _ _), ?_⟩
  refine sd_heap O d e 0 _ _ (by simp) (Desc.zero _) ?_ ?_
  · intro j h0 hj hs hne
    replace hj := lt_app1 hj
    rw [e1]
    have e2 : ∀ i, i < xs.length → (xs ++ [e]).getD i d = xs.getD i d := fun i hi => by
      rw [List.getD_eq_getElem?_getD, List.getD_eq_getElem?_getD, List.getElem?_append_left hi]
    have hl := Nat.lt_of_le_of_ne hj hne
    rw [e2 _ hl, e2 _ (par_ltn hl)]
    exact H j h0 hl hs
  · intro hs c h0 hc hpar
    exact absurd hpar (Nat.ne_of_lt (Nat.lt_of_lt_of_le (par_lt h0) (lt_app1 hc)))
theorem hrep_law {lt : α → α → Bool} (O : WO lt) (d e : α) (xs : List α) (H : Hp lt d 0 xs) (hne : 0 < xs.length) : (su lt d 0 (xs.set 0 e)).Perm (xs.set 0 e) ∧ Hp lt d 0 (su lt d 0 (xs.set 0 e)) := by
  refine ⟨su_perm d _ _ (by simpa using hne), su_heap O d 0 _ (by simpa using hne) fun j h0 hj hs => ?_⟩
  rw [List.length_set] at hj
  rw [getD_set', getD_set', if_neg (by omega), if_neg (by omega)]
  exact H j h0 hj (Nat.zero_le _)
theorem hpop_law {lt : α → α → Bool} (O : WO lt) (d : α) (xs : List α) (H : Hp lt d 0 xs) (hne : xs ≠ []) : (xs.getD 0 d :: hpop lt d xs).Perm xs ∧ Hp lt d 0 (hpop lt d xs) := by
  unfold hpop
  split
  · rename_i h
    cases xs with
    | nil => exact absurd rfl hne
    | cons a t =>
      cases t with
      | nil => exact ⟨.refl _, fun j h0 hj => by simp at hj⟩
      | cons b t => simp at h
  · rename_i h
    have hpos : 0 < xs.dropLast.length := List.length_pos_iff.mpr h
    have Hd : Hp lt d 0 xs.dropLast := fun j h0 hj hs => by
      have hl : xs.dropLast.length = xs.length - 1 := List.length_dropLast
      have e2 : ∀ i, i < xs.dropLast.length → xs.dropLast.getD i d = xs.getD i d := fun i hi => by
        rw [List.getD_eq_getElem?_getD, List.getD_eq_getElem?_getD, List.getElem?_eq_getElem hi, List.getElem_dropLast, List.getElem?_eq_getElem]
      rw [e2 _ hj, e2 _ (par_ltn hj)]
      exact H j h0 (Nat.lt_of_lt_of_le hj (Nat.le_trans (Nat.le_of_eq hl) (Nat.sub_le _ _))) hs
    obtain ⟨p, Hs⟩ := hrep_law O d (xs.getLastD d) _ Hd hpos
    refine ⟨?_, Hs⟩
    refine (p.cons _).trans ?_
    have e : xs = xs.dropLast ++ [xs.getLastD d] := by
      have := List.dropLast_concat_getLast hne
      have e2 : xs.getLastD d = xs.getLast hne := by
        cases xs with
        | nil => exact absurd rfl hne
        | cons a t => rfl
      rw [e2]; exact this.symm
    generalize hz : xs.getLastD d = z at *
    generalize hy : xs.dropLast = ys at *
    subst e
    cases ys with
    | nil => simp at hpos
    | cons a t =>
      simp only [List.set_cons_zero, List.cons_append, List.getD_cons_zero]
      exact (List.perm_append_singleton z t).symm.cons a
end
theorem elt_wo : WO elt := ⟨fun a b h => klt_asym _ _ h, fun a b c h => klt_neg _ _ _ h⟩
theorem egt_wo : WO egt := ⟨fun a b h => klt_asym _ _ h, fun a b c h => (klt_neg _ b.2 _ h).symm⟩

theorem at_P15b_Sel : True := by
  w_top off
  trivial
/-- es are the smallest of ys -/
def Sel (ys es : List El) : Prop := ∃ rest, (es ++ rest).Perm ys ∧ ∀ a ∈ es, ∀ b ∈ rest, elt a b = true
theorem kd_perm {xs ys : List El} (h : KD xs) (p : ys.Perm xs) : KD ys := (p.map Prod.snd).nodup_iff.mpr h
theorem kd_app {xs ys : List El} (h : KD (xs ++ ys)) : KD xs ∧ KD ys ∧ ∀ a ∈ xs, ∀ b ∈ ys, a.2 ≠ b.2 := by
  unfold KD at *
  rw [List.map_append, List.nodup_append] at h
  refine ⟨h.1, h.2.1, fun a ha b hb => h.2.2 _ (List.mem_map_of_mem ha) _ (List.mem_map_of_mem hb)⟩
theorem sel_srt {ys es : List El} (hd : KD ys) (h : Sel ys es) : es.Perm ((srt ys).take es.length) := by
  obtain ⟨rest, p, o⟩ := h
  have hd' := kd_perm hd p
  obtain ⟨h1, h2, _⟩ := kd_app hd'
  have hu : Up (srt es ++ srt rest) := by
    refine List.pairwise_append.mpr ⟨srt_up _ h1, srt_up _ h2, fun a ha b hb => o a ((srt_perm es).mem_iff.mp ha) b ((srt_perm rest).mem_iff.mp hb)⟩
  have e : srt es ++ srt rest = srt ys := srt_eq hu (((srt_perm es).append (srt_perm rest)).trans p) hd
  rw [← e, List.take_left' (srt_perm es).length_eq]
  exact (srt_perm es).symm
theorem sel_all (ys : List El) : Sel ys ys := ⟨[], by simp, fun _ _ _ hb => by cases hb⟩
theorem sel_perm {ys es es' : List El} (h : Sel ys es) (p : es'.Perm es) : Sel ys es' := by
  obtain ⟨rest, q, o⟩ := h
  exact ⟨rest, (p.append_right rest).trans q, fun a ha => o a (p.mem_iff.mp ha)⟩
theorem elt_tr {a b c : El} (h : elt a b = true) (h' : elt b c = true) : elt a c = true := klt_trans _ _ _ h h'
theorem elt_of {a b : El} (h : elt b a = false) (hne : a.2 ≠ b.2) : elt a b = true := by
  rcases klt_tot _ _ hne with q | q
  · exact q
  · unfold elt at h; rw [q] at h; cases h
theorem sel_in {ys r : List El} {e t : El} (hd : KD (ys ++ [e])) (h : Sel ys (t :: r)) (hmax : ∀ y ∈ r, elt t y = false) (hlt : elt e t = true) : Sel (ys ++ [e]) (e :: r) := by
  obtain ⟨rest, p, o⟩ := h
  obtain ⟨h1, _, _⟩ := kd_app hd
  have hd' := kd_perm h1 p
  have hne : ∀ y ∈ r, y.2 ≠ t.2 := fun y hy e => by
    unfold KD at hd'
    simp only [List.cons_append, List.map_cons, List.nodup_cons] at hd'
    exact hd'.1 (by rw [← e]; exact List.mem_map_of_mem (List.mem_append_left _ hy))
  refine ⟨t :: rest, ?_, ?_⟩
  · have q1 : (e :: r ++ t :: rest).Perm (e :: (t :: r ++ rest)) := by
      simp only [List.cons_append]
      exact (List.perm_middle).cons e
    refine q1.trans ((p.cons e).trans ?_)
    exact (List.perm_append_singleton e ys).symm
  · intro a ha b hb
    rcases List.mem_cons.mp ha with rfl | ha
    · rcases List.mem_cons.mp hb with rfl | hb
      · exact hlt
      · exact elt_tr hlt (o t (.head _) b hb)
    · rcases List.mem_cons.mp hb with rfl | hb
      · exact elt_of (hmax a ha) (hne a ha)
      · exact o a (.tail _ ha) b hb
theorem sel_out {ys r : List El} {e t : El} (hd : KD (ys ++ [e])) (h : Sel ys (t :: r)) (hmax : ∀ y ∈ r, elt t y = false) (hlt : elt e t = false) : Sel (ys ++ [e]) (t :: r) := by
  obtain ⟨rest, p, o⟩ := h
  obtain ⟨h1, _, h3⟩ := kd_app hd
  have hd' := kd_perm h1 p
  have hne : ∀ y ∈ r, y.2 ≠ t.2 := fun y hy e => by
    unfold KD at hd'
    simp only [List.cons_append, List.map_cons, List.nodup_cons] at hd'
    exact hd'.1 (by rw [← e]; exact List.mem_map_of_mem (List.mem_append_left _ hy))
  have ht : t ∈ ys := p.mem_iff.mp (by simp)
  have hte : elt t e = true := elt_of hlt (h3 t ht e (.head _))
  refine ⟨e :: rest, ?_, ?_⟩
  · have q1 : (t :: r ++ e :: rest).Perm (e :: (t :: r ++ rest)) := by
      simp only [← List.cons_append]
      exact List.perm_middle
    exact q1.trans ((p.cons e).trans (List.perm_append_singleton e ys).symm)
  · intro a ha b hb
    rcases List.mem_cons.mp hb with rfl | hb
    · rcases List.mem_cons.mp ha with rfl | ha
      · exact hte
      · exact elt_tr (elt_of (hmax a ha) (hne a ha)) hte
    · exact o a ha b hb

/-! nested elements and what they hold -/
def fk (k : Key) : Key := (k.1, k.2.1, 0)
theorem klt_fk {a b : Key} (h : fk a ≠ fk b) : klt a b = klt (fk a) (fk b) := by
  obtain ⟨a1, a2, a3⟩ := a
  obtain ⟨b1, b2, b3⟩ := b
  simp only [fk, klt] at *
  by_cases h1 : a1 = b1
  · subst h1
    have h2 : a2 ≠ b2 := fun e => h (by rw [e])
    have e : (a2 == b2) = false := by simpa using h2
    simp [e]
    rfl
  · have e : (a1 == b1) = false := by simpa using h1
    simp [e]
    rfl
def inn (xs : List El) (z : El) : El := (xs.find? (fun e => e.2 == fk z.2)).getD dEl
theorem inn_eq {xs : List El} {z e : El} (hd : KD xs) (he : e ∈ xs) (hk : e.2 = fk z.2) : inn xs z = e := by
  unfold inn
  induction xs with
  | nil => cases he
  | cons x xs ih =>
    unfold KD at hd
    simp only [List.map_cons, List.nodup_cons] at hd
    rw [List.find?_cons]
    rcases List.mem_cons.mp he with rfl | he
    · have : (e.2 == fk z.2) = true := by simpa using hk
      rw [this]; rfl
    · have hne : x.2 ≠ e.2 := fun q => hd.1 (by rw [q]; exact List.mem_map_of_mem he)
      have : (x.2 == fk z.2) = false := by rw [← hk]; simpa using hne
      rw [this]
      exact ih hd.2 he
/-- z holds an element of xs -/
def NE (xs : List El) (ts : List (Addr × Obj)) (z : El) : Prop := ∃ a v e, e ∈ xs ∧ e.2 = fk z.2 ∧ z.1 = .ref a ∧ (a, tup [e.1, .int z.2.2.2 v]) ∈ ts
theorem NE.inn {xs : List El} {ts : List (Addr × Obj)} {z : El} (hd : KD xs) (h : NE xs ts z) : inn xs z ∈ xs ∧ (inn xs z).2 = fk z.2 ∧ ∃ a v, z.1 = .ref a ∧ (a, tup [(Mine.inn xs z).1, .int z.2.2.2 v]) ∈ ts := by
  obtain ⟨a, v, e, he, hk, h1, h2⟩ := h
  rw [inn_eq hd he hk]
  exact ⟨he, hk, a, v, h1, h2⟩
theorem NE.sub {xs : List El} {ts ts' : List (Addr × Obj)} {z : El} (h : NE xs ts z) (hs : ∀ q ∈ ts, q ∈ ts') : NE xs ts' z := by
  obtain ⟨a, v, e, he, hk, h1, h2⟩ := h
  exact ⟨a, v, e, he, hk, h1, hs _ h2⟩
/-- nsmallest's heap after i items -/
def PInv (xs : List El) (k i : Nat) (zs : List El) : Prop := zs.length = k ∧ Hp egt dEl 0 zs ∧ Sel (xs.take i) (zs.map (inn xs))

theorem inn_max {xs zs : List El} (hk : ∀ z ∈ zs, (inn xs z).2 = fk z.2) (H : Hp egt dEl 0 zs) (h0 : zs.getD 0 dEl ∈ zs) : ∀ y ∈ zs, elt (inn xs (zs.getD 0 dEl)) (inn xs y) = false := by
  intro y hy
  have h1 : elt (zs.getD 0 dEl) y = false := hp_min egt_wo H y hy
  unfold elt at *
  rw [hk y hy, hk _ h0]
  by_cases e : fk (zs.getD 0 dEl).2 = fk y.2
  · rw [e]; exact klt_irrefl _
  · rw [← klt_fk e]; exact h1
theorem take_succ' {xs : List El} {i : Nat} (hi : i < xs.length) : xs.take (i + 1) = xs.take i ++ [xs.getD i dEl] := by
  rw [List.take_add_one, List.getD_eq_getElem?_getD, List.getElem?_eq_getElem hi]; rfl
theorem pinv_stay {xs zs : List El} {k i : Nat} (hd : KD xs) (hi : i < xs.length) (hk0 : 0 < k) (hk : ∀ z ∈ zs, (inn xs z).2 = fk z.2) (P : PInv xs k i zs) (hlt : elt (xs.getD i dEl) (inn xs (zs.getD 0 dEl)) = false) : PInv xs k (i + 1) zs := by
  obtain ⟨hl, H, S⟩ := P
  refine ⟨hl, H, ?_⟩
  rw [take_succ' hi]
  have hdt : KD (xs.take i ++ [xs.getD i dEl]) := by
    rw [← take_succ' hi]
    have : KD (xs.take (i + 1) ++ xs.drop (i + 1)) := by rw [List.take_append_drop]; exact hd
    exact (kd_app this).1
  cases zs with
  | nil => simp at hl; omega
  | cons z r =>
    have hm := inn_max hk H (by simp)
    simp only [List.map_cons] at *
    exact sel_out hdt S (fun y hy => by
      obtain ⟨y', hy', rfl⟩ := List.mem_map.mp hy
      exact hm y' (.tail _ hy')) hlt
theorem pinv_in {xs zs : List El} {k i : Nat} {z' : El} (hd : KD xs) (hi : i < xs.length) (hk0 : 0 < k) (hk : ∀ z ∈ zs, (inn xs z).2 = fk z.2) (P : PInv xs k i zs) (hz : inn xs z' = xs.getD i dEl) (hlt : elt (xs.getD i dEl) (inn xs (zs.getD 0 dEl)) = true) :
    PInv xs k (i + 1) (su egt dEl 0 (zs.set 0 z')) ∧ (∀ z ∈ su egt dEl 0 (zs.set 0 z'), z = z' ∨ z ∈ zs) := by
  obtain ⟨hl, H, S⟩ := P
  obtain ⟨p, H'⟩ := hrep_law egt_wo dEl z' zs H (by omega)
  refine ⟨⟨by rw [p.length_eq, List.length_set]; exact hl, H', ?_⟩, fun z hz => ?_⟩
  · rw [take_succ' hi]
    have hdt : KD (xs.take i ++ [xs.getD i dEl]) := by
      rw [← take_succ' hi]
      have : KD (xs.take (i + 1) ++ xs.drop (i + 1)) := by rw [List.take_append_drop]; exact hd
      exact (kd_app this).1
    cases zs with
    | nil => simp at hl; omega
    | cons z r =>
      have hm := inn_max hk H (by simp)
      refine sel_perm ?_ (p.map (inn xs))
      simp only [List.set_cons_zero, List.map_cons] at *
      rw [hz]
      exact sel_in hdt S (fun y hy => by
        obtain ⟨y', hy', rfl⟩ := List.mem_map.mp hy
        exact hm y' (.tail _ hy')) hlt
  · rcases List.mem_or_eq_of_mem_set (p.mem_iff.mp hz) with h | h
    · exact .inr h
    · exact .inl h
theorem pinv_end {xs zs : List El} {k : Nat} (hd : KD xs) (hk : ∀ z ∈ zs, (inn xs z).2 = fk z.2) (P : PInv xs k xs.length zs) : KD zs ∧ (srt zs).map (inn xs) = (srt xs).take k := by
  obtain ⟨hl, H, S⟩ := P
  rw [List.take_length] at S
  have p := sel_srt hd S
  rw [List.length_map, hl] at p
  have hdt : KD ((srt xs).take k) := by
    have : KD ((srt xs).take k ++ (srt xs).drop k) := by rw [List.take_append_drop]; exact kd_perm hd (srt_perm xs)
    exact (kd_app this).1
  have hdi : KD (zs.map (inn xs)) := kd_perm hdt p
  have hmap : (zs.map (inn xs)).map Prod.snd = (zs.map Prod.snd).map fk := by
    rw [List.map_map, List.map_map]
    exact List.map_congr_left fun z hz => hk z hz
  have hfk : ((zs.map Prod.snd).map fk).Nodup := by
    have := hdi; unfold KD at this; rw [hmap] at this; exact this
  have hdz : KD zs := by
    unfold KD
    have hfk' := hfk
    rw [List.Nodup, List.pairwise_map] at hfk'
    exact hfk'.imp fun h e => h (by rw [e])
  refine ⟨hdz, ?_⟩
  refine up_unique ?_ ?_ (((srt_perm zs).map (inn xs)).trans p)
  · unfold Up
    rw [List.pairwise_map]
    have hu := srt_up zs hdz
    have hfs : ((srt zs).map Prod.snd |>.map fk).Nodup := (((srt_perm zs).map Prod.snd).map fk).nodup_iff.mpr hfk
    rw [List.Nodup, List.pairwise_map, List.pairwise_map] at hfs
    have hboth := List.Pairwise.and hu hfs
    refine List.Pairwise.imp_of_mem (fun {a b} ha hb h => ?_) hboth
    have ka := hk a ((srt_perm zs).mem_iff.mp ha)
    have kb := hk b ((srt_perm zs).mem_iff.mp hb)
    unfold elt at *
    rw [ka, kb, ← klt_fk h.2]
    exact h.1
  · exact List.Pairwise.sublist (List.take_sublist _ _) (srt_up xs hd)

theorem at_P15c_Zs : True := by
  w_top off
  trivial
theorem mk_zs {xs : List El} {vs : List Value} {ts : List (Addr × Obj)} {k : Nat} (hd : KD xs) (hk : k ≤ xs.length) (hz : ∀ e ∈ xs, e.2.2.2 = 0) (hl : vs.length = k)
    (hel : ∀ j, j < k → ∃ e t, vs[j]? = some (.ref e) ∧ (e, tup [(xs.getD j dEl).1, .int (j : Nat) t]) ∈ ts) :
    ∃ zs : List El, zs.map Prod.fst = vs ∧ zs.length = k ∧ (∀ z ∈ zs, NE xs ts z) ∧ zs.map (inn xs) = xs.take k := by
  refine ⟨(List.range k).map (fun j => (vs.getD j .none, (xs.getD j dEl).2.1, (xs.getD j dEl).2.2.1, (j : Int))), ?_, by simp, ?_, ?_⟩
  · rw [List.map_map]
    apply List.ext_getElem
    · simp [hl]
    · intro i h1 h2
      simp at h1
      simp [h2]
  · intro z hz'
    obtain ⟨j, hj, rfl⟩ := List.mem_map.mp hz'
    have hj := List.mem_range.mp hj
    obtain ⟨e, t, h1, h2⟩ := hel j hj
    have hm : xs.getD j dEl ∈ xs := by
      rw [List.getD_eq_getElem?_getD, List.getElem?_eq_getElem (by omega)]
      exact List.getElem_mem _
    refine ⟨e, t, xs.getD j dEl, hm, ?_, ?_, h2⟩
    · have := hz _ hm
      show (xs.getD j dEl).2 = ((xs.getD j dEl).2.1, (xs.getD j dEl).2.2.1, 0)
      rw [← this]
    · show vs.getD j .none = _
      rw [List.getD_eq_getElem?_getD, h1]; rfl
  · rw [List.map_map]
    apply List.ext_getElem
    · simp; omega
    · intro i h1 h2
      simp at h1
      have hm : xs.getD i dEl ∈ xs := by
        rw [List.getD_eq_getElem?_getD, List.getElem?_eq_getElem (by omega)]
        exact List.getElem_mem _
      simp only [List.getElem_map, Function.comp_apply, List.getElem_range, List.getElem_take]
      rw [inn_eq hd hm]
      · rw [List.getD_eq_getElem?_getD, List.getElem?_eq_getElem (by omega)]; rfl
      · have := hz _ hm
        show (xs.getD i dEl).2 = ((xs.getD i dEl).2.1, (xs.getD i dEl).2.2.1, 0)
        rw [← this]
theorem ne_el {xs : List El} {ts : List (Addr × Obj)} {z : El} {h : Heap} (x : NE xs ts z) (ht : ∀ q ∈ ts, h.get? q.1 = some q.2) (hx : ∀ e ∈ xs, ElF h e) : ElOk false h z := by
  obtain ⟨a, v, e, he, hk, h1, h2⟩ := x
  obtain ⟨b, t, u, f1, f2, f3⟩ := hx e he
  have e1 := ht _ h2
  dsimp only at e1
  rw [f1] at e1
  refine ⟨a, b, t, u, v, h1, e1, ?_⟩
  rw [hk] at f2
  exact f2
section
variable {prog : Program} {w : World} {A : Around} {E : Value → Shared → Prop} {s : Shared} {h₀ : Heap} {L : Addr} {m : Str → Option Value} {nx : List (Addr × Obj)} {env : Env}
theorem sub_tup {value slice : PySem.Expr} {a : Addr} {vs : List Value} {k : Int} {u : Tok} {v : Value} {Q : Value → Shared → Prop} (ht : s.heap.get? a = some (tup vs)) (h0 : 0 ≤ k) (hk : k < (vs.length : Int)) (hx : vs[k.toNat]? = some v) (h : Q v s) (hf : k < 2 ^ 63)
    (hs : subscripted slice false (.ref a) (.int k u) = operate [.ref a, .int k u] (getItem (.ref a) (.int k u)) := by with_unfolding_all rfl) :
    wpAny (model prog w) A (subscriptTail value slice (.ref a) (.int k u)) Q E s := by
  have ht' : IsTup s.heap a vs.toArray := ⟨_, ht, rfl, _, rfl⟩
  exact tail_any ht'.typeIs slot_tuple_getitem.lookup (getItem_tuple ht' (by omega) hf (seqIndex_of h0 (by simpa using hk)) (x := v) (by simpa using hx) h) hs
theorem unpack_N {elts : List Expr} {k} {pos : Pos} {t : Addr} {vs : List Value} {Q : Unit → Shared → Prop} (F : Fr h₀ L s.heap m) (N : News h₀ L s.heap nx) (ht : s.heap.get? t = some (tup vs))
    (hh : A.handled = none) (hn : (assignEach elts env).length = vs.length) (hstar : (assignEach elts env).findIdx? (·.1) = none)
    (h : ∀ h', Fr h₀ L h' m → News h₀ L h' nx → wpAny (model prog w) A (assignInOrder ((assignEach elts env).map (·.2)) vs) Q E { s with heap := h' }) :
    wpAny (model prog w) A (assign (.Tuple elts k pos) env (.ref t)) Q E s := by
  refine assign_Tuple_tuple hh (items := vs.toArray) ⟨_, ht, rfl, _, rfl⟩ (by simpa using hn) hstar fun h' he => ?_
  exact h h' (F.extBut he (Nat.le_refl _)) fun q hq => ⟨he _ _ (Nat.ne_of_lt (Heap.lt_size (N q hq).1)) (N q hq).1, (N q hq).2⟩
end

theorem at_P16_Nsm3 : True := by
  w_top off
  trivial
/-- the state of nsmallest's loop -/
inductive NsJ (D : Addr) (xs : List El) (k i : Nat) (m₁ : Str → Option Value) (nx : List (Addr × Obj)) : Prop
  | mk (zs : List El) (n' : Nat) (ts' : List (Addr × Obj)) (o : Int) (t' : Tok) (h0 : nx = (D, lst zs n') :: ts') (h1 : ∀ q ∈ ts', @LT.lt Nat _ D q.1) (h2 : ∀ z ∈ zs, NE xs ts' z) (h3 : PInv xs k i zs) (h4 : i ≤ xs.length)
    (h5 : m₁ (Str.ofString "result") = some (.ref D)) (h6 : m₁ (Str.ofString "top") = some (inn xs (zs.getD 0 dEl)).1) (h7 : m₁ (Str.ofString "order") = some (.int o t')) (h8 : m₁ (Str.ofString "_heapreplace") = some (.ref 42))
section
variable {w : World} {A : Around} {s : Shared} {h₀ : Heap} {L : Addr} {m : Str → Option Value} {env : Env} {rest : List (Addr × Obj)} {Q E : Value → Shared → Prop}

inductive SrtJ (xs ys : List El) (i : Nat) (out : List Value) (ts : List (Addr × Obj)) : Prop
  | mk (h1 : out = (ys.take i).map (fun z => (inn xs z).1)) (h2 : ts = [])
theorem nsm_heap {fa : Addr} {xs : List El} {n k : Nat} {t : Tok} (C : Cx w A env h₀ L) (R : Room 8 A) (F : Fr h₀ L s.heap m) (N : News h₀ L s.heap rest)
    (hfa : s.heap.get? fa = some (lst xs n)) (hlen : xs.length < 64) (hok : ∀ e ∈ xs, ElF s.heap e) (hd : KD xs) (hk1 : 2 ≤ k) (hk : k < xs.length) 
    (hQ : ∀ h' tk' n' r, Fr h₀ L h' m → News h₀ L h' ((r, lst ((srt xs).take k) n') :: rest) → (∀ q ∈ rest, q.1 ≠ r) → Q (.ref r) { s with heap := h', toks := tk' }) :
    wpAny (model PySem.Challenge.rw_ik0004_01.row.prog w) A (call (.ref 83) [.int (k : Int) t, .ref fa]) Q E s := by
  k_dflt (refine' callC (rest := rest) (args := ⟨[.int (k : Int) t, .ref fa], []⟩) (binds := [(Str.ofString "n", .int (k : Int) t), (Str.ofString "iterable", .ref fa), (Str.ofString "key", .none)]) C R F N ?k6 ?k7 ?k9 ?kB ?kD ?_ ?c2 ?c3 ?c4; (case k6 => k_is); (case k7 => k_is); (case k9 => exact binds_K (C.X.keeps F.keep) rfl (by k_is) rfl rfl rfl); (case kB => exact rfl); (case kD => decide +kernel); (case c2 => exact rfl); (case c3 => exact rfl); (case c4 => exact rfl))
  intro g L' h₁ tk0 cells mean mg mb R' F' N' Y' C' X' T' big lt
  k_cells Y'
  refine gn fun Qo hqo => ?_
  have hfg : g.get? fa = some (lst xs n) := big _ _ hfa
  have hokg : ∀ e ∈ xs, ElF g e := fun e he => ElOk.keeps (fl := true) (hok e he) fun b vs e => big _ _ e
  have k64 : k < 64 := Nat.lt_trans hk hlen
  have k0 : 0 < k := Nat.lt_of_lt_of_le Nat.two_pos hk1
  walk_at "MW"
  · exfalso
    first | omega | (rename_i hc; first | omega | (simp at hc; omega))
  refine wpAny_Try_except ?_
  walk_at "MWN"
  rename Fr _ _ _ _ => F1
  refine len_b (F1.keep _ _ hfg) (by omega) ?_
  intro t1 tk1
  walk_at "MW"
  · exfalso
    first | omega | (rename_i hc; first | omega | (simp at hc; omega))
  rename Fr _ _ _ _ => F2
  rename News _ _ _ _ => N2
  refine iter_v F2 N2 (F2.keep _ _ hfg) ?_
  intro it h2 F3 N3 l3
  (try k_lt l3)
  walk_at "MW"
  rename Fr _ _ _ _ => F4
  rename News _ _ _ _ => N4
  k_dflt (refine' comp_assign (cl := []) (by rfl) (by rfl) (by rfl) F4 C' (by rfl) (by decide) (by rfl) (by decide) ?_ (by intro _; rfl))
  walk_at "MW"
  refine range_v F4 N4 ?_
  intro r h5 tk5 t5 u5 v5 F5 N5 l5
  (try k_lt l5)
  walk_at "MW"
  refine zip_v (r := r) (it := it) (l := fa) (k := 0) (n := k) F5 N5 (by k_mem) (by k_mem) (by omega) ?_
  intro z TI TO ri h6 F6 N6 l6 l6a l6b l6c
  (try k_lt l6)
  refine wpAny_pyIter_zip (TI := TI) (TO := TO) (f0 := .none) (N6 _ (.head _)).1 ?_
  rename Obj => oc
  refine ⟨z, [(z, zipObj .none TI TO), (TO, { cls := .type "tuple", data := .seq #[.none, .none] }), (TI, { cls := .type "tuple", data := .seq #[.ref ri, .ref it] }), (ri, riObj 0 k 1), (it, liObj fa 0)], [(r, rangeObj 0 k 1 t5 u5 v5), (L' + 1, oc)], rfl, F6, ?_, ?_, ?_, ?_⟩
  · exact nsubs (r := [(z, zipObj .none TI TO), (TO, { cls := .type "tuple", data := .seq #[.none, .none] }), (TI, { cls := .type "tuple", data := .seq #[.ref ri, .ref it] }), (ri, riObj 0 k 1), (it, liObj fa 0), (r, rangeObj 0 k 1 t5 u5 v5), (L' + 1, oc)]) N6 (by walk_at "NS")
  · have c2 : @LT.lt Nat _ ri TO := Nat.lt_trans l6a l6b
    have c3 : @LT.lt Nat _ ri z := Nat.lt_trans c2 l6c
    have up : ∀ a : Addr, @LT.lt Nat _ a ri → a ≠ it → a ∉ [(z, zipObj .none TI TO), (TO, { cls := .type "tuple", data := .seq #[.none, .none] }), (TI, { cls := .type "tuple", data := .seq #[.ref ri, .ref it] }), (ri, riObj 0 k 1), (it, liObj fa 0)].map (·.1) := fun a h hi => nmemc (ltne (Nat.lt_trans h c3)) (nmemc (ltne (Nat.lt_trans h c2)) (nmemc (ltne (Nat.lt_trans h l6a)) (nmemc (ltne h) (nmemc hi nmem0))))
    exact allc (up _ l6.1 (gtne l5.1)) (allc (up _ l6.2.2 (ltne l3)) alln)
  · intro s' Q' E' hW hq
    exact wpAny_pyIter_zip (TI := TI) (TO := TO) (f0 := .none) (hW (z, zipObj .none TI TO) (.head _)) hq
  · intro g2 C2 D h7 tk7 mean2 mg2 mb2 F7 N7 big2 lt2 ltD X2 T2
    have hfg2 : g2.get? fa = some (lst xs n) := big2 _ _ (F6.keep _ _ hfg) (nin_news (l := [(z, zipObj .none TI TO), (TO, { cls := .type "tuple", data := .seq #[.none, .none] }), (TI, { cls := .type "tuple", data := .seq #[.ref ri, .ref it] }), (ri, riObj 0 k 1), (it, liObj fa 0)]) (nsubs N6 (by walk_at "NS")) hfg)
    k_dflt (refine' zip_comp (k := k) (xs := xs) (n := n) (fa := fa) C'.hh (by rfl) (by rfl) (by rfl) (by omega) hlen hfg2 F7 N7 l6.2.1 l6a l6b l6c (lt2 _ _ (N6 _ (.head _)).1) ltD ?_)
    intro m8 c8 h8 tk8 ts vs F8 N8 hl hts hel
    refine ⟨m8, vs.toArray, c8, (it, liObj fa k) :: ts, F8, N8, ?_⟩
    intro h9 tk9 F9 N9
    dsimp only
    have hitD : @LT.lt Nat _ it D := lt2 it (liObj fa 0) (N6 (it, liObj fa 0) (by walk_at "MEM")).1
    have Nr : News g L' h9 ((D, PySem.W.listOf vs.toArray c8) :: (it, liObj fa k) :: ts) := nsubs N9 (sub_cons (.head _) fun q hq => .tail _ (List.mem_append_left _ hq))
    clear N9
    obtain ⟨zs, rfl, hzl, hzn, hzi⟩ := mk_zs hd (Nat.le_of_lt hk) (fun e he => by obtain ⟨_, _, _, _, _, e3⟩ := hokg e he; exact e3) hl hel
    walk_at "MW"
    refine truthy_el Nr (.head _) (b20 (Nat.le_of_eq hzl) k64) fun tk10 => ?_
    have hne : zs.isEmpty = false := by cases zs with
      | nil => simp at hzl; omega
      | cons => rfl
    rw [hne]
    walk_at "MW"
    have hoffD : ∀ q ∈ (it, liObj fa k) :: ts, q.1 ≠ D := allc (ltne hitD) fun q hq => gtne (hts q hq)
    rename Fr _ _ _ _ => F10
    rename News _ _ _ _ => N10
    refine heapify_max_ok (fl := false) C' (R'.le (by decide)) F10 N10 hoffD (b20 (Nat.le_of_eq hzl) k64) (fun z hz => ne_el (hzn z hz) (fun q hq => (N10 q (.tail _ (.tail _ hq))).1) fun e he => ElOk.keeps (fl := true) (hokg e he) fun b vs e => F10.keep _ _ e) ?_
    intro h11 tk11 n11 F11 N11
    obtain ⟨ph, Hh⟩ := hfy_law egt_wo dEl zs
    generalize hfy egt dEl zs = ys at ph Hh N11
    have hyl : ys.length = k := ph.length_eq.trans hzl
    have hyn : ∀ z ∈ ys, NE xs ts z := fun z hz => hzn z (ph.mem_iff.mp hz)
    have hP : PInv xs k k ys := ⟨hyl, Hh, sel_perm (by rw [← hzi]; exact sel_all _) (ph.map (inn xs))⟩
    clear ph Hh hzn hzi hzl hne
    have hy0 : ys.getD 0 dEl ∈ ys := by
      rw [List.getD_eq_getElem?_getD, List.getElem?_eq_getElem (hyl.symm ▸ k0)]
      exact List.getElem_mem _
    obtain ⟨hi0, hik0, a0, v0, ea0, hma0⟩ := (hyn _ hy0).inn hd
    walk_at "MW"
    refine sub_el (i := 0) N11 (.head _) rfl (hyl.symm ▸ k0) (by omega) ?_ (by with_unfolding_all rfl)
    rw [ea0]
    walk_at "MW"
    refine sub_tup (N11 (a0, _) (.tail _ (.tail _ hma0))).1 (by omega) (by simp) rfl ?_ (by omega) (by with_unfolding_all rfl)
    walk_at "MW"
    rename Fr _ _ _ _ => F12
    rename News _ _ _ _ => N12
    k_dflt (refine' for_li (it := it) (fa := fa) (i₀ := k) (nx₀ := (D, lst ys n11) :: ts) (n := n) (vs := xs.map Prod.fst) C'.hh (NsJ D xs k) (by rfl) (by rfl) (by rfl) hfg ?_ F12 (nsubs N12 (by walk_at "NS")) ?_ ?_ ?_ ?_ ?_ (by intro _; rfl))
    · rintro i m₁ nx ⟨zs', n', ts', o, t', rfl, hts', _, _, _, _, _, _, _⟩
      exact allc (gtne hitD) fun q hq => gtne (Nat.lt_trans hitD (hts' q hq))
    · exact ⟨ys, n11, ts, _, _, rfl, hts, hyn, hP, Nat.le_of_lt hk, by rfl, by rfl, by rfl, by rfl⟩
    · simp; omega
    · intro Q' E' hq
      exact wpAny_Name (wpAny_loadName_local rfl rfl F12.ns (by rfl) hq) (by decide)
    · (try clear N12); (try clear F12); (try clear N11); (try clear F11); (try clear N10); (try clear F10); (try clear Nr); (try clear F9); clear hyn hP hyl hy0 hma0 hik0 hi0
      rintro i m₁ nx h tk v Qb hqb hv ⟨zs', n', ts', o, t', rfl, hts', hzn', hP', hi', hm1, hm2, hm3, hm4⟩ F₁ N₁
      have hil : i < xs.length := by
        rcases Nat.lt_or_ge i xs.length with h | h
        · exact h
        · rw [List.getElem?_eq_none (by simpa using h)] at hv; cases hv
      have ev : v = (xs.getD i dEl).1 := by
        rw [List.getElem?_map, List.getElem?_eq_getElem hil] at hv
        rw [List.getD_eq_getElem?_getD, List.getElem?_eq_getElem hil]
        exact (Option.some.inj hv).symm
      subst ev
      have hmi : xs.getD i dEl ∈ xs := by
        rw [List.getD_eq_getElem?_getD, List.getElem?_eq_getElem hil]
        exact List.getElem_mem _
      have hz0 : zs'.getD 0 dEl ∈ zs' := by
        have := hP'.1
        rw [List.getD_eq_getElem?_getD, List.getElem?_eq_getElem (hP'.1.symm ▸ k0)]
        exact List.getElem_mem _
      obtain ⟨hzi0, hzk0, _⟩ := (hzn' _ hz0).inn hd
      replace F₁ := Fr.sees [(Str.ofString "elem", (xs.getD i dEl).1), (Str.ofString "result", Value.ref D), (Str.ofString "top", (inn xs (zs'.getD 0 dEl)).1), (Str.ofString "order", .int o t'), (Str.ofString "_heapreplace", .ref 42)] F₁ (seesx (seesn (by decide) hm1 (seesn (by decide) hm2 (seesn (by decide) hm3 (seesn (by decide) hm4 sees0)))))
      dsimp only
      walk_at "MW"
      refine lt_el (fl := true) (Room.un R' (by decide)) (ElOk.keeps (fl := true) (hokg _ hmi) fun b vs e => F₁.keep _ _ e) (ElOk.keeps (fl := true) (hokg _ hzi0) fun b vs e => F₁.keep _ _ e) ?_
      cases hlt : elt (xs.getD i dEl) (inn xs (zs'.getD 0 dEl)) with
      | false =>
        walk_at "MW"
        have hP2 := pinv_stay hd hil k0 (fun z hz => ((hzn' z hz).inn hd).2.1) hP' hlt
        exact hqb _ _ _ _ _ (.inl rfl) F₁ N₁ ⟨zs', n', ts', o, t', rfl, hts', hzn', hP2, hil, by rfl, by rfl, by rfl, by rfl⟩
      | true =>
        walk_at "MW"
        rename_i T h14 F14 N14 l14
        have hiz : inn xs (Value.ref T, (xs.getD i dEl).2.1, (xs.getD i dEl).2.2.1, o) = xs.getD i dEl := inn_eq hd hmi (by
          obtain ⟨_, _, _, _, _, e3⟩ := hokg _ hmi
          show (xs.getD i dEl).2 = ((xs.getD i dEl).2.1, (xs.getD i dEl).2.2.1, 0)
          rw [← e3])
        obtain ⟨hP2, hin2⟩ := pinv_in (z' := (Value.ref T, (xs.getD i dEl).2.1, (xs.getD i dEl).2.2.1, o)) hd hil k0 (fun z hz => ((hzn' z hz).inn hd).2.1) hP' hiz hlt
        have hzn2 : ∀ z ∈ su egt dEl 0 (zs'.set 0 (Value.ref T, (xs.getD i dEl).2.1, (xs.getD i dEl).2.2.1, o)), NE xs ((T, tup [(xs.getD i dEl).1, .int o t']) :: ts') z := fun z hz => by
          rcases hin2 z hz with h | h
          · subst h
            refine ⟨T, t', xs.getD i dEl, hmi, ?_, rfl, .head _⟩
            obtain ⟨_, _, _, _, _, e3⟩ := hokg _ hmi
            show (xs.getD i dEl).2 = ((xs.getD i dEl).2.1, (xs.getD i dEl).2.2.1, 0)
            rw [← e3]
          · exact (hzn' z h).sub fun q hq => .tail _ hq
        have hx14 : ∀ e ∈ xs, ElF h14 e := fun e he => ElOk.keeps (fl := true) (hokg e he) fun b vs e => F14.keep _ _ e
        have hts2 : ∀ q ∈ (T, tup [(xs.getD i dEl).1, .int o t']) :: ts', @LT.lt Nat _ D q.1 := allc l14.2.1 hts'
        have N14' : News g L' h14 ((D, lst zs' n') :: (it, liObj fa (i + 1)) :: (T, tup [(xs.getD i dEl).1, .int o t']) :: ts') := nsubs N14 (by walk_at "NS")
        have hall : ∀ q ∈ (T, tup [(xs.getD i dEl).1, .int o t']) :: ts', h14.get? q.1 = some q.2 := fun q hq => (N14' q (.tail _ (.tail _ hq))).1
        show wpAny _ _ (call (Value.ref 42) [Value.ref D, (Value.ref T, (xs.getD i dEl).2.1, (xs.getD i dEl).2.2.1, o).1]) _ _ _
        refine heapreplace_max_ok (fl := false) C' (R'.le (by decide)) F14 N14' ?_ (by rw [hP'.1]; first | exact k0 | exact b20 (Nat.le_refl k) k64) (by rw [hP'.1]; first | exact k0 | exact b20 (Nat.le_refl k) k64) (fun z hz => ne_el ((hzn' z hz).sub fun q hq => .tail _ hq) hall hx14) ?_ ?_
        · exact allc (ltne hitD) fun q hq => gtne (hts2 q hq)
        · exact ne_el (xs := xs) ⟨T, t', xs.getD i dEl, hmi, (by
            obtain ⟨_, _, _, _, _, e3⟩ := hokg _ hmi
            show (xs.getD i dEl).2 = ((xs.getD i dEl).2.1, (xs.getD i dEl).2.2.1, 0)
            rw [← e3]), rfl, .head _⟩ hall hx14
        intro h15 tk15 n15 F15 N15
        generalize su egt dEl 0 (zs'.set 0 (Value.ref T, (xs.getD i dEl).2.1, (xs.getD i dEl).2.2.1, o)) = zs2 at hP2 hin2 hzn2 N15
        clear hzn' hP' hm1 hm2 hm3 hm4 hz0 hzi0 hzk0 N14 N14' hall hx14 hin2 hiz hlt
        have hz0 : zs2.getD 0 dEl ∈ zs2 := by
          have := hP2.1
          rw [List.getD_eq_getElem?_getD, List.getElem?_eq_getElem (hP2.1.symm ▸ k0)]
          exact List.getElem_mem _
        obtain ⟨hzi0, hzk0, a2, v2, ea2, hma2⟩ := (hzn2 _ hz0).inn hd
        dsimp only
        walk_at "MW"
        refine sub_el (i := 0) N15 (.head _) rfl (hP2.1.symm ▸ k0) (by omega) ?_ (by with_unfolding_all rfl)
        rw [ea2]
        have na2 := N15 (a2, tup [(inn xs (zs2.getD 0 dEl)).1, .int (zs2.getD 0 dEl).2.2.2 v2]) (.tail _ (.tail _ hma2))
        k_dflt (refine' unpack_N F15 N15 na2.1 C'.hh (by rfl) (by rfl) ?_)
        intro h16 F16 N16
        refine assignInOrder_cons (wpAny_assign_Name ?_)
        walk_at "MW"
        rename Fr _ _ _ _ => F17
        rename News _ _ _ _ => N17
        exact hqb _ _ _ _ ((D, lst zs2 n15) :: (T, tup [(xs.getD i dEl).1, .int o t']) :: ts') (.inl rfl) F17 (nsubs N17 (by walk_at "NS")) ⟨zs2, n15, _, _, _, rfl, hts2, hzn2, hP2, hil, by rfl, by rfl, by rfl, by rfl⟩
    · rintro m₁ nx h tk ⟨zs', n', ts', o, t', rfl, hts', hzn', hP', hi', hm1, hm2, hm3, hm4⟩ F₁ N₁
      rw [List.length_map] at hP'
      obtain ⟨hdz, hfin⟩ := pinv_end hd (fun z hz => ((hzn' z hz).inn hd).2.1) hP'
      replace F₁ := Fr.sees [(Str.ofString "result", Value.ref D)] F₁ (seesc hm1 sees0)
      dsimp only
      (try clear N12); (try clear F12); (try clear N11); (try clear F11); (try clear N10); (try clear F10); (try clear Nr); (try clear F9)
      walk_at "MW"
      rename Fr _ _ _ _ => F17
      rename News _ _ _ _ => N17
      refine lsort_el (fl := false) (Room.un R' (by decide)) F17 N17 (fun q hq => gtne (hts' q hq)) (by rw [hP'.1]; exact k64) hdz (fun h' F' N' z hz => ne_el (hzn' z hz) (fun q hq => (N' q hq).1) fun e he => ElOk.keeps (fl := true) (hokg e he) fun b vs e => F'.keep _ _ e) ?_
      intro h18 c18 F18 N18
      have hsn : ∀ z ∈ srt zs', NE xs ts' z := fun z hz => hzn' z ((srt_perm zs').mem_iff.mp hz)
      have hsl : (srt zs').length = k := (srt_perm zs').length_eq.trans hP'.1
      generalize srt zs' = ys at hfin hsn hsl N18
      clear hzn' hP' hm1 hm2 hm3 hm4 hdz
      walk_at "MW"
      rename Fr _ _ _ _ => F19
      rename News _ _ _ _ => N19
      k_dflt (refine' comp_own (cl := []) F19 C' (by rfl) (by decide) (by rfl) (by decide) ?_ (by intro _; rfl))
      walk_at "MW"
      refine go_li (vs := ys.map Prod.fst) F19 N19 (N19 (D, lst ys c18) (.head _)).1 ?_
      intro I g2 C2 D2 h20 tk20 mean2 mg2 mb2 F20 N20 big2 lID lDC X2 T2
      have hD2 := big2 _ _ (N19 (D, lst ys c18) (.head _)).1
      k_dflt (refine' comp_it (its_li (w := w) (I := I) (vs := ys.map Prod.fst) (n := c18) C'.hh hD2) (SrtJ xs ys) F20 N20 lID ⟨by simp, rfl⟩ ?_ ?_ ?_ ?_ ?_)
      · rintro i out ts ⟨rfl, _⟩
        rw [List.length_map]
        exact Nat.lt_of_le_of_lt (Nat.le_trans (List.length_take_le' i ys) (Nat.le_of_eq hsl)) (Nat.lt_of_lt_of_le k64 (by decide))
      · rintro i out ts ⟨_, rfl⟩ q hq
        cases hq
      · intro i v Q' s' hP' hit hq
        rw [List.getElem?_map] at hP'
        cases hy : ys[i]? with
        | none => rw [hy] at hP'; cases hP'
        | some z =>
          rw [hy] at hP'
          obtain ⟨_, _, a, v', e1, _⟩ := (hsn z (List.mem_of_getElem? hy)).inn hd
          have : v = .ref a := by rw [← e1]; exact (Option.some.inj hP').symm
          subst this
          exact wpAny_letOwnedTupleGo_listiter (li_at (a := D) (i + 1) hit) hq
      · rintro i m₁ out ts c h tk v Qt hqt hi hP' ⟨rfl, rfl⟩ F₁ N₁
        rw [List.getElem?_map] at hP'
        cases hy : ys[i]? with
        | none => rw [hy] at hP'; cases hP'
        | some z =>
          rw [hy] at hP'
          obtain ⟨_, _, a, v', e1, hma⟩ := (hsn z (List.mem_of_getElem? hy)).inn hd
          have : v = .ref a := by rw [← e1]; exact (Option.some.inj hP').symm
          subst this
          have ht2 := F₁.keep _ _ (big2 _ _ (N19 (a, tup [(inn xs z).1, .int z.2.2.2 v']) (.tail _ hma)).1)
          k_dflt (refine' unpack_N F₁ N₁ ht2 C'.hh (by rfl) (by rfl) ?_)
          intro h21 F21 N21
          refine assignInOrder_cons (wpAny_assign_Name (cst F21 N21 (fun h5 F5 N5 => ?_) rfl rfl))
          refine assignInOrder_cons (wpAny_assign_Name (cst F5 N5 (fun h6 F6 N6 => ?_) rfl rfl))
          refine assignInOrder_nil (wpAny_tests_nil ?_)
          simp only [if_true]
          refine cld F6 (v := (inn xs z).1) rfl ?_ rfl rfl
          refine hqt _ _ _ _ [] F6 N6 ⟨?_, rfl⟩
          have hlt : i < ys.length := (List.getElem?_eq_some_iff.mp hy).1
          rw [take_succ' hlt, List.map_append]
          have : ys.getD i dEl = z := by rw [List.getD_eq_getElem?_getD, hy]; rfl
          rw [this]
          rfl
      · rintro m₁ out ts c h tk ⟨rfl, rfl⟩ F₁ N₁
        refine ⟨_, _, c, [], F₁, N₁, ?_⟩
        intro h' F' N'
        have e : ((ys.take (List.map Prod.fst ys).length).map (fun z => (inn xs z).1)) = ((srt xs).take k).map Prod.fst := by
          rw [← hfin, List.length_map, List.take_length, List.map_map]; rfl
        rw [e] at N'
        exact hqo _ _ (back_new big N F' N' fun Fb Nb ho => hQ _ _ _ _ Fb Nb ho)
end

theorem at_P17_Nsm : True := by
  w_top off
  trivial
theorem minE_min : ∀ (ys : List El) (b : El), (∀ y ∈ ys, elt y (minE b ys) = false) ∧ elt b (minE b ys) = false
  | [], b => ⟨(fun _ h => nomatch h), klt_irrefl _⟩
  | y :: ys, b => by
    unfold minE
    cases h : elt y b with
    | true =>
      rw [if_pos rfl]
      obtain ⟨h1, h2⟩ := minE_min ys y
      refine ⟨fun z hz => ?_, ?_⟩
      · rcases List.mem_cons.mp hz with rfl | hz
        · exact h2
        · exact h1 z hz
      · exact elt_wo.tr (elt_wo.asym _ _ h) h2
    | false =>
      rw [if_neg Bool.false_ne_true]
      obtain ⟨h1, h2⟩ := minE_min ys b
      refine ⟨fun z hz => ?_, h2⟩
      rcases List.mem_cons.mp hz with rfl | hz
      · exact elt_wo.tr h h2
      · exact h1 z hz
theorem min_take {xs : List El} {e : El} (hd : KD xs) (he : e ∈ xs) (hmin : ∀ y ∈ xs, elt y e = false) : (srt xs).take 1 = [e] := by
  obtain ⟨a, b, rfl⟩ := List.append_of_mem he
  have p : ([e] ++ (a ++ b)).Perm (a ++ e :: b) := (List.perm_middle (a := e) (l₁ := a) (l₂ := b)).symm
  have hd' := kd_perm hd p
  obtain ⟨_, _, h3⟩ := kd_app hd'
  have S : Sel (a ++ e :: b) [e] := ⟨a ++ b, p, fun x hx y hy => by
    rw [List.mem_singleton.mp hx]
    refine elt_of (hmin y ?_) (h3 e (.head _) y hy)
    rcases List.mem_append.mp hy with h | h
    · exact List.mem_append_left _ h
    · exact List.mem_append_right _ (.tail _ h)⟩
  have := sel_srt hd S
  exact (List.perm_singleton.mp this.symm)
theorem minE_take {b : El} {ys : List El} (hd : KD (b :: ys)) : (srt (b :: ys)).take 1 = [minE b ys] := by
  refine min_take hd ?_ fun y hy => ?_
  · rcases minE_mem ys b with h | h
    · rw [h]; exact .head _
    · exact .tail _ h
  · rcases List.mem_cons.mp hy with rfl | hy
    · exact (minE_min ys y).2
    · exact (minE_min ys b).1 y hy
section
variable {w : World} {A : Around} {s : Shared} {h₀ : Heap} {L : Addr} {m : Str → Option Value} {env : Env} {rest : List (Addr × Obj)} {Q E : Value → Shared → Prop}
theorem nsm_ok {fa : Addr} {xs : List El} {n k : Nat} {t : Tok} {j : Int} (hj : j = (k : Int)) (C : Cx w A env h₀ L) (R : Room 8 A) (F : Fr h₀ L s.heap m) (N : News h₀ L s.heap rest)
    (hfa : s.heap.get? fa = some (lst xs n)) (hlen : xs.length < 64) (hok : ∀ e ∈ xs, ElF s.heap e) (hd : KD xs) (hk : 0 < k ∨ xs = []) (hkb : k < 2 ^ 20)
    (hQ : ∀ h' tk' n' r, Fr h₀ L h' m → News h₀ L h' ((r, lst ((srt xs).take k) n') :: rest) → (∀ q ∈ rest, q.1 ≠ r) → Q (.ref r) { s with heap := h', toks := tk' }) :
    wpAny (model PySem.Challenge.rw_ik0004_01.row.prog w) A (call (.ref 83) [.int j t, .ref fa]) Q E s := by
  subst hj
  by_cases h1 : k = 1
  · subst h1
    refine nsm_one C R F N hfa hlen hok fun h' tk' n' r Fb Nb ho => hQ h' tk' n' r Fb ?_ ho
    cases xs with
    | nil => exact Nb
    | cons b ys => rw [minE_take hd]; exact Nb
  · rcases Nat.lt_or_ge k xs.length with h2 | h2
    · have h3 : 2 ≤ k := by
        rcases hk with h | h
        · omega
        · subst h; simp at h2
      exact nsm_heap C R F N hfa hlen hok hd h3 h2 hQ
    · refine nsm_all C R F N hfa hlen hok hd h1 h2 hkb fun h' tk' n' r Fb Nb ho => hQ h' tk' n' r Fb ?_ ho
      rw [List.take_of_length_le (by rw [(srt_perm xs).length_eq]; exact h2)]
      exact Nb
end

theorem at_P18_Loops : True := by
  w_top off
  trivial
section
variable {w : World} {A : Around} {s : Shared} {g₀ : Heap} {L : Addr} {env : Env} {Q : Flow → Shared → Prop}
/-- while: any invariant -/
theorem while_any {test : Expr} {body : List Stmt} {pos : Pos} {n₀ : Nat} (I : Nat → Heap → Nat → Prop) (hI : I n₀ s.heap s.toks)
    (turn : ∀ n h tk (Qb : Flow → Shared → Prop), (∀ f n' h' tk', f = .next ∨ f = .cont → n' < n → I n' h' tk' → Qb f { s with heap := h', toks := tk' }) → I n h tk → wpAny (model PySem.Challenge.rw_ik0004_01.row.prog w) A (isTrue test env (eval test env)) (fun b s₂ =>
      if b = true then wpAny (model PySem.Challenge.rw_ik0004_01.row.prog w) A (execs body env) Qb NoE s₂
      else Q .next s₂) NoE { s with heap := h, toks := tk }) :
    wpAny (model PySem.Challenge.rw_ik0004_01.row.prog w) A (exec (.While test body [] pos) env) Q NoE s := by
  refine wpAny_While (codeAny_whileLoop (R := fun r s' => match r with | .ok f => Q f s' | .error e => cameBackBy (model PySem.Challenge.rw_ik0004_01.row.prog w) A env NoE e s') (fun n s' => ∃ h tk, s' = { s with heap := h, toks := tk } ∧ I n h tk) (fun n s' hI => ?_) n₀ ⟨s.heap, s.toks, rfl, hI⟩)
  obtain ⟨h, tk, rfl, hI⟩ := hI
  refine wpAny_mono (turn n h tk (fun f s₃ => (f = .next ∨ f = .cont) ∧ ∃ n' h' tk', n' < n ∧ s₃ = { s with heap := h', toks := tk' } ∧ I n' h' tk') (fun _ n' h' tk' a b c => ⟨a, n', h', tk', b, rfl, c⟩) hI) (fun b s₂ h₂ => ?_) fun _ _ e => e.elim
  cases b with
  | false =>
    simp only [Bool.false_eq_true, if_false] at h₂ ⊢
    exact wpAny_execs_nil h₂
  | true =>
    simp only [if_true] at h₂ ⊢
    refine wpAny_mono h₂ (fun f s₃ h₃ => ?_) fun _ _ e => e.elim
    obtain ⟨hf, n', h', tk', hn, rfl, hI'⟩ := h₃
    rcases hf with rfl | rfl
    · exact ⟨n', hn, h', tk', rfl, hI'⟩
    · exact ⟨n', hn, h', tk', rfl, hI'⟩

section
variable (w : World) (A : Around) (g₀ : Heap) (env : Env) (L : Addr) (s : Shared) (I : Addr) (k : Nat) (J : Nat → Heap → (Str → Option Value) → List (Addr × Obj) → Prop)
/-- the state of a loop over a range -/
inductive RiInv (n : Nat) (s' : Shared) : Prop
  | mk (i : Nat) (g h : Heap) (tk : Nat) (m₁ : Str → Option Value) (nx : List (Addr × Obj)) (e : n = k - i) (hi : i ≤ k) (es : s' = { s with heap := h, toks := tk }) (T : Turned A g₀ g) (C : Cx w A env g L) (F : Fr g L h m₁)
    (N : News g L h ((I, riObj (i : Nat) ((k : Int) - (i : Nat)) 1) :: nx)) (ho : ∀ q ∈ nx, q.1 ≠ I) (hJ : J i g m₁ nx)
/-- what one turn of it leaves -/
inductive RiTurn (i : Nat) (fl : Flow) (s' : Shared) : Prop
  | mk (g' h' : Heap) (tk' : Nat) (m' : Str → Option Value) (nx' : List (Addr × Obj)) (hf : fl = .next ∨ fl = .cont) (es : s' = { s with heap := h', toks := tk' }) (T : Turned A g₀ g') (C : Cx w A env g' L) (F : Fr g' L h' m')
    (N : News g' L h' ((I, riObj ((i + 1 : Nat) : Int) ((k : Int) - ((i + 1 : Nat) : Int)) 1) :: nx')) (ho : ∀ q ∈ nx', q.1 ≠ I) (hJ : J (i + 1) g' m' nx')
end
/-- for x in range(k), the base may be turned -/
theorem for_riT {x : Str} {px : Pos} {body : List Stmt} {m : Str → Option Value} {nx₀ : List (Addr × Obj)} {k : Nat} {r : Addr} {t u v : Tok} (J : Nat → Heap → (Str → Option Value) → List (Addr × Obj) → Prop)
    (hel : env.locals = L) (hx : env.kindOf x = some .local) (hp : (env.scope.kind == .class || (env.scope.kind == .module && env.locals != env.globals)) = false) (hk : k < 2 ^ 20)
    (C : Cx w A env g₀ L) (F : Fr g₀ L s.heap m) (N : News g₀ L s.heap nx₀) (hr : s.heap.get? r = some (rangeObj 0 k 1 t u v)) (hj : J 0 g₀ m nx₀)
    (turn : ∀ I i g m₁ nx h tk t (Qb : Flow → Shared → Prop), (∀ fl g' h' tk' m' nx', fl = .next ∨ fl = .cont → Turned A g₀ g' → Cx w A env g' L → Fr g' L h' m' → News g' L h' ((I, riObj ((i + 1 : Nat) : Int) ((k : Int) - ((i + 1 : Nat) : Int)) 1) :: nx') → (∀ q ∈ nx', q.1 ≠ I) → J (i + 1) g' m' nx' → Qb fl { s with heap := h', toks := tk' }) →
      i < k → Turned A g₀ g → Cx w A env g L → J i g m₁ nx → (∀ q ∈ nx₀, @LT.lt Nat _ q.1 I) → (∀ q ∈ nx, q.1 ≠ I) → Fr g L h (fun z => if z = x then some (.int (i : Nat) t) else m₁ z) → News g L h ((I, riObj ((i + 1 : Nat) : Int) ((k : Int) - ((i + 1 : Nat) : Int)) 1) :: nx) →
      wpAny (model PySem.Challenge.rw_ik0004_01.row.prog w) A (execs body env) Qb NoE { s with heap := h, toks := tk })
    (done : ∀ g m₁ nx h tk, Turned A g₀ g → Cx w A env g L → J k g m₁ nx → Fr g L h m₁ → News g L h nx → Q .next { s with heap := h, toks := tk }) :
    wpAny (model PySem.Challenge.rw_ik0004_01.row.prog w) A (pyIter (.ref r)) (fun it s₂ => codeAny (model PySem.Challenge.rw_ik0004_01.row.prog w) A (.forLoop (.Name x px) it body [] env) (fun r s' => match r with | .ok f => Q f s' | .error e => cameBackBy (model PySem.Challenge.rw_ik0004_01.row.prog w) A env NoE e s') s₂) NoE s := by
  subst hel
  have hrs : Builtin.Range.rangeSize 0 (k : Int) 1 = (k : Int) := by
    unfold Builtin.Range.rangeSize
    rw [if_pos (by decide)]
    by_cases h0 : (0 : Int) < k
    · rw [if_pos h0]; omega
    · rw [if_neg h0]; omega
  refine wpAny_pyIter_range hr (small_one (by decide) (by decide) (by omega) (by omega)) ?_
  rw [hrs]
  have F0 := F.push (riObj 0 k 1)
  have N0 := News.push F N (riObj 0 k 1)
  have hoff0 : ∀ q ∈ nx₀, @LT.lt Nat _ q.1 s.heap.objs.size := fun q hq => Heap.lt_size (N q hq).1
  generalize s.heap.objs.size = I at F0 N0 hoff0 ⊢
  refine codeAny_forLoop
    (RiInv w A g₀ env env.locals s I k J) (fun n s' hI => ?_) k ⟨0, g₀, _, s.toks, m, nx₀, by omega, Nat.zero_le _, rfl, C.refl, C, F0, ?_, fun q hq => Nat.ne_of_lt (hoff0 q hq), hj⟩ (by intro _; rfl)
  · obtain ⟨i, g, h, tk, m₁, nx, rfl, hi, rfl, T₁, C₁, F₁, N₁, ho, hJ⟩ := hI
    have nI := N₁ (I, riObj (i : Nat) ((k : Int) - (i : Nat)) 1) (.head _)
    have W : Its w A g I (fun i => riObj (i : Nat) ((k : Int) - (i : Nat)) 1) k (fun i v => ∃ t, v = .int (i : Nat) t) := its_ri C₁.hh
    rcases Nat.lt_or_ge i k with hlt | hge
    · refine wpAny_mono (W.item i _ (fun r s₁ => match r with | none => False | some v => ∃ h' tk' t, v = .int (i : Nat) t ∧ h'.get? I = some (riObj ((i + 1 : Nat) : Int) ((k : Int) - ((i + 1 : Nat) : Int)) 1) ∧ Heap.SameBut I h h' ∧ s₁ = { s with heap := h', toks := tk' }) hlt nI.1 (fun b o e => F₁.keep _ _ e) fun v h' tk' hP hit hs => ?_) (fun r s₁ hr => ?_) fun _ _ e => e.elim
      · obtain ⟨t, rfl⟩ := hP
        exact ⟨h', tk', t, rfl, hit, hs, rfl⟩
      · cases r with
        | none => exact hr.elim
        | some v =>
          obtain ⟨h', tk', t, rfl, hit, hs, rfl⟩ := hr
          have F2 : Fr g env.locals h' m₁ := F₁.change hs nI.2.1 nI.2.2
          have N2 : News g env.locals h' ((I, riObj ((i + 1 : Nat) : Int) ((k : Int) - ((i + 1 : Nat) : Int)) 1) :: nx) := fun q hq => by
            rcases List.mem_cons.mp hq with rfl | hq
            · exact ⟨hit, nI.2⟩
            · have z := N₁ q (.tail _ hq)
              exact ⟨(hs.2 _ (ho q hq)).trans z.1, z.2⟩
          refine wpAny_assign_Name (wpAny_storeName_local hx F2.ns (fun h3 hn3 hs3 => ?_) hp)
          refine wpAny_mono (turn I i g m₁ nx h3 _ t (RiTurn w A g₀ env env.locals s I k J i) (fun _ g' h' tk' m' nx' a b c d e f z => ⟨g', h', tk', m', nx', a, rfl, b, c, d, e, f, z⟩) hlt T₁ C₁ hJ hoff0 ho (F2.set hn3 hs3) (N2.set hs3)) (fun fl s' hq => ?_) fun _ _ e => e.elim
          obtain ⟨g', h', tk', m', nx', hf, rfl, T', C', F', N', ho', hJ'⟩ := hq
          have fin : ∃ n', n' < k - i ∧ RiInv w A g₀ env env.locals s I k J n' { s with heap := h', toks := tk' } :=
            ⟨k - (i + 1), by omega, i + 1, g', h', tk', m', nx', rfl, hlt, rfl, T', C', F', N', ho', hJ'⟩
          rcases hf with rfl | rfl <;> exact fin
    · obtain rfl : i = k := by omega
      refine wpAny_mono (W.done _ (fun r s₁ => match r with | none => ∃ h', (∀ b o, b ≠ I → h.get? b = some o → h'.get? b = some o) ∧ s₁ = { s with heap := h', toks := tk } | some _ => False) nI.1 (fun b o e => F₁.keep _ _ e) fun h' keep => ⟨h', keep, rfl⟩) (fun r s₁ hr => ?_) fun _ _ e => e.elim
      cases r with
      | some v => exact hr.elim
      | none =>
        obtain ⟨h', keep, rfl⟩ := hr
        refine wpAny_execs_nil (done g m₁ nx h' tk T₁ C₁ hJ ?_ fun q hq => ?_)
        · obtain ⟨oL, a1, a2, hL, a3⟩ := F₁.ns
          exact ⟨⟨oL, a1, a2, keep _ _ (fun e => nI.2.1 e.symm) hL, a3⟩, fun b o e => keep b o (fun q => by rw [q, nI.2.2] at e; cases e) (F₁.keep b o e), F₁.above⟩
        · have z := N₁ q (.tail _ hq)
          exact ⟨keep _ _ (ho q hq) z.1, z.2⟩
  · have e : riObj ((0 : Nat) : Int) ((k : Int) - ((0 : Nat) : Int)) 1 = riObj 0 k 1 := by simp
    rw [e]; exact N0
end

theorem at_P18b_FewLaw : True := by
  w_top off
  trivial
def few (xs ks : List El) (c : Nat) : List El := ((srt xs).filter (keepEl ks)).take c
theorem srt_filter (p : El → Bool) {xs : List El} (hd : KD xs) : srt (xs.filter p) = (srt xs).filter p := by
  refine (srt_eq ?_ ?_ ?_).symm
  · exact List.Pairwise.filter p (srt_up xs hd)
  · exact (srt_perm xs).filter p
  · unfold KD at *
    exact List.Nodup.sublist (List.Sublist.map Prod.snd List.filter_sublist) hd
theorem srt_pop {ys : List El} (hd : KD ys) (H : Hp elt dEl 0 ys) (hne : ys ≠ []) : srt ys = ys.getD 0 dEl :: srt (hpop elt dEl ys) := by
  obtain ⟨p, _⟩ := hpop_law elt_wo dEl ys H hne
  have hd' := kd_perm hd p
  have hd2 : KD (hpop elt dEl ys) := (kd_app (xs := [ys.getD 0 dEl]) (ys := hpop elt dEl ys) hd').2.1
  refine (srt_eq ?_ (((srt_perm _).cons _).trans p) hd).symm
  refine List.pairwise_cons.mpr ⟨fun b hb => ?_, srt_up _ hd2⟩
  have hb' := (srt_perm _).mem_iff.mp hb
  refine elt_of ?_ ((kd_app (xs := [ys.getD 0 dEl]) (ys := hpop elt dEl ys) hd').2.2 _ (.head _) b hb')
  exact hp_min elt_wo H b (p.mem_iff.mp (.tail _ hb'))
/-- the loop that takes the first few off a copy -/
def FewInv (xs ks : List El) (c : Nat) (ys taken : List El) : Prop := (∃ zs, (zs ++ ys).Perm xs) ∧ Hp elt dEl 0 ys ∧ taken ++ (srt ys).filter (keepEl ks) = (srt xs).filter (keepEl ks) ∧ taken.length ≤ c
theorem fewinv_start {xs ks : List El} {c : Nat} (H : Hp elt dEl 0 xs) : FewInv xs ks c xs [] := ⟨⟨[], by simp⟩, H, rfl, Nat.zero_le _⟩
theorem FewInv.kd {xs ks ys taken : List El} {c : Nat} (hd : KD xs) (I : FewInv xs ks c ys taken) : KD ys := by
  obtain ⟨⟨zs, p⟩, _⟩ := I
  exact (kd_app (kd_perm hd p)).2.1
theorem FewInv.mem {xs ks ys taken : List El} {c : Nat} (I : FewInv xs ks c ys taken) : (∀ y ∈ ys, y ∈ xs) ∧ (∀ y ∈ taken, y ∈ xs) ∧ ys.length ≤ xs.length := by
  obtain ⟨⟨zs, p⟩, _, h, _⟩ := I
  refine ⟨fun y hy => p.mem_iff.mp (List.mem_append_right _ hy), fun y hy => ?_, ?_⟩
  · have : y ∈ (srt xs).filter (keepEl ks) := by rw [← h]; exact List.mem_append_left _ hy
    exact (srt_perm xs).mem_iff.mp (List.mem_filter.mp this).1
  · have := p.length_eq
    simp at this; omega
theorem FewInv.step {xs ks ys taken : List El} {c : Nat} (hd : KD xs) (I : FewInv xs ks c ys taken) (hne : ys ≠ []) (hlt : taken.length < c) : FewInv xs ks c (hpop elt dEl ys) (taken ++ [ys.getD 0 dEl].filter (keepEl ks)) := by
  have hdy := I.kd hd
  obtain ⟨⟨zs, p⟩, H, h, hl⟩ := I
  obtain ⟨p2, H2⟩ := hpop_law elt_wo dEl ys H hne
  refine ⟨⟨zs ++ [ys.getD 0 dEl], ?_⟩, H2, ?_, ?_⟩
  · rw [List.append_assoc]
    exact (p2.append_left zs).trans p
  · rw [← h, srt_pop hdy H hne, List.append_assoc]
    congr 1
    rw [← List.filter_append]
    rfl
  · have : ([ys.getD 0 dEl].filter (keepEl ks)).length ≤ 1 := List.length_filter_le _ _
    rw [List.length_append]; omega
theorem FewInv.stop {xs ks ys taken : List El} {c : Nat} (I : FewInv xs ks c ys taken) (hs : ys = [] ∨ ¬ taken.length < c) : taken = few xs ks c := by
  obtain ⟨_, _, h, hl⟩ := I
  unfold few
  rcases hs with rfl | hs
  · have : (srt ([] : List El)).filter (keepEl ks) = [] := rfl
    rw [this, List.append_nil] at h
    rw [← h, List.take_of_length_le hl]
  · rw [← h, List.take_left' (by omega)]

def dat (e : El) : Dat := .tuple [.int e.2.1, .int e.2.2.1]
theorem ok_list {ds : List Dat} (h : ∀ d ∈ ds, kqdOk 8 d = true) : kqdOk 9 (.list ds) = true := by
  simpa [kqdOk] using h
theorem dat_ok (e : El) : kqdOk 8 (dat e) = true := by simp [dat, kqdOk]
theorem dat_reads {h : Heap} {e : El} (x : ElF h e) : ∃ as, Reads h e.1 (kqdP (dat e)) as := by
  obtain ⟨a, t, u, e1, e2, _⟩ := x
  rw [e1]
  exact ⟨[] ++ ([] ++ []), reads_tuple_at e2 rfl rfl (.cons (.int _ _) (.cons (.int _ _) .nil))⟩
theorem dat_readsAll {h : Heap} : ∀ {xs : List El}, (∀ e ∈ xs, ElF h e) → ∃ as, ReadsAll h (xs.map Prod.fst) (kqdPs (xs.map dat)) as
  | [], _ => ⟨_, .nil⟩
  | x :: xs, hx => by
    obtain ⟨as, a⟩ := dat_reads (hx x (.head _))
    obtain ⟨bs, b⟩ := dat_readsAll (xs := xs) fun e he => hx e (.tail _ he)
    exact ⟨_, .cons a b⟩
section
variable {prog : Program} {w : World} {A : Around} {E : Value → Shared → Prop} {s : Shared}
theorem eq_same {a b : Addr} {xs : List El} {n1 n2 : Nat} {Q : Value → Shared → Prop} (ha : s.heap.get? a = some (lst xs n1)) (hb : s.heap.get? b = some (lst xs n2)) (hok : ∀ e ∈ xs, ElF s.heap e) (hu : A.units + 64 < cLine) (h : Q (.bool true) s) :
    wpAny (model prog w) A (compareOp .Eq (.ref a) (.ref b)) Q E s := by
  obtain ⟨as, ra⟩ := dat_readsAll hok
  have hk : ∀ d ∈ xs.map dat, kqdOk 8 d = true := fun d hd => by
    obtain ⟨e, _, rfl⟩ := List.mem_map.mp hd
    exact dat_ok e
  have la := kqd_lay 9 (.list (xs.map dat)) (ok_list hk)
  rw [kqdP] at la
  have e : PyData.eqv (.list (kqdPs (xs.map dat))) (.list (kqdPs (xs.map dat))) = true := by
    have q := kqd_eqv 9 (.list (xs.map dat)) (.list (xs.map dat)) 9 (ok_list hk) (ok_list hk)
    rw [kqdP] at q
    exact q.mpr rfl
  have sh : SeqAt.shaped (.list (kqdPs (xs.map dat))) = true := by unfold SeqAt.shaped; rw [la.1, Bool.true_and]; exact decide_eq_true (Nat.le_trans la.2 (by decide))
  refine eq_dataH (reads_list_at ha rfl rfl (by simpa using ra)) (reads_list_at hb rfl rfl (by simpa using ra)) sh sh hu (by rw [e]; exact h)
end
section
variable {prog : Program} {w : World} {A : Around} {E : Value → Shared → Prop} {s : Shared} {h₀ : Heap} {L : Addr} {m : Str → Option Value} {nx : List (Addr × Obj)}
/-- list(xs) -/
theorem list_el {a : Addr} {xs : List El} {n : Nat} {Q : Value → Shared → Prop} (F : Fr h₀ L s.heap m) (N : News h₀ L s.heap nx) (ha : s.heap.get? a = some (lst xs n)) (hl : xs.length < 2 ^ 20)
    (h : ∀ D c h', Fr h₀ L h' m → News h₀ L h' ((D, lst xs c) :: nx) → (∀ q ∈ nx, q.1 < D) → Q (.ref D) { s with heap := h' }) : wpAny (model prog w) A (call (.type "list") [.ref a]) Q E s :=
  list_copyK F N ⟨_, ha, rfl, _, rfl⟩ h (by rw [List.size_toArray, List.length_map, sizeLine_eq]; omega)
end

theorem at_P18c_Iadd : True := by
  w_top off
  trivial
theorem seqi_list : seqSlot? (.type "list") (dunderI "add") = pure (some (.builtin "list.__iadd__")) := PySem.seqSlot_of PySem.F.slot_list_iadd.lookup (by decide +kernel)
section
variable {prog : Program} {w : World} {A : Around} {E : Value → Shared → Prop} {s : Shared} {h₀ : Heap} {L T r : Addr} {m : Str → Option Value} {post : List (Addr × Obj)} {vs ws : List Value} {n n2 : Nat}
theorem iadd_v {Q : Value → Shared → Prop} (F : Fr h₀ L s.heap m) (N : News h₀ L s.heap ((T, PySem.W.listOf vs.toArray n) :: post)) (hoff : ∀ q ∈ post, q.1 ≠ T) (hr : s.heap.get? r = some (PySem.W.listOf ws.toArray n2)) (hz : vs.length + ws.length < 2 ^ 20)
    (h : ∀ h' n', Fr h₀ L h' m → News h₀ L h' ((T, PySem.W.listOf (vs ++ ws).toArray n') :: post) → Q (.ref T) { s with heap := h' }) :
    wpAny (model prog w) A (inplaceOp .Add (.ref T) (.ref r)) Q E s := by
  have nT := N (T, PySem.W.listOf vs.toArray n) (.head _)
  have ha : s.TypeIs (.ref T) "list" := ⟨_, nT.1, rfl⟩
  have hb : s.TypeIs (.ref r) "list" := ⟨_, hr, rfl⟩
  unfold inplaceOp
  refine wpAny_holding ?_
  have hfi : fillsInplaceSlot (.type "list") "add" (Operator.Add == .Add) = pure false := by
    unfold fillsInplaceSlot
    show (typeLookup (.type "list") (dunderI "add") >>= fun fi => pure (fi.isSome && !isSeqSlot fi)) = pure false
    rw [PySem.F.slot_list_iadd.lookup]
    rw [pure_bind, show isSeqSlot (some (Value.builtin "list.__iadd__")) = true by decide +kernel]
    rfl
  refine wpAny_bind (wpAny_typeOf ha (wpAny_bind (wpAny_of_eq hfi ?_)))
  show wpAny _ A (if false = true then _ else _) Q E s
  rw [if_neg Bool.false_ne_true]
  refine wpAny_bind (wpAny_binaryOp1_none (nm := "add") ha hb noFill_list_add ?_)
  refine wpAny_bind (wpAny_of_eq seqi_list ?_)
  refine wpAny_bind (wpAny_rule ?_)
  have hz1 : vs.toArray.size ≤ sizeLine := by rw [List.size_toArray, sizeLine_eq]; omega
  have hz2 : vs.toArray.size + ws.toArray.size ≤ sizeLine + 1 := by rw [List.size_toArray, List.size_toArray, sizeLine_eq]; omega
  have hlong : ¬ (!vs.toArray.isEmpty && Builtin.List.listTooLong (vs.toArray.size + ws.toArray.size)) = true := by
    have : Builtin.List.listTooLong (vs.toArray.size + ws.toArray.size) = false := by
      unfold Builtin.List.listTooLong
      rw [List.size_toArray, List.size_toArray, sizeLine_eq]
      exact decide_eq_false (by omega)
    rw [this, Bool.and_false]
    exact Bool.false_ne_true
  refine call_meets PySem.F.slot_list_iadd ha PySem.F.entry_list_iadd (PySem.F.args_list_iadd_2 _ _) (PySem.AutoSeq1.list___iadd___list_list_0 T vs.toArray n r ws.toArray n2 hlong hz1 hz2) ⟨nT.1, hr, ?_⟩
  have hs : Heap.SameBut T s.heap (s.heap.update T (Obj.mapSeq fun x => x ++ ws.toArray)) := Heap.SameBut.update ..
  have q := PySem.IsL.update nT.1 (fun x => x ++ ws.toArray)
  have e : vs.toArray ++ ws.toArray = (vs ++ ws).toArray := by simp
  rw [e] at q
  have hN : News h₀ L (s.heap.update T (Obj.mapSeq fun x => x ++ ws.toArray)) ((T, PySem.W.listOf (vs ++ ws).toArray (if ((vs ++ ws).toArray.size == vs.toArray.size) = true then n else n + 1)) :: post) := ?_
  · exact h _ _ (F.change hs nT.2.1 nT.2.2) hN
  refine allc ?_ (fun p hp => ?_)
  · exact ⟨q, nT.2⟩
  · have z := N p (.tail _ hp)
    exact ⟨(hs.2 _ (hoff p hp)).trans z.1, z.2⟩
end

theorem at_P19_Few : True := by
  w_top off
  trivial
/-- the state of few's taking loop -/
inductive FewJ (P : Heap → Prop) (L' hp sk : Addr) (xs ks : List El) (c : Nat) (t : Tok) (S0 S T : Addr) (c0 : Nat) (nn : Nat) (h : Heap) (tk : Nat) : Prop
  | mk (g1 : Heap) (m1 : Str → Option Value) (ys taken : List El) (ny nt : Nat) (e : nn = ys.length) (h0 : P g1) (F : Fr g1 L' h m1) (N : News g1 L' h [(T, lst taken nt), (S, lst ys ny), (S0, lst xs c0)])
    (h1 : m1 (Str.ofString "heap") = some (.ref hp)) (h2 : m1 (Str.ofString "skip") = some (.ref sk)) (h3 : m1 (Str.ofString "count") = some (.int c t)) (h4 : m1 (Str.ofString "stood") = some (.ref S0)) (h5 : m1 (Str.ofString "spare") = some (.ref S))
    (h6 : m1 (Str.ofString "taken") = some (.ref T)) (h7 : FewInv xs ks c ys taken)
/-- what it leaves -/
inductive FewE (s : Shared) (P : Heap → Prop) (L' hp sk : Addr) (xs ks : List El) (c : Nat) (t : Tok) (S0 S T : Addr) (c0 : Nat) (f : Flow) (s' : Shared) : Prop
  | mk (g1 : Heap) (m1 : Str → Option Value) (h : Heap) (tk ny nt : Nat) (ys : List El) (e1 : f = .next) (e2 : s' = { s with heap := h, toks := tk }) (h0 : P g1) (F : Fr g1 L' h m1) (N : News g1 L' h [(T, lst (few xs ks c) nt), (S, lst ys ny), (S0, lst xs c0)])
    (h1 : m1 (Str.ofString "heap") = some (.ref hp)) (h2 : m1 (Str.ofString "skip") = some (.ref sk)) (h3 : m1 (Str.ofString "count") = some (.int c t)) (h4 : m1 (Str.ofString "stood") = some (.ref S0)) (h6 : m1 (Str.ofString "taken") = some (.ref T))
section
variable {w : World} {A : Around} {s : Shared} {h₀ : Heap} {L : Addr} {m : Str → Option Value} {env : Env} {rest : List (Addr × Obj)} {Q E : Value → Shared → Prop}

theorem tc_of {w : World} {A : Around} {env : Env} {g : Heap} {L : Addr} (C : Cx w A env g L) : ∃ P : Heap → Prop, (∀ g1, P g1 → Turned A g g1 ∧ Cx w A env g1 L) ∧ (∀ g1 g2, P g1 → Turned A g1 g2 → Cx w A env g2 L → P g2) ∧ P g :=
  ⟨fun g1 => Turned A g g1 ∧ Cx w A env g1 L, fun _ h => h, fun _ _ h a b => ⟨h.1.trans a, b⟩, C.refl, C⟩
theorem few_ok {hp sk : Addr} {xs ks : List El} {n n' c : Nat} {t : Tok} {j : Int} (hj : j = (c : Int)) (C : Cx w A env h₀ L) (R : Room 20 A) (F : Fr h₀ L s.heap m) (N : News h₀ L s.heap rest)
    (hhp : s.heap.get? hp = some (lst xs n)) (hsk : s.heap.get? sk = some (lst ks n')) (hlen : xs.length < 64) (hlen2 : ks.length < 64) (hok : ∀ e ∈ xs, ElF s.heap e) (hok2 : ∀ e ∈ ks, ElF s.heap e) (hd : KD xs) (hh : Hp elt dEl 0 xs) (hc : 0 < c) (hc2 : c < 64)
    (hQ : ∀ h₀' h' tk' n0 n1 n2 n3 r t1 t2 t3, Turned A h₀ h₀' → Cx w A env h₀' L → Fr h₀' L h' m → News h₀' L h' ((r, PySem.W.listOf [Value.ref t1, .ref t2, .ref t3].toArray n0) :: (t1, lst (few xs ks c) n1) :: (t2, lst (few xs ks c) n2) :: (t3, lst (few xs ks c) n3) :: rest) →
      (∀ q ∈ rest, q.1 ≠ r ∧ q.1 ≠ t1 ∧ q.1 ≠ t2 ∧ q.1 ≠ t3) → Q (.ref r) { s with heap := h', toks := tk' }) :
    wpAny (model PySem.Challenge.rw_ik0004_01.row.prog w) A (call (.ref 134) [.ref hp, .ref sk, .int j t]) Q NoE s := by
  subst hj
  refine wpAny_call ?_
  refine codeAny_mono (R := fun r s' => match r with | .ok (.ret v) => Q v s' | .ok _ => False | .error e => NoE e s') ?_ (fun r s' h => by rcases r with _ | ⟨⟩ <;> exact h)
  k_dflt (refine' callT (E := NoE) (W := []) (rest := rest) (args := ⟨[.ref hp, .ref sk, .int (c : Int) t], []⟩) (binds := [(Str.ofString "heap", .ref hp), (Str.ofString "skip", .ref sk), (Str.ofString "count", .int (c : Int) t)]) C R F N ?k6 ?k7 ?k9 ?kB ?kO ?kW ?_ ?c2 ?c3 ?c4 ?c5; (case k6 => k_is); (case k7 => k_is); (case k9 => exact BindsTo.of_eq rfl); (case kB => exact locs rfl);  (case c5 => decide); (case c2 => exact rfl); (case c3 => exact rfl); (case c4 => exact rfl))
  case kO => exact fun _ _ h => nomatch h
  case kW => intro q hq; cases hq
  intro g L' h₁ mean mg mb R' F' N' C' X' T' big tkk lt lv
  have hsg : g.get? sk = some (lst ks n') := big _ _ hsk (fun h => nomatch h)
  have hhg : g.get? hp = some (lst xs n) := big _ _ hhp (fun h => nomatch h)
  refine wpAny_mono (E := NoE) ?_ (fun _ _ x => x) (fun _ _ e => e.elim)
  obtain ⟨P, Pe, Pi, P0⟩ := tc_of C'
  refine gn fun Qo hqo => ?_
  have hokg : ∀ e ∈ xs, ElF g e := fun e he => ElOk.keeps (fl := true) (hok e he) tkk
  have hokg2 : ∀ e ∈ ks, ElF g e := fun e he => ElOk.keeps (fl := true) (hok2 e he) tkk
  walk_at "MW"
  refine list_el F' N' (F'.keep _ _ hhg) (by omega) ?_
  intro S0 c0 h2 F2 N2 l2
  (try k_lt l2)
  walk_at "MW"
  rename Fr _ _ _ _ => F3
  rename News _ _ _ _ => N3
  refine list_el F3 N3 (F3.keep _ _ hhg) (by omega) ?_
  intro S c1 h4 F4 N4 l4
  (try k_lt l4)
  walk_at "MW"
  rename_i T h5 l5 h6 F6 N6
  refine wpAny_mono (Q := FewE s P L' hp sk xs ks c t S0 S T c0) (E := NoE)
    (gn fun Qe hqe => while_any (n₀ := xs.length) (FewJ P L' hp sk xs ks c t S0 S T c0) ⟨g, _, xs, [], c1, 0, rfl, P0, F6, N6, by rfl, by rfl, by rfl, by rfl, by rfl, by rfl, fewinv_start hh⟩ ?_) (fun f s' hq => ?_) (fun _ _ e => e)
  · clear F6 N6
    (try clear F'); (try clear N'); (try clear F2); (try clear N2); (try clear F3); (try clear N3); (try clear F4); (try clear N4)
    rintro nn h tk Qw hqw ⟨g1, m1, ys, taken, ny, nt, rfl, P1, F1, N1, e1, e2, e3, e4, e5, e6, I1⟩
    have fin : (ys = [] ∨ ¬ taken.length < c) → ∀ tk', Qe .next { s with heap := h, toks := tk' } := fun hs tk' =>
      hqe _ _ ⟨g1, m1, h, tk', ny, nt, ys, rfl, rfl, P1, F1, by rw [← I1.stop hs]; exact N1, e1, e2, e3, e4, e6⟩
    replace F1 := Fr.sees [(Str.ofString "heap", .ref hp), (Str.ofString "skip", .ref sk), (Str.ofString "count", .int c t), (Str.ofString "stood", .ref S0), (Str.ofString "spare", .ref S), (Str.ofString "taken", .ref T)] F1 (seesc e1 (seesc e2 (seesc e3 (seesc e4 (seesc e5 (seesc e6 sees0))))))
    obtain ⟨hmy, hmt, hly⟩ := I1.mem
    have htl := I1.2.2.2
    obtain ⟨T1, C1⟩ := Pe _ P1
    have X1 := C1.X
    obtain ⟨mean1, mg1, mb1, Tp1⟩ := C1.T
    have k1 : ∀ b vs, g.get? b = some (tup vs) → g1.get? b = some (tup vs) := fun b vs e => C'.get T1 e (by intro es n q; cases q)
    have hok1 : ∀ e ∈ xs, ElF g1 e := fun e he => ElOk.keeps (fl := true) (hokg e he) k1
    have hok12 : ∀ e ∈ ks, ElF g1 e := fun e he => ElOk.keeps (fl := true) (hokg2 e he) k1
    have hsg1 : g1.get? sk = some (lst ks n') := C'.get T1 hsg (by intro es n q; cases q)
    walk_at "MW"
    refine truthy_el (xs := ys) (n := ny) N1 (.tail _ (.head _)) (by omega) fun tk' => ?_
    cases hys : ys with
    | nil =>
      subst hys
      have hem : (!([] : List El).isEmpty) = false := rfl
      rw [hem]
      dsimp only
      walk_at "MW"
      exact fin (.inl rfl) _
    | cons y0 yr =>
      rw [← hys]
      have hne : ys ≠ [] := by rw [hys]; simp
      have hem : (!ys.isEmpty) = true := by rw [hys]; rfl
      rw [hem]
      clear hys
      dsimp only
      walk_at "MW"
      rotate_left
      · rename_i hnl
        exact fin (.inr (by omega)) _
      rename_i hlt
      refine heappop_ok (fl := true) (n := ny) (rest := [(T, lst taken nt), (S0, lst xs c0)]) C1 (R'.le (by decide)) F1 (nsubs N1 (by walk_at "NS")) (allc (gtne (by omega)) (allc (ltne (by omega)) alln)) (by omega) hne (fun e he => ElOk.keeps (fl := true) (hok1 e (hmy e he)) fun b vs e => F1.keep _ _ e) ?_
      intro h6 tk6 n6 F6 N6
      dsimp only
      walk_at "MW"
      rename_i D1 h7 F7 N7 l7
      have hy0 : ys.getD 0 dEl ∈ ys := by
        have : 0 < ys.length := List.length_pos_iff.mpr hne
        rw [List.getD_eq_getElem?_getD, List.getElem?_eq_getElem this]
        exact List.getElem_mem _
      refine filter_ok (fa := D1) (sa := sk) (xs := [ys.getD 0 dEl]) (n := 0) (ks := ks) (k := n') C1 (R'.le (by decide)) F7 N7 (N7 _ (.head _)).1 (F7.keep _ _ hsg1) (by simp) (by omega) (fun e he => by
        rw [List.mem_singleton.mp he]
        exact ElOk.keeps (fl := true) (hok1 _ (hmy _ hy0)) fun b vs e => F7.keep _ _ e) (fun e he => ElOk.keeps (fl := true) (hok12 e he) fun b vs e => F7.keep _ _ e) ?_
      intro g2 h8 tk8 n8 r8 T2 C2 F8 N8 off8
      have X2 := C2.X
      obtain ⟨mean2, mg2, mb2, Tp2⟩ := C2.T
      dsimp only
      walk_at "MWA"
      refine iadd_v (vs := taken.map Prod.fst) (n := nt) (post := [(S, lst (hpop elt dEl ys) n6), (S0, lst xs c0)]) F8 (nsubs N8 (by walk_at "NS")) (allc (ltne (by omega)) (allc (ltne (by omega)) alln)) (N8 (r8, _) (.head _)).1 (by
          have := List.length_filter_le (keepEl ks) [ys.getD 0 dEl]
          simp at this ⊢
          omega) ?_
      intro h9 nt9 F9 N9
      rw [← List.map_append] at N9
      walk_at "MW"
      rename_i h10 F10 N10
      have hpl : (hpop elt dEl ys).length + 1 = ys.length := (hpop_law elt_wo dEl ys I1.2.1 hne).1.length_eq
      exact hqw _ (hpop elt dEl ys).length _ _ (.inl rfl) (by omega) ⟨g2, _, hpop elt dEl ys, taken ++ [ys.getD 0 dEl].filter (keepEl ks), n6, nt9, rfl, Pi _ _ P1 T2 C2, F10, (nsubs N10 (by walk_at "NS")), by rfl, by rfl, by rfl, by rfl, by rfl, by rfl, I1.step hd hne (by omega)⟩
  · (try clear F'); (try clear N'); (try clear F2); (try clear N2); (try clear F3); (try clear N3); (try clear F4); (try clear N4); (try clear F6); (try clear N6)
    obtain ⟨g1, m1, h, tk, ny, nt, ys, rfl, rfl, P1, F1, N1, e1, e2, e3, e4, e6⟩ := hq
    obtain ⟨T1, C1⟩ := Pe _ P1
    have X1 := C1.X
    obtain ⟨mean1, mg1, mb1, Tp1⟩ := C1.T
    have k1 : ∀ b vs, g.get? b = some (tup vs) → g1.get? b = some (tup vs) := fun b vs e => C'.get T1 e (by intro es n q; cases q)
    have hok1 : ∀ e ∈ xs, ElF g1 e := fun e he => ElOk.keeps (fl := true) (hokg e he) k1
    have hok12 : ∀ e ∈ ks, ElF g1 e := fun e he => ElOk.keeps (fl := true) (hokg2 e he) k1
    have hsg1 : g1.get? sk = some (lst ks n') := C'.get T1 hsg (by intro es n q; cases q)
    have hhg1 : g1.get? hp = some (lst xs n) := C'.get T1 hhg (by intro es n q; cases q)
    replace F1 := Fr.sees [(Str.ofString "heap", .ref hp), (Str.ofString "skip", .ref sk), (Str.ofString "count", .int c t), (Str.ofString "stood", .ref S0), (Str.ofString "taken", .ref T)] F1 (seesc e1 (seesc e2 (seesc e3 (seesc e4 (seesc e6 sees0)))))
    dsimp only
    walk_at "MW"
    refine filter_ok (fa := hp) (sa := sk) (xs := xs) (n := n) (ks := ks) (k := n') C1 (R'.le (by decide)) F1 N1 (F1.keep _ _ hhg1) (F1.keep _ _ hsg1) (by omega) (by omega) (fun e he => ElOk.keeps (fl := true) (hok1 e he) fun b vs e => F1.keep _ _ e) (fun e he => ElOk.keeps (fl := true) (hok12 e he) fun b vs e => F1.keep _ _ e) ?_
    intro g2 h2 tk2 n2 r2 T2 C2 F2 N2 off2
    have X2 := C2.X
    obtain ⟨mean2, mg2, mb2, Tp2⟩ := C2.T
    have P2 := Pi _ _ P1 T2 C2
    have k2 : ∀ b vs, g1.get? b = some (tup vs) → g2.get? b = some (tup vs) := fun b vs e => C1.get T2 e (by intro es n q; cases q)
    have hok2' : ∀ e ∈ xs, ElF g2 e := fun e he => ElOk.keeps (fl := true) (hok1 e he) k2
    have hok22 : ∀ e ∈ ks, ElF g2 e := fun e he => ElOk.keeps (fl := true) (hok12 e he) k2
    have hsg2 : g2.get? sk = some (lst ks n') := C1.get T2 hsg1 (by intro es n q; cases q)
    have hhg2 : g2.get? hp = some (lst xs n) := C1.get T2 hhg1 (by intro es n q; cases q)
    dsimp only
    walk_at "MW"
    have hkf : KD (xs.filter (keepEl ks)) := by
      unfold KD at *
      exact List.Nodup.sublist (List.Sublist.map Prod.snd List.filter_sublist) hd
    refine nsm_ok (fa := r2) (xs := xs.filter (keepEl ks)) (k := c) rfl C2 (R'.le (by decide)) F2 N2 (N2 _ (.head _)).1 (by have := List.length_filter_le (keepEl ks) xs; omega) (fun e he => ElOk.keeps (fl := true) (hok2' e (List.mem_filter.mp he).1) fun b vs e => F2.keep _ _ e) hkf (.inl hc) (by omega) ?_
    intro h3 tk3 n3 t1 F3 N3 off3
    have e1' : (srt (xs.filter (keepEl ks))).take c = few xs ks c := by rw [srt_filter _ hd]; rfl
    rw [e1'] at N3
    dsimp only
    walk_at "MWN"
    refine len_b (F3.keep _ _ hhg2) (by omega) ?_
    intro t4 tk4
    walk_at "MW"
    refine nsm_ok (fa := hp) (xs := xs) (k := xs.length) rfl C2 (R'.le (by decide)) F3 N3 (F3.keep _ _ hhg2) hlen (fun e he => ElOk.keeps (fl := true) (hok2' e he) fun b vs e => F3.keep _ _ e) hd (by cases xs with
      | nil => exact .inr rfl
      | cons a b => exact .inl (by simp)) (by omega) ?_
    intro h5 tk5 n5 r5 F5 N5 off5
    rw [List.take_of_length_le (Nat.le_of_eq (srt_perm xs).length_eq)] at N5
    dsimp only
    walk_at "MW"
    have hsx : ∀ e ∈ srt xs, e ∈ xs := fun e he => (srt_perm xs).mem_iff.mp he
    refine filter_ok (fa := r5) (sa := sk) (xs := srt xs) (n := n5) (ks := ks) (k := n') C2 (R'.le (by decide)) F5 N5 (N5 _ (.head _)).1 (F5.keep _ _ hsg2) (by rw [(srt_perm xs).length_eq]; omega) (by omega) (fun e he => ElOk.keeps (fl := true) (hok2' e (hsx e he)) fun b vs e => F5.keep _ _ e) (fun e he => ElOk.keeps (fl := true) (hok22 e he) fun b vs e => F5.keep _ _ e) ?_
    intro g6 h6 tk6 n6 r6 T6 C6 F6 N6 off6
    have X6 := C6.X
    obtain ⟨mean6, mg6, mb6, Tp6⟩ := C6.T
    have P6 := Pi _ _ P2 T6 C6
    have k6 : ∀ b vs, g2.get? b = some (tup vs) → g6.get? b = some (tup vs) := fun b vs e => C2.get T6 e (by intro es n q; cases q)
    have hok6 : ∀ e ∈ xs, ElF g6 e := fun e he => ElOk.keeps (fl := true) (hok2' e he) k6
    have hhg6 : g6.get? hp = some (lst xs n) := C2.get T6 hhg2 (by intro es n q; cases q)
    dsimp only
    walk_at "MW"
    refine slice_upto (D := r6) (xs := (srt xs).filter (keepEl ks)) (n := n6) F6 N6 (N6 _ (.head _)).1 (by
      have := List.length_filter_le (keepEl ks) (srt xs)
      rw [(srt_perm xs).length_eq] at this
      omega) ?_
    intro t3 h7 F7 N7 l7
    have e7 : ((srt xs).filter (keepEl ks)).take c = few xs ks c := rfl
    rw [e7] at N7
    (try k_lt l7)
    try dsimp only
    walk_at "MW"
    rename Fr _ _ _ _ => F8
    rename News _ _ _ _ => N8
    refine eq_same (xs := xs) (n1 := n) (n2 := c0) (F8.keep _ _ hhg6) (N8 (S0, lst xs c0) (by walk_at "MEM")).1 (fun e he => ElOk.keeps (fl := true) (hok6 e he) fun b vs e => F8.keep _ _ e) (Room.un R' (by decide)) ?_
    walk_at "MW"
    rename_i lk hk7 hk8 hk9
    have N9 : News g6 L' _ [(lk, PySem.W.listOf [Value.ref t1, .ref T, .ref t3].toArray 0), (t1, lst (few xs ks c) n3), (T, lst (few xs ks c) nt), (t3, lst (few xs ks c) 0)] := nsubs N8 (by walk_at "NS")
    refine hqo _ _ ⟨g6, _, [(lk, PySem.W.listOf [Value.ref t1, .ref T, .ref t3].toArray 0), (t1, lst (few xs ks c) n3), (T, lst (few xs ks c) nt), (t3, lst (few xs ks c) 0)], (Pe _ P6).1, F8, N9, fun h₀' Tz Cz Fz Nz => ?_⟩
    refine hQ h₀' _ _ 0 n3 nt 0 lk t1 T t3 Tz Cz Fz Nz fun q hq => ?_
    have eq1 := big _ _ (N q hq).1 (fun h => nomatch h)
    obtain ⟨_, _, _, T7⟩ := (Pe _ P6).1
    obtain ⟨sl, eq2⟩ := T7.up eq1
    have ne : ∀ p ∈ [(lk, PySem.W.listOf [Value.ref t1, .ref T, .ref t3].toArray 0), (t1, lst (few xs ks c) n3), (T, lst (few xs ks c) nt), (t3, lst (few xs ks c) 0)], q.1 ≠ p.1 := fun p hp e => by
      have eq3 := (N9 p hp).2.2
      rw [← e, eq2] at eq3
      cases eq3
    exact ⟨ne _ (.head _), ne _ (.tail _ (.head _)), ne _ (.tail _ (.tail _ (.head _))), ne _ (.tail _ (.tail _ (.tail _ (.head _))))⟩
end

theorem at_P20_PopEmpty : True := by
  w_top off
  trivial
section
variable {prog : Program} {w : World} {A : Around} {E : Value → Shared → Prop} {s : Shared} {D : Addr} {n : Nat}
theorem pop_empty {Q : Value → Shared → Prop} (hh : A.handled = none) (hl : s.heap.get? D = some (PySem.W.listOf #[] n))
    (h : ∀ h'' e tk v, Heap.MadeExcOf s.heap h'' e (.type "IndexError") [v] → E (.ref e) { s with heap := h'', toks := tk }) : wpAny (model prog w) A (call (.builtin "list.pop") [.ref D]) Q E s := by
  refine wpAny_call_entry PySem.F.slot_list_pop ⟨_, hl, rfl⟩ PySem.F.entry_list_pop ?_ (PySem.F.args_list_pop_1 _)
  obtain ⟨hp, g, d, tk, os⟩ := s
  have hc0 : (#[] : Array Value).isEmpty = true := rfl
  wp_walk using wpAny_loadPart' hl
  unfold raiseErrorWords
  refine wpAny_bind (wpAny_mkText (wpAny_bind ?_))
  simp only [newExc, newTuple]
  refine wpAny_bind (wpAny_newObj_type ?_ (by size_fits))
  refine wpAny_bind (m := firstArgMember _ _) (wpAny_of_eq (a := Value.none) (by first | rfl | (simp only [firstArgMember]; rfl)) ?_)
  refine wpAny_newObj_type ?_ (by size_fits)
  simp only [raiseNew]
  refine wpAny_bind (wpAny_handled ?_)
  first | rw [show A.in1.handled = none from hh] | rw [hh]
  refine wpAny_bind (wpAny_pure (wpAny_throw ?_))
  refine h _ _ _ (.str (Str.ofString "pop from empty list") tk) ⟨fun b o e => Heap.get?_push_of_some _ (Heap.get?_push_of_some _ e), ?_, ⟨_, Heap.get?_push_size _ rfl, ?_, ?_⟩⟩
  · exact get_ge (by rw [Heap.size_push]; exact Nat.le_succ _)
  · exact get_ge (Nat.le_refl _)
  · exact Heap.get?_push_of_some _ (Heap.get?_push_size _ rfl)
end
section
variable {w : World} {A : Around} {s : Shared} {h₀ : Heap} {L : Addr} {m : Str → Option Value} {env : Env} {rest : List (Addr × Obj)} {Q E : Value → Shared → Prop}
theorem heappop_empty {hp : Addr} {n : Nat} (C : Cx w A env h₀ L) (R : Room 3 A) (F : Fr h₀ L s.heap m) (N : News h₀ L s.heap ((hp, PySem.W.listOf #[] n) :: rest))
    (hoff : ∀ q ∈ rest, q.1 ≠ hp)
    (hE : ∀ ea h' tk v, Rz w A env h₀ L m rest "IndexError" [v] [(hp, PySem.W.listOf #[] n)] ea h' → E (.ref ea) { s with heap := h', toks := tk }) :
    wpAny (model PySem.Challenge.rw_ik0004_01.row.prog w) A (call (.ref 28) [.ref hp]) Q E s := by
  refine wpAny_call ?_
  refine codeAny_mono (R := fun r s' => match r with | .ok (.ret v) => Q v s' | .ok _ => False | .error e => E e s') ?_ (fun r s' h => by rcases r with _ | ⟨⟩ <;> first | exact h | exact h.elim)
  k_dflt (refine' callT (E := E) (W := [(hp, PySem.W.listOf #[] n)]) (rest := rest) (args := ⟨[.ref hp], []⟩) (binds := [(Str.ofString "heap", .ref hp)]) C R F N ?k6 ?k7 ?k9 ?kB ?kO ?kW ?_ ?c2 ?c3 ?c4 ?c5; (case k6 => k_is); (case k7 => k_is); (case k9 => exact BindsTo.of_eq rfl); (case kB => exact locs rfl);  (case c5 => decide); (case c2 => exact rfl); (case c3 => exact rfl); (case c4 => exact rfl))
  case kO => exact fun q hq => nmemc (hoff q hq) nmem0
  case kW => exact allc (lstW (xs := []) (n := n)) alln
  intro g L' h₁ mean mg mb R' F' N' C' X' T' big tkk lt lv
  walk_at "MW"
  refine pop_empty C'.hh (N' _ (.head _)).1 ?_
  intro h2 e tk v hx
  refine lv _ _ _ _ _ _ _ hx F' N' fun h' rz => hE _ _ _ _ rz
end

theorem at_P20b_Caught : True := by
  w_top off
  trivial
section
variable {w : World} {A : Around} {s : Shared} {h₀ : Heap} {L ea : Addr} {m : Str → Option Value} {env : Env} {W rest : List (Addr × Obj)} {vs : List Value} {cls T' : String} {Q : Flow → Shared → Prop}
  {t : Expr} {b₀ : Stmt} {suite : List Stmt} {pos : Pos} {hrest : List ExceptHandler}
theorem Rz.caught (C : Cx w A env h₀ L) (R : Rz w A env h₀ L m rest cls vs W ea s.heap)
    (hexc : isSubtype (.type T') (.type "BaseException") = pure true) (hnt : isSubtype (.type ((Manifest.find? T').elim "type" fun y => y.metatype)) (.type "tuple") = pure false) (hsub : isSubtype (.type cls) (.type T') = pure true)
    (hname : ∀ (h₀' : Heap) (s' : Shared) (Q' : Value → Shared → Prop) (E' : Value → Shared → Prop), Turned A h₀ h₀' → Cx w A env h₀' L → Fr h₀' L s'.heap m → Q' (.type T') s' → wpAny (model PySem.Challenge.rw_ik0004_01.row.prog w) (A.mark (some (.ref ea))) (eval t env) Q' E' s')
    (k : ∀ h₀' h', Turned A h₀ h₀' → Cx w A env h₀' L → Fr h₀' L h' m → News h₀' L h' (W ++ rest) →
      wpAny (model PySem.Challenge.rw_ik0004_01.row.prog w) (A.mark (some (.ref ea))) (execs (b₀ :: suite) env) Q NoE { s with heap := h' }) :
    wpAny (model PySem.Challenge.rw_ik0004_01.row.prog w) A (noteFrame (.ref ea) env) (fun _ s₂ => wpAny (model PySem.Challenge.rw_ik0004_01.row.prog w) A (setFlight (.ref ea) none) (fun _ s₃ =>
      wpAny (model PySem.Challenge.rw_ik0004_01.row.prog w) A (handleBy (.ref ea) env (.ExceptHandler (some t) none (b₀ :: suite) pos :: hrest)) Q NoE s₃) NoE s₂) NoE s := by
  obtain ⟨A₀, base, outer, G, t', mean, mg, mb, B, hA, D, XB, TB, RS, up, FG, hr⟩ := R
  obtain ⟨⟨Bh, hB, hBG, hl, hfl, hnew⟩, htup⟩ := RS
  have mk : ∀ h', Heap.FlyingW Bh (env :: outer) ea (.type cls) (.ref t') h' → s.heap.UpToSlots h' → Rz w A env h₀ L m rest cls vs W ea h' := fun h' f u =>
    ⟨A₀, base, outer, G, t', mean, mg, mb, B, hA, D, XB, TB, ⟨⟨Bh, hB, hBG, hl, f, hnew⟩, htup.of_slots u⟩, up.trans u, FG, hr⟩
  refine wpAny_looks_onW hA C.fL hfl fun h₄ hheld₄ hsm₄ => ?_
  refine wpAny_landsW hheld₄ fun h₅ hheld hsm₅ => ?_
  have R₅ := mk h₅ hheld (hsm₄.trans hsm₅)
  obtain ⟨⟨h₀', T₀, C₀, F₀, N₀⟩, hT⟩ := Rz.ground (s := { s with heap := h₅ }) C R₅
  refine wpAny_handleBy_builtin (X := cls) (T := T') (b := true) hexc hnt hsub (hname h₀' _ _ _ T₀ C₀ F₀ ⟨rfl, hT, ?_⟩)
  simp only [if_true]
  refine lands_againW hheld fun h₆ hfl₆ hsm₆ => ?_
  have R₆ := mk h₆ hfl₆ ((hsm₄.trans hsm₅).trans hsm₆)
  obtain ⟨⟨h₀'', T₁, C₁, F₁, N₁⟩, _⟩ := Rz.ground (s := { s with heap := h₆ }) C R₆
  exact wpAny_mono (k h₀'' h₆ T₁ C₁ F₁ N₁) (fun _ _ x => x) fun _ _ e => e.elim
end

theorem at_P20c_CallCT : True := by
  w_top off
  trivial
section
variable {w : World} {A : Around} {s : Shared} {h₀ : Heap} {L : Addr} {m : Str → Option Value} {env : Env} {rest : List (Addr × Obj)} {Q : Value → Shared → Prop}
  {name qual : Str} {params : Arguments} {body : List Stmt} {scope : Scope} {dV kV doc pm cdv ct oc : Value} {an od : Option Addr} {osl : Array (Option Value)} {f : Addr} {args : Args} {binds : List (Str × Value)}

/-- a call of a text with cells, in which an exception may fly -/
theorem callCT {rn : Nat} (C : Cx w A env h₀ L) (R : Room (rn + 1) A) (F : Fr h₀ L s.heap m) (N : News h₀ L s.heap rest)
    (ho : (hd.heap_39 w.params).lookup f = some ⟨oc, od, .func (fnOf name qual params body scope dV kV doc pm an cdv ct), osl⟩) (hcd : codeIn (hd.heap_39 w.params) cdv qual = true)
    (hbind : BindsTo s (fnOf name qual params body scope dV kV doc pm an cdv ct) args binds) (hkind : (binds.all fun y => scope.names.lookup y.1 == some .local || scope.names.lookup y.1 == some .cell) = true)
    (hnd : ((cellsFrom 0 scope.names []).map (·.1)).Nodup)
    (h : ∀ g L' h₁ tk cells mean mg mb, Room rn (A.deeper (envOfC qual scope L' f cdv)) → Fr g L' h₁ (bindL (envOfC qual scope L' f cdv).kindOf binds fun _ => none) → News g L' h₁ cells →
      CellsAre (bindC (envOfC qual scope L' f cdv).kindOf binds fun _ => none) (cellsFrom (L' + 1) scope.names []) cells →
      Cx w (A.deeper (envOfC qual scope L' f cdv)) (envOfC qual scope L' f cdv) g L' → (hd.heap_39 w.params).In g → Top hd.view_39 LO mean mg mb g →
      (∀ b o, s.heap.get? b = some o → g.get? b = some o) → (∀ b o, s.heap.get? b = some o → b < L') →
      wpAny (model PySem.Challenge.rw_ik0004_01.row.prog w) (A.deeper (envOfC qual scope L' f cdv)) (execs body (envOfC qual scope L' f cdv))
        (fun fl s' => BackT w A (A.deeper (envOfC qual scope L' f cdv)) env h₀ L m rest g L' Q (match fl with | .ret v => v | _ => .none) s') NoE
        { s with heap := h₁, toks := tk })
    (hco : scope.isCoroutine = false := by rfl) (hgen : scope.isGenerator = false := by rfl) (hk : scope.kind = .function := by rfl) : wpAny (model PySem.Challenge.rw_ik0004_01.row.prog w) A (call (.ref f) args.pos args.kw) Q NoE s := by
  obtain ⟨A₀, base, outer, B, hA, D, XB, mean', mg', mb', TB⟩ := C.bel
  obtain ⟨mean, mg, mb, T⟩ := C.T
  obtain ⟨FG, BG, st, _⟩ := groundX (R := fun _ _ => True) B F (News.nil : News h₀ L s.heap []) hA C.fL C.knd
  have big : ∀ b o, s.heap.get? b = some o → (hideAll s.heap (([] : List (Addr × Obj)).map (·.1))).get? b = some o := fun b o e => hideAll_get _ e (by simp)
  have X' := C.X.keeps F.keep
  have hroom : A.depth < recursionLimit := by have := R.1; omega
  have B' : Below A base (env :: outer) (hideAll s.heap (([] : List (Addr × Obj)).map (·.1))) := BG
  refine wpAny_call ?_
  refine codeAny_call_function hroom (X' _ _ ho) rfl hco hgen rfl (codeRec_of X' hcd) (hbind _ _ _ _ ?_)
  refine wpAny_newFunctionEnv_cells hk (kindsX hkind _) fun env' he s' x => ?_
  subst he
  refine ⟨(T.nolimit.keeps F.keep).keeps x.toInCall.keep, codeAny_func ?_⟩
  obtain ⟨h₁, tk, rfl, _⟩ := x.done
  have hk₁ := x.toInCall.keep
  obtain ⟨cells, NC, Y⟩ := Cl.news (h₀ := s.heap) (Nat.le_refl _) fun n c hm => ⟨x.cell n c (lookup_of_mem_nodup (cellsFrom_names scope.names 0 (s.heap.objs.size + 1) [] [] rfl ▸ hnd) hm), x.above n c hm⟩
  have F₁ : Fr (hideAll s.heap (([] : List (Addr × Obj)).map (·.1))) s.heap.objs.size h₁ _ := ⟨x.toInCall.ns, fun b o e => hk₁ b o (of_hideAll _ e), Nat.le_of_eq (hideAll_size _ _)⟩
  refine wpAny_mono (h _ s.heap.objs.size h₁ tk cells mean mg mb R.deeper F₁ (fun p hp => ⟨(NC p hp).1, (NC p hp).2.1, ?_⟩) Y
    ⟨⟨A, base, env :: outer, B', Around.frames_deeper B'.stack, dicts_push C.fL D FG, XB, mean', mg', mb', TB⟩, rfl, hk, C.hh⟩ (C.X.keeps st) (T.keeps st) big (fun b o e => Heap.lt_size e)) (fun fl s' hl => ?_) fun _ _ y => y.elim
  · cases q : (hideAll s.heap (([] : List (Addr × Obj)).map (·.1))).get? p.1 with
    | none => rfl
    | some o => have := of_hideAll _ q; rw [(NC p hp).2.2] at this; cases this
  · obtain ⟨g', m', W', T', F', N', k⟩ := hl
    obtain ⟨e', o', hA', T'⟩ := T'
    rw [Around.frames_deeper B'.stack] at hA'
    cases hA'
    have hnL : h₀.get? L = none := kts_self F
    obtain ⟨h₀', T₀, F₀⟩ := turn_back B C.fL FG hnL T' F'
    have TT : Turned A h₀ h₀' := ⟨env, outer, hA, T₀⟩
    refine k h₀' TT (C.turn TT) F₀ fun q hq => ?_
    rcases List.mem_append.mp hq with hq | hq
    · have z := N' q hq
      refine ⟨z.1, fun e => ?_, ?_⟩
      · obtain ⟨oL, es, ep, hL, hLd, hLk, hLf⟩ := FG.ns
        obtain ⟨sl, hs⟩ := T'.up hL
        rw [← e, z.2.2] at hs
        cases hs
      · refine T₀.none_ _ ?_
        cases e : h₀.get? q.1 with
        | none => rfl
        | some o =>
          obtain ⟨sl, hs⟩ := T'.up (FG.keep _ _ e)
          rw [z.2.2] at hs
          cases hs
    · have z := N q hq
      refine ⟨F'.keep _ _ (T'.other _ _ (big _ _ z.1) fun hm => ?_), z.2.1, T₀.none_ _ z.2.2⟩
      rw [List.filterMap_cons, C.fL] at hm
      rcases List.mem_cons.mp hm with e | hm
      · exact z.2.1 e
      · obtain ⟨_, o, ho, _⟩ := B.frames.mem hm
        rw [z.2.2] at ho
        cases ho
end

theorem at_P21_Spec : True := by
  w_top off
  trivial
/-! what both ways tell -/
def kins (k : Key) : List Key → List Key
  | [] => [k]
  | y :: ys => if klt k y then k :: y :: ys else y :: kins k ys
def wk (k : Key) : Dat := .tuple [.int k.1, .int k.2.1]
def fewK (rank : Int) (row : List Key) : List Key := (row.filter (fun k => k.1 != (rank + 1) % 4)).take (rank + 1).toNat
def stepRow (kind rank : Int) (place : Nat) (row : List Key) : List Key :=
  if kind < 2 then kins (rank, (place : Int), 0) row else if kind = 2 then row.drop 1 else if kind = 3 then row.filter (fun k => k.1 != rank) else row
def stepLog (kind rank : Int) (row : List Key) : List Dat :=
  if kind < 2 then [.none] else if kind = 2 then (match row with | [] => [.str (Str.ofString "none")] | k :: _ => [wk k])
  else if kind = 3 then [.int ((row.filter (fun k => k.1 != rank)).length : Nat)] else [.list [.list ((fewK rank row).map wk), .list ((fewK rank row).map wk), .list ((fewK rank row).map wk)]]
def stAt (ds : List El) : Nat → List Key × List Dat
  | 0 => ([], [])
  | i + 1 => (stepRow (ds.getD i dEl).2.1 (ds.getD i dEl).2.2.1 i (stAt ds i).1, (stAt ds i).2 ++ stepLog (ds.getD i dEl).2.1 (ds.getD i dEl).2.2.1 (stAt ds i).1)
def tlog (ds : List El) : List Dat := (stAt ds ds.length).2 ++ (stAt ds ds.length).1.map wk
theorem insE_keys (x : El) : ∀ ys : List El, (insE x ys).map Prod.snd = kins x.2 (ys.map Prod.snd)
  | [] => rfl
  | y :: ys => by
    unfold insE kins
    simp only [List.map_cons]
    unfold elt
    split
    · rfl
    · rw [List.map_cons, insE_keys x ys]
theorem kins_len (k : Key) : ∀ row, (kins k row).length = row.length + 1
  | [] => rfl
  | y :: ys => by
    unfold kins
    split
    · rfl
    · rw [List.length_cons, kins_len k ys]; rfl
theorem kins_mem (k : Key) : ∀ row z, z ∈ kins k row → z = k ∨ z ∈ row
  | [], z, h => .inl (List.mem_singleton.mp h)
  | y :: ys, z, h => by
    unfold kins at h
    split at h
    · rcases List.mem_cons.mp h with h | h
      · exact .inl h
      · exact .inr h
    · rcases List.mem_cons.mp h with h | h
      · exact .inr (h ▸ .head _)
      · rcases kins_mem k ys z h with h | h
        · exact .inl h
        · exact .inr (.tail _ h)
theorem srt_ins {xs ys : List El} {e : El} (hd : KD ys) (p : ys.Perm (e :: xs)) : srt ys = insE e (srt xs) := by
  have hd2 := kd_perm hd p.symm
  have hdx : KD xs := (kd_app (xs := [e]) (ys := xs) hd2).2.1
  have hne : ∀ y ∈ xs, e.2 ≠ y.2 := (kd_app (xs := [e]) (ys := xs) hd2).2.2 e (.head _)
  refine (srt_eq ?_ ?_ hd).symm
  · exact insE_up e _ (srt_up xs hdx) fun y hy => (hne y ((srt_perm xs).mem_iff.mp hy)).symm
  · exact (insE_perm e _).trans (((srt_perm xs).cons e).trans p.symm)
theorem srt_of_perm {xs ys : List El} (hd : KD xs) (p : ys.Perm xs) : srt ys = srt xs :=
  srt_eq (srt_up ys (kd_perm hd p)) ((srt_perm ys).trans p) hd
/-- the pairs of a rank and each place below n -/
def allOf (rank : Int) (n : Nat) (ks : List El) : Prop := ks.map Prod.snd = (List.range n).map (fun j : Nat => ((rank, (j : Int), 0) : Key))
theorem keep_all {rank : Int} {n : Nat} {ks : List El} (h : allOf rank n ks) {e : El} (h0 : 0 ≤ e.2.2.1) (h1 : e.2.2.1 < n) : keepEl ks e = (e.2.1 != rank) := by
  unfold keepEl
  have key : (ks.any fun z => z.2.1 == e.2.1 && z.2.2.1 == e.2.2.1) = (e.2.1 == rank) := by
    rw [Bool.eq_iff_iff, List.any_eq_true]
    constructor
    · rintro ⟨z, hz, hh⟩
      have hm : z.2 ∈ ks.map Prod.snd := List.mem_map_of_mem hz
      rw [h] at hm
      obtain ⟨j, _, hj⟩ := List.mem_map.mp hm
      simp only [Bool.and_eq_true, beq_iff_eq] at hh ⊢
      rw [← hh.1, ← hj]
    · intro hr
      simp only [beq_iff_eq] at hr
      have hm : ((rank, ((e.2.2.1.toNat : Nat) : Int), 0) : Key) ∈ ks.map Prod.snd := by
        rw [h]
        exact List.mem_map.mpr ⟨e.2.2.1.toNat, List.mem_range.mpr (by omega), rfl⟩
      obtain ⟨z, hz, hzk⟩ := List.mem_map.mp hm
      refine ⟨z, hz, ?_⟩
      rw [hzk]
      simp only [Bool.and_eq_true, beq_iff_eq]
      exact ⟨hr.symm, by omega⟩
  first
    | (rw [key]; rfl)
    | (simp only [bne]; rw [← key]; try rfl)

theorem at_P21b_RunLaw : True := by
  w_top off
  trivial
def RunI (ds : List El) (i : Nat) (xs : List El) : Prop := Hp elt dEl 0 xs ∧ KD xs ∧ (srt xs).map Prod.snd = (stAt ds i).1 ∧ (∀ e ∈ xs, 0 ≤ e.2.2.1 ∧ e.2.2.1 < (i : Int) ∧ e.2.2.2 = 0) ∧ xs.length ≤ i
theorem runI_start (ds : List El) : RunI ds 0 [] := ⟨fun j _ h => by simp at h, List.nodup_nil, rfl, (fun _ h => nomatch h), Nat.le_refl _⟩
section
variable {ds xs ks : List El} {i : Nat}
theorem st_succ (ds : List El) (i : Nat) : stAt ds (i + 1) = (stepRow (ds.getD i dEl).2.1 (ds.getD i dEl).2.2.1 i (stAt ds i).1, (stAt ds i).2 ++ stepLog (ds.getD i dEl).2.1 (ds.getD i dEl).2.2.1 (stAt ds i).1) := rfl
theorem kd_push {e : El} (I : RunI ds i xs) (he : e.2 = ((ds.getD i dEl).2.2.1, (i : Int), 0)) : KD (e :: xs) := by
  obtain ⟨_, hd, _, hb, _⟩ := I
  unfold KD at *
  rw [List.map_cons, List.nodup_cons]
  refine ⟨fun hm => ?_, hd⟩
  obtain ⟨y, hy, e2⟩ := List.mem_map.mp hm
  have := (hb y hy).2.1
  rw [e2, he] at this
  simp at this
theorem run_push {e : El} (I : RunI ds i xs) (hk : (ds.getD i dEl).2.1 < 2) (he : e.2 = ((ds.getD i dEl).2.2.1, (i : Int), 0)) :
    RunI ds (i + 1) (hpush elt e xs) ∧ stepLog (ds.getD i dEl).2.1 (ds.getD i dEl).2.2.1 (stAt ds i).1 = [.none] := by
  have hdc := kd_push I he
  obtain ⟨H, hd, hs, hb, hl⟩ := I
  obtain ⟨p, H2⟩ := hpush_law elt_wo dEl e xs H
  refine ⟨⟨H2, kd_perm hdc p, ?_, ?_, ?_⟩, by unfold stepLog; rw [if_pos hk]⟩
  · rw [srt_ins (kd_perm hdc p) p, insE_keys, hs, he, st_succ]
    unfold stepRow
    rw [if_pos hk]
  · intro y hy
    rcases List.mem_cons.mp (p.mem_iff.mp hy) with rfl | hy
    · rw [he]
      refine ⟨?_, ?_, rfl⟩ <;> dsimp only <;> omega
    · have := hb y hy
      exact ⟨this.1, by have := this.2.1; omega, this.2.2⟩
  · rw [p.length_eq, List.length_cons]; omega
theorem run_pop (I : RunI ds i xs) (hk : (ds.getD i dEl).2.1 = 2) (hne : xs ≠ []) :
    RunI ds (i + 1) (hpop elt dEl xs) ∧ stepLog (ds.getD i dEl).2.1 (ds.getD i dEl).2.2.1 (stAt ds i).1 = [wk (xs.getD 0 dEl).2] := by
  obtain ⟨H, hd, hs, hb, hl⟩ := I
  obtain ⟨p, H2⟩ := hpop_law elt_wo dEl xs H hne
  have hsp := srt_pop hd H hne
  have hk2 : ¬ (ds.getD i dEl).2.1 < 2 := by omega
  refine ⟨⟨H2, (kd_app (xs := [xs.getD 0 dEl]) (ys := hpop elt dEl xs) (kd_perm hd p)).2.1, ?_, ?_, ?_⟩, ?_⟩
  · rw [st_succ]
    unfold stepRow
    rw [if_neg hk2, if_pos hk, ← hs, hsp]
    rfl
  · intro y hy
    have := hb y (p.mem_iff.mp (.tail _ hy))
    exact ⟨this.1, by have := this.2.1; omega, this.2.2⟩
  · have := p.length_eq
    rw [List.length_cons] at this
    omega
  · unfold stepLog
    rw [if_neg hk2, if_pos hk, ← hs, hsp]
    rfl
theorem run_pop0 (I : RunI ds i []) (hk : (ds.getD i dEl).2.1 = 2) :
    RunI ds (i + 1) [] ∧ stepLog (ds.getD i dEl).2.1 (ds.getD i dEl).2.2.1 (stAt ds i).1 = [.str (Str.ofString "none")] := by
  obtain ⟨H, hd, hs, hb, hl⟩ := I
  have hk2 : ¬ (ds.getD i dEl).2.1 < 2 := by omega
  have hs' : (stAt ds i).1 = [] := by rw [← hs]; rfl
  refine ⟨⟨H, hd, ?_, (fun _ h => nomatch h), Nat.zero_le _⟩, ?_⟩
  · rw [st_succ]
    unfold stepRow
    rw [if_neg hk2, if_pos hk, hs']
    rfl
  · unfold stepLog
    rw [if_neg hk2, if_pos hk, hs']
theorem filt_keys {rank : Int} (I : RunI ds i xs) (h : allOf rank i ks) : ((srt xs).filter (keepEl ks)).map Prod.snd = (stAt ds i).1.filter (fun k => k.1 != rank) := by
  obtain ⟨H, hd, hs, hb, hl⟩ := I
  rw [← hs, List.filter_map]
  congr 1
  refine List.filter_congr fun e he => ?_
  have := hb e ((srt_perm xs).mem_iff.mp he)
  rw [keep_all h this.1 this.2.1]
  rfl
theorem run_cut (I : RunI ds i xs) (hk : (ds.getD i dEl).2.1 = 3) (h : allOf (ds.getD i dEl).2.2.1 i ks) :
    RunI ds (i + 1) (hfy elt dEl (xs.filter (keepEl ks))) ∧ stepLog (ds.getD i dEl).2.1 (ds.getD i dEl).2.2.1 (stAt ds i).1 = [.int ((hfy elt dEl (xs.filter (keepEl ks))).length : Nat)] := by
  have hf := filt_keys I h
  obtain ⟨H, hd, hs, hb, hl⟩ := I
  have hk2 : ¬ (ds.getD i dEl).2.1 < 2 := by omega
  have hk3 : ¬ (ds.getD i dEl).2.1 = 2 := by omega
  obtain ⟨p, H2⟩ := hfy_law elt_wo dEl (xs.filter (keepEl ks))
  have hdf : KD (xs.filter (keepEl ks)) := by
    unfold KD at *
    exact List.Nodup.sublist (List.Sublist.map Prod.snd List.filter_sublist) hd
  have hsf : srt (hfy elt dEl (xs.filter (keepEl ks))) = (srt xs).filter (keepEl ks) := by rw [srt_of_perm hdf p, srt_filter _ hd]
  refine ⟨⟨H2, kd_perm hdf p, ?_, ?_, ?_⟩, ?_⟩
  · rw [hsf, hf, st_succ]
    unfold stepRow
    rw [if_neg hk2, if_neg hk3, if_pos hk]
  · intro y hy
    have := hb y (List.mem_filter.mp (p.mem_iff.mp hy)).1
    exact ⟨this.1, by have := this.2.1; omega, this.2.2⟩
  · rw [p.length_eq]
    have := List.length_filter_le (keepEl ks) xs
    omega
  · unfold stepLog
    rw [if_neg hk2, if_neg hk3, if_pos hk, ← hf, List.length_map, ← hsf, (srt_perm _).length_eq]
theorem run_few (I : RunI ds i xs) (hk : 3 < (ds.getD i dEl).2.1) {c : Nat} (hc : (c : Int) = (ds.getD i dEl).2.2.1 + 1) (h : allOf (((ds.getD i dEl).2.2.1 + 1) % 4) i ks) :
    RunI ds (i + 1) xs ∧ stepLog (ds.getD i dEl).2.1 (ds.getD i dEl).2.2.1 (stAt ds i).1 = [.list [.list ((few xs ks c).map dat), .list ((few xs ks c).map dat), .list ((few xs ks c).map dat)]] := by
  have hf := filt_keys I h
  obtain ⟨H, hd, hs, hb, hl⟩ := I
  have hk2 : ¬ (ds.getD i dEl).2.1 < 2 := by omega
  have hk3 : ¬ (ds.getD i dEl).2.1 = 2 := by omega
  have hk4 : ¬ (ds.getD i dEl).2.1 = 3 := by omega
  have hfk : (fewK (ds.getD i dEl).2.2.1 (stAt ds i).1).map wk = (few xs ks c).map dat := by
    unfold fewK few
    rw [← hf, ← hc, Int.toNat_natCast, ← List.map_take, List.map_map]
    rfl
  refine ⟨⟨H, hd, ?_, fun y hy => ?_, by omega⟩, ?_⟩
  · rw [hs, st_succ]
    unfold stepRow
    rw [if_neg hk2, if_neg hk3, if_neg hk4]
  · have := hb y hy
    exact ⟨this.1, by have := this.2.1; omega, this.2.2⟩
  · unfold stepLog
    rw [if_neg hk2, if_neg hk3, if_neg hk4, hfk]
end

theorem at_P21c_Sub : True := by
  w_top off
  trivial
section
variable {prog : Program} {w : World} {A : Around} {E : Value → Shared → Prop} {s : Shared}
theorem sub_b {value slice : PySem.Expr} {D : Addr} {xs : List El} {n i : Nat} {k : Int} {u : Tok} {Q : Value → Shared → Prop} (ha : s.heap.get? D = some (lst xs n)) (hk : k = (i : Int)) (hi : i < xs.length) (hf : k < 2 ^ 63) (h : Q (xs.getD i dEl).1 s)
    (hs : subscripted slice false (.ref D) (.int k u) = operate [.ref D, .int k u] (getItem (.ref D) (.int k u)) := by with_unfolding_all rfl) :
    wpAny (model prog w) A (subscriptTail value slice (.ref D) (.int k u)) Q E s := by
  subst hk
  exact item_litK (PySem.IsL.isList (n := n) ha) (by omega) hf (fst_at hi) h hs
end
section
variable {M : Model} {A : Around} {E : Value → Shared → Prop} {s : Shared} {scope : Scope} {cl : List (Str × Addr)} {env : Env} {C c : Addr} {o : Obj}
/-- a free name of a comprehension -/
theorem cldF {x : Str} {pos : Pos} {v : Value} {Q : Value → Shared → Prop} (hc : cl.lookup x = some c) (hm : s.heap.get? c = some o) (hd : o.data = .cell (some v)) (h : Q v s)
    (hl : (compEnvC scope cl C env).kindOf x = some .cell) (hk : scope.kind = .function) (hb : (x == ("__debug__" : Str)) = false) :
    wpAny M A (eval (.Name x pos) (compEnvC scope cl C env)) Q E s :=
  wpAny_Name (wpAny_loadName_cell (c := c) (by simp [compEnvC, relabel, hk]) hl hc ⟨o, hm, hd⟩ h) hb
end
/-- an element that lies in the ledger -/
def ElT (ts : List (Addr × Obj)) (e : El) : Prop := ∃ a t u, e.1 = .ref a ∧ (a, tup [.int e.2.1 t, .int e.2.2.1 u]) ∈ ts
theorem ElT.mono {ts ts' : List (Addr × Obj)} {e : El} (x : ElT ts e) (h : ∀ q ∈ ts, q ∈ ts') : ElT ts' e := by
  obtain ⟨a, t, u, e1, e2⟩ := x
  exact ⟨a, t, u, e1, h _ e2⟩
theorem ElT.el {ts : List (Addr × Obj)} {e : El} {h : Heap} (x : ElT ts e) (hz : e.2.2.2 = 0) (hn : ∀ q ∈ ts, h.get? q.1 = some q.2) : ElF h e := by
  obtain ⟨a, t, u, e1, e2⟩ := x
  exact ⟨a, t, u, e1, hn _ e2, hz⟩
theorem ElT.dat {ts : List (Addr × Obj)} {e : El} (x : ElT ts e) : DatIn ts e.1 (dat e) := by
  obtain ⟨a, t, u, e1, e2⟩ := x
  rw [e1]
  exact .tuple e2 (.cons (.int _ _) (.cons (.int _ _) .nil))
theorem datAll_el {ts : List (Addr × Obj)} : ∀ {xs : List El}, (∀ e ∈ xs, ElT ts e) → DatAll ts (xs.map Prod.fst) (xs.map Mine.dat)
  | [], _ => .nil
  | x :: xs, h => .cons (h x (.head _)).dat (datAll_el fun e he => h e (.tail _ he))
theorem datAll_app {ts : List (Addr × Obj)} : ∀ {vs : List Value} {ds : List Dat} {us : List Value} {es : List Dat}, DatAll ts vs ds → DatAll ts us es → DatAll ts (vs ++ us) (ds ++ es)
  | [], _, _, _, .nil, h => h
  | _ :: _, _, _, _, .cons a b, h => .cons a (datAll_app b h)

theorem at_P21d_Pairs : True := by
  w_top off
  trivial
section
variable {w : World} {A : Around} {s : Shared} {g : Heap} {C D I : Addr} {env : Env} {k : Nat} {scope : Scope} {cl : List (Str × Addr)}
inductive PairJ (D : Addr) (k : Nat) (r : Int) (i : Nat) (out : List Value) (ts : List (Addr × Obj)) : Prop
  | mk (hi : i ≤ k) (ks : List El) (h1 : out = ks.map Prod.fst) (h2 : allOf r i ks) (h3 : ∀ e ∈ ks, ElT ts e ∧ e.2.2.2 = 0) (h4 : ∀ q ∈ ts, @LT.lt Nat _ D q.1)
/-- [(r, k) for k in range(n)] -/
theorem pairs_comp {e1 iter : Expr} {r : Int} {pk pt pk2 pos : Pos} {ka : Nat} {R : Result → Shared → Prop} (hh : A.handled = none) (hkind : scope.kind = .function) (hl : scope.names.lookup (Str.ofString "k") = some .local) (hk : k < 2 ^ 10)
    (hst : backTo pt (starEach [e1, .Name (Str.ofString "k") pk] (compEnvC scope cl C env)) = [(false, eval e1 (compEnvC scope cl C env)), (false, eval (.Name (Str.ofString "k") pk) (compEnvC scope cl C env))])
    (he1 : ∀ h tk m₁ (Q' : Value → Shared → Prop), Fr g C h m₁ → (∀ t tk', Q' (.int r t) { s with heap := h, toks := tk' }) → wpAny (model PySem.Challenge.rw_ik0004_01.row.prog w) A (eval e1 (compEnvC scope cl C env)) Q' NoE { s with heap := h, toks := tk })
    (F : Fr g C s.heap (fun _ => none)) (N : News g C s.heap [(D, PySem.W.listOf #[] 0), (I, riObj 0 k 1)]) (hID : @LT.lt Nat _ I D)
    (fin : ∀ m₁ c h tk ts ks, Fr g C h m₁ → News g C h ((D, lst ks c) :: ts) → allOf r k ks → (∀ e ∈ ks, ElT ts e ∧ e.2.2.2 = 0) → (∀ q ∈ ts, @LT.lt Nat _ D q.1) → R (.ok .next) { s with heap := h, toks := tk }) :
    codeAny (model PySem.Challenge.rw_ik0004_01.row.prog w) A (.compLoop (.ListComp (.Tuple [e1, .Name (Str.ofString "k") pk] ka pt) [⟨.Name (Str.ofString "k") pk2, iter, [], 0⟩] scope pos) 0 (.ref I) (.ref D) (compEnvC scope cl C env)) R s := by
  have N0 : News g C s.heap [(D, PySem.W.listOf #[] 0), (I, riObj ((0 : Nat) : Int) ((k : Int) - ((0 : Nat) : Int)) 1)] := by
    have e : riObj ((0 : Nat) : Int) ((k : Int) - ((0 : Nat) : Int)) 1 = riObj 0 k 1 := by simp
    rw [e]; exact N
  refine comp_it (its_ri (k := k) hh) (PairJ D k r) F N0 hID ⟨Nat.zero_le _, [], rfl, rfl, (fun _ h => nomatch h), (fun _ h => nomatch h)⟩ ?_ ?_ ?_ ?_ ?_
  · rintro i out ts ⟨hi, ks, rfl, hall, _, _⟩
    have e : ks.length = i := by
      have := congrArg List.length hall
      simpa using this
    rw [List.length_map, e]; omega
  · rintro i out ts ⟨_, ks, _, _, _, h⟩
    exact h
  · intro i v Q' s' _ _ hq
    exact wpAny_pure hq
  · rintro i m₁ out ts c h tk v Qt hqt hi ⟨t, rfl⟩ ⟨_, ks, rfl, hall, hel, hts⟩ F₁ N₁
    refine wpAny_assign_Name (cst F₁ N₁ (fun h5 F5 N5 => ?_) hl hkind)
    refine wpAny_tests_nil ?_
    simp only [if_true]
    refine Tuple_ ?_
    rw [hst]
    refine (spliced_cons (he1 _ _ _ _ F5 fun t1 tk1 => spliced_cons (cld F5 (v := .int (i : Nat) t) rfl (spliced_nil ?_) hl hkind)))
    refine newTuple_N F5 N5 fun h7 F7 N7 => ?_
    have eD : @LT.lt Nat _ D h5.objs.size := Heap.lt_size (N5 _ (.head _)).1
    refine hqt _ h7 _ _ ((h5.objs.size, tup [.int r t1, .int (i : Nat) t]) :: ts) F7 (nsubs N7 (by walk_at "NS")) ⟨hi, ks ++ [(.ref h5.objs.size, r, (i : Int), 0)], ?_, ?_, ?_, ?_⟩
    · simp [Option.toList]
    · unfold allOf at *
      rw [List.map_append, hall, List.range_succ, List.map_append]
      rfl
    · intro e he
      rcases List.mem_append.mp he with he | he
      · exact ⟨(hel e he).1.mono fun q hq => .tail _ hq, (hel e he).2⟩
      · rw [List.mem_singleton.mp he]
        exact ⟨⟨_, _, _, rfl, .head _⟩, rfl⟩
    · exact allc (eD) (fun q hq => hts q hq)
  · rintro m₁ out ts c h tk ⟨_, ks, rfl, hall, hel, hts⟩ F₁ N₁
    exact fin m₁ c h tk ts ks F₁ N₁ hall hel hts
end

theorem at_P22_Run : True := by
  w_top off
  trivial
/-- the state of the run's loop -/
inductive RunJ (da : Addr) (ds : List El) (n : Nat) (cA : Addr) (i : Nat) (g : Heap) (m : Str → Option Value) (nx : List (Addr × Obj)) : Prop
  | mk (xs : List El) (vs : List Value) (Lg Hp : Addr) (nh nl : Nat) (o : Obj) (v₀ : Option Value) (ts : List (Addr × Obj)) (h1 : nx = (Lg, PySem.W.listOf vs.toArray nl) :: (Hp, lst xs nh) :: (cA, o) :: ts) (h2 : g.get? da = some (lst ds n)) (h3 : ∀ e ∈ ds, ElF g e)
    (h4 : m (Str.ofString "deeds") = some (.ref da)) (h5 : m (Str.ofString "heap") = some (.ref Hp)) (h6 : m (Str.ofString "log") = some (.ref Lg)) (h7 : o.data = .cell v₀)
    (h8 : Lg ≠ Hp) (h9 : Lg ≠ cA) (h10 : Hp ≠ cA) (h11 : ∀ q ∈ ts, q.1 ≠ Lg ∧ q.1 ≠ Hp ∧ q.1 ≠ cA) (h12 : RunI ds i xs) (h13 : ∀ e ∈ xs, ElT ts e) (h14 : DatAll ts vs (stAt ds i).2) (h15 : vs.length ≤ i)
/-- the state of the emptying loop -/
inductive RunW (ds : List El) (L' : Addr) (g1 : Heap) (Lg Hp : Addr) (ts : List (Addr × Obj)) (nn : Nat) (h : Heap) (tk : Nat) : Prop
  | mk (m1 : Str → Option Value) (ys : List El) (us : List Value) (nh nl : Nat) (dl : List Dat) (e : nn = ys.length) (F : Fr g1 L' h m1) (N : News g1 L' h ((Lg, PySem.W.listOf us.toArray nl) :: (Hp, lst ys nh) :: ts))
    (h1 : m1 (Str.ofString "heap") = some (.ref Hp)) (h2 : m1 (Str.ofString "log") = some (.ref Lg)) (h3 : Mine.Hp elt dEl 0 ys) (h4 : KD ys) (h5 : ∀ e ∈ ys, ElT ts e ∧ e.2.2.2 = 0) (h6 : DatAll ts us dl) (h7 : dl ++ (srt ys).map dat = tlog ds) (h8 : us.length + ys.length ≤ 64)
/-- what it leaves -/
inductive RunE (s : Shared) (ds : List El) (L' : Addr) (g1 : Heap) (Lg : Addr) (ts : List (Addr × Obj)) (fl : Flow) (s' : Shared) : Prop
  | mk (m1 : Str → Option Value) (h : Heap) (tk : Nat) (us : List Value) (nl : Nat) (e1 : fl = .next) (e2 : s' = { s with heap := h, toks := tk }) (F : Fr g1 L' h m1) (N : News g1 L' h ((Lg, PySem.W.listOf us.toArray nl) :: ts)) (h1 : m1 (Str.ofString "log") = some (.ref Lg)) (h2 : DatAll ts us (tlog ds))
section
variable {w : World} {A : Around} {s : Shared} {h₀ : Heap} {L : Addr} {m : Str → Option Value} {env : Env} {rest : List (Addr × Obj)} {Q E : Value → Shared → Prop}

theorem run_ok {da : Addr} {ds : List El} {n : Nat} (C : Cx w A env h₀ L) (R : Room 22 A) (F : Fr h₀ L s.heap m) (N : News h₀ L s.heap rest)
    (hda : s.heap.get? da = some (lst ds n)) (hlen : ds.length < 32) (hok : ∀ e ∈ ds, ElF s.heap e) (hb : ∀ e ∈ ds, 0 ≤ e.2.1 ∧ e.2.1 < 5 ∧ 0 ≤ e.2.2.1 ∧ e.2.2.1 < 4)
    (hQ : ∀ h₀' h' tk' r vs n' ts, Turned A h₀ h₀' → Cx w A env h₀' L → Fr h₀' L h' m → News h₀' L h' ((r, PySem.W.listOf vs.toArray n') :: (ts ++ rest)) → DatAll ts vs (tlog ds) → Q (.ref r) { s with heap := h', toks := tk' }) :
    wpAny (model PySem.Challenge.rw_ik0004_01.row.prog w) A (call (.ref 139) [.ref da]) Q NoE s := by
  k_dflt (refine' callCT (rest := rest) (args := ⟨[.ref da], []⟩) (binds := [(Str.ofString "deeds", .ref da)]) C R F N ?k6 ?k7 ?k9 ?kB ?kD ?_ ?c2 ?c3 ?c4; (case k6 => k_is); (case k7 => k_is); (case k9 => exact BindsTo.of_eq rfl); (case kB => exact rfl); (case kD => decide +kernel); (case c2 => exact rfl); (case c3 => exact rfl); (case c4 => exact rfl))
  intro g L' h₁ tk0 cells mean mg mb R' F' N' Y' C' X' T' big lt
  k_cells Y'
  have hdg : g.get? da = some (lst ds n) := big _ _ hda
  have hokg : ∀ e ∈ ds, ElF g e := fun e he => ElOk.keeps (fl := true) (hok e he) fun b vs e => big _ _ e
  obtain ⟨P, Pe, Pi, P0⟩ := tc_of C'
  refine gn fun Qo hqo => ?_
  walk_at "MW"
  refine wpAny_For ?_ (by intro _; rfl)
  walk_at "MWN"
  rename Fr _ _ _ _ => F5
  rename News _ _ _ _ => N5
  rename_i o hod Hp hh1 lHp hh2 tka Lg hh3 lLg hh4
  refine len_b (F5.keep _ _ hdg) (by omega) ?_
  intro t1 tk1
  walk_at "MW"
  refine range_v F5 N5 ?_
  intro r h6 tk6 t6 u6 v6 F6 N6 l6
  (try k_lt l6)
  walk_at "MW"
  have hcA : o.data = .cell none := hod
  k_dflt (refine' for_riT (L := L') (nx₀ := [(Lg, PySem.W.listOf #[] 0), (Hp, PySem.W.listOf #[] 0), (L' + 1, o)]) (fun i g m nx => RunJ da ds n (L' + 1) i g m nx) (by rfl) (by rfl) (by rfl) (by omega) C' F6 (fun q hq => N6 q (.tail _ hq)) (N6 _ (.head _)).1 ?_ ?_ ?_)
  · exact ⟨[], [], Lg, Hp, 0, 0, o, none, [], rfl, hdg, hokg, by rfl, by rfl, by rfl, hcA, gtne (by omega), gtne (by omega), gtne (by omega), (fun _ h => nomatch h), runI_start ds, (fun _ h => nomatch h), .nil, Nat.le_refl _⟩
  · clear F5 N5 F6 N6 l6 hcA
    (try clear hod); (try clear lHp); (try clear lLg)
    rintro I i g1 m1 nx h tk t Qb hqb hi T1 C1 ⟨xs, vs, Lg, Hp, nh, nl, o, v₀, ts, rfl, hdg1, hok1, e1, e2, e3, hod, n1, n2, n3, hts, RI, hel, hda, hvl⟩ hlt0 hoffI F1 N1
    have hlen2 : ds.length < 64 := Nat.lt_of_lt_of_le hlen (by decide)
    have i64 : i < 64 := Nat.lt_trans hi hlen2
    have X1 := C1.X
    obtain ⟨mean1, mg1, mb1, Tp1⟩ := C1.T
    have P1 := Pi _ _ P0 T1 C1
    replace F1 := Fr.sees [(Str.ofString "place", .int (i : Nat) t), (Str.ofString "deeds", .ref da), (Str.ofString "heap", .ref Hp), (Str.ofString "log", .ref Lg)] F1 (seesx (seesn (by decide) e1 (seesn (by decide) e2 (seesn (by decide) e3 sees0))))
    have hmi : ds.getD i dEl ∈ ds := by
      rw [List.getD_eq_getElem?_getD, List.getElem?_eq_getElem hi]
      exact List.getElem_mem _
    obtain ⟨hb1, hb2, hb3, hb4⟩ := hb _ hmi
    obtain ⟨a, u1, u2, ea, hta, _⟩ := hok1 _ hmi
    dsimp only
    walk_at "MW"
    refine sub_b (xs := ds) (n := n) (i := i) (F1.keep _ _ hdg1) rfl hi (by omega) ?_ (by with_unfolding_all rfl)
    rw [ea]
    k_dflt (refine' unpack_N F1 N1 (F1.keep _ _ hta) C1.hh (by rfl) (by rfl) ?_)
    intro h2 F2 N2
    refine assignInOrder_cons (wpAny_assign_Name ?_)
    walk_at "MW"
    rename Fr _ _ _ _ => F3
    rename News _ _ _ _ => N3
    have nI1 := hoffI _ (.head _)
    have nI2 := hoffI _ (.tail _ (.head _))
    have nI3 := hoffI _ (.tail _ (.tail _ (.head _)))
    dsimp only at nI1 nI2 nI3
    refine storeX_C F3 N3 (c := L' + 1) (by rfl) (.tail nI3.symm (.tail n2 (.tail n3 (.head fun p hp => (hts p hp).2.2)))) hod ?_ (by rfl) (by rfl)
    intro h4 o4 F4 N4 hod4
    refine assignInOrder_nil ?_
    have hlog : ∀ x, stepLog (ds.getD i dEl).2.1 (ds.getD i dEl).2.2.1 (stAt ds i).1 = x → (stAt ds i).2 ++ x = (stAt ds (i + 1)).2 := fun x e => by rw [st_succ, e]
    generalize hK : (ds.getD i dEl).2.1 = K at hb1 hb2 F4 hlog
    generalize hR : (ds.getD i dEl).2.2.1 = Rk at hb3 hb4 hod4 hlog
    (try clear N1); (try clear F1); (try clear F2); (try clear N2); (try clear F3); (try clear N3)
    dsimp only
    walk_at "MW"
    · rename_i tka hK2 Tp h5 F5 N5 l5
      have hz := fun e he => (RI.2.2.2.1 e he).2.2
      have he5 : ∀ e ∈ xs, ElF h5 e := fun e he => (hel e he).el (hz e he) fun q hq => (N5 q (by walk_at "MEM")).1
      show wpAny _ _ (call (Value.ref 21) [Value.ref Hp, (Value.ref Tp, Rk, ((i : Nat) : Int), (0 : Int)).1]) _ _ _
      refine heappush_ok (fl := true) (xs := xs) (n := nh) (rest := (Tp, tup [.int Rk u2, .int (i : Nat) t]) :: (I, riObj ((i + 1 : Nat) : Int) ((ds.length : Int) - ((i + 1 : Nat) : Int)) 1) :: (Lg, PySem.W.listOf vs.toArray nl) :: (L' + 1, o4) :: ts) C1 (R'.le (by decide)) F5 (nsubs N5 (by walk_at "NS")) ?_ (by have := RI.2.2.2.2; omega) he5 ⟨Tp, u2, t, rfl, (N5 (Tp, tup [.int Rk u2, .int (i : Nat) t]) (.head _)).1, rfl⟩ ?_
      · exact allc (gtne l5.2.2.1) (allc (nI2.symm) (allc (n1) (allc (n3.symm) (fun q hq => (hts q hq).2.1))))
      intro h6 tk6 n6 F6 N6
      dsimp only
      walk_at "MW"
      refine app_v (vs := vs) (v := .none) (n := nl) (post := (I, riObj ((i + 1 : Nat) : Int) ((ds.length : Int) - ((i + 1 : Nat) : Int)) 1) :: (Hp, lst (hpush elt (Value.ref Tp, Rk, ((i : Nat) : Int), (0 : Int)) xs) n6) :: (L' + 1, o4) :: (Tp, tup [.int Rk u2, .int (i : Nat) t]) :: ts) F6 (nsubs N6 (by walk_at "NS")) ?_ (b20 hvl i64) ?_
      · exact allc (nI1.symm) (allc (n1.symm) (allc (n2.symm) (allc (gtne l5.2.1) (fun q hq => (hts q hq).1))))
      intro h7 F7 N7
      dsimp only
      walk_at "MW"
      obtain ⟨RI2, hsl⟩ := run_push (e := (Value.ref Tp, Rk, ((i : Nat) : Int), (0 : Int))) RI (by rw [hK]; exact hK2) (by rw [hR])
      rw [hK, hR] at hsl
      obtain ⟨pp, _⟩ := hpush_law elt_wo dEl (Value.ref Tp, Rk, ((i : Nat) : Int), (0 : Int)) xs RI.1
      refine hqb _ g1 _ _ _ ((Lg, PySem.W.listOf (vs ++ [Value.none]).toArray (nl + 1)) :: (Hp, lst (hpush elt (Value.ref Tp, Rk, ((i : Nat) : Int), (0 : Int)) xs) n6) :: (L' + 1, o4) :: (Tp, tup [.int Rk u2, .int (i : Nat) t]) :: ts) (.inl rfl) T1 C1 F7 (nsubs N7 (by walk_at "NS")) ?_ ⟨_, _, Lg, Hp, _, _, o4, _, _, rfl, hdg1, hok1, by rfl, by rfl, by rfl, hod4, n1, n2, n3, ?_, RI2, ?_, ?_, lapp hvl⟩
      · exact allc (nI1) (allc (nI2) (allc (nI3) (allc (gtne l5.1) (fun q hq => hoffI q (by walk_at "MEM")))))
      · exact allc (⟨gtne l5.2.1, gtne l5.2.2.1, gtne l5.2.2.2.1⟩) (fun q hq => hts q hq)
      · intro e he
        rcases List.mem_cons.mp (pp.mem_iff.mp he) with rfl | he
        · exact ⟨Tp, _, _, rfl, .head _⟩
        · exact (hel e he).mono fun q hq => .tail _ hq
      · rw [← hlog _ hsl]
        exact datAll_app (hda.mono fun q hq => .tail _ hq) (.cons .none .nil)
    · rename_i tka hK2 tkb hKe
      by_cases hxe : xs = []
      · subst hxe
        refine wpAny_Try_except ?_
        walk_at "MW"
        refine heappop_empty (n := nh) (rest := (I, riObj ((i + 1 : Nat) : Int) ((ds.length : Int) - ((i + 1 : Nat) : Int)) 1) :: (Lg, PySem.W.listOf vs.toArray nl) :: (L' + 1, o4) :: ts) C1 (R'.le (by decide)) F4 (nsubs N4 (by walk_at "NS")) ?_ ?_
        · exact allc (nI2.symm) (allc (n1) (allc (n3.symm) (fun q hq => (hts q hq).2.1)))
        intro ea h5 tk5 v5 rz
        refine Rz.caught C1 rz PySem.F.isExc_IndexError PySem.F.notTuple_IndexError (by first | rfl | (rw [isSubtype_type]; kernel_rfl) | kernel_rfl) ?_ ?_
        · intro h₀' s' Q' E' T2 C2 F2 hq
          obtain ⟨mean2, mg2, mb2, Tp2⟩ := C2.T
          exact nameX_B F2 C2.X (topRead_of Tp2) (by k_is) PyProof.Rows.Boot.«IndexError» (by decide) hq (by rfl) (by rfl) (by decide)
        · intro g2 h6 T2 C2 F6 N6
          have X2 := C2.X
          obtain ⟨mean2, mg2, mb2, Tp2⟩ := C2.T
          dsimp only
          walk_at "MW"
          refine app_v (vs := vs) (v := .str (Str.ofString "none") tk5) (n := nl) (post := (I, riObj ((i + 1 : Nat) : Int) ((ds.length : Int) - ((i + 1 : Nat) : Int)) 1) :: (Hp, lst [] nh) :: (L' + 1, o4) :: ts) F6 (nsubs N6 (by walk_at "NS")) ?_ (b20 hvl i64) ?_
          · exact allc (nI1.symm) (allc (n1.symm) (allc (n2.symm) (fun q hq => (hts q hq).1)))
          intro h7 F7 N7
          dsimp only
          walk_at "MW"
          obtain ⟨RI2, hsl⟩ := run_pop0 RI (by rw [hK]; exact hKe)
          rw [hK, hR] at hsl
          refine hqb _ g2 _ _ _ ((Lg, PySem.W.listOf (vs ++ [Value.str (Str.ofString "none") tk5]).toArray (nl + 1)) :: (Hp, lst [] nh) :: (L' + 1, o4) :: ts) (.inl rfl) (T1.trans T2) C2 F7 (nsubs N7 (by walk_at "NS")) ?_ ⟨_, _, Lg, Hp, _, _, o4, _, _, rfl, C1.get T2 hdg1 (by intro es n q; cases q), (fun e he => ElOk.keeps (fl := true) (hok1 e he) fun b vs e => C1.get T2 e (by intro es n q; cases q)), by rfl, by rfl, by rfl, hod4, n1, n2, n3, hts, RI2, hel, ?_, lapp hvl⟩
          · exact allc (nI1) (allc (nI2) (allc (nI3) (fun q hq => hoffI q (by walk_at "MEM"))))
          · rw [← hlog _ hsl]
            exact datAll_app hda (.cons (.str _ _) .nil)
      · refine wpAny_Try_except ?_
        walk_at "MW"
        have hz := fun e he => (RI.2.2.2.1 e he).2.2
        refine heappop_ok (fl := true) (xs := xs) (n := nh) (rest := (I, riObj ((i + 1 : Nat) : Int) ((ds.length : Int) - ((i + 1 : Nat) : Int)) 1) :: (Lg, PySem.W.listOf vs.toArray nl) :: (L' + 1, o4) :: ts) C1 (R'.le (by decide)) F4 (nsubs N4 (by walk_at "NS")) ?_ (b20 RI.2.2.2.2 i64) hxe (fun e he => (hel e he).el (hz e he) fun q hq => (N4 q (by walk_at "MEM")).1) ?_
        · exact allc (nI2.symm) (allc (n1) (allc (n3.symm) (fun q hq => (hts q hq).2.1)))
        intro h6 tk6 n6 F6 N6
        dsimp only
        walk_at "MW"
        refine app_v (vs := vs) (v := (xs.getD 0 dEl).1) (n := nl) (post := (I, riObj ((i + 1 : Nat) : Int) ((ds.length : Int) - ((i + 1 : Nat) : Int)) 1) :: (Hp, lst (hpop elt dEl xs) n6) :: (L' + 1, o4) :: ts) F6 (nsubs N6 (by walk_at "NS")) ?_ (b20 hvl i64) ?_
        · exact allc (nI1.symm) (allc (n1.symm) (allc (n2.symm) (fun q hq => (hts q hq).1)))
        intro h7 F7 N7
        dsimp only
        walk_at "MW"
        obtain ⟨RI2, hsl⟩ := run_pop RI (by rw [hK]; exact hKe) hxe
        rw [hK, hR] at hsl
        obtain ⟨pp, _⟩ := hpop_law elt_wo dEl xs RI.1 hxe
        refine hqb _ g1 _ _ _ ((Lg, PySem.W.listOf (vs ++ [(xs.getD 0 dEl).1]).toArray (nl + 1)) :: (Hp, lst (hpop elt dEl xs) n6) :: (L' + 1, o4) :: ts) (.inl rfl) T1 C1 F7 (nsubs N7 (by walk_at "NS")) ?_ ⟨_, _, Lg, Hp, _, _, o4, _, _, rfl, hdg1, hok1, by rfl, by rfl, by rfl, hod4, n1, n2, n3, hts, RI2, ?_, ?_, lapp hvl⟩
        · exact allc (nI1) (allc (nI2) (allc (nI3) (fun q hq => hoffI q (by walk_at "MEM"))))
        · intro e he
          exact hel e (pp.mem_iff.mp (.tail _ he))
        · rw [← hlog _ hsl]
          exact datAll_app hda (.cons (hel _ (pp.mem_iff.mp (.head _))).dat .nil)
    · rename_i tka hK2 tkb hKe tkc hK3
      k_dflt (refine' comp_own (cl := [(Str.ofString "rank", L' + 1)]) F4 C1 (by rfl) (by decide) (by rfl) (by decide) ?_ (by intro _; rfl))
      walk_at "MW"
      refine range_v F4 N4 ?_
      intro r h5 tk5 t5 u5 v5 F5 N5 l5
      (try k_lt l5)
      walk_at "MW"
      refine go_ri (k := i) F5 N5 (N5 _ (.head _)).1 (by omega) ?_
      intro I2 g2 C2 D h6 tk6 mean2 mg2 mb2 F6 N6 big2 lID lDC X2 T2
      have hcell2 := big2 _ _ (N5 (L' + 1, o4) (by walk_at "MEM")).1
      k_dflt (refine' pairs_comp (k := i) (r := Rk) C1.hh (by rfl) (by rfl) (Nat.lt_of_lt_of_le i64 (by decide)) (by rfl) ?_ F6 N6 lID ?_)
      · intro h tk m₁ Q' Fq hq
        exact cldF (c := L' + 1) (by rfl) (Fq.keep _ _ hcell2) hod4 (hq _ _) (by rfl) (by rfl) (by decide)
      intro m7 c7 h7 tk7 tsk ks F7 N7 hall hel7 hts7
      refine ⟨_, _, c7, tsk, F7, N7, ?_⟩
      intro h8 F8 N8
      dsimp only
      walk_at "MW"
      have hz := fun e he => (RI.2.2.2.1 e he).2.2
      have hkl : ks.length = i := by
        have := congrArg List.length hall
        simpa using this
      have N9 : News g1 L' h8 ((I, riObj ((i + 1 : Nat) : Int) ((ds.length : Int) - ((i + 1 : Nat) : Int)) 1) :: (Lg, PySem.W.listOf vs.toArray nl) :: (Hp, lst xs nh) :: (L' + 1, o4) :: ts) := fun q hq => N8 q (.tail _ (List.mem_append_right _ (.tail _ hq)))
      refine filter_ok (fa := Hp) (sa := D) (xs := xs) (n := nh) (ks := ks) (k := c7) C1 (R'.le (by decide)) F8 N9 (N9 (Hp, lst xs nh) (by walk_at "MEM")).1 (N8 _ (.head _)).1 (b20 RI.2.2.2.2 i64) (b20 (Nat.le_of_eq hkl) i64) (fun e he => (hel e he).el (hz e he) fun q hq => (N9 q (by walk_at "MEM")).1) (fun e he => (hel7 e he).1.el (hel7 e he).2 fun q hq => (N8 q (.tail _ (List.mem_append_left _ hq))).1) ?_
      intro g3 h9 tk9 n9 r9 T3 C3 F9 N9' off9
      have X3 := C3.X
      obtain ⟨mean3, mg3, mb3, Tp3⟩ := C3.T
      obtain ⟨RI2, hsl⟩ := run_cut (ks := ks) RI (by rw [hK]; exact hK3) (by rw [hR]; exact hall)
      rw [hK, hR] at hsl
      obtain ⟨pp, _⟩ := hfy_law elt_wo dEl (xs.filter (keepEl ks))
      have off1 := off9 _ (.head _)
      have off2 := off9 _ (.tail _ (.head _))
      have off3 := off9 _ (.tail _ (.tail _ (.tail _ (.head _))))
      dsimp only at off1 off2 off3
      (try clear N8); (try clear N7); (try clear F7); (try clear N6); (try clear F6); (try clear N5); (try clear F5)
      (try clear F8); (try clear N9)
      dsimp only
      walk_at "MW"
      rename Fr _ _ _ _ => F10
      rename News _ _ _ _ => N10
      refine heapify_ok (fl := true) (xs := xs.filter (keepEl ks)) (n := n9) (rest := (I, riObj ((i + 1 : Nat) : Int) ((ds.length : Int) - ((i + 1 : Nat) : Int)) 1) :: (Lg, PySem.W.listOf vs.toArray nl) :: (L' + 1, o4) :: ts) C3 (R'.le (by decide)) F10 (nsubs N10 (by walk_at "NS")) ?_ (b20 (Nat.le_trans (List.length_filter_le (keepEl ks) xs) RI.2.2.2.2) i64) (fun e he => (hel e (List.mem_filter.mp he).1).el (hz e (List.mem_filter.mp he).1) fun q hq => (N10 q (by walk_at "MEM")).1) ?_
      · exact allc (off1) (allc (off2) (allc (off3) (fun q hq => off9 q (by walk_at "MEM"))))
      intro h11 tk11 n11 F11 N11
      generalize hfy elt dEl (xs.filter (keepEl ks)) = zs at RI2 hsl pp N11
      have hzl : zs.length ≤ i + 1 := RI2.2.2.2.2
      dsimp only
      walk_at "MWN"
      refine len_el N11 (.head _) (b20 hzl (Nat.lt_of_le_of_lt hi hlen2)) ?_
      intro tq1 tq2
      dsimp only
      walk_at "MW"
      refine app_v (vs := vs) (v := .int ((zs.length : Nat) : Int) tq1) (n := nl) (post := (I, riObj ((i + 1 : Nat) : Int) ((ds.length : Int) - ((i + 1 : Nat) : Int)) 1) :: (r9, lst zs n11) :: (L' + 1, o4) :: ts) F11 (nsubs N11 (by walk_at "NS")) ?_ (b20 hvl i64) ?_
      · exact allc (nI1.symm) (allc (off2.symm) (allc (n2.symm) (fun q hq => (hts q hq).1)))
      intro h12 F12 N12
      dsimp only
      walk_at "MW"
      refine hqb _ g3 _ _ _ ((Lg, PySem.W.listOf (vs ++ [Value.int ((zs.length : Nat) : Int) tq1]).toArray (nl + 1)) :: (r9, lst zs n11) :: (L' + 1, o4) :: ts) (.inl rfl) (T1.trans T3) C3 F12 (nsubs N12 (by walk_at "NS")) ?_ ⟨_, _, Lg, r9, _, _, o4, _, _, rfl, C1.get T3 hdg1 (by intro es n q; cases q), (fun e he => ElOk.keeps (fl := true) (hok1 e he) fun b vs e => C1.get T3 e (by intro es n q; cases q)), by rfl, by rfl, by rfl, hod4, off2, n2, off3.symm, ?_, RI2, ?_, ?_, lapp hvl⟩
      · exact allc (nI1) (allc (off1.symm) (allc (nI3) (fun q hq => hoffI q (by walk_at "MEM"))))
      · intro q hq
        exact ⟨(hts q hq).1, off9 q (by walk_at "MEM"), (hts q hq).2.2⟩
      · intro e he
        exact hel e (List.mem_filter.mp (pp.mem_iff.mp he)).1
      · rw [← hlog _ hsl]
        exact datAll_app hda (.cons (.int _ _) .nil)
    · rename_i tka hK2 tkb hKe tkc hK3
      k_dflt (refine' comp_own (cl := [(Str.ofString "rank", L' + 1)]) F4 C1 (by rfl) (by decide) (by rfl) (by decide) ?_ (by intro _; rfl))
      walk_at "MW"
      refine range_v F4 N4 ?_
      intro r h5 tk5 t5 u5 v5 F5 N5 l5
      (try k_lt l5)
      walk_at "MW"
      refine go_ri (k := i) F5 N5 (N5 _ (.head _)).1 (by omega) ?_
      intro I2 g2 C2 D h6 tk6 mean2 mg2 mb2 F6 N6 big2 lID lDC X2 T2
      have hcell2 := big2 _ _ (N5 (L' + 1, o4) (by walk_at "MEM")).1
      k_dflt (refine' pairs_comp (k := i) (r := (Rk + 1) % 4) C1.hh (by rfl) (by rfl) (Nat.lt_of_lt_of_le i64 (by decide)) (by rfl) ?_ F6 N6 lID ?_)
      · intro h tk m₁ Q' Fq hq
        refine wpAny_BinOp (wpAny_BinOp (cldF (c := L' + 1) (by rfl) (Fq.keep _ _ hcell2) hod4 (wpAny_Constant_int (PyProof.Rows.add_int (wpAny_Constant_int (PyProof.Rows.mod_int (by decide) ?_)))) (by rfl) (by rfl) (by decide)))
        rw [Int.fmod_eq_emod_of_nonneg _ (by decide)]
        exact hq _ _
      intro m7 c7 h7 tk7 tsk ks F7 N7 hall hel7 hts7
      refine ⟨_, _, c7, tsk, F7, N7, ?_⟩
      intro h8 F8 N8
      have hz := fun e he => (RI.2.2.2.1 e he).2.2
      have hkl : ks.length = i := by
        have := congrArg List.length hall
        simpa using this
      have hks : ∀ e ∈ ks, ElF h8 e := fun e he => (hel7 e he).1.el (hel7 e he).2 fun q hq => (N8 q (.tail _ (List.mem_append_left _ hq))).1
      have N9 : News g1 L' h8 ((D, lst ks c7) :: (I, riObj ((i + 1 : Nat) : Int) ((ds.length : Int) - ((i + 1 : Nat) : Int)) 1) :: (Lg, PySem.W.listOf vs.toArray nl) :: (Hp, lst xs nh) :: (L' + 1, o4) :: ts) := fun q hq => N8 q (by
        rcases List.mem_cons.mp hq with h | h
        · exact h ▸ .head _
        · exact .tail _ (List.mem_append_right _ (.tail _ h)))
      clear N8
      (try clear N7); (try clear F7); (try clear N6); (try clear F6); (try clear N5); (try clear F5); (try clear N4); (try clear F4)
      dsimp only
      walk_at "MW"
      obtain ⟨hcR, hc0, hc6⟩ := cRk hb3 hb4
      refine few_ok (hp := Hp) (sk := D) (xs := xs) (ks := ks) (n := nh) (n' := c7) (c := (Rk + 1).toNat) (rest := (I, riObj ((i + 1 : Nat) : Int) ((ds.length : Int) - ((i + 1 : Nat) : Int)) 1) :: (Lg, PySem.W.listOf vs.toArray nl) :: (Hp, lst xs nh) :: (L' + 1, o4) :: ts) hcR.symm C1 (R'.le (by decide)) F8 (fun q hq => N9 q (.tail _ hq)) (N9 (Hp, lst xs nh) (by walk_at "MEM")).1 (N9 _ (.head _)).1 (b64 RI.2.2.2.2 i64) (b64 (Nat.le_of_eq hkl) i64) (fun e he => (hel e he).el (hz e he) fun q hq => (N9 q (by walk_at "MEM")).1) hks RI.2.1 RI.1 hc0 hc6 ?_
      intro g3 h9 tk9 q0 q1 q2 q3 r9 z1 z2 z3 T3 C3 F9 N9' off9
      have X3 := C3.X
      obtain ⟨mean3, mg3, mb3, Tp3⟩ := C3.T
      obtain ⟨RI2, hsl⟩ := run_few (ks := ks) RI (hK.symm ▸ k4 hK2 hKe hK3) (c := (Rk + 1).toNat) (by rw [hR]; exact hcR) (by rw [hR]; exact hall)
      rw [hK, hR] at hsl
      have hfm : ∀ e ∈ few xs ks (Rk + 1).toNat, e ∈ xs := fun e he => (srt_perm xs).mem_iff.mp (List.mem_filter.mp (List.mem_of_mem_take he)).1
      generalize few xs ks (Rk + 1).toNat = fs at N9' hsl hfm
      (try clear N9); (try clear F8)
      dsimp only
      walk_at "MW"
      refine app_v (vs := vs) (v := .ref r9) (n := nl) (post := (I, riObj ((i + 1 : Nat) : Int) ((ds.length : Int) - ((i + 1 : Nat) : Int)) 1) :: (Hp, lst xs nh) :: (L' + 1, o4) :: (r9, PySem.W.listOf [Value.ref z1, .ref z2, .ref z3].toArray q0) :: (z1, lst fs q1) :: (z2, lst fs q2) :: (z3, lst fs q3) :: ts) F9 (nsubs N9' (by walk_at "NS")) ?_ (b20 hvl i64) ?_
      · have o1 := off9 (Lg, PySem.W.listOf vs.toArray nl) (by walk_at "MEM")
        exact allc (nI1.symm) (allc (n1.symm) (allc (n2.symm) (allc (o1.1.symm) (allc (o1.2.1.symm) (allc (o1.2.2.1.symm) (allc (o1.2.2.2.symm) (fun q hq => (hts q hq).1)))))))
      intro h12 F12 N12
      dsimp only
      walk_at "MW"
      refine hqb _ g3 _ _ _ ((Lg, PySem.W.listOf (vs ++ [Value.ref r9]).toArray (nl + 1)) :: (Hp, lst xs nh) :: (L' + 1, o4) :: (r9, PySem.W.listOf [Value.ref z1, .ref z2, .ref z3].toArray q0) :: (z1, lst fs q1) :: (z2, lst fs q2) :: (z3, lst fs q3) :: ts) (.inl rfl) (T1.trans T3) C3 F12 (nsubs N12 (by walk_at "NS")) ?_ ⟨_, _, Lg, Hp, _, _, o4, _, _, rfl, C1.get T3 hdg1 (by intro es n q; cases q), (fun e he => ElOk.keeps (fl := true) (hok1 e he) fun b vs e => C1.get T3 e (by intro es n q; cases q)), by rfl, by rfl, by rfl, hod4, n1, n2, n3, ?_, RI2, ?_, ?_, lapp hvl⟩
      · have o0 := off9 (I, riObj ((i + 1 : Nat) : Int) ((ds.length : Int) - ((i + 1 : Nat) : Int)) 1) (.head _)
        exact allc (nI1) (allc (nI2) (allc (nI3) (allc (o0.1.symm) (allc (o0.2.1.symm) (allc (o0.2.2.1.symm) (allc (o0.2.2.2.symm) (fun q hq => hoffI q (by walk_at "MEM"))))))))
      · have o1 := off9 (Lg, PySem.W.listOf vs.toArray nl) (by walk_at "MEM")
        have o2 := off9 (Hp, lst xs nh) (by walk_at "MEM")
        have o3 := off9 (L' + 1, o4) (by walk_at "MEM")
        exact allc (⟨o1.1.symm, o2.1.symm, o3.1.symm⟩) (allc (⟨o1.2.1.symm, o2.2.1.symm, o3.2.1.symm⟩) (allc (⟨o1.2.2.1.symm, o2.2.2.1.symm, o3.2.2.1.symm⟩) (allc (⟨o1.2.2.2.symm, o2.2.2.2.symm, o3.2.2.2.symm⟩) (fun q hq => hts q hq))))
      · intro e he
        exact (hel e he).mono fun q hq => by walk_at "MEM"
      · rw [← hlog _ hsl]
        have hfa : ∀ e ∈ fs, ElT ((r9, PySem.W.listOf [Value.ref z1, .ref z2, .ref z3].toArray q0) :: (z1, lst fs q1) :: (z2, lst fs q2) :: (z3, lst fs q3) :: ts) e := fun e he => (hel e (hfm e he)).mono fun q hq => by walk_at "MEM"
        refine datAll_app (hda.mono fun q hq => by walk_at "MEM") (.cons (.list (.head _) (.cons (.list (vs := fs.map Prod.fst) (n := q1) (.tail _ (.head _)) (datAll_el hfa)) (.cons (.list (vs := fs.map Prod.fst) (n := q2) (.tail _ (.tail _ (.head _))) (datAll_el hfa)) (.cons (.list (vs := fs.map Prod.fst) (n := q3) (.tail _ (.tail _ (.tail _ (.head _)))) (datAll_el hfa)) .nil)))) .nil)
  · clear F5 N5 F6 N6 l6 hcA
    (try clear hod); (try clear lHp); (try clear lLg)
    rintro g1 m1 nx h tk T1 C1 ⟨xs, vs, Lg, Hp, nh, nl, o, v₀, ts, rfl, hdg1, hok1, e1, e2, e3, hod, n1, n2, n3, hts, RI, hel, hda, hvl⟩ F1 N1
    have X1 := C1.X
    obtain ⟨mean1, mg1, mb1, Tp1⟩ := C1.T
    replace F1 := Fr.sees [(Str.ofString "heap", .ref Hp), (Str.ofString "log", .ref Lg)] F1 (seesc e2 (seesc e3 sees0))
    dsimp only
    walk_at "MW"
    have hz := fun e he => (RI.2.2.2.1 e he).2.2
    refine wpAny_mono (Q := RunE s ds L' g1 Lg ts) (E := NoE)
      (gn fun Qe hqe => while_any (n₀ := xs.length) (RunW ds L' g1 Lg Hp ts)
        ⟨_, xs, vs, nh, nl, _, rfl, F1, (nsubs N1 (by walk_at "NS")), by rfl, by rfl, RI.1, RI.2.1, (fun e he => ⟨hel e he, hz e he⟩), hda, ?_, by have := RI.2.2.2.2; omega⟩ ?_) (fun f s' hq => ?_) (fun _ _ e => e)
    · unfold tlog
      rw [← RI.2.2.1, List.map_map]
      rfl
    · (try clear F1); (try clear N1)
      rintro nn h tk Qw hqw ⟨m1, ys, us, nh, nl, dl, rfl, F1, N1, e2, e3, Hy, hdy, hely, hdl, htl, hul⟩
      replace F1 := Fr.sees [(Str.ofString "heap", .ref Hp), (Str.ofString "log", .ref Lg)] F1 (seesc e2 (seesc e3 sees0))
      walk_at "MW"
      refine truthy_el (xs := ys) (n := nh) N1 (.tail _ (.head _)) (by omega) fun tk' => ?_
      cases hys : ys with
      | nil =>
        subst hys
        have hem : (!([] : List El).isEmpty) = false := rfl
        rw [hem]
        dsimp only
        walk_at "MW"
        have e : dl = tlog ds := by rw [← htl]; simp [srt]
        subst e
        exact hqe _ _ ⟨_, _, _, us, nl, rfl, rfl, F1, (nsubs N1 (by walk_at "NS")), by rfl, hdl⟩
      | cons y0 yr =>
        rw [← hys]
        have hne : ys ≠ [] := by rw [hys]; simp
        have hem : (!ys.isEmpty) = true := by rw [hys]; rfl
        rw [hem]
        clear hys
        dsimp only
        walk_at "MW"
        refine heappop_ok (fl := true) (xs := ys) (n := nh) (rest := (Lg, PySem.W.listOf us.toArray nl) :: ts) C1 (R'.le (by decide)) F1 (nsubs N1 (by walk_at "NS")) ?_ (by omega) hne (fun e he => (hely e he).1.el (hely e he).2 fun q hq => (N1 q (by walk_at "MEM")).1) ?_
        · exact allc (n1) (fun q hq => (hts q hq).2.1)
        intro h6 tk6 n6 F6 N6
        dsimp only
        walk_at "MW"
        refine app_v (vs := us) (v := (ys.getD 0 dEl).1) (n := nl) (post := (Hp, lst (hpop elt dEl ys) n6) :: ts) F6 (nsubs N6 (by walk_at "NS")) ?_ (by omega) ?_
        · exact allc (n1.symm) (fun q hq => (hts q hq).1)
        intro h7 F7 N7
        dsimp only
        walk_at "MW"
        obtain ⟨pp, Hy2⟩ := hpop_law elt_wo dEl ys Hy hne
        have hpl := pp.length_eq
        rw [List.length_cons] at hpl
        exact hqw _ (hpop elt dEl ys).length _ _ (.inl rfl) (by omega) ⟨_, hpop elt dEl ys, us ++ [(ys.getD 0 dEl).1], n6, nl + 1, dl ++ [dat (ys.getD 0 dEl)], rfl, F7, N7, by rfl, by rfl, Hy2, (kd_app (xs := [ys.getD 0 dEl]) (ys := hpop elt dEl ys) (kd_perm hdy pp)).2.1,
          (fun e he => hely e (pp.mem_iff.mp (.tail _ he))), datAll_app hdl (.cons (hely _ (pp.mem_iff.mp (.head _))).1.dat .nil), by rw [← htl, srt_pop hdy Hy hne]; simp, by simp; omega⟩
    · (try clear F1); (try clear N1)
      obtain ⟨m2, h2, tk2, us, nl2, rfl, rfl, F2, N2, e4, hfin⟩ := hq
      replace F2 := Fr.sees [(Str.ofString "log", .ref Lg)] F2 (seesc e4 sees0)
      dsimp only
      walk_at "MW"
      exact hqo _ _ ⟨g1, _, (Lg, PySem.W.listOf us.toArray nl2) :: ts, T1, F2, N2, fun h₀' Tz Cz Fz Nz => hQ h₀' _ _ Lg us nl2 ts Tz Cz Fz Nz hfin⟩
end

theorem at_P23_FiltComp : True := by
  w_top off
  trivial
section
variable {w : World} {A : Around} {s : Shared} {g : Heap} {C D I fa : Addr} {env : Env} {n : Nat} {scope : Scope} {cl : List (Str × Addr)} {xs : List El}
inductive FiltJ (xs : List El) (r : Int) (i : Nat) (out : List Value) (ts : List (Addr × Obj)) : Prop
  | mk (h1 : i ≤ xs.length) (h2 : out = ((xs.take i).filter (fun e => e.2.1 != r)).map Prod.fst) (h3 : ts = [])
/-- [work for work in xs if work[0] != r] -/
theorem filt_comp {X iter : Expr} {r : Int} {pw pw2 pw3 pc pb p0 pos : Pos} {k0 : Nat} {R : Result → Shared → Prop} (hh : A.handled = none) (hkind : scope.kind = .function) (hl : scope.names.lookup (Str.ofString "work") = some .local)
    (hfg : g.get? fa = some (lst xs n)) (hlen : xs.length < 64) (hok : ∀ e ∈ xs, ElF g e)
    (hX : ∀ h tk m₁ (Q' : Value → Shared → Prop), Fr g C h m₁ → (∀ t tk', Q' (.int r t) { s with heap := h, toks := tk' }) → wpAny (model PySem.Challenge.rw_ik0004_01.row.prog w) A (eval X (compEnvC scope cl C env)) Q' NoE { s with heap := h, toks := tk })
    (hm : behindInMarks .NotEq X = false) 
    (hs : ∀ (a : Addr) (k : Int) (u : Tok), subscripted (.Constant (.int 0) k0 p0) false (.ref a) (.int k u) = operate [.ref a, .int k u] (getItem (.ref a) (.int k u)))
    (F : Fr g C s.heap (fun _ => none)) (N : News g C s.heap [(D, PySem.W.listOf #[] 0), (I, liObj fa 0)]) (hID : @LT.lt Nat _ I D)
    (fin : ∀ m₁ c h tk, Fr g C h m₁ → News g C h [(D, lst (xs.filter (fun e => e.2.1 != r)) c)] → R (.ok .next) { s with heap := h, toks := tk }) :
    codeAny (model PySem.Challenge.rw_ik0004_01.row.prog w) A (.compLoop (.ListComp (.Name (Str.ofString "work") pw) [⟨.Name (Str.ofString "work") pw2, iter, [.Compare (.Subscript (.Name (Str.ofString "work") pw3) (.Constant (.int 0) k0 p0) pb) [.NotEq] [X] pc], 0⟩] scope pos) 0 (.ref I) (.ref D) (compEnvC scope cl C env)) R s := by
  refine comp_it (its_li (vs := xs.map Prod.fst) (n := n) hh hfg) (FiltJ xs r) F N hID ⟨Nat.zero_le _, by simp, rfl⟩ ?_ ?_ ?_ ?_ ?_
  · rintro i out ts ⟨hi, rfl, _⟩
    have := List.length_filter_le (fun e : El => e.2.1 != r) (xs.take i)
    rw [List.length_take] at this
    rw [List.length_map]; omega
  · rintro i out ts ⟨_, _, rfl⟩ q hq
    cases hq
  · intro i v Q' s' _ _ hq
    exact wpAny_pure hq
  · rintro i m₁ out ts c h tk v Qt hqt hi hv ⟨_, rfl, rfl⟩ F₁ N₁
    rw [List.length_map] at hi
    have ev : v = (xs.getD i dEl).1 := by
      rw [List.getElem?_map, List.getElem?_eq_getElem hi] at hv
      rw [List.getD_eq_getElem?_getD, List.getElem?_eq_getElem hi]
      exact (Option.some.inj hv).symm
    subst ev
    have hmi : xs.getD i dEl ∈ xs := by
      rw [List.getD_eq_getElem?_getD, List.getElem?_eq_getElem hi]
      exact List.getElem_mem _
    obtain ⟨a, t, u, ea, hta, _⟩ := hok _ hmi
    have htk : (xs.take (i + 1)).filter (fun e => e.2.1 != r) = (xs.take i).filter (fun e => e.2.1 != r) ++ [xs.getD i dEl].filter (fun e => e.2.1 != r) := by
      rw [take_succ' hi, List.filter_append]
    rw [ea]
    refine wpAny_assign_Name (cst F₁ N₁ (fun h5 F5 N5 => ?_) hl hkind)
    refine wpAny_tests_one (wpAny_isTrue_Compare1 ?_ hm)
    refine Subscript_ (cld F5 (v := .ref a) rfl ?_ hl hkind)
    refine wpAny_Constant_int ?_
    refine sub_tup (F5.keep _ _ hta) (by omega) (by simp) rfl ?_ (by omega) (hs _ _ _)
    refine hX _ _ _ _ F5 fun t' tk' => ?_
    refine PyProof.Rows.ne_int ?_
    refine wpAny_truthy_bool ?_
    cases hb : ((xs.getD i dEl).2.1 != r) with
    | false =>
      simp only [Bool.false_eq_true, if_false]
      refine hqt _ _ _ _ [] F5 N5 ⟨hi, ?_, rfl⟩
      have : [xs.getD i dEl].filter (fun e => e.2.1 != r) = [] := by
        rw [List.filter_cons, hb]
        rfl
      rw [htk, this]
      simp [Option.toList]
    | true =>
      simp only [if_true]
      refine cld F5 (v := .ref a) rfl ?_ hl hkind
      refine hqt _ _ _ _ [] F5 N5 ⟨hi, ?_, rfl⟩
      rw [htk, List.map_append]
      have : [xs.getD i dEl].filter (fun e => e.2.1 != r) = [xs.getD i dEl] := by
        rw [List.filter_cons, hb]
        rfl
      rw [this]
      simp only [List.map_cons, List.map_nil, ea]
      rfl
  · rintro m₁ out ts c h tk ⟨_, rfl, rfl⟩ F₁ N₁
    rw [List.length_map, List.take_length] at N₁
    exact fin m₁ c h tk F₁ N₁
end

theorem at_P23b_ToldLaw : True := by
  w_top off
  trivial
def TI (ds : List El) (i : Nat) (R : List El) : Prop := Up R ∧ KD R ∧ R.map Prod.snd = (stAt ds i).1 ∧ (∀ e ∈ R, 0 ≤ e.2.2.1 ∧ e.2.2.1 < (i : Int) ∧ e.2.2.2 = 0) ∧ R.length ≤ i
theorem ti_start (ds : List El) : TI ds 0 [] := ⟨List.Pairwise.nil, List.nodup_nil, rfl, (fun _ h => nomatch h), Nat.le_refl _⟩
section
variable {ds R : List El} {i : Nat}
theorem ti_sub {R' : List El} (T : TI ds i R) (hs : R'.Sublist R) (hk : R'.map Prod.snd = (stAt ds (i + 1)).1) : TI ds (i + 1) R' := by
  obtain ⟨hu, hd, _, hb, hl⟩ := T
  refine ⟨hu.sublist hs, ?_, hk, fun e he => ?_, ?_⟩
  · unfold KD at *
    exact List.Nodup.sublist (hs.map Prod.snd) hd
  · have := hb e (hs.subset he)
    exact ⟨this.1, by have := this.2.1; omega, this.2.2⟩
  · have := hs.length_le; omega
theorem told_kd {e : El} (T : TI ds i R) (he : e.2 = ((ds.getD i dEl).2.2.1, (i : Int), 0)) : KD (R ++ [e]) := by
  obtain ⟨_, hd, _, hb, _⟩ := T
  refine kd_perm (xs := e :: R) ?_ (List.perm_append_singleton e R)
  unfold KD at *
  rw [List.map_cons, List.nodup_cons]
  refine ⟨fun hm => ?_, hd⟩
  obtain ⟨y, hy, e2⟩ := List.mem_map.mp hm
  have := (hb y hy).2.1
  rw [e2, he] at this
  simp at this
theorem told_push {e : El} (T : TI ds i R) (hk : (ds.getD i dEl).2.1 < 2) (he : e.2 = ((ds.getD i dEl).2.2.1, (i : Int), 0)) :
    TI ds (i + 1) (srt (R ++ [e])) ∧ stepLog (ds.getD i dEl).2.1 (ds.getD i dEl).2.2.1 (stAt ds i).1 = [.none] := by
  have hdc := told_kd T he
  obtain ⟨hu, hd, hs, hb, hl⟩ := T
  refine ⟨⟨srt_up _ hdc, kd_perm hdc (srt_perm _), ?_, ?_, ?_⟩, by unfold stepLog; rw [if_pos hk]⟩
  · have hR : srt R = R := (srt_eq hu (.refl _) hd).symm
    rw [srt_ins hdc (List.perm_append_singleton e R), insE_keys, hR, hs, he]
    show _ = stepRow _ _ _ _
    unfold stepRow
    rw [if_pos hk]
  · intro y hy
    rcases List.mem_append.mp ((srt_perm _).mem_iff.mp hy) with hy | hy
    · have := hb y hy
      exact ⟨this.1, by have := this.2.1; omega, this.2.2⟩
    · rw [List.mem_singleton.mp hy, he]
      refine ⟨?_, ?_, rfl⟩ <;> dsimp only <;> omega
  · rw [(srt_perm _).length_eq, List.length_append]; simp; omega
theorem told_pop (T : TI ds i R) (hk : (ds.getD i dEl).2.1 = 2) : TI ds (i + 1) (R.drop 1) := by
  refine ti_sub T (List.drop_sublist _ _) ?_
  have hk2 : ¬ (ds.getD i dEl).2.1 < 2 := by omega
  show _ = stepRow _ _ _ _
  unfold stepRow
  rw [if_neg hk2, if_pos hk, ← T.2.2.1, List.map_drop]
theorem told_pop_log (T : TI ds i R) (hk : (ds.getD i dEl).2.1 = 2) (hne : R ≠ []) : stepLog (ds.getD i dEl).2.1 (ds.getD i dEl).2.2.1 (stAt ds i).1 = (R.take 1).map dat := by
  have hk2 : ¬ (ds.getD i dEl).2.1 < 2 := by omega
  unfold stepLog
  rw [if_neg hk2, if_pos hk, ← T.2.2.1]
  cases R with
  | nil => exact absurd rfl hne
  | cons a b => rfl
theorem told_pop_log0 (T : TI ds i []) (hk : (ds.getD i dEl).2.1 = 2) : stepLog (ds.getD i dEl).2.1 (ds.getD i dEl).2.2.1 (stAt ds i).1 = [.str (Str.ofString "none")] := by
  have hk2 : ¬ (ds.getD i dEl).2.1 < 2 := by omega
  unfold stepLog
  rw [if_neg hk2, if_pos hk, ← T.2.2.1]
  rfl
theorem told_filt (r : Int) : ((R.filter (fun e => e.2.1 != r)).map Prod.snd) = (R.map Prod.snd).filter (fun k => k.1 != r) := by
  rw [List.filter_map]
  rfl
theorem told_cut (T : TI ds i R) (hk : (ds.getD i dEl).2.1 = 3) : TI ds (i + 1) (R.filter (fun e => e.2.1 != (ds.getD i dEl).2.2.1)) ∧
    stepLog (ds.getD i dEl).2.1 (ds.getD i dEl).2.2.1 (stAt ds i).1 = [.int ((R.filter (fun e => e.2.1 != (ds.getD i dEl).2.2.1)).length : Nat)] := by
  have hk2 : ¬ (ds.getD i dEl).2.1 < 2 := by omega
  have hk3 : ¬ (ds.getD i dEl).2.1 = 2 := by omega
  refine ⟨ti_sub T List.filter_sublist ?_, ?_⟩
  · rw [told_filt, T.2.2.1]
    show _ = stepRow _ _ _ _
    unfold stepRow
    rw [if_neg hk2, if_neg hk3, if_pos hk]
  · unfold stepLog
    rw [if_neg hk2, if_neg hk3, if_pos hk, ← T.2.2.1, ← told_filt, List.length_map]
theorem told_few (T : TI ds i R) (hk : 3 < (ds.getD i dEl).2.1) {c : Nat} (hc : (c : Int) = (ds.getD i dEl).2.2.1 + 1) : TI ds (i + 1) R ∧
    stepLog (ds.getD i dEl).2.1 (ds.getD i dEl).2.2.1 (stAt ds i).1 = [.list [.list (((R.filter (fun e => e.2.1 != ((ds.getD i dEl).2.2.1 + 1) % 4)).take c).map dat), .list (((R.filter (fun e => e.2.1 != ((ds.getD i dEl).2.2.1 + 1) % 4)).take c).map dat), .list (((R.filter (fun e => e.2.1 != ((ds.getD i dEl).2.2.1 + 1) % 4)).take c).map dat)]] := by
  have hk2 : ¬ (ds.getD i dEl).2.1 < 2 := by omega
  have hk3 : ¬ (ds.getD i dEl).2.1 = 2 := by omega
  have hk4 : ¬ (ds.getD i dEl).2.1 = 3 := by omega
  refine ⟨ti_sub T (List.Sublist.refl _) ?_, ?_⟩
  · rw [T.2.2.1]
    show _ = stepRow _ _ _ _
    unfold stepRow
    rw [if_neg hk2, if_neg hk3, if_neg hk4]
  · unfold stepLog
    rw [if_neg hk2, if_neg hk3, if_neg hk4]
    have : (fewK (ds.getD i dEl).2.2.1 (stAt ds i).1).map wk = ((R.filter (fun e => e.2.1 != ((ds.getD i dEl).2.2.1 + 1) % 4)).take c).map dat := by
      unfold fewK
      rw [← T.2.2.1, ← told_filt, ← hc, Int.toNat_natCast, ← List.map_take, List.map_map]
      rfl
    rw [this]
theorem told_end (T : TI ds ds.length R) : tlog ds = (stAt ds ds.length).2 ++ R.map dat := by
  unfold tlog
  rw [← T.2.2.1, List.map_map]
  rfl
end

theorem at_P23c_NeNil : True := by
  w_top off
  trivial
section
variable {prog : Program} {w : World} {A : Around} {E : Value → Shared → Prop} {s : Shared}
theorem ne_nil {a b : Addr} {xs : List El} {n1 n2 : Nat} {Q : Value → Shared → Prop} (ha : s.heap.get? a = some (lst xs n1)) (hb : s.heap.get? b = some (PySem.W.listOf #[] n2)) (hok : ∀ e ∈ xs, ElF s.heap e) (hu : A.units + 64 < cLine) (h : Q (.bool (!xs.isEmpty)) s) :
    wpAny (model prog w) A (compareOp .NotEq (.ref a) (.ref b)) Q E s := by
  obtain ⟨as, ra⟩ := dat_readsAll hok
  have hk : ∀ d ∈ xs.map dat, kqdOk 8 d = true := fun d hd => by
    obtain ⟨e, _, rfl⟩ := List.mem_map.mp hd
    exact dat_ok e
  have hk0 : ∀ d ∈ ([] : List Dat), kqdOk 8 d = true := fun d hd => nomatch hd
  have la := kqd_lay 9 (.list (xs.map dat)) (ok_list hk)
  have lb := kqd_lay 9 (.list []) (ok_list hk0)
  rw [kqdP] at la lb
  have e : (!PyData.eqv (.list (kqdPs (xs.map dat))) (.list (kqdPs []))) = !xs.isEmpty := by
    have q := kqd_eqv 9 (.list (xs.map dat)) (.list []) 9 (ok_list hk) (ok_list hk0)
    rw [kqdP, kqdP] at q
    congr 1
    rw [Bool.eq_iff_iff, q]
    cases xs <;> simp
  have sh : SeqAt.shaped (.list (kqdPs (xs.map dat))) = true := by unfold SeqAt.shaped; rw [la.1, Bool.true_and]; exact decide_eq_true (Nat.le_trans la.2 (by decide))
  have sh0 : SeqAt.shaped (.list (kqdPs [])) = true := by unfold SeqAt.shaped; rw [lb.1, Bool.true_and]; exact decide_eq_true (Nat.le_trans lb.2 (by decide))
  refine ne_dataH (reads_list_at ha rfl rfl (by simpa using ra)) (reads_list_at (vs := #[]) (xs := kqdPs []) (as := []) hb rfl rfl .nil) sh sh0 hu (by rw [e]; exact h)
end

theorem at_P24_Told : True := by
  w_top off
  trivial
/-- the state of the told's loop -/
inductive ToldJ (da : Addr) (ds : List El) (cA : Addr) (g₀ : Heap) (i : Nat) (g : Heap) (m : Str → Option Value) (nx : List (Addr × Obj)) : Prop
  | mk (R : List El) (vs : List Value) (Lg Rw : Addr) (nr nl : Nat) (o : Obj) (v₀ : Option Value) (ts : List (Addr × Obj)) (h0 : g = g₀) (h1 : nx = (Lg, PySem.W.listOf vs.toArray nl) :: (Rw, lst R nr) :: (cA, o) :: ts)
    (h2 : m (Str.ofString "deeds") = some (.ref da)) (h3 : m (Str.ofString "row") = some (.ref Rw)) (h4 : m (Str.ofString "log") = some (.ref Lg)) (h5 : o.data = .cell v₀)
    (h6 : Lg ≠ Rw) (h7 : Lg ≠ cA) (h8 : Rw ≠ cA) (h9 : ∀ q ∈ ts, q.1 ≠ Lg ∧ q.1 ≠ cA) (h10 : TI ds i R) (h11 : ∀ e ∈ R, ElT ts e) (h12 : DatAll ts vs (stAt ds i).2) (h13 : vs.length ≤ i)
section
variable {w : World} {A : Around} {s : Shared} {h₀ : Heap} {L : Addr} {m : Str → Option Value} {env : Env} {rest : List (Addr × Obj)} {Q E : Value → Shared → Prop}

theorem told_ok {da : Addr} {ds : List El} {n : Nat} (C : Cx w A env h₀ L) (R : Room 22 A) (F : Fr h₀ L s.heap m) (N : News h₀ L s.heap rest)
    (hda : s.heap.get? da = some (lst ds n)) (hlen : ds.length < 32) (hok : ∀ e ∈ ds, ElF s.heap e) (hb : ∀ e ∈ ds, 0 ≤ e.2.1 ∧ e.2.1 < 5 ∧ 0 ≤ e.2.2.1 ∧ e.2.2.1 < 4)
    (hQ : ∀ h' tk' r vs n' ts, Fr h₀ L h' m → News h₀ L h' ((r, PySem.W.listOf vs.toArray n') :: (ts ++ rest)) → DatAll ts vs (tlog ds) → Q (.ref r) { s with heap := h', toks := tk' }) :
    wpAny (model PySem.Challenge.rw_ik0004_01.row.prog w) A (call (.ref 144) [.ref da]) Q E s := by
  k_dflt (refine' callC (rest := rest) (args := ⟨[.ref da], []⟩) (binds := [(Str.ofString "deeds", .ref da)]) C R F N ?k6 ?k7 ?k9 ?kB ?kD ?_ ?c2 ?c3 ?c4; (case k6 => k_is); (case k7 => k_is); (case k9 => exact BindsTo.of_eq rfl); (case kB => exact rfl); (case kD => decide +kernel); (case c2 => exact rfl); (case c3 => exact rfl); (case c4 => exact rfl))
  intro g L' h₁ tk0 cells mean mg mb R' F' N' Y' C' X' T' big lt
  k_cells Y'
  refine gn fun Qo hqo => ?_
  have hdg : g.get? da = some (lst ds n) := big _ _ hda
  have hokg : ∀ e ∈ ds, ElF g e := fun e he => ElOk.keeps (fl := true) (hok e he) fun b vs e => big _ _ e
  walk_at "MW"
  refine wpAny_For ?_ (by intro _; rfl)
  walk_at "MWN"
  rename Fr _ _ _ _ => F5
  rename News _ _ _ _ => N5
  rename_i o hod Rw hh1 lRw hh2 tka Lg hh3 lLg hh4
  refine len_b (F5.keep _ _ hdg) (by omega) ?_
  intro t1 tk1
  walk_at "MW"
  refine range_v F5 N5 ?_
  intro r h6 tk6 t6 u6 v6 F6 N6 l6
  (try k_lt l6)
  walk_at "MW"
  have hcA : o.data = .cell none := hod
  k_dflt (refine' for_riT (L := L') (nx₀ := [(Lg, PySem.W.listOf #[] 0), (Rw, PySem.W.listOf #[] 0), (L' + 1, o)]) (fun i g' m nx => ToldJ da ds (L' + 1) g i g' m nx) (by rfl) (by rfl) (by rfl) (by omega) C' F6 (fun q hq => N6 q (.tail _ hq)) (N6 _ (.head _)).1 ?_ ?_ ?_)
  · exact ⟨[], [], Lg, Rw, 0, 0, o, none, [], rfl, rfl, by rfl, by rfl, by rfl, hcA, gtne (by omega), gtne (by omega), gtne (by omega), (fun _ h => nomatch h), ti_start ds, (fun _ h => nomatch h), .nil, Nat.le_refl _⟩
  · clear F5 N5 F6 N6 l6 hcA
    (try clear hod); (try clear lRw); (try clear lLg)
    rintro I i g1 m1 nx h tk t Qb hqb hi T1 C1 ⟨R, vs, Lg, Rw, nr, nl, o, v₀, ts, rfl, rfl, e1, e2, e3, hod, n1, n2, n3, hts, TR, hel, hda, hvl⟩ hlt0 hoffI F1 N1
    have hlen2 : ds.length < 64 := Nat.lt_of_lt_of_le hlen (by decide)
    have i64 : i < 64 := Nat.lt_trans hi hlen2
    have hR64 : R.length < 64 := b64 TR.2.2.2.2 i64
    replace F1 := Fr.sees [(Str.ofString "place", .int (i : Nat) t), (Str.ofString "deeds", .ref da), (Str.ofString "row", .ref Rw), (Str.ofString "log", .ref Lg)] F1 (seesx (seesn (by decide) e1 (seesn (by decide) e2 (seesn (by decide) e3 sees0))))
    have hmi : ds.getD i dEl ∈ ds := by
      rw [List.getD_eq_getElem?_getD, List.getElem?_eq_getElem hi]
      exact List.getElem_mem _
    obtain ⟨hb1, hb2, hb3, hb4⟩ := hb _ hmi
    obtain ⟨a, u1, u2, ea, hta, _⟩ := hokg _ hmi
    dsimp only
    walk_at "MW"
    refine sub_b (xs := ds) (n := n) (i := i) (F1.keep _ _ hdg) rfl hi (by omega) ?_ (by with_unfolding_all rfl)
    rw [ea]
    k_dflt (refine' unpack_N F1 N1 (F1.keep _ _ hta) C1.hh (by rfl) (by rfl) ?_)
    intro h2 F2 N2
    refine assignInOrder_cons (wpAny_assign_Name ?_)
    walk_at "MW"
    rename Fr _ _ _ _ => F3
    rename News _ _ _ _ => N3
    have nI1 := hoffI _ (.head _)
    have nI2 := hoffI _ (.tail _ (.head _))
    have nI3 := hoffI _ (.tail _ (.tail _ (.head _)))
    dsimp only at nI1 nI2 nI3
    refine storeX_C F3 N3 (c := L' + 1) (by rfl) (.tail nI3.symm (.tail n2 (.tail n3 (.head fun p hp => (hts p hp).2)))) hod ?_ (by rfl) (by rfl)
    intro h4 o4 F4 N4 hod4
    refine assignInOrder_nil ?_
    have hlog : ∀ x, stepLog (ds.getD i dEl).2.1 (ds.getD i dEl).2.2.1 (stAt ds i).1 = x → (stAt ds i).2 ++ x = (stAt ds (i + 1)).2 := fun x e => by rw [st_succ, e]
    generalize hK : (ds.getD i dEl).2.1 = K at hb1 hb2 F4 hlog
    generalize hR : (ds.getD i dEl).2.2.1 = Rk at hb3 hb4 hod4 hlog
    (try clear N1); (try clear F1); (try clear F2); (try clear N2); (try clear F3); (try clear N3)
    dsimp only
    walk_at "MWA"
    · rename_i tka hK2 Tp hh5 l5 lp h5 F5 N5 l6
      have hz := fun e he => (TR.2.2.2.1 e he).2.2
      refine kmk_add_lit (its := (R.map Prod.fst).toArray) (its2 := #[Value.ref Tp]) (zs := (R ++ [((Value.ref Tp, Rk, ((i : Nat) : Int), (0 : Int)) : El)]).map Prod.fst) F5 N5 ⟨_, (N5 (Rw, lst R nr) (by walk_at "MEM")).1, rfl, _, rfl⟩ ⟨_, (N5 _ (.head _)).1, rfl, _, rfl⟩ (by simp) ?_ (by
        have := TR.2.2.2.2
        simp [sizeLine_eq]; omega)
      intro D h6 F6 N6 l7
      obtain ⟨TR2, hsl⟩ := told_push (e := (Value.ref Tp, Rk, ((i : Nat) : Int), (0 : Int))) TR (by rw [hK]; exact hK2) (by rw [hR])
      rw [hK, hR] at hsl
      have hkd := told_kd (e := (Value.ref Tp, Rk, ((i : Nat) : Int), (0 : Int))) TR (by rw [hR])
      have hel2 : ∀ e ∈ R ++ [((Value.ref Tp, Rk, ((i : Nat) : Int), (0 : Int)) : El)], ElT ((Tp, tup [.int Rk u2, .int (i : Nat) t]) :: ts) e ∧ e.2.2.2 = 0 := fun e he => by
        rcases List.mem_append.mp he with he | he
        · exact ⟨(hel e he).mono fun q hq => .tail _ hq, hz e he⟩
        · rw [List.mem_singleton.mp he]; exact ⟨⟨Tp, _, _, rfl, .head _⟩, rfl⟩
      have hel3 : ∀ e ∈ srt (R ++ [((Value.ref Tp, Rk, ((i : Nat) : Int), (0 : Int)) : El)]), ElT ((Tp, tup [.int Rk u2, .int (i : Nat) t]) :: ts) e := fun e he => (hel2 e ((srt_perm _).mem_iff.mp he)).1
      have hln : (R ++ [((Value.ref Tp, Rk, ((i : Nat) : Int), (0 : Int)) : El)]).length < 64 := by
        have := TR.2.2.2.2
        simp; omega
      generalize R ++ [((Value.ref Tp, Rk, ((i : Nat) : Int), (0 : Int)) : El)] = R2 at N6 TR2 hkd hel2 hel3 hln
      have N7 : News g1 L' h6 ((I, riObj ((i + 1 : Nat) : Int) ((ds.length : Int) - ((i + 1 : Nat) : Int)) 1) :: (Lg, PySem.W.listOf vs.toArray nl) :: (L' + 1, o4) :: (Tp, tup [.int Rk u2, .int (i : Nat) t]) :: ts) := nsubs N6 (by walk_at "NS")
      have hD6 := (N6 _ (.head _)).1
      (try clear N6); (try clear N5); (try clear F5); (try clear N4); (try clear F4)
      dsimp only at hD6
      walk_at "MW"
      show wpAny _ _ (call (.builtin "sorted") [.ref D] []) _ _ _
      refine sorted_el (fl := true) (xs := R2) (n := 0) (Room.un R' (by decide)) F6 N7 hD6 hln hkd (fun h' F' N' e he => (hel2 e he).1.el (hel2 e he).2 fun q hq => (N' q (.tail _ (.tail _ (.tail _ hq)))).1) (by unfold argsOk; kernel_rfl) (fun x => by unfold argsOk; kernel_rfl) (fun x => rfl) ?_
      intro D2 h8 c8 F8 N8 l8
      (try k_lt l8)
      (try clear N7); (try clear F6)
      walk_at "MW"
      rename Fr _ _ _ _ => F9
      rename News _ _ _ _ => N9
      refine app_v (vs := vs) (v := .none) (n := nl) (post := (I, riObj ((i + 1 : Nat) : Int) ((ds.length : Int) - ((i + 1 : Nat) : Int)) 1) :: (D2, lst (srt R2) c8) :: (L' + 1, o4) :: (Tp, tup [.int Rk u2, .int (i : Nat) t]) :: ts) F9 (nsubs N9 (by walk_at "NS")) ?_ (b20 hvl i64) ?_
      · exact allc (nI1.symm) (allc (gtne l8.2.1) (allc (n2.symm) (allc (gtne l5.2.1) (fun q hq => (hts q hq).1))))
      intro h10 F10 N10
      dsimp only
      walk_at "MW"
      refine hqb _ g1 _ _ _ ((Lg, PySem.W.listOf (vs ++ [Value.none]).toArray (nl + 1)) :: (D2, lst (srt R2) c8) :: (L' + 1, o4) :: (Tp, tup [.int Rk u2, .int (i : Nat) t]) :: ts) (.inl rfl) C'.refl C' F10 (nsubs N10 (by walk_at "NS")) ?_ ⟨_, _, Lg, D2, _, _, o4, _, _, rfl, rfl, by rfl, by rfl, by rfl, hod4, ltne l8.2.1, n2, gtne l8.2.2.1, ?_, TR2, hel3, ?_, lapp hvl⟩
      · exact allc (nI1) (allc (gtne l8.1) (allc (nI3) (allc (gtne l5.1) (fun q hq => hoffI q (by walk_at "MEM")))))
      · exact allc (⟨gtne l5.2.1, gtne l5.2.2.2.1⟩) (fun q hq => hts q hq)
      · rw [← hlog _ hsl]
        exact datAll_app (hda.mono fun q hq => .tail _ hq) (.cons .none .nil)
    · rename_i tka hK2 tkb hKe lp h5 F5 N5 l6
      have hz := fun e he => (TR.2.2.2.1 e he).2.2
      refine ne_nil (xs := R) (n1 := nr) (n2 := 0) (N5 (Rw, lst R nr) (by walk_at "MEM")).1 (N5 _ (.head _)).1 (fun e he => (hel e he).el (hz e he) fun q hq => (N5 q (by walk_at "MEM")).1) (Room.un R' (by decide)) ?_
      refine wpAny_truthy_bool ?_
      have N6 : News g1 L' h5 ((I, riObj ((i + 1 : Nat) : Int) ((ds.length : Int) - ((i + 1 : Nat) : Int)) 1) :: (Lg, PySem.W.listOf vs.toArray nl) :: (Rw, lst R nr) :: (L' + 1, o4) :: ts) := fun q hq => N5 q (.tail _ hq)
      have TR2 := told_pop TR (by rw [hK]; exact hKe)
      by_cases hRe : R = []
      · subst hRe
        have hem : (!([] : List El).isEmpty) = false := rfl
        rw [hem]
        (try clear N5); (try clear N4); (try clear F4)
        walk_at "MWA"
        rename Fr _ _ _ _ => F7
        rename News _ _ _ _ => N7
        rename_i r1 h7 l7
        obtain ⟨tq, htq⟩ : ∃ tq : Nat, tq = tk := ⟨tk, rfl⟩
        subst htq
        refine iadd_v (vs := vs) (n := nl) (ws := [Value.str (Str.ofString "none") tq]) (post := (I, riObj ((i + 1 : Nat) : Int) ((ds.length : Int) - ((i + 1 : Nat) : Int)) 1) :: (Rw, lst [] nr) :: (L' + 1, o4) :: ts) F7 (nsubs N7 (by walk_at "NS")) ?_ (N7 _ (.head _)).1 (by simp; omega) ?_
        · exact allc (nI1.symm) (allc (n1.symm) (allc (n2.symm) (fun q hq => (hts q hq).1)))
        intro h8 n8 F8 N8
        walk_at "MW"
        rename Fr _ _ _ _ => F9
        rename News _ _ _ _ => N9
        refine slice_from (D := Rw) (xs := []) (n := nr) (k := 1) F9 N9 (N9 (Rw, lst [] nr) (by walk_at "MEM")).1 (by simp) ?_
        intro r2 h10 F10 N10 l10
        (try k_lt l10)
        walk_at "MW"
        rename Fr _ _ _ _ => F11
        rename News _ _ _ _ => N11
        have hsl := told_pop_log0 TR (by rw [hK]; exact hKe)
        rw [hK, hR] at hsl
        refine hqb _ g1 _ _ _ ((Lg, PySem.W.listOf (vs ++ [Value.str (Str.ofString "none") tq]).toArray n8) :: (r2, lst (([] : List El).drop 1) 0) :: (L' + 1, o4) :: ts) (.inl rfl) C'.refl C' F11 (nsubs N11 (by walk_at "NS")) ?_ ⟨_, _, Lg, r2, _, _, o4, _, _, rfl, rfl, by rfl, by rfl, by rfl, hod4, ltne l10.1, n2, gtne l10.2.2.2.1, hts, TR2, (fun _ h => nomatch h), ?_, lapp hvl⟩
        · exact allc (nI1) (allc (gtne l10.2.1) (allc (nI3) (fun q hq => hoffI q (by walk_at "MEM"))))
        · rw [← hlog _ hsl]
          exact datAll_app hda (.cons (.str _ _) .nil)
      · have hem : (!R.isEmpty) = true := by cases R with
          | nil => exact absurd rfl hRe
          | cons => rfl
        rw [hem]
        have hsl := told_pop_log TR (by rw [hK]; exact hKe) hRe
        rw [hK, hR] at hsl
        (try clear N5); (try clear N4); (try clear F4)
        walk_at "MWA"
        refine slice_upto (D := Rw) (xs := R) (n := nr) (k := 1) F5 N6 (N6 (Rw, lst R nr) (by walk_at "MEM")).1 (b20 TR.2.2.2.2 i64) ?_
        intro r1 h7 F7 N7 l7
        (try k_lt l7)
        walk_at "MWA"
        refine iadd_v (vs := vs) (n := nl) (ws := (R.take 1).map Prod.fst) (post := (I, riObj ((i + 1 : Nat) : Int) ((ds.length : Int) - ((i + 1 : Nat) : Int)) 1) :: (Rw, lst R nr) :: (L' + 1, o4) :: ts) F7 (nsubs N7 (by walk_at "NS")) ?_ (N7 _ (.head _)).1 (by simp; omega) ?_
        · exact allc (nI1.symm) (allc (n1.symm) (allc (n2.symm) (fun q hq => (hts q hq).1)))
        intro h8 n8 F8 N8
        walk_at "MW"
        rename Fr _ _ _ _ => F9
        rename News _ _ _ _ => N9
        refine slice_from (D := Rw) (xs := R) (n := nr) (k := 1) F9 N9 (N9 (Rw, lst R nr) (by walk_at "MEM")).1 (b20 TR.2.2.2.2 i64) ?_
        intro r2 h10 F10 N10 l10
        (try k_lt l10)
        walk_at "MW"
        rename Fr _ _ _ _ => F11
        rename News _ _ _ _ => N11
        refine hqb _ g1 _ _ _ ((Lg, PySem.W.listOf (vs ++ (R.take 1).map Prod.fst).toArray n8) :: (r2, lst (R.drop 1) 0) :: (L' + 1, o4) :: ts) (.inl rfl) C'.refl C' F11 (nsubs N11 (by walk_at "NS")) ?_ ⟨_, _, Lg, r2, _, _, o4, _, _, rfl, rfl, by rfl, by rfl, by rfl, hod4, ltne l10.1, n2, gtne l10.2.2.2.1, hts, TR2, (fun e he => hel e (List.mem_of_mem_drop he)), ?_, lappt hvl⟩
        · exact allc (nI1) (allc (gtne l10.2.1) (allc (nI3) (fun q hq => hoffI q (by walk_at "MEM"))))
        · rw [← hlog _ hsl]
          exact datAll_app hda (datAll_el fun e he => hel e (List.mem_of_mem_take he))
    · rename_i tka hK2 tkb hKe tkc hK3
      have hz := fun e he => (TR.2.2.2.1 e he).2.2
      obtain ⟨TR2, hsl⟩ := told_cut TR (by rw [hK]; exact hK3)
      rw [hR] at TR2 hsl
      rw [hK] at hsl
      k_dflt (refine' comp_assign (cl := [(Str.ofString "rank", L' + 1)]) (by rfl) (by rfl) (by rfl) F4 C' (by rfl) (by decide) (by rfl) (by decide) ?_ (by intro _; rfl))
      walk_at "MW"
      refine go_li (vs := R.map Prod.fst) (n := nr) F4 N4 (N4 (Rw, lst R nr) (by walk_at "MEM")).1 ?_
      intro I2 g2 C2 D h6 tk6 mean2 mg2 mb2 F6 N6 big2 lID lDC X2 T2
      have hcell2 := big2 _ _ (N4 (L' + 1, o4) (by walk_at "MEM")).1
      have hDne : ∀ q ∈ (I, riObj ((i + 1 : Nat) : Int) ((ds.length : Int) - ((i + 1 : Nat) : Int)) 1) :: (Lg, PySem.W.listOf vs.toArray nl) :: (Rw, lst R nr) :: (L' + 1, o4) :: ts, q.1 ≠ D := fun q hq => some_ne_none (big2 _ _ (N4 q hq).1) (N6 _ (.head _)).2.2
      k_dflt (refine' filt_comp (fa := Rw) (xs := R) (n := nr) (r := Rk) C'.hh (by rfl) (by rfl) (big2 _ _ (N4 (Rw, lst R nr) (by walk_at "MEM")).1) hR64 (fun e he => (hel e he).el (hz e he) fun q hq => big2 _ _ (N4 q (by walk_at "MEM")).1) ?_ (by rfl) (by intro _ _ _; with_unfolding_all rfl) F6 N6 lID ?_)
      · intro h tk m₁ Q' Fq hq
        exact cldF (c := L' + 1) (by rfl) (Fq.keep _ _ hcell2) hod4 (hq _ _) (by rfl) (by rfl) (by decide)
      intro m7 c7 h7 tk7 F7 N7
      refine ⟨_, _, c7, [], F7, N7, ?_⟩
      intro h8 tk8 F8 N8
      have hel2 : ∀ e ∈ R.filter (fun e => e.2.1 != Rk), ElT ts e := fun e he => hel e (List.mem_filter.mp he).1
      generalize R.filter (fun e => e.2.1 != Rk) = R2 at TR2 hsl N8 hel2
      have hRl := TR2.2.2.2.2
      have N9 : News g1 L' h8 ((D, lst R2 c7) :: (I, riObj ((i + 1 : Nat) : Int) ((ds.length : Int) - ((i + 1 : Nat) : Int)) 1) :: (Lg, PySem.W.listOf vs.toArray nl) :: (L' + 1, o4) :: ts) := nsubs N8 (by walk_at "NS")
      have d1 := hDne _ (.head _)
      have d2 := hDne _ (.tail _ (.head _))
      have d3 := hDne _ (.tail _ (.tail _ (.tail _ (.head _))))
      dsimp only at d1 d2 d3
      (try clear N8); (try clear N7); (try clear F7); (try clear N6); (try clear F6); (try clear N4); (try clear F4)
      dsimp only
      walk_at "MWN"
      refine len_el N9 (.head _) (by omega) ?_
      intro tq1 tq2
      dsimp only
      walk_at "MW"
      refine app_v (vs := vs) (v := .int ((R2.length : Nat) : Int) tq1) (n := nl) (post := (I, riObj ((i + 1 : Nat) : Int) ((ds.length : Int) - ((i + 1 : Nat) : Int)) 1) :: (D, lst R2 c7) :: (L' + 1, o4) :: ts) F8 (nsubs N9 (by walk_at "NS")) ?_ (b20 hvl i64) ?_
      · exact allc (nI1.symm) (allc (d2.symm) (allc (n2.symm) (fun q hq => (hts q hq).1)))
      intro h12 F12 N12
      dsimp only
      walk_at "MW"
      refine hqb _ g1 _ _ _ ((Lg, PySem.W.listOf (vs ++ [Value.int ((R2.length : Nat) : Int) tq1]).toArray (nl + 1)) :: (D, lst R2 c7) :: (L' + 1, o4) :: ts) (.inl rfl) C'.refl C' F12 (nsubs N12 (by walk_at "NS")) ?_ ⟨_, _, Lg, D, _, _, o4, _, _, rfl, rfl, by rfl, by rfl, by rfl, hod4, d2, n2, d3.symm, hts, TR2, hel2, ?_, lapp hvl⟩
      · exact allc (nI1) (allc (d1.symm) (allc (nI3) (fun q hq => hoffI q (by walk_at "MEM"))))
      · rw [← hlog _ hsl]
        exact datAll_app hda (.cons (.int _ _) .nil)
    · rename_i tka hK2 tkb hKe tkc hK3
      have hz := fun e he => (TR.2.2.2.1 e he).2.2
      obtain ⟨hcR, hc0, hc6⟩ := cRk hb3 hb4
      obtain ⟨TR2, hsl⟩ := told_few TR (hK.symm ▸ k4 hK2 hKe hK3) (c := (Rk + 1).toNat) (by rw [hR]; exact hcR)
      rw [hR, hK] at hsl
      k_dflt (refine' comp_own (cl := [(Str.ofString "rank", L' + 1)]) F4 C' (by rfl) (by decide) (by rfl) (by decide) ?_ (by intro _; rfl))
      walk_at "MW"
      refine go_li (vs := R.map Prod.fst) (n := nr) F4 N4 (N4 (Rw, lst R nr) (by walk_at "MEM")).1 ?_
      intro I2 g2 C2 D h6 tk6 mean2 mg2 mb2 F6 N6 big2 lID lDC X2 T2
      have hcell2 := big2 _ _ (N4 (L' + 1, o4) (by walk_at "MEM")).1
      k_dflt (refine' filt_comp (fa := Rw) (xs := R) (n := nr) (r := (Rk + 1) % 4) C'.hh (by rfl) (by rfl) (big2 _ _ (N4 (Rw, lst R nr) (by walk_at "MEM")).1) hR64 (fun e he => (hel e he).el (hz e he) fun q hq => big2 _ _ (N4 q (by walk_at "MEM")).1) ?_ (by rfl) (by intro _ _ _; with_unfolding_all rfl) F6 N6 lID ?_)
      · intro h tk m₁ Q' Fq hq
        refine wpAny_BinOp (wpAny_BinOp (cldF (c := L' + 1) (by rfl) (Fq.keep _ _ hcell2) hod4 (wpAny_Constant_int (PyProof.Rows.add_int (wpAny_Constant_int (PyProof.Rows.mod_int (by decide) ?_)))) (by rfl) (by rfl) (by decide)))
        rw [Int.fmod_eq_emod_of_nonneg _ (by decide)]
        exact hq _ _
      intro m7 c7 h7 tk7 F7 N7
      refine ⟨_, _, c7, [], F7, N7, ?_⟩
      intro h8 F8 N8
      have hel2 : ∀ e ∈ R.filter (fun e => e.2.1 != (Rk + 1) % 4), ElT ts e := fun e he => hel e (List.mem_filter.mp he).1
      have hRf : (R.filter (fun e => e.2.1 != (Rk + 1) % 4)).length < 64 := b64 (List.length_filter_le (fun e : El => e.2.1 != (Rk + 1) % 4) R) hR64
      generalize R.filter (fun e => e.2.1 != (Rk + 1) % 4) = R2 at hsl N8 hel2 hRf
      have N9 : News g1 L' h8 ((D, lst R2 c7) :: (I, riObj ((i + 1 : Nat) : Int) ((ds.length : Int) - ((i + 1 : Nat) : Int)) 1) :: (Lg, PySem.W.listOf vs.toArray nl) :: (Rw, lst R nr) :: (L' + 1, o4) :: ts) := N8
      (try clear N8); (try clear N7); (try clear F7); (try clear N6); (try clear F6); (try clear N4); (try clear F4)
      dsimp only
      walk_at "MW"
      rw [← hcR]
      refine slice_upto (D := D) (xs := R2) (n := c7) (k := (Rk + 1).toNat) F8 N9 (N9 _ (.head _)).1 (by omega) ?_
      intro r1 h10 F10 N10 l10
      (try k_lt l10)
      have hfs : ∀ e ∈ R2.take (Rk + 1).toNat, ElT ts e := fun e he => hel2 e (List.mem_of_mem_take he)
      generalize R2.take (Rk + 1).toNat = fs at N10 hsl hfs
      have N11 : News g1 L' h10 ((r1, lst fs 0) :: (I, riObj ((i + 1 : Nat) : Int) ((ds.length : Int) - ((i + 1 : Nat) : Int)) 1) :: (Lg, PySem.W.listOf vs.toArray nl) :: (Rw, lst R nr) :: (L' + 1, o4) :: ts) := fun q hq => N10 q (by
        rcases List.mem_cons.mp hq with h | h
        · exact h ▸ .head _
        · exact .tail _ (.tail _ h))
      have m1' : I < r1 ∧ Lg < r1 ∧ Rw < r1 ∧ L' + 1 < r1 := ⟨l10.2.1, l10.2.2.1, l10.2.2.2.1, l10.2.2.2.2.1⟩
      (try clear N10); (try clear N9); (try clear F8)
      (try clear l10)
      walk_at "MW"
      rename_i hh11 tk11 l3 h12 F12 N12 l12
      refine app_v (vs := vs) (v := .ref l3) (n := nl) (post := (I, riObj ((i + 1 : Nat) : Int) ((ds.length : Int) - ((i + 1 : Nat) : Int)) 1) :: (Rw, lst R nr) :: (L' + 1, o4) :: (l3, PySem.W.listOf [Value.ref r1, .ref r1, .ref r1].toArray 0) :: (r1, lst fs 0) :: ts) F12 (nsubs N12 (by walk_at "NS")) ?_ (b20 hvl i64) ?_
      · exact allc (nI1.symm) (allc (n1.symm) (allc (n2.symm) (allc (gtne l12.2.2.1) (allc (gtne m1'.2.1) (fun q hq => (hts q hq).1)))))
      intro h13 F13 N13
      dsimp only
      walk_at "MW"
      refine hqb _ g1 _ _ _ ((Lg, PySem.W.listOf (vs ++ [Value.ref l3]).toArray (nl + 1)) :: (Rw, lst R nr) :: (L' + 1, o4) :: (l3, PySem.W.listOf [Value.ref r1, .ref r1, .ref r1].toArray 0) :: (r1, lst fs 0) :: ts) (.inl rfl) C'.refl C' F13 (nsubs N13 (by walk_at "NS")) ?_ ⟨_, _, Lg, Rw, _, _, o4, _, _, rfl, rfl, by rfl, by rfl, by rfl, hod4, n1, n2, n3, ?_, TR2, (fun e he => (hel e he).mono fun q hq => by walk_at "MEM"), ?_, lapp hvl⟩
      · exact allc (nI1) (allc (nI2) (allc (nI3) (allc (gtne l12.2.1) (allc (gtne m1'.1) (fun q hq => hoffI q (by walk_at "MEM"))))))
      · refine allc ?_ (fun q hq => ?_)
        · exact ⟨gtne l12.2.2.1, gtne l12.2.2.2.2.1⟩
        · rcases List.mem_cons.mp hq with rfl | hq
          · exact ⟨gtne m1'.2.1, gtne m1'.2.2.2⟩
          · exact hts q hq
      · rw [← hlog _ hsl]
        have hfa : ∀ e ∈ fs, ElT ((l3, PySem.W.listOf [Value.ref r1, .ref r1, .ref r1].toArray 0) :: (r1, lst fs 0) :: ts) e := fun e he => (hfs e he).mono fun q hq => by walk_at "MEM"
        have hfd : DatIn ((l3, PySem.W.listOf [Value.ref r1, .ref r1, .ref r1].toArray 0) :: (r1, lst fs 0) :: ts) (.ref r1) (.list (fs.map dat)) := .list (vs := fs.map Prod.fst) (n := 0) (.tail _ (.head _)) (datAll_el hfa)
        exact datAll_app (hda.mono fun q hq => by walk_at "MEM") (.cons (.list (.head _) (.cons hfd (.cons hfd (.cons hfd .nil)))) .nil)
  · clear F5 N5 F6 N6 l6 hcA
    (try clear hod); (try clear lRw); (try clear lLg)
    rintro g1 m1 nx h tk T1 C1 ⟨R, vs, Lg, Rw, nr, nl, o, v₀, ts, rfl, rfl, e1, e2, e3, hod, n1, n2, n3, hts, TR, hel, hda, hvl⟩ F1 N1
    replace F1 := Fr.sees [(Str.ofString "row", .ref Rw), (Str.ofString "log", .ref Lg)] F1 (seesc e2 (seesc e3 sees0))
    dsimp only
    walk_at "MWA"
    refine kmk_add_lit (its := vs.toArray) (its2 := (R.map Prod.fst).toArray) (zs := vs ++ R.map Prod.fst) F1 N1 ⟨_, (N1 (Lg, PySem.W.listOf vs.toArray nl) (by walk_at "MEM")).1, rfl, _, rfl⟩ ⟨_, (N1 (Rw, lst R nr) (by walk_at "MEM")).1, rfl, _, rfl⟩ (by simp) ?_ (by
      have := TR.2.2.2.2
      simp [sizeLine_eq]; omega)
    intro D h6 F6 N6 l7
    walk_at "MW"
    have N7 : News g1 L' h6 ((D, PySem.W.listOf (vs ++ R.map Prod.fst).toArray 0) :: ts) := fun q hq => N6 q (by
      rcases List.mem_cons.mp hq with h | h
      · exact h ▸ .head _
      · exact .tail _ (.tail _ (.tail _ (.tail _ h))))
    refine hqo _ _ (back F6 N7 fun Fb Nb => hQ _ _ D _ 0 ts Fb Nb ?_)
    rw [told_end TR]
    exact datAll_app hda (datAll_el hel)
end

theorem at_P25_Deeds : True := by
  w_top off
  trivial
section
variable {w : World} {A : Around} {s : Shared} {g : Heap} {C D I fa : Addr} {env : Env} {n : Nat} {scope : Scope} {cl : List (Str × Addr)} {us : List Value}
inductive DeedJ (D : Addr) (len i : Nat) (out : List Value) (ts : List (Addr × Obj)) : Prop
  | mk (hi : i ≤ len) (h1 : ∀ q ∈ ts, @LT.lt Nat _ D q.1) (ds : List El) (h2 : out = ds.map Prod.fst) (h3 : ds.length = i) (h4 : ∀ e ∈ ds, (ElT ts e ∧ e.2.2.2 = 0) ∧ 0 ≤ e.2.1 ∧ e.2.1 < 5 ∧ 0 ≤ e.2.2.1 ∧ e.2.2.1 < 4)
/-- [(x % 5, x // 5 % 4) for x in us] -/
theorem deeds_comp {iter : Expr} {p1 p2 p3 p4 p5 p6 p7 p8 px pt pos : Pos} {k1 k2 k3 kt : Nat} {R : Result → Shared → Prop} (hh : A.handled = none) (hkind : scope.kind = .function) (hl : scope.names.lookup (Str.ofString "x") = some .local)
    (hfg : g.get? fa = some (PySem.W.listOf us.toArray n)) (hlen : us.length < 64) (hint : ∀ v ∈ us, ∃ x t, v = .int x t)
    (hpl : ∀ s' : Shared, (∀ b o, g.get? b = some o → s'.heap.get? b = some o) → PySem.PylongRoom (model PySem.Challenge.rw_ik0004_01.row.prog w) A s')
    (F : Fr g C s.heap (fun _ => none)) (N : News g C s.heap [(D, PySem.W.listOf #[] 0), (I, liObj fa 0)]) (hID : @LT.lt Nat _ I D)
    (fin : ∀ m₁ c h tk ts ds, Fr g C h m₁ → News g C h ((D, lst ds c) :: ts) → ds.length = us.length → (∀ e ∈ ds, (ElT ts e ∧ e.2.2.2 = 0) ∧ 0 ≤ e.2.1 ∧ e.2.1 < 5 ∧ 0 ≤ e.2.2.1 ∧ e.2.2.1 < 4) → R (.ok .next) { s with heap := h, toks := tk }) :
    codeAny (model PySem.Challenge.rw_ik0004_01.row.prog w) A (.compLoop (.ListComp (.Tuple [.BinOp (.Name (Str.ofString "x") p1) .Mod (.Constant (.int 5) k1 p2) p3, .BinOp (.BinOp (.Name (Str.ofString "x") p4) .FloorDiv (.Constant (.int 5) k2 p5) p6) .Mod (.Constant (.int 4) k3 p7) p8] kt pt)
      [⟨.Name (Str.ofString "x") px, iter, [], 0⟩] scope pos) 0 (.ref I) (.ref D) (compEnvC scope cl C env)) R s := by
  refine comp_it (its_li (vs := us) (n := n) hh hfg) (DeedJ D us.length) F N hID ⟨Nat.zero_le _, (fun _ h => nomatch h), [], rfl, rfl, (fun _ h => nomatch h)⟩ ?_ ?_ ?_ ?_ ?_
  · rintro i out ts ⟨hi, _, ds, rfl, hl, _⟩
    rw [List.length_map]; omega
  · rintro i out ts ⟨_, hts, _, _, _, _⟩
    exact hts
  · intro i v Q' s' _ _ hq
    exact wpAny_pure hq
  · rintro i m₁ out ts c h tk v Qt hqt hi hv ⟨_, hts, ds, rfl, hdl, hel⟩ F₁ N₁
    obtain ⟨x, t, rfl⟩ := hint v (List.mem_of_getElem? hv)
    refine wpAny_assign_Name (cst F₁ N₁ (fun h5 F5 N5 => ?_) hl hkind)
    refine wpAny_tests_nil ?_
    simp only [if_true]
    refine Tuple_ (spliced_cons (wpAny_BinOp (cld F5 (v := .int x t) rfl (wpAny_Constant_int (PyProof.Rows.mod_int (by decide) (spliced_cons (wpAny_BinOp (wpAny_BinOp (cld F5 (v := .int x t) rfl (wpAny_Constant_int (floordiv_int (by decide) (wpAny_Constant_int (PyProof.Rows.mod_int (by decide) (spliced_nil ?_))) (.inr (hpl _ fun b o e => F5.keep _ _ e)))) hl hkind)))))) hl hkind)))
    refine newTuple_N F5 N5 fun h7 F7 N7 => ?_
    have eD : @LT.lt Nat _ D h5.objs.size := Heap.lt_size (N5 _ (.head _)).1
    rw [Int.fmod_eq_emod_of_nonneg _ (by decide), Int.fmod_eq_emod_of_nonneg _ (by decide)] at N7
    have N7' : ∃ q1 q2, News g C h7 ((h5.objs.size, tup [.int (x % 5) q1, .int (x.fdiv 5 % 4) q2]) :: (D, PySem.W.listOf (ds.map Prod.fst).toArray c) :: (I, liObj fa (i + 1)) :: ts) := ⟨_, _, N7⟩
    obtain ⟨q1, q2, N8⟩ := N7'
    clear N7
    refine hqt _ h7 _ _ ((h5.objs.size, tup [.int (x % 5) q1, .int (x.fdiv 5 % 4) q2]) :: ts) F7 (nsubs N8 (by walk_at "NS")) ⟨hi, ?_, ds ++ [(.ref h5.objs.size, x % 5, x.fdiv 5 % 4, 0)], ?_, by simp [hdl], ?_⟩
    · exact allc (eD) (fun q hq => hts q hq)
    · simp [Option.toList]
    · intro e he
      rcases List.mem_append.mp he with he | he
      · exact ⟨⟨(hel e he).1.1.mono fun q hq => .tail _ hq, (hel e he).1.2⟩, (hel e he).2⟩
      · rw [List.mem_singleton.mp he]
        refine ⟨⟨⟨_, _, _, rfl, .head _⟩, rfl⟩, ?_, ?_, ?_, ?_⟩ <;> dsimp only <;> omega
  · rintro m₁ out ts c h tk ⟨_, hts, ds, rfl, hdl, hel⟩ F₁ N₁
    exact fin m₁ c h tk ts ds F₁ N₁ hdl hel
end
section
variable {prog : Program} {w : World} {A : Around} {E : Value → Shared → Prop} {h₀ h : Heap} {g : Array GenState} {d : Drawn} {tk : Nat} {os : OsState} {L D : Addr} {m : Str → Option Value} {news : List (Addr × Obj)} {vs : List Value}
theorem slice_upto_v {value slice : Expr} {k : Nat} {t : Tok} {ops : List Value} {Q : Value → Shared → Prop} (F : Fr h₀ L h m) (N : News h₀ L h news) (hl : h.IsList D vs.toArray) (hlen : vs.length < 2 ^ 20)
    (hq : ∀ r h', Fr h₀ L h' m → News h₀ L h' ((r, PySem.W.listOf (vs.take k).toArray 0) :: news) → (∀ q ∈ news, q.1 < r) → Q (.ref r) ⟨h', g, d, tk, os⟩)
    (hs : subscripted slice false (.ref D) (.ref h.objs.size) = operate ops (getItem (.ref D) (.ref h.objs.size)) := by with_unfolding_all rfl)
    (ht : ∀ r, letTemporaryGo value (.ref D) r = pure () := by intro _; with_unfolding_all rfl) :
    wpAny (model prog w) A (subscriptTail value slice (.ref D) (.ref h.objs.size)) Q E ⟨h.push { cls := .type "slice", data := .fields #[.none, .int (k : Int) t, .none] }, g, d, tk, os⟩ := by
  refine slice_list3 (s := ⟨h, g, d, tk, os⟩) (items := vs.toArray) (lo := none) (hi := some (k : Int)) (st := none) F N hl .none (.int _ _) .none (by simp) (fun h' F' N' => hq _ h' F' ?_ fun q hq => Nat.lt_succ_of_lt (Heap.lt_size (N q hq).1)) hs ht (by simp [sizeLine_eq]; omega)
  rw [slicePick_upto'] at N'
  exact N'
end
theorem intsAre_mem : ∀ {vs : List Value} {ns : List Int}, IntsAre vs ns → vs.length = ns.length ∧ ∀ v ∈ vs, ∃ x t, v = .int x t
  | _, _, .nil => ⟨rfl, fun _ h => nomatch h⟩
  | _, _, .cons n t r => by
    obtain ⟨a, b⟩ := intsAre_mem r
    refine ⟨by simp [a], fun v hv => ?_⟩
    rcases List.mem_cons.mp hv with rfl | hv
    · exact ⟨n, t, rfl⟩
    · exact b v hv

theorem at_P25b_TlogOk : True := by
  w_top off
  trivial
theorem wk_ok (n : Nat) (k : Key) : kqdOk (n + 1) (wk k) = true := by simp [wk, kqdOk]
theorem wks_ok (n : Nat) (l : List Key) : kqdOk (n + 2) (.list (l.map wk)) = true := by
  simp only [kqdOk, List.all_eq_true]
  intro d hd
  obtain ⟨k, _, rfl⟩ := List.mem_map.mp hd
  exact wk_ok n k
theorem stepLog_ok (K R : Int) (row : List Key) : ∀ d ∈ stepLog K R row, kqdOk 8 d = true := by
  intro d hd
  unfold stepLog at hd
  split at hd
  · rw [List.mem_singleton.mp hd]; rfl
  · split at hd
    · cases row with
      | nil =>
        rw [List.mem_singleton.mp hd]
        decide +kernel
      | cons k r =>
        rw [List.mem_singleton.mp hd]
        exact wk_ok 7 k
    · split at hd
      · rw [List.mem_singleton.mp hd]; rfl
      · rw [List.mem_singleton.mp hd]
        simp only [kqdOk, List.all_cons, List.all_nil, Bool.and_true, Bool.and_self, Bool.and_eq_true]
        have h := wks_ok 5 (fewK R row)
        simp only [kqdOk] at h
        exact h
theorem stAt_ok (ds : List El) : ∀ i, ∀ d ∈ (stAt ds i).2, kqdOk 8 d = true
  | 0 => fun d h => nomatch h
  | i + 1 => fun d h => by
    rcases List.mem_append.mp h with h | h
    · exact stAt_ok ds i d h
    · exact stepLog_ok _ _ _ d h
theorem tlog_ok (ds : List El) : ∀ d ∈ tlog ds, kqdOk 8 d = true := fun d h => by
  rcases List.mem_append.mp h with h | h
  · exact stAt_ok ds _ d h
  · obtain ⟨k, _, rfl⟩ := List.mem_map.mp h
    exact wk_ok 7 k

theorem at_P26_Law : True := by
  w_top off
  trivial
theorem cx_top {w : World} {h : Heap} {env : Env} {mean : ExcName → Option Value} {mg mb : Str → Option Value} (K0 : Below callerA h [] h) (KX : (hd.heap_39 w.params).In h) (T : Top hd.view_39 LO mean mg mb h) (hf : env.frame = some h.objs.size) (hk : env.scope.kind = .function) :
    Cx w (callerA.deeper env) env h h.objs.size :=
  ⟨⟨callerA, h, [], K0, Around.frames_deeper K0.stack, ktsDicts_nil, KX, mean, mg, mb, T⟩, hf, hk, rfl⟩
theorem room_top (env : Env) : Room 22 (callerA.deeper env) := Room.deeper (n := 22) ⟨by decide +kernel, by decide +kernel⟩
theorem law_holds : PySem.Challenge.rw_ik0004_01.Holds := hd (by
  k_go0
  rename Fr _ _ _ _ => F0
  rename News _ _ _ _ => N0
  rename Below _ _ _ _ => K0
  rename Top _ _ _ _ _ _ => TT
  rename (hd.heap_39 _).In _ => KX
  rename IntsAre _ _ => hI
  rename Heap.IsList _ _ _ => hL
  rename ¬ _ < _ => hcond
  have C := fun env (a : env.frame = some _) (b : env.scope.kind = .function) => cx_top (env := env) K0 KX TT a b
  refine wpAny_mono (E := NoE) ?_ (fun _ _ x => x) (fun _ _ e => e.elim)
  walk_at "MW"
  k_dflt (refine' comp_assign (cl := []) (by rfl) (by rfl) (by rfl) F0 (C _ (by rfl) (by rfl)) (by rfl) (by decide) (by rfl) (by decide) ?_ (by intro _; rfl))
  walk_at "MWS"
  obtain ⟨hvl, hvi⟩ := intsAre_mem hI
  obtain ⟨oL, hoL, hrL⟩ := hL
  refine slice_upto_v (k := 14) F0 N0 ⟨oL, F0.keep _ _ hoL, hrL⟩ (by omega) ?_
  intro r1 h2 F2 N2 l2
  walk_at "MWS"
  rename Fr _ _ _ _ => F3
  rename News _ _ _ _ => N3
  refine kmk_add_lit F3 N3 ⟨_, (N3 _ (.tail _ (.head _))).1, rfl, _, rfl⟩ ⟨_, (N3 _ (.head _)).1, rfl, _, rfl⟩ rfl ?_ (by simp [sizeLine_eq]; omega)
  intro D h4 F4 N4 l4
  refine go_li F4 N4 (N4 _ (.head _)).1 ?_
  intro I2 g2 C2 D2 h6 tk6 mean2 mg2 mb2 F6 N6 big2 lID lDC X2 T2
  have hD2 := big2 _ _ (N4 _ (.head _)).1
  k_dflt (refine' deeds_comp (fa := D) rfl (by rfl) (by rfl) hD2 ?_ ?_ ?_ F6 N6 lID ?_)
  · simp; omega
  · intro v hv
    rcases List.mem_append.mp hv with hv | hv
    · exact hvi v (List.mem_of_mem_take hv)
    · exact (allc (P := fun v => ∃ x t, v = Value.int x t) ⟨_, _, rfl⟩ (allc ⟨_, _, rfl⟩ (allc ⟨_, _, rfl⟩ (allc ⟨_, _, rfl⟩ (allc ⟨_, _, rfl⟩ (allc ⟨_, _, rfl⟩ (allc ⟨_, _, rfl⟩ (allc ⟨_, _, rfl⟩ (allc ⟨_, _, rfl⟩ alln))))))))) v hv
  · intro s' hk
    exact PySem.PylongRoom.of (T2.nolimit.keeps hk) (of_decide_eq_true (by with_unfolding_all rfl)) (PySem.SeerAt.of ((PyProof.Rows.Top.seer T2 (by decide +kernel)).keeps hk) (by rfl) (Around.frames_deeper K0.stack) (by rfl) (by rfl) (by rfl) (by rfl))
  intro m7 c7 h7 tk7 ts ds F7 N7 hdl hel
  refine ⟨_, _, c7, ts, F7, N7, ?_⟩
  intro h8 tk8 F8 N8
  have hdl2 : ds.length < 32 := by rw [hdl]; simp; omega
  clear hdl
  (try clear N7); (try clear F7); (try clear N6); (try clear F6); (try clear N4); (try clear F4); (try clear F0); (try clear N0)
  dsimp only
  walk_at "MW"
  have N9 : News _ _ h8 ((D2, lst ds c7) :: ts) := fun q hq => N8 q (by
    rcases List.mem_cons.mp hq with h | h
    · exact h ▸ .head _
    · exact .tail _ (List.mem_append_left _ h))
  have hE8 : ∀ e ∈ ds, ElF h8 e := fun e he => (hel e he).1.1.el (hel e he).1.2 fun q hq => (N9 q (.tail _ hq)).1
  clear N8
  refine run_ok (da := D2) (ds := ds) (n := c7) (C _ (by rfl) (by rfl)) (room_top _) F8 N9 (N9 _ (.head _)).1 hdl2 hE8 (fun e he => (hel e he).2) ?_
  intro h₀' h9 tk9 r9 vs9 n9 ts9 T9 C9 F9 N10 hlog9
  obtain ⟨_, _, hfr, kt⟩ := T9
  rw [Around.frames_deeper K0.stack] at hfr
  cases hfr
  have F10 := Fr.mk F9.ns (fun b o e => F9.keep b o (kt.other b o e (fun h => nomatch h))) F8.above
  have X9 := C9.X
  obtain ⟨mean9, mg9, mb9, Tp9⟩ := C9.T
  dsimp only
  walk_at "MW"
  have hE9 : ∀ e ∈ ds, ElF h9 e := fun e he => (hel e he).1.1.el (hel e he).1.2 fun q hq => (N10 q (.tail _ (List.mem_append_right _ (.tail _ hq)))).1
  refine told_ok (da := D2) (ds := ds) (n := c7) C9 (room_top _) F9 N10 (N10 (D2, lst ds c7) (.tail _ (List.mem_append_right _ (.head _)))).1 hdl2 hE9 (fun e he => (hel e he).2) ?_
  intro h11 tk11 r11 vs11 n11 ts11 F11 N11 hlog11
  have F12 := Fr.mk F11.ns (fun b o e => F11.keep b o (kt.other b o e (fun h => nomatch h))) F8.above
  dsimp only
  refine kqd_eq (n₁ := ts9) (n₂ := ts11) (ds := tlog ds) (es := tlog ds) N11 (a := r9) (oa := PySem.W.listOf vs9.toArray n9) (xs := vs9) (.tail _ (List.mem_append_right _ (.head _))) rfl rfl hlog9 (fun p hp => .tail _ (List.mem_append_right _ (.tail _ (List.mem_append_left _ hp)))) (.head _) rfl rfl hlog11 (fun p hp => .tail _ (List.mem_append_left _ hp)) (tlog_ok ds) (tlog_ok ds) (by have := (room_top (envOf (Str.ofString "law") default 0 0 .none)).2; exact Nat.lt_of_le_of_lt (by show _ + 64 ≤ _ + 4 * 22; exact Nat.add_le_add_left (by omega) _) this) ?_
  have e1 : ∀ inst, @decide (tlog ds = tlog ds) inst = true := fun inst => @decide_eq_true _ inst rfl
  rw [e1]
  (try clear F8); (try clear F9); (try clear F10); (try clear F11)
  w_end
  exact goodW_bool (by assumption) (by assumption) (raisesW_false (by wrow_none_raised)) (postW_of rfl rfl (by first | rfl | decide +kernel | simp [PySem.W.same] | (unfold PySem.W.same; rfl))))
end Mine
theorem PySem.Challenge.cw_ik0004_01_holds : PySem.Challenge.rw_ik0004_01.Holds :=
  Mine.law_holds
